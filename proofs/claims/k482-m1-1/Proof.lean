import JvmDerived
import JvmDerived.Pilot.@@N@@Statement
import JvmDerived.Pilot.@@N@@Code
set_option linter.unusedVariables false
set_option linter.unusedSimpArgs false
@@BLOCK:NumsL.lean.txt@@
namespace Jvm.RoadKit
open Sem ClassFile Op Lib Jvm.Stand Jvm.Free Jvm.LawKit
section New
variable {p : Program} {l : Launch} {e : Env} {R : Room} {s : State} {m : MethodId} {args : Array Value} {below : List Frame} {meth : Method} {c : Code} {T : State} {locs : List Loc} {cells slots : Nat}
theorem retI (X : Stand p l e R s m args below meth c T locs cells slots) (hx : p.tables.exec = Jvm.exec) {pc : Nat} {Ls : Array Slot} {z : Int32} {rest : List Value} (hret : meth.sig.returnType = some .int) (hd : decode c.code pc = .ok (.ireturn, 1)) {fs : List Frame}
    (hl : ∀ (f : JFrame) (acts : List Action), f.method = m → f.locked = none → f.entered = [] → (doReturn e (T.setTop f) acts (some (.int z))).1 = T.setFrames fs) : Steps p.tables e below (T.setTop (mkF m pc Ls (.int z :: rest))) (T.setFrames fs) := by
  have hm' : T.vm.method? m = some meth := X.method'
  have hn : narrow .int (.int z) = .int z := rfl
  show Steps p.tables e below (T.setTop { method := m, pc := pc, locals := Ls, stack := _ :: rest, locked := none }) _
  jvm_step X.here [X.here.top, hx, hd, hm', hret, hn]
  first | (intro acts; rw [hl _ acts rfl rfl rfl]) | rw [hl _ _ rfl rfl rfl]
  exact Steps.refl _
theorem retRef (X : Stand p l e R s m args below meth c T locs cells slots) (hx : p.tables.exec = Jvm.exec) {pc : Nat} {Ls : Array Slot} {v : Value} {rest : List Value} {ty : FieldType} (hret : meth.sig.returnType = some ty) (hty : ty.isReference = true) (hv : v.isRef = true) (hd : decode c.code pc = .ok (.areturn, 1)) {fs : List Frame}
    (hl : ∀ (f : JFrame) (acts : List Action), f.method = m → f.locked = none → f.entered = [] → (doReturn e (T.setTop f) acts (some v)).1 = T.setFrames fs) : Steps p.tables e below (T.setTop (mkF m pc Ls (v :: rest))) (T.setFrames fs) := by
  have hm' : T.vm.method? m = some meth := X.method'
  show Steps p.tables e below (T.setTop { method := m, pc := pc, locals := Ls, stack := _ :: rest, locked := none }) _
  jvm_step X.here [X.here.top, hx, hd, hm', hret, hty, hv]
  first | (intro acts; rw [hl _ acts rfl rfl rfl]) | rw [hl _ _ rfl rfl rfl]
  exact Steps.refl _
theorem retD (X : Stand p l e R s m args below meth c T locs cells slots) (hx : p.tables.exec = Jvm.exec) {pc : Nat} {Ls : Array Slot} {z : UInt64} {rest : List Value} (hret : meth.sig.returnType = some .double) (hd : decode c.code pc = .ok (.dreturn, 1)) {fs : List Frame}
    (hl : ∀ (f : JFrame) (acts : List Action), f.method = m → f.locked = none → f.entered = [] → (doReturn e (T.setTop f) acts (some (.double z))).1 = T.setFrames fs) : Steps p.tables e below (T.setTop (mkF m pc Ls (.double z :: rest))) (T.setFrames fs) := by
  have hm' : T.vm.method? m = some meth := X.method'
  have hn : narrow .double (.double z) = .double z := rfl
  show Steps p.tables e below (T.setTop { method := m, pc := pc, locals := Ls, stack := _ :: rest, locked := none }) _
  jvm_step X.here [X.here.top, hx, hd, hm', hret, hn]
  first | (intro acts; rw [hl _ acts rfl rfl rfl]) | rw [hl _ _ rfl rfl rfl]
  exact Steps.refl _
end New
end Jvm.RoadKit
namespace Jvm.Pilot.@@N@@
open Jvm Jvm.ClassFile Sem Op Lib Jvm.Free Jvm.Stand Jvm.LawKit Jvm.RoadKit Bundle Jvm.Pilot.@@N@@.Jvm.D
/-- from the state S the run comes to an end of which R speaks -/
abbrev Ends (tb : Tables) (e : Env) (below : List Frame) (S : State) (R : State → Outcome → Prop) : Prop := ∃ t o, Steps tb e below S t ∧ R t o
theorem Ends.st {tb : Tables} {e : Env} {below : List Frame} {S S' : State} {R : State → Outcome → Prop} (h : ∀ t, Steps tb e below S' t → Steps tb e below S t) (k : Ends tb e below S' R) : Ends tb e below S R := by
  obtain ⟨t, o, h1, h2⟩ := k
  exact ⟨t, o, h t h1, h2⟩
theorem pd_0 : parseMethodDescriptor "(IIII)[I" = some ⟨[.int, .int, .int, .int], some (.array .int)⟩ := by decide +kernel
theorem pd_1 : parseMethodDescriptor "([II[III)I" = some ⟨[(.array .int), .int, (.array .int), .int, .int], some .int⟩ := by decide +kernel
theorem pd_2 : parseMethodDescriptor "([II[IIII)Z" = some ⟨[(.array .int), .int, (.array .int), .int, .int, .int], some .boolean⟩ := by decide +kernel
theorem own_char (p : Int32) : 0 ≤ (p.toUInt32.toUInt16.toUInt32.toInt32).toInt ∧ (p.toUInt32.toUInt16.toUInt32.toInt32).toInt < 65536 := by
  have h : p.toUInt32.toUInt16.toUInt32.toNat < 65536 := by
    rw [UInt16.toNat_toUInt32]; exact UInt16.toNat_lt _
  have e : (p.toUInt32.toUInt16.toUInt32.toInt32).toInt = (p.toUInt32.toUInt16.toUInt32.toNat : Int) := by
    show (p.toUInt32.toUInt16.toUInt32).toBitVec.toInt = _
    rw [BitVec.toInt_eq_toNat_of_lt]
    · rfl
    · show 2 * p.toUInt32.toUInt16.toUInt32.toNat < 2 ^ 32
      omega
  rw [e]; omega
theorem own_of_toInt {p : Int32} {n : Nat} (h : p.toInt = (n : Int)) (hn : n < 2 ^ 31) : p = Int32.ofNat n := by
  apply Int32.toInt_inj.mp
  rw [h, Int32.toInt_ofNat_of_lt hn]
/-- an array of ints: its length, and what each place holds -/
def IntA (Z : State) (h : Heap) (a : Addr) (n : Int32) (f : Int32 → Int32) : Prop := ∃ cl : Cell, Arr Z h a cl .int ∧ cl.slots.size = n.toNatClampNeg ∧ ¬ n < 0 ∧ ∀ i : Int32, ¬ i < 0 → i < n → cl.slots[i.toNatClampNeg]? = some (.int (f i))
theorem IntA.keep {Z : State} {h h' : Heap} {a : Addr} {n : Int32} {f : Int32 → Int32} (F : IntA Z h a n f) (K : Keep h h' []) : IntA Z h' a n f := by
  obtain ⟨cl, A, r⟩ := F
  exact ⟨cl, ⟨K.2.1 a cl A.1 nin0, A.2⟩, r⟩
theorem own_intA {Z : State} {h : Heap} {a : Addr} {k : ClassId} {n : Int32} {vs : List Value} {f : Int32 → Int32} (V : Arv Z h a k .int n vs (.int (0 : Int32))) (hf : ∀ i : Int32, ¬ i < 0 → i < n → vs.getD i.toNatClampNeg (.int (0 : Int32)) = .int (f i)) : IntA Z h a n f := by
  obtain ⟨cl, A, -, S, M, H, -⟩ := V
  refine ⟨cl, A, S, M, fun i h1 h2 => ?_⟩
  have hin := inb_of S ⟨h1, h2⟩
  exact H.at hin (hf i h1 h2)
def mlen (n : Int32) : Int32 := if n = 0 then 0 else if n = 1 then 1 else if n = 2 then 2 else 3
def mf (a b d i : Int32) : Int32 := if i = 0 then a else if i = 1 then b else d
theorem own_below (m : Nat) (hm : m ≤ 3) (i : Int32) (h1 : ¬ i < 0) (h2 : i < Int32.ofNat m) : ∃ u : Nat, u < m ∧ i = Int32.ofNat u := by
  rw [Int32.lt_iff_toInt_lt] at h1 h2
  have e0 : (0 : Int32).toInt = 0 := by decide
  rw [e0] at h1
  rw [Int32.toInt_ofNat_of_lt (by omega)] at h2
  exact ⟨i.toInt.toNat, by omega, own_of_toInt (by omega) (by omega)⟩
theorem own_vs1 (a b d : Int32) : ∀ i : Int32, ¬ i < 0 → i < 1 → [Value.int a].getD i.toNatClampNeg (.int (0 : Int32)) = .int (mf a b d i) := fun i h1 h2 => by
  obtain ⟨u, hu, rfl⟩ := own_below 1 (by decide) i h1 h2
  match u, hu with
  | 0, _ => rfl
theorem own_vs2 (a b d : Int32) : ∀ i : Int32, ¬ i < 0 → i < 2 → [Value.int a, Value.int b].getD i.toNatClampNeg (.int (0 : Int32)) = .int (mf a b d i) := fun i h1 h2 => by
  obtain ⟨u, hu, rfl⟩ := own_below 2 (by decide) i h1 h2
  match u, hu with
  | 0, _ => rfl
  | 1, _ => rfl
theorem own_vs3 (a b d : Int32) : ∀ i : Int32, ¬ i < 0 → i < 3 → [Value.int a, Value.int b, Value.int d].getD i.toNatClampNeg (.int (0 : Int32)) = .int (mf a b d i) := fun i h1 h2 => by
  obtain ⟨u, hu, rfl⟩ := own_below 3 (by decide) i h1 h2
  match u, hu with
  | 0, _ => rfl
  | 1, _ => rfl
  | 2, _ => rfl
theorem own_vs0 (a b d : Int32) : ∀ i : Int32, ¬ i < 0 → i < 0 → ([] : List Value).getD i.toNatClampNeg (.int (0 : Int32)) = .int (mf a b d i) := fun i h1 h2 => absurd h2 h1
/-- the run of equal pairs, by turns -/
def sf (n1 n2 : Int32) (f1 f2 : Int32 → Int32) (d : Int32) : Nat → Int32 → Int32 → Int32 → Int32
  | 0, _, _, r => r
  | k + 1, i, j, r => if i < 0 then r else if i < n1 then (if j < 0 then r else if j < n2 then (if f1 i = f2 j then sf n1 n2 f1 f2 d k (i + d) (j + d) (r + 1) else r) else r) else r
def st0 (d p : Int32) : Int32 := if (0 : Int32) < d then p else p - 1
def Fuel (n1 d : Int32) (k : Nat) (i : Int32) : Prop := ¬ i < 0 → i < n1 → (d = 1 ∧ n1.toInt - i.toInt ≤ (k : Int)) ∨ (d = -1 ∧ i.toInt + 1 ≤ (k : Int))
theorem own_fuel0 {n1 d i : Int32} (h : Fuel n1 d 0 i) (h1 : ¬ i < 0) : ¬ i < n1 := fun h2 => by
  have q := h h1 h2
  rw [Int32.lt_iff_toInt_lt] at h1 h2
  have e0 : (0 : Int32).toInt = 0 := by decide
  rw [e0] at h1
  omega
theorem own_fuelS {n1 d i : Int32} {k : Nat} (h : Fuel n1 d (k + 1) i) (h1 : ¬ i < 0) (h2 : i < n1) : Fuel n1 d k (i + d) := fun h3 h4 => by
  have q := h h1 h2
  rw [Int32.lt_iff_toInt_lt] at h1 h2
  have e0 : (0 : Int32).toInt = 0 := by decide
  have e1 : (1 : Int32).toInt = 1 := by decide
  have em : (-1 : Int32).toInt = -1 := by decide
  have b1 := n1.toInt_lt
  rw [e0] at h1
  rcases q with ⟨rfl, q⟩ | ⟨rfl, q⟩
  · refine Or.inl ⟨rfl, ?_⟩
    rw [Jvm.Kit.i32_add (by omega) (by omega), e1]; omega
  · refine Or.inr ⟨rfl, ?_⟩
    rw [Jvm.Kit.i32_add (by omega) (by omega), em]; omega
theorem own_fuel4 {n1 d i : Int32} (hd : d = 1 ∨ d = -1) (hn : n1.toInt ≤ 3) : Fuel n1 d 4 i := fun h1 h2 => by
  rw [Int32.lt_iff_toInt_lt] at h1 h2
  have e0 : (0 : Int32).toInt = 0 := by decide
  rw [e0] at h1
  rcases hd with rfl | rfl
  · exact Or.inl ⟨rfl, by omega⟩
  · exact Or.inr ⟨rfl, by omega⟩
/-- the law's own pair k -/
def ix (d p k : Int32) : Int64 := if (0 : Int32) < d then p.toInt64 + k.toInt64 else p.toInt64 - 1 - k.toInt64
def okf (n1 n2 : Int32) (f1 f2 : Int32 → Int32) (d p q k : Int32) : Int32 :=
  if lcmpW (ix d p k) 0 < 0 then 0 else if lcmpW (ix d p k) n1.toInt64 < 0 then (if lcmpW (ix d q k) 0 < 0 then 0 else if lcmpW (ix d q k) n2.toInt64 < 0 then (if f1 (ix d p k).toInt32 = f2 (ix d q k).toInt32 then 1 else 0) else 0) else 0
theorem own_ixin {x : Int64} {n : Int32} (h1 : ¬ lcmpW x 0 < 0) (h2 : lcmpW x n.toInt64 < 0) : ¬ x.toInt32 < 0 ∧ x.toInt32 < n := by
  rw [lw_lt] at h1 h2
  rw [Int64.lt_iff_toInt_lt] at h1 h2
  have e0 : (0 : Int64).toInt = 0 := by decide
  have e0' : (0 : Int32).toInt = 0 := by decide
  rw [e0] at h1
  rw [Jvm.Kit.i64_of_i32] at h2
  have b := n.toInt_lt
  have e4 : x.toInt32.toInt = x.toInt := Jvm.Kit.i32_of_i64 (by omega) (by omega)
  rw [Int32.lt_iff_toInt_lt, Int32.lt_iff_toInt_lt, e4, e0']
  omega
theorem own_mlen (n : Int32) : 0 ≤ (mlen n).toInt ∧ (mlen n).toInt ≤ 3 := by
  unfold mlen
  repeat' split
  all_goals decide
theorem own_ge0 {r : Int32} (h : ¬ r < 1) : (0 : Int32) < r := by
  rw [Int32.lt_iff_toInt_lt] at *
  have e0 : (0 : Int32).toInt = 0 := by decide
  have e1 : (1 : Int32).toInt = 1 := by decide
  omega
theorem own_ge1 {r : Int32} (h : ¬ r < 2) : (1 : Int32) < r := by
  rw [Int32.lt_iff_toInt_lt] at *
  have e0 : (1 : Int32).toInt = 1 := by decide
  have e1 : (2 : Int32).toInt = 2 := by decide
  omega
theorem own_ge2 {r : Int32} (h : ¬ r < 3) : (2 : Int32) < r := by
  rw [Int32.lt_iff_toInt_lt] at *
  have e0 : (2 : Int32).toInt = 2 := by decide
  have e1 : (3 : Int32).toInt = 3 := by decide
  omega
def okZ (n1 n2 : Int32) (f1 f2 : Int32 → Int32) (a b : Int) : Prop := 0 ≤ a ∧ a < n1.toInt ∧ 0 ≤ b ∧ b < n2.toInt ∧ f1 (Int32.ofInt a) = f2 (Int32.ofInt b)
theorem own_ofInt {a : Int} (h1 : -2147483648 ≤ a) (h2 : a ≤ 2147483647) : (Int32.ofInt a).toInt = a := by
  rw [Int32.toInt_ofInt]; exact Jvm.Kit.bmod32 (by omega) (by omega)
theorem own_in {a : Int} {n : Int32} (hn : n.toInt ≤ 3) (h1 : -2147483649 ≤ a) (h2 : a ≤ 2147483647) : (¬ Int32.ofInt a < 0 ∧ Int32.ofInt a < n) ↔ (0 ≤ a ∧ a < n.toInt) := by
  rw [Int32.lt_iff_toInt_lt, Int32.lt_iff_toInt_lt]
  have e0 : (0 : Int32).toInt = 0 := by decide
  rw [e0]
  by_cases h : -2147483648 ≤ a
  · rw [own_ofInt h h2]; omega
  · have ha : a = -2147483649 := by omega
    subst ha
    have e : (Int32.ofInt (-2147483649)).toInt = 2147483647 := by decide
    rw [e]; omega
theorem own_run {n1 n2 : Int32} {f1 f2 : Int32 → Int32} {d : Int32} {s : Int} (hs : d.toInt = s) (hs1 : s = 1 ∨ s = -1) (h1 : n1.toInt ≤ 3) (h2 : n2.toInt ≤ 3) : ∀ (k : Nat) (a b : Int) (r : Int32), -2147483649 ≤ a → a ≤ 2147483647 → -2147483649 ≤ b → b ≤ 2147483647 →
    (0 ≤ a → a < n1.toInt → (s = 1 ∧ n1.toInt - a ≤ (k : Int)) ∨ (s = -1 ∧ a + 1 ≤ (k : Int))) →
    ∃ t : Nat, sf n1 n2 f1 f2 d k (Int32.ofInt a) (Int32.ofInt b) r = r + Int32.ofNat t ∧ (∀ u : Nat, u < t → okZ n1 n2 f1 f2 (a + (u : Int) * s) (b + (u : Int) * s)) ∧ ¬ okZ n1 n2 f1 f2 (a + (t : Int) * s) (b + (t : Int) * s) := by
  have z0 : ∀ x : Int, x + ((0 : Nat) : Int) * s = x := fun x => by simp
  have zr : ∀ r : Int32, r + Int32.ofNat 0 = r := fun r => Int32.add_zero r
  intro k
  induction k with
  | zero =>
    intro a b r ha1 ha2 hb1 hb2 hf
    refine ⟨0, (zr r).symm, fun u hu => absurd hu (Nat.not_lt_zero u), ?_⟩
    rw [z0, z0]
    rintro ⟨q1, q2, -⟩
    have := hf q1 q2
    omega
  | succ k ih =>
    intro a b r ha1 ha2 hb1 hb2 hf
    by_cases hz : okZ n1 n2 f1 f2 a b
    · have hz' := hz
      obtain ⟨q1, q2, q3, q4, q5⟩ := hz'
      obtain ⟨c1, c2⟩ := (own_in h1 ha1 ha2).mpr ⟨q1, q2⟩
      obtain ⟨c3, c4⟩ := (own_in h2 hb1 hb2).mpr ⟨q3, q4⟩
      have ea : Int32.ofInt a + d = Int32.ofInt (a + s) := by
        apply Int32.toInt_inj.mp
        have e1 : (Int32.ofInt a).toInt = a := own_ofInt (by omega) (by omega)
        rw [Jvm.Kit.i32_add (by rw [e1, hs]; omega) (by rw [e1, hs]; omega), e1, hs, own_ofInt (by omega) (by omega)]
      have eb : Int32.ofInt b + d = Int32.ofInt (b + s) := by
        apply Int32.toInt_inj.mp
        have e1 : (Int32.ofInt b).toInt = b := own_ofInt (by omega) (by omega)
        rw [Jvm.Kit.i32_add (by rw [e1, hs]; omega) (by rw [e1, hs]; omega), e1, hs, own_ofInt (by omega) (by omega)]
      obtain ⟨t, w1, w2, w3⟩ := ih (a + s) (b + s) (r + 1) (by omega) (by omega) (by omega) (by omega) (fun p1 p2 => by
        have := hf q1 q2
        push_cast at this
        omega)
      have zs : ∀ (x : Int) (v : Nat), x + ((v + 1 : Nat) : Int) * s = (x + s) + (v : Int) * s := fun x v => by
        rw [Int.natCast_add, Int.add_mul]; simp only [Int.natCast_one, Int.one_mul]; omega
      refine ⟨t + 1, ?_, fun u hu => ?_, ?_⟩
      · simp only [sf, c1, c2, c3, c4, q5, if_true, if_false]
        rw [ea, eb, w1, Int32.add_assoc]
        congr 1
        apply Int32.toInt_inj.mp
        have : Int32.ofNat (t + 1) = 1 + Int32.ofNat t := by
          rw [Int32.ofNat_add, Int32.add_comm]; rfl
        rw [this]
      · cases u with
        | zero => rw [z0, z0]; exact hz
        | succ v => rw [zs, zs]; exact w2 v (by omega)
      · rw [zs, zs]; exact w3
    · refine ⟨0, ?_, fun u hu => absurd hu (Nat.not_lt_zero u), by rw [z0, z0]; exact hz⟩
      rw [zr]
      by_cases c1 : Int32.ofInt a < 0
      · simp only [sf, c1, if_true]
      by_cases c2 : Int32.ofInt a < n1
      · obtain ⟨q1, q2⟩ := (own_in h1 ha1 ha2).mp ⟨c1, c2⟩
        by_cases c3 : Int32.ofInt b < 0
        · simp only [sf, c1, c2, c3, if_true, if_false]
        by_cases c4 : Int32.ofInt b < n2
        · obtain ⟨q3, q4⟩ := (own_in h2 hb1 hb2).mp ⟨c3, c4⟩
          by_cases c5 : f1 (Int32.ofInt a) = f2 (Int32.ofInt b)
          · exact absurd ⟨q1, q2, q3, q4, c5⟩ hz
          · simp only [sf, c1, c2, c3, c4, c5, if_true, if_false]
        · simp only [sf, c1, c2, c3, c4, if_true, if_false]
      · simp only [sf, c1, c2, if_true, if_false]
theorem own_st0 {d : Int32} (hd : d = 1 ∨ d = -1) (p : Int32) : ∃ a : Int, st0 d p = Int32.ofInt a ∧ -2147483649 ≤ a ∧ a ≤ 2147483647 ∧ (∀ k : Nat, k ≤ 3 → (ix d p (Int32.ofNat k)).toInt = a + (k : Int) * d.toInt) := by
  have b1 := p.toInt_lt
  have b2 := p.le_toInt
  have e1 : (1 : Int32).toInt = 1 := by decide
  have em : (-1 : Int32).toInt = -1 := by decide
  have l1 : (1 : Int64).toInt = 1 := by decide
  rcases hd with rfl | rfl
  · refine ⟨p.toInt, ?_, by omega, by omega, fun k hk => ?_⟩
    · have c : (0 : Int32) < 1 := by decide
      simp only [st0, c, if_true]
      apply Int32.toInt_inj.mp
      rw [own_ofInt (by omega) (by omega)]
    · have c : (0 : Int32) < 1 := by decide
      simp only [ix, c, if_true]
      have ek : (Int32.ofNat k).toInt64.toInt = k := by rw [Jvm.Kit.i64_of_i32, Int32.toInt_ofNat_of_lt (by omega)]
      rw [Jvm.Kit.i64_add (by rw [Jvm.Kit.i64_of_i32, ek]; omega) (by rw [Jvm.Kit.i64_of_i32, ek]; omega), Jvm.Kit.i64_of_i32, ek, e1]
      omega
  · refine ⟨p.toInt - 1, ?_, by omega, by omega, fun k hk => ?_⟩
    · have c : ¬ (0 : Int32) < -1 := by decide
      simp only [st0, c, if_false]
      apply Int32.toInt_inj.mp
      rw [Int32.toInt_sub, Int32.toInt_ofInt, e1]
    · have c : ¬ (0 : Int32) < -1 := by decide
      simp only [ix, c, if_false]
      have ek : (Int32.ofNat k).toInt64.toInt = k := by rw [Jvm.Kit.i64_of_i32, Int32.toInt_ofNat_of_lt (by omega)]
      have e2 : (p.toInt64 - 1).toInt = p.toInt - 1 := by
        rw [Jvm.Kit.i64_sub (by rw [Jvm.Kit.i64_of_i32, l1]; omega) (by rw [Jvm.Kit.i64_of_i32, l1]; omega), Jvm.Kit.i64_of_i32, l1]
      rw [Jvm.Kit.i64_sub (by rw [e2, ek]; omega) (by rw [e2, ek]; omega), e2, ek, em]
      omega
theorem own_l2i (x : Int64) : x.toInt32 = Int32.ofInt x.toInt := by
  apply Int32.toInt_inj.mp
  rw [Int32.toInt_ofInt, Int64.toInt_toInt32]
theorem own_lc {x : Int64} {z : Int} (hx : x.toInt = z) (n : Int32) : (lcmpW x 0 < 0 ↔ z < 0) ∧ (lcmpW x n.toInt64 < 0 ↔ z < n.toInt) := by
  have e0 : (0 : Int64).toInt = 0 := by decide
  refine ⟨?_, ?_⟩
  · rw [lw_lt, Int64.lt_iff_toInt_lt, hx, e0]
  · rw [lw_lt, Int64.lt_iff_toInt_lt, hx, Jvm.Kit.i64_of_i32]
theorem own_law {n1 n2 : Int32} {f1 f2 : Int32 → Int32} {d p q r : Int32} (hd : d = 1 ∨ d = -1) (h1 : 0 ≤ n1.toInt ∧ n1.toInt ≤ 3) (h2 : 0 ≤ n2.toInt ∧ n2.toInt ≤ 3) (hr : r = sf n1 n2 f1 f2 d 4 (st0 d p) (st0 d q) 0) :
    ¬ r < 0 ∧ ¬ (3 : Int32) < r ∧ (∀ k : Int32, ¬ k < 0 → k < r → okf n1 n2 f1 f2 d p q k = 1) ∧ okf n1 n2 f1 f2 d p q r = 0 := by
  obtain ⟨a, ea, ha1, ha2, ha3⟩ := own_st0 hd p
  obtain ⟨b, eb, hb1, hb2, hb3⟩ := own_st0 hd q
  have hs : d.toInt = 1 ∨ d.toInt = -1 := by
    rcases hd with rfl | rfl
    · exact Or.inl (by decide)
    · exact Or.inr (by decide)
  obtain ⟨t, w1, w2, w3⟩ := own_run (n1 := n1) (n2 := n2) (f1 := f1) (f2 := f2) (d := d) rfl hs h1.2 h2.2 4 a b 0 ha1 ha2 hb1 hb2 (fun p1 p2 => by
    rcases hs with hs | hs
    · exact Or.inl ⟨hs, by omega⟩
    · exact Or.inr ⟨hs, by omega⟩)
  have ht : t ≤ 3 := by
    refine Nat.le_of_not_lt fun hlt => ?_
    obtain ⟨u1, u2, -⟩ := w2 0 (by omega)
    obtain ⟨u3, u4, -⟩ := w2 3 (by omega)
    rcases hs with hs | hs <;> rw [hs] at u1 u2 u3 u4 <;> simp at u1 u2 u3 u4 <;> omega
  have er : r = Int32.ofNat t := by
    rw [hr, ea, eb, w1]; exact Int32.zero_add _
  have yes : ∀ k : Nat, k ≤ 3 → okZ n1 n2 f1 f2 (a + (k : Int) * d.toInt) (b + (k : Int) * d.toInt) → okf n1 n2 f1 f2 d p q (Int32.ofNat k) = 1 := fun k hk hz => by
    obtain ⟨q1, q2, q3, q4, q5⟩ := hz
    have c1 := own_lc (ha3 k hk) n1
    have c2 := own_lc (hb3 k hk) n2
    have d1 : ¬ lcmpW (ix d p (Int32.ofNat k)) 0 < 0 := fun z => absurd (c1.1.mp z) (by omega)
    have d2 := c1.2.mpr q2
    have d3 : ¬ lcmpW (ix d q (Int32.ofNat k)) 0 < 0 := fun z => absurd (c2.1.mp z) (by omega)
    have d4 := c2.2.mpr q4
    have d5 : f1 (ix d p (Int32.ofNat k)).toInt32 = f2 (ix d q (Int32.ofNat k)).toInt32 := by rw [own_l2i, own_l2i, ha3 k hk, hb3 k hk]; exact q5
    unfold okf
    rw [if_neg d1, if_pos d2, if_neg d3, if_pos d4, if_pos d5]
  have no : ∀ k : Nat, k ≤ 3 → ¬ okZ n1 n2 f1 f2 (a + (k : Int) * d.toInt) (b + (k : Int) * d.toInt) → okf n1 n2 f1 f2 d p q (Int32.ofNat k) = 0 := fun k hk hz => by
    have c1 := own_lc (ha3 k hk) n1
    have c2 := own_lc (hb3 k hk) n2
    unfold okf
    by_cases d1 : lcmpW (ix d p (Int32.ofNat k)) 0 < 0
    · rw [if_pos d1]
    rw [if_neg d1]
    by_cases d2 : lcmpW (ix d p (Int32.ofNat k)) n1.toInt64 < 0
    · rw [if_pos d2]
      by_cases d3 : lcmpW (ix d q (Int32.ofNat k)) 0 < 0
      · rw [if_pos d3]
      rw [if_neg d3]
      by_cases d4 : lcmpW (ix d q (Int32.ofNat k)) n2.toInt64 < 0
      · rw [if_pos d4]
        by_cases d5 : f1 (ix d p (Int32.ofNat k)).toInt32 = f2 (ix d q (Int32.ofNat k)).toInt32
        · exfalso
          rw [own_l2i, own_l2i, ha3 k hk, hb3 k hk] at d5
          exact hz ⟨Int.not_lt.mp fun z => d1 (c1.1.mpr z), c1.2.mp d2, Int.not_lt.mp fun z => d3 (c2.1.mpr z), c2.2.mp d4, d5⟩
        · rw [if_neg d5]
      · rw [if_neg d4]
    · rw [if_neg d2]
  have et : (Int32.ofNat t).toInt = t := Int32.toInt_ofNat_of_lt (by omega)
  have e0 : (0 : Int32).toInt = 0 := by decide
  have e3 : (3 : Int32).toInt = 3 := by decide
  subst er
  refine ⟨?_, ?_, fun k k1 k2 => ?_, no t ht w3⟩
  · rw [Int32.lt_iff_toInt_lt, et, e0]; omega
  · rw [Int32.lt_iff_toInt_lt, et, e3]; omega
  · rw [Int32.lt_iff_toInt_lt] at k1 k2
    rw [e0] at k1
    rw [et] at k2
    have ek : k = Int32.ofNat k.toInt.toNat := own_of_toInt (by omega) (by omega)
    rw [ek]
    exact yes _ (by omega) (w2 _ (by omega))
def Q1 (Z : State) (n a b d : Int32) (h0 : Heap) (n0 : Nat) (v : Option Value) (h : Heap) (L : List Loc) : Prop := ∃ x : Addr, v = some (.ref x) ∧ Fr n0 L ∧ Keep h0 h [] ∧ IntA Z h x (mlen n) (mf a b d)
def Q2 (Z : State) (n1 n2 : Int32) (f1 f2 : Int32 → Int32) (d p q : Int32) (h0 : Heap) (n0 : Nat) (v : Option Value) (h : Heap) (L : List Loc) : Prop := v = some (.int (sf n1 n2 f1 f2 d 4 (st0 d p) (st0 d q) 0)) ∧ Fr n0 L ∧ h = h0
def Q3 (Z : State) (n1 n2 : Int32) (f1 f2 : Int32 → Int32) (d p q : Int32) (k : Int32) (h0 : Heap) (n0 : Nat) (v : Option Value) (h : Heap) (L : List Loc) : Prop := v = some (.int (okf n1 n2 f1 f2 d p q k)) ∧ Fr n0 L ∧ h = h0
def Q0 (Z : State)  (h0 : Heap) (n0 : Nat) (v : Option Value) (h : Heap) (L : List Loc) : Prop := v = some (.int 1) ∧ Fr n0 L
theorem d1_0 : decode method_3_code 0 = .ok (.iload_n 0, 1) := by decide +kernel
theorem d1_1 : decode method_3_code 1 = .ok (.ifCond .ne 7, 3) := by decide +kernel
theorem d1_4 : decode method_3_code 4 = .ok (.iconst 0, 1) := by decide +kernel
theorem d1_5 : decode method_3_code 5 = .ok (.newarray .int, 2) := by decide +kernel
theorem d1_7 : decode method_3_code 7 = .ok (.areturn, 1) := by decide +kernel
theorem d1_8 : decode method_3_code 8 = .ok (.iload_n 0, 1) := by decide +kernel
theorem d1_9 : decode method_3_code 9 = .ok (.iconst 1, 1) := by decide +kernel
theorem d1_10 : decode method_3_code 10 = .ok (.if_icmp .ne 11, 3) := by decide +kernel
theorem d1_13 : decode method_3_code 13 = .ok (.iconst 1, 1) := by decide +kernel
theorem d1_14 : decode method_3_code 14 = .ok (.newarray .int, 2) := by decide +kernel
theorem d1_16 : decode method_3_code 16 = .ok (.dup, 1) := by decide +kernel
theorem d1_17 : decode method_3_code 17 = .ok (.iconst 0, 1) := by decide +kernel
theorem d1_18 : decode method_3_code 18 = .ok (.iload_n 1, 1) := by decide +kernel
theorem d1_19 : decode method_3_code 19 = .ok (.iastore, 1) := by decide +kernel
theorem d1_20 : decode method_3_code 20 = .ok (.areturn, 1) := by decide +kernel
theorem d1_21 : decode method_3_code 21 = .ok (.iload_n 0, 1) := by decide +kernel
theorem d1_22 : decode method_3_code 22 = .ok (.iconst 2, 1) := by decide +kernel
theorem d1_23 : decode method_3_code 23 = .ok (.if_icmp .ne 15, 3) := by decide +kernel
theorem d1_26 : decode method_3_code 26 = .ok (.iconst 2, 1) := by decide +kernel
theorem d1_27 : decode method_3_code 27 = .ok (.newarray .int, 2) := by decide +kernel
theorem d1_29 : decode method_3_code 29 = .ok (.dup, 1) := by decide +kernel
theorem d1_30 : decode method_3_code 30 = .ok (.iconst 0, 1) := by decide +kernel
theorem d1_31 : decode method_3_code 31 = .ok (.iload_n 1, 1) := by decide +kernel
theorem d1_32 : decode method_3_code 32 = .ok (.iastore, 1) := by decide +kernel
theorem d1_33 : decode method_3_code 33 = .ok (.dup, 1) := by decide +kernel
theorem d1_34 : decode method_3_code 34 = .ok (.iconst 1, 1) := by decide +kernel
theorem d1_35 : decode method_3_code 35 = .ok (.iload_n 2, 1) := by decide +kernel
theorem d1_36 : decode method_3_code 36 = .ok (.iastore, 1) := by decide +kernel
theorem d1_37 : decode method_3_code 37 = .ok (.areturn, 1) := by decide +kernel
theorem d1_38 : decode method_3_code 38 = .ok (.iconst 3, 1) := by decide +kernel
theorem d1_39 : decode method_3_code 39 = .ok (.newarray .int, 2) := by decide +kernel
theorem d1_41 : decode method_3_code 41 = .ok (.dup, 1) := by decide +kernel
theorem d1_42 : decode method_3_code 42 = .ok (.iconst 0, 1) := by decide +kernel
theorem d1_43 : decode method_3_code 43 = .ok (.iload_n 1, 1) := by decide +kernel
theorem d1_44 : decode method_3_code 44 = .ok (.iastore, 1) := by decide +kernel
theorem d1_45 : decode method_3_code 45 = .ok (.dup, 1) := by decide +kernel
theorem d1_46 : decode method_3_code 46 = .ok (.iconst 1, 1) := by decide +kernel
theorem d1_47 : decode method_3_code 47 = .ok (.iload_n 2, 1) := by decide +kernel
theorem d1_48 : decode method_3_code 48 = .ok (.iastore, 1) := by decide +kernel
theorem d1_49 : decode method_3_code 49 = .ok (.dup, 1) := by decide +kernel
theorem d1_50 : decode method_3_code 50 = .ok (.iconst 2, 1) := by decide +kernel
theorem d1_51 : decode method_3_code 51 = .ok (.iload_n 3, 1) := by decide +kernel
theorem d1_52 : decode method_3_code 52 = .ok (.iastore, 1) := by decide +kernel
theorem d1_53 : decode method_3_code 53 = .ok (.areturn, 1) := by decide +kernel
theorem pn_1 : plainName "com/example/umpteenth_copy/umpteenthcopy/engine/MatchSameFromPinLaw" = true := by first | (simp [plainName, overriddenIn]; done) | decide +kernel
theorem d2_0 : decode prog_14_method_18_code 0 = .ok (.iload 4, 2) := by decide +kernel
theorem d2_2 : decode prog_14_method_18_code 2 = .ok (.ifCond .le 7, 3) := by decide +kernel
theorem d2_5 : decode prog_14_method_18_code 5 = .ok (.iload_n 1, 1) := by decide +kernel
theorem d2_6 : decode prog_14_method_18_code 6 = .ok (.goto 6, 3) := by decide +kernel
theorem d2_9 : decode prog_14_method_18_code 9 = .ok (.iload_n 1, 1) := by decide +kernel
theorem d2_10 : decode prog_14_method_18_code 10 = .ok (.iconst 1, 1) := by decide +kernel
theorem d2_11 : decode prog_14_method_18_code 11 = .ok (.isub, 1) := by decide +kernel
theorem d2_12 : decode prog_14_method_18_code 12 = .ok (.istore 5, 2) := by decide +kernel
theorem d2_14 : decode prog_14_method_18_code 14 = .ok (.iload 4, 2) := by decide +kernel
theorem d2_16 : decode prog_14_method_18_code 16 = .ok (.ifCond .le 7, 3) := by decide +kernel
theorem d2_19 : decode prog_14_method_18_code 19 = .ok (.iload_n 3, 1) := by decide +kernel
theorem d2_20 : decode prog_14_method_18_code 20 = .ok (.goto 6, 3) := by decide +kernel
theorem d2_23 : decode prog_14_method_18_code 23 = .ok (.iload_n 3, 1) := by decide +kernel
theorem d2_24 : decode prog_14_method_18_code 24 = .ok (.iconst 1, 1) := by decide +kernel
theorem d2_25 : decode prog_14_method_18_code 25 = .ok (.isub, 1) := by decide +kernel
theorem d2_26 : decode prog_14_method_18_code 26 = .ok (.istore 6, 2) := by decide +kernel
theorem d2_28 : decode prog_14_method_18_code 28 = .ok (.iconst 0, 1) := by decide +kernel
theorem d2_29 : decode prog_14_method_18_code 29 = .ok (.istore 7, 2) := by decide +kernel
theorem d2_31 : decode prog_14_method_18_code 31 = .ok (.iload 5, 2) := by decide +kernel
theorem d2_33 : decode prog_14_method_18_code 33 = .ok (.ifCond .lt 53, 3) := by decide +kernel
theorem d2_36 : decode prog_14_method_18_code 36 = .ok (.iload 5, 2) := by decide +kernel
theorem d2_38 : decode prog_14_method_18_code 38 = .ok (.aload_n 0, 1) := by decide +kernel
theorem d2_39 : decode prog_14_method_18_code 39 = .ok (.arraylength, 1) := by decide +kernel
theorem d2_40 : decode prog_14_method_18_code 40 = .ok (.if_icmp .ge 46, 3) := by decide +kernel
theorem d2_43 : decode prog_14_method_18_code 43 = .ok (.iload 6, 2) := by decide +kernel
theorem d2_45 : decode prog_14_method_18_code 45 = .ok (.ifCond .lt 41, 3) := by decide +kernel
theorem d2_48 : decode prog_14_method_18_code 48 = .ok (.iload 6, 2) := by decide +kernel
theorem d2_50 : decode prog_14_method_18_code 50 = .ok (.aload_n 2, 1) := by decide +kernel
theorem d2_51 : decode prog_14_method_18_code 51 = .ok (.arraylength, 1) := by decide +kernel
theorem d2_52 : decode prog_14_method_18_code 52 = .ok (.if_icmp .ge 34, 3) := by decide +kernel
theorem d2_55 : decode prog_14_method_18_code 55 = .ok (.aload_n 0, 1) := by decide +kernel
theorem d2_56 : decode prog_14_method_18_code 56 = .ok (.iload 5, 2) := by decide +kernel
theorem d2_58 : decode prog_14_method_18_code 58 = .ok (.iaload, 1) := by decide +kernel
theorem d2_59 : decode prog_14_method_18_code 59 = .ok (.aload_n 2, 1) := by decide +kernel
theorem d2_60 : decode prog_14_method_18_code 60 = .ok (.iload 6, 2) := by decide +kernel
theorem d2_62 : decode prog_14_method_18_code 62 = .ok (.iaload, 1) := by decide +kernel
theorem d2_63 : decode prog_14_method_18_code 63 = .ok (.if_icmp .ne 23, 3) := by decide +kernel
theorem d2_66 : decode prog_14_method_18_code 66 = .ok (.iinc 7 1, 3) := by decide +kernel
theorem d2_69 : decode prog_14_method_18_code 69 = .ok (.iload 5, 2) := by decide +kernel
theorem d2_71 : decode prog_14_method_18_code 71 = .ok (.iload 4, 2) := by decide +kernel
theorem d2_73 : decode prog_14_method_18_code 73 = .ok (.iadd, 1) := by decide +kernel
theorem d2_74 : decode prog_14_method_18_code 74 = .ok (.istore 5, 2) := by decide +kernel
theorem d2_76 : decode prog_14_method_18_code 76 = .ok (.iload 6, 2) := by decide +kernel
theorem d2_78 : decode prog_14_method_18_code 78 = .ok (.iload 4, 2) := by decide +kernel
theorem d2_80 : decode prog_14_method_18_code 80 = .ok (.iadd, 1) := by decide +kernel
theorem d2_81 : decode prog_14_method_18_code 81 = .ok (.istore 6, 2) := by decide +kernel
theorem d2_83 : decode prog_14_method_18_code 83 = .ok (.goto (-52), 3) := by decide +kernel
theorem d2_86 : decode prog_14_method_18_code 86 = .ok (.iload 7, 2) := by decide +kernel
theorem d2_88 : decode prog_14_method_18_code 88 = .ok (.ireturn, 1) := by decide +kernel
theorem pn_2 : plainName "com/example/umpteenth_copy/umpteenthcopy/engine/Match" = true := by first | (simp [plainName, overriddenIn]; done) | decide +kernel
theorem d3_0 : decode method_4_code 0 = .ok (.iload 4, 2) := by decide +kernel
theorem d3_2 : decode method_4_code 2 = .ok (.ifCond .le 12, 3) := by decide +kernel
theorem d3_5 : decode method_4_code 5 = .ok (.iload_n 1, 1) := by decide +kernel
theorem d3_6 : decode method_4_code 6 = .ok (.i2l, 1) := by decide +kernel
theorem d3_7 : decode method_4_code 7 = .ok (.iload 5, 2) := by decide +kernel
theorem d3_9 : decode method_4_code 9 = .ok (.i2l, 1) := by decide +kernel
theorem d3_10 : decode method_4_code 10 = .ok (.ladd, 1) := by decide +kernel
theorem d3_11 : decode method_4_code 11 = .ok (.goto 11, 3) := by decide +kernel
theorem d3_14 : decode method_4_code 14 = .ok (.iload_n 1, 1) := by decide +kernel
theorem d3_15 : decode method_4_code 15 = .ok (.i2l, 1) := by decide +kernel
theorem d3_16 : decode method_4_code 16 = .ok (.lconst 1, 1) := by decide +kernel
theorem d3_17 : decode method_4_code 17 = .ok (.lsub, 1) := by decide +kernel
theorem d3_18 : decode method_4_code 18 = .ok (.iload 5, 2) := by decide +kernel
theorem d3_20 : decode method_4_code 20 = .ok (.i2l, 1) := by decide +kernel
theorem d3_21 : decode method_4_code 21 = .ok (.lsub, 1) := by decide +kernel
theorem d3_22 : decode method_4_code 22 = .ok (.lstore 6, 2) := by decide +kernel
theorem d3_24 : decode method_4_code 24 = .ok (.iload 4, 2) := by decide +kernel
theorem d3_26 : decode method_4_code 26 = .ok (.ifCond .le 12, 3) := by decide +kernel
theorem d3_29 : decode method_4_code 29 = .ok (.iload_n 3, 1) := by decide +kernel
theorem d3_30 : decode method_4_code 30 = .ok (.i2l, 1) := by decide +kernel
theorem d3_31 : decode method_4_code 31 = .ok (.iload 5, 2) := by decide +kernel
theorem d3_33 : decode method_4_code 33 = .ok (.i2l, 1) := by decide +kernel
theorem d3_34 : decode method_4_code 34 = .ok (.ladd, 1) := by decide +kernel
theorem d3_35 : decode method_4_code 35 = .ok (.goto 11, 3) := by decide +kernel
theorem d3_38 : decode method_4_code 38 = .ok (.iload_n 3, 1) := by decide +kernel
theorem d3_39 : decode method_4_code 39 = .ok (.i2l, 1) := by decide +kernel
theorem d3_40 : decode method_4_code 40 = .ok (.lconst 1, 1) := by decide +kernel
theorem d3_41 : decode method_4_code 41 = .ok (.lsub, 1) := by decide +kernel
theorem d3_42 : decode method_4_code 42 = .ok (.iload 5, 2) := by decide +kernel
theorem d3_44 : decode method_4_code 44 = .ok (.i2l, 1) := by decide +kernel
theorem d3_45 : decode method_4_code 45 = .ok (.lsub, 1) := by decide +kernel
theorem d3_46 : decode method_4_code 46 = .ok (.lstore 8, 2) := by decide +kernel
theorem d3_48 : decode method_4_code 48 = .ok (.lload 6, 2) := by decide +kernel
theorem d3_50 : decode method_4_code 50 = .ok (.lconst 0, 1) := by decide +kernel
theorem d3_51 : decode method_4_code 51 = .ok (.lcmp, 1) := by decide +kernel
theorem d3_52 : decode method_4_code 52 = .ok (.ifCond .lt 45, 3) := by decide +kernel
theorem d3_55 : decode method_4_code 55 = .ok (.lload 6, 2) := by decide +kernel
theorem d3_57 : decode method_4_code 57 = .ok (.aload_n 0, 1) := by decide +kernel
theorem d3_58 : decode method_4_code 58 = .ok (.arraylength, 1) := by decide +kernel
theorem d3_59 : decode method_4_code 59 = .ok (.i2l, 1) := by decide +kernel
theorem d3_60 : decode method_4_code 60 = .ok (.lcmp, 1) := by decide +kernel
theorem d3_61 : decode method_4_code 61 = .ok (.ifCond .ge 36, 3) := by decide +kernel
theorem d3_64 : decode method_4_code 64 = .ok (.lload 8, 2) := by decide +kernel
theorem d3_66 : decode method_4_code 66 = .ok (.lconst 0, 1) := by decide +kernel
theorem d3_67 : decode method_4_code 67 = .ok (.lcmp, 1) := by decide +kernel
theorem d3_68 : decode method_4_code 68 = .ok (.ifCond .lt 29, 3) := by decide +kernel
theorem d3_71 : decode method_4_code 71 = .ok (.lload 8, 2) := by decide +kernel
theorem d3_73 : decode method_4_code 73 = .ok (.aload_n 2, 1) := by decide +kernel
theorem d3_74 : decode method_4_code 74 = .ok (.arraylength, 1) := by decide +kernel
theorem d3_75 : decode method_4_code 75 = .ok (.i2l, 1) := by decide +kernel
theorem d3_76 : decode method_4_code 76 = .ok (.lcmp, 1) := by decide +kernel
theorem d3_77 : decode method_4_code 77 = .ok (.ifCond .ge 20, 3) := by decide +kernel
theorem d3_80 : decode method_4_code 80 = .ok (.aload_n 0, 1) := by decide +kernel
theorem d3_81 : decode method_4_code 81 = .ok (.lload 6, 2) := by decide +kernel
theorem d3_83 : decode method_4_code 83 = .ok (.l2i, 1) := by decide +kernel
theorem d3_84 : decode method_4_code 84 = .ok (.iaload, 1) := by decide +kernel
theorem d3_85 : decode method_4_code 85 = .ok (.aload_n 2, 1) := by decide +kernel
theorem d3_86 : decode method_4_code 86 = .ok (.lload 8, 2) := by decide +kernel
theorem d3_88 : decode method_4_code 88 = .ok (.l2i, 1) := by decide +kernel
theorem d3_89 : decode method_4_code 89 = .ok (.iaload, 1) := by decide +kernel
theorem d3_90 : decode method_4_code 90 = .ok (.if_icmp .ne 7, 3) := by decide +kernel
theorem d3_93 : decode method_4_code 93 = .ok (.iconst 1, 1) := by decide +kernel
theorem d3_94 : decode method_4_code 94 = .ok (.goto 4, 3) := by decide +kernel
theorem d3_97 : decode method_4_code 97 = .ok (.iconst 0, 1) := by decide +kernel
theorem d3_98 : decode method_4_code 98 = .ok (.ireturn, 1) := by decide +kernel
theorem pn_3 : plainName "com/example/umpteenth_copy/umpteenthcopy/engine/MatchSameFromPinLaw" = true := by first | (simp [plainName, overriddenIn]; done) | decide +kernel
theorem pn_0 : plainName "com/example/umpteenth_copy/umpteenthcopy/engine/MatchSameFromPinLaw" = true := by first | (simp [plainName, overriddenIn]; done) | decide +kernel
theorem ef_rm1 (m : MethodId) (x0 : Int32) (x1 : Int32) (x2 : Int32) (x3 : Int32)  : entryFrame m #[(.int x0), (.int x1), (.int x2), (.int x3)] 4 = mkF m 0 #[.val (.int x0), .val (.int x1), .val (.int x2), .val (.int x3)] [] := by first | (simp [entryFrame, mkF, argsToLocals, Value.category]; done) | rfl
set_option maxRecDepth 65536 in
set_option maxHeartbeats 40000000 in
theorem rm1 (l : Launch) (Z : State) (a0 : Array Value) (hw : ∀ d ∈ tables_1, d.before a0 Z = true) (ws : List Jvm.Cond) (v0 : Int32) (v1 : Int32) (v2 : Int32) (v3 : Int32) (h0 : Heap) (n0 : Nat) (Z0 : n0 ≤ h0.size) :
    MetFree l (⟨"com/example/umpteenth_copy/umpteenthcopy/engine/MatchSameFromPinLaw", "make", "(IIII)[I"⟩ : MethodName) (head1 (Jvm.Cond.code (⟨"com/example/umpteenth_copy/umpteenthcopy/engine/MatchSameFromPinLaw", "make", "(IIII)[I"⟩ : MethodName) method_3_code 4 (some (.array .int)) :: ws) ({ frames := 0, cells := 1, slots := 3, locals := 0 } : Room)) (fun a U => a = #[(.int v0), (.int v1), (.int v2), (.int v3)] ∧ Z.Warmed39 U.vm ∧ U.heap = h0) (fun _ _ _ _ _ => True) (fun _ U o U' => ∃ v L, o = .returned v ∧ Q1 Z v0 v1 v2 v3 h0 n0 v U'.heap L ∧ FrameEnd U o U' L ({ frames := 0, cells := 1, slots := 3, locals := 0 } : Room).cells ({ frames := 0, cells := 1, slots := 3, locals := 0 } : Room).slots) := by
  refine MetFree.of_bodySF (plainFor_of_name pn_1) hisR ?_
  intro p e s m args below meth c s₁ Bd hml0 hP hK
  obtain ⟨rfl, hZ, hh⟩ := hP
  have hx := Bd.exec
  have hby := Bd.bytes
  have hml : c.maxLocals = 4 := hml0
  have hown : s.vm.findClass "com/example/umpteenth_copy/umpteenthcopy/engine/MatchSameFromPinLaw" = some m.cls := findClass_of_methodNamed Bd.named
  have hnm := (name_of_methodNamed Bd.named Bd.method).1
  have X0 : Stand p l e ({ frames := 0, cells := 1, slots := 3, locals := 0 } : Room) s m #[(.int v0), (.int v1), (.int v2), (.int v3)] below meth c s₁ [] 0 0 := Stand.of_body Bd
  have e0 : s₁.heap = h0 := by rw [← hh, Bd.state]; rfl
  have N0 := Fr.nil n0
  refine Ends.st (tb := p.tables) (e := e) (below := below) (S' := s₁.setTop (mkF m 0 #[.val (.int v0), .val (.int v1), .val (.int v2), .val (.int v3)] [])) (fun t k => castTop (ef_rm1 m v0 v1 v2 v3) k) ?_
  refine Ends.st (S' := s₁.setTop (mkF m 1 #[.val (.int v0), .val (.int v1), .val (.int v2), .val (.int v3)] [(.int v0)])) (fun _ k => XS.iloadN X0.here hx rfl (hb hby d1_0) rfl k) ?_
  by_cases hc1 : v0 = (0 : Int32)
  · refine Ends.st (S' := s₁.setTop (mkF m 4 #[.val (.int v0), .val (.int v1), .val (.int v2), .val (.int v3)] [])) (fun _ k => XS.ifNo X0.here hx rfl (hb hby d1_1) rfl ((if0 _ _).trans (teq hc1).2) k) ?_
    refine Ends.st (S' := s₁.setTop (mkF m 5 #[.val (.int v0), .val (.int v1), .val (.int v2), .val (.int v3)] [(.int (0 : Int32))])) (fun _ k => XS.iconst X0.here hx rfl (hb hby d1_4) k) ?_
    obtain ⟨T2, h2, k2, X2, e2, E2, A2, B2, st2⟩ := newPE X0 hx hZ (hw _ (List.mem_of_getElem? (i := 4) rfl)) e0 (g := (mkF m 5 #[.val (.int v0), .val (.int v1), .val (.int v2), .val (.int v3)] [(.int (0 : Int32))])) rfl (hb hby d1_5) rfl (by decide) (cap := 0) (by decide) (by decide) (by decide) (by decide) (ad := "[I") (by decide)
    obtain ⟨b2, g2⟩ : ∃ z, z = h0.size := ⟨_, rfl⟩
    rw [← g2] at A2 B2 st2
    have g_b2 : n0 ≤ b2 := Nat.le_trans Z0 (Nat.le_of_eq g2.symm)
    have sz_b2 : h0.size ≤ b2 := Nat.le_trans (Keep.refl h0 []).1 (Nat.le_of_eq g2.symm)
    have f3 := Nat.le_trans Z0 E2.1
    have f4 := (Keep.refl h0 []).ext E2
    have V2 : Arv Z h2 b2 k2 .int (0 : Int32) [] (.int (0 : Int32)) := Arv.new A2 (by decide)
    refine Ends.st (S' := T2.setTop (mkF m 7 #[.val (.int v0), .val (.int v1), .val (.int v2), .val (.int v3)] [(.ref b2)])) (fun _ k => st2 _ k) ?_
    have em : mlen v0 = (0 : Int32) := by simp [mlen, hc1]
    obtain ⟨fs, hr, hrun, hended, hW, hsame⟩ := X2.leave (v := some (.ref b2)) (fun h => by rw [Bd.returns] at h; cases h)
    exact ⟨_, _, retRef X2 hx Bd.returns rfl rfl (hb hby d1_7) hr, hrun, hended, _, _, rfl, (by show Q1 Z v0 v1 v2 v3 h0 n0 _ T2.heap _; rw [e2]; exact ⟨b2, rfl, N0, f4, (by rw [em]; exact own_intA V2 (own_vs0 v1 v2 v3))⟩), ⟨_, rfl⟩, hW, hsame.mono (by decide) (by decide)⟩
  · refine Ends.st (S' := s₁.setTop (mkF m 8 #[.val (.int v0), .val (.int v1), .val (.int v2), .val (.int v3)] [])) (fun _ k => XS.ifYes X0.here hx rfl (pc0 := 1) (pc' := 8) rfl (hb hby d1_1) rfl ((if0 _ _).trans (feq hc1).2) (by decide) (by decide) k) ?_
    refine Ends.st (S' := s₁.setTop (mkF m 9 #[.val (.int v0), .val (.int v1), .val (.int v2), .val (.int v3)] [(.int v0)])) (fun _ k => XS.iloadN X0.here hx rfl (hb hby d1_8) rfl k) ?_
    refine Ends.st (S' := s₁.setTop (mkF m 10 #[.val (.int v0), .val (.int v1), .val (.int v2), .val (.int v3)] [(.int (1 : Int32)), (.int v0)])) (fun _ k => XS.iconst X0.here hx rfl (hb hby d1_9) k) ?_
    by_cases hc5 : v0 = (1 : Int32)
    · refine Ends.st (S' := s₁.setTop (mkF m 13 #[.val (.int v0), .val (.int v1), .val (.int v2), .val (.int v3)] [])) (fun _ k => XS.icmpNo X0.here hx rfl (hb hby d1_10) rfl (teq hc5).2 k) ?_
      refine Ends.st (S' := s₁.setTop (mkF m 14 #[.val (.int v0), .val (.int v1), .val (.int v2), .val (.int v3)] [(.int (1 : Int32))])) (fun _ k => XS.iconst X0.here hx rfl (hb hby d1_13) k) ?_
      obtain ⟨T6, h6, k6, X6, e6, E6, A6, B6, st6⟩ := newPE X0 hx hZ (hw _ (List.mem_of_getElem? (i := 4) rfl)) e0 (g := (mkF m 14 #[.val (.int v0), .val (.int v1), .val (.int v2), .val (.int v3)] [(.int (1 : Int32))])) rfl (hb hby d1_14) rfl (by decide) (cap := 1) (by decide) (by decide) (by decide) (by decide) (ad := "[I") (by decide)
      obtain ⟨b6, g6⟩ : ∃ z, z = h0.size := ⟨_, rfl⟩
      rw [← g6] at A6 B6 st6
      have g_b6 : n0 ≤ b6 := Nat.le_trans Z0 (Nat.le_of_eq g6.symm)
      have sz_b6 : h0.size ≤ b6 := Nat.le_trans (Keep.refl h0 []).1 (Nat.le_of_eq g6.symm)
      have f7 := Nat.le_trans Z0 E6.1
      have f8 := (Keep.refl h0 []).ext E6
      have V6 : Arv Z h6 b6 k6 .int (1 : Int32) [] (.int (0 : Int32)) := Arv.new A6 (by decide)
      refine Ends.st (S' := T6.setTop (mkF m 16 #[.val (.int v0), .val (.int v1), .val (.int v2), .val (.int v3)] [(.ref b6)])) (fun _ k => st6 _ k) ?_
      refine Ends.st (S' := T6.setTop (mkF m 17 #[.val (.int v0), .val (.int v1), .val (.int v2), .val (.int v3)] [(.ref b6), (.ref b6)])) (fun _ k => XS.dup X6.here hx rfl (hb hby d1_16) rfl rfl k) ?_
      refine Ends.st (S' := T6.setTop (mkF m 18 #[.val (.int v0), .val (.int v1), .val (.int v2), .val (.int v3)] [(.int (0 : Int32)), (.ref b6), (.ref b6)])) (fun _ k => XS.iconst X6.here hx rfl (hb hby d1_17) k) ?_
      refine Ends.st (S' := T6.setTop (mkF m 19 #[.val (.int v0), .val (.int v1), .val (.int v2), .val (.int v3)] [(.int v1), (.int (0 : Int32)), (.ref b6), (.ref b6)])) (fun _ k => XS.iloadN X6.here hx rfl (hb hby d1_18) rfl k) ?_
      have Vp9 : Arv Z h6 b6 k6 .int (1 : Int32) [(.int (0 : Int32))] (.int (0 : Int32)) := (V6).pad (pad_rep [] (.int (0 : Int32)) 1)
      obtain ⟨cl9, Ar9, q9, S9, M9, H9, G9⟩ := Vp9
      have hin9 : ¬ ((0 : Int32) < 0 ∨ cl9.slots.size ≤ ((0 : Int32)).toNatClampNeg) := inb_of S9 ⟨by decide, by decide⟩
      obtain ⟨T9, h9, X9, e9, W9, st9⟩ := stI X6 hx hZ e6 Ar9 (j := (0 : Int32)) hin9 (g := (mkF m 19 #[.val (.int v0), .val (.int v1), .val (.int v2), .val (.int v3)] [(.int v1), (.int (0 : Int32)), (.ref b6), (.ref b6)])) rfl rfl (hb hby d1_19)
      have f10 := Nat.le_trans f7 (Keep.of_wr W9).1
      have f11 := f8.wr W9 (Or.inr sz_b6)
      have f12 := B6.wr W9
      have V9 : Arv Z h9 b6 k6 .int (1 : Int32) [(.int v1)] (.int (0 : Int32)) := Arv.set Ar9 q9 S9 M9 H9 G9 rfl W9 0 rfl (Nat.le_of_ble_eq_true rfl)
      have N9 := Fr.snoc X9 N0 g_b6
      refine Ends.st (S' := T9.setTop (mkF m 20 #[.val (.int v0), .val (.int v1), .val (.int v2), .val (.int v3)] [(.ref b6)])) (fun _ k => st9 _ k) ?_
      have em : mlen v0 = (1 : Int32) := by simp [mlen, hc1, hc5]
      obtain ⟨fs, hr, hrun, hended, hW, hsame⟩ := X9.leave (v := some (.ref b6)) (fun h => by rw [Bd.returns] at h; cases h)
      exact ⟨_, _, retRef X9 hx Bd.returns rfl rfl (hb hby d1_20) hr, hrun, hended, _, _, rfl, (by show Q1 Z v0 v1 v2 v3 h0 n0 _ T9.heap _; rw [e9]; exact ⟨b6, rfl, N9, f11, (by rw [em]; exact own_intA V9 (own_vs1 v1 v2 v3))⟩), ⟨_, rfl⟩, hW, hsame.mono (by decide) (by decide)⟩
    · refine Ends.st (S' := s₁.setTop (mkF m 21 #[.val (.int v0), .val (.int v1), .val (.int v2), .val (.int v3)] [])) (fun _ k => XS.icmpYes X0.here hx rfl (pc0 := 10) (pc' := 21) rfl (hb hby d1_10) rfl (feq hc5).2 (by decide) (by decide) k) ?_
      refine Ends.st (S' := s₁.setTop (mkF m 22 #[.val (.int v0), .val (.int v1), .val (.int v2), .val (.int v3)] [(.int v0)])) (fun _ k => XS.iloadN X0.here hx rfl (hb hby d1_21) rfl k) ?_
      refine Ends.st (S' := s₁.setTop (mkF m 23 #[.val (.int v0), .val (.int v1), .val (.int v2), .val (.int v3)] [(.int (2 : Int32)), (.int v0)])) (fun _ k => XS.iconst X0.here hx rfl (hb hby d1_22) k) ?_
      by_cases hc13 : v0 = (2 : Int32)
      · refine Ends.st (S' := s₁.setTop (mkF m 26 #[.val (.int v0), .val (.int v1), .val (.int v2), .val (.int v3)] [])) (fun _ k => XS.icmpNo X0.here hx rfl (hb hby d1_23) rfl (teq hc13).2 k) ?_
        refine Ends.st (S' := s₁.setTop (mkF m 27 #[.val (.int v0), .val (.int v1), .val (.int v2), .val (.int v3)] [(.int (2 : Int32))])) (fun _ k => XS.iconst X0.here hx rfl (hb hby d1_26) k) ?_
        obtain ⟨T14, h14, k14, X14, e14, E14, A14, B14, st14⟩ := newPE X0 hx hZ (hw _ (List.mem_of_getElem? (i := 4) rfl)) e0 (g := (mkF m 27 #[.val (.int v0), .val (.int v1), .val (.int v2), .val (.int v3)] [(.int (2 : Int32))])) rfl (hb hby d1_27) rfl (by decide) (cap := 2) (by decide) (by decide) (by decide) (by decide) (ad := "[I") (by decide)
        obtain ⟨b14, g14⟩ : ∃ z, z = h0.size := ⟨_, rfl⟩
        rw [← g14] at A14 B14 st14
        have g_b14 : n0 ≤ b14 := Nat.le_trans Z0 (Nat.le_of_eq g14.symm)
        have sz_b14 : h0.size ≤ b14 := Nat.le_trans (Keep.refl h0 []).1 (Nat.le_of_eq g14.symm)
        have f15 := Nat.le_trans Z0 E14.1
        have f16 := (Keep.refl h0 []).ext E14
        have V14 : Arv Z h14 b14 k14 .int (2 : Int32) [] (.int (0 : Int32)) := Arv.new A14 (by decide)
        refine Ends.st (S' := T14.setTop (mkF m 29 #[.val (.int v0), .val (.int v1), .val (.int v2), .val (.int v3)] [(.ref b14)])) (fun _ k => st14 _ k) ?_
        refine Ends.st (S' := T14.setTop (mkF m 30 #[.val (.int v0), .val (.int v1), .val (.int v2), .val (.int v3)] [(.ref b14), (.ref b14)])) (fun _ k => XS.dup X14.here hx rfl (hb hby d1_29) rfl rfl k) ?_
        refine Ends.st (S' := T14.setTop (mkF m 31 #[.val (.int v0), .val (.int v1), .val (.int v2), .val (.int v3)] [(.int (0 : Int32)), (.ref b14), (.ref b14)])) (fun _ k => XS.iconst X14.here hx rfl (hb hby d1_30) k) ?_
        refine Ends.st (S' := T14.setTop (mkF m 32 #[.val (.int v0), .val (.int v1), .val (.int v2), .val (.int v3)] [(.int v1), (.int (0 : Int32)), (.ref b14), (.ref b14)])) (fun _ k => XS.iloadN X14.here hx rfl (hb hby d1_31) rfl k) ?_
        have Vp17 : Arv Z h14 b14 k14 .int (2 : Int32) [(.int (0 : Int32)), (.int (0 : Int32))] (.int (0 : Int32)) := (V14).pad (pad_rep [] (.int (0 : Int32)) 2)
        obtain ⟨cl17, Ar17, q17, S17, M17, H17, G17⟩ := Vp17
        have hin17 : ¬ ((0 : Int32) < 0 ∨ cl17.slots.size ≤ ((0 : Int32)).toNatClampNeg) := inb_of S17 ⟨by decide, by decide⟩
        obtain ⟨T17, h17, X17, e17, W17, st17⟩ := stI X14 hx hZ e14 Ar17 (j := (0 : Int32)) hin17 (g := (mkF m 32 #[.val (.int v0), .val (.int v1), .val (.int v2), .val (.int v3)] [(.int v1), (.int (0 : Int32)), (.ref b14), (.ref b14)])) rfl rfl (hb hby d1_32)
        have f18 := Nat.le_trans f15 (Keep.of_wr W17).1
        have f19 := f16.wr W17 (Or.inr sz_b14)
        have f20 := B14.wr W17
        have V17 : Arv Z h17 b14 k14 .int (2 : Int32) [(.int v1), (.int (0 : Int32))] (.int (0 : Int32)) := Arv.set Ar17 q17 S17 M17 H17 G17 rfl W17 0 rfl (Nat.le_of_ble_eq_true rfl)
        have N17 := Fr.snoc X17 N0 g_b14
        refine Ends.st (S' := T17.setTop (mkF m 33 #[.val (.int v0), .val (.int v1), .val (.int v2), .val (.int v3)] [(.ref b14)])) (fun _ k => st17 _ k) ?_
        refine Ends.st (S' := T17.setTop (mkF m 34 #[.val (.int v0), .val (.int v1), .val (.int v2), .val (.int v3)] [(.ref b14), (.ref b14)])) (fun _ k => XS.dup X17.here hx rfl (hb hby d1_33) rfl rfl k) ?_
        refine Ends.st (S' := T17.setTop (mkF m 35 #[.val (.int v0), .val (.int v1), .val (.int v2), .val (.int v3)] [(.int (1 : Int32)), (.ref b14), (.ref b14)])) (fun _ k => XS.iconst X17.here hx rfl (hb hby d1_34) k) ?_
        refine Ends.st (S' := T17.setTop (mkF m 36 #[.val (.int v0), .val (.int v1), .val (.int v2), .val (.int v3)] [(.int v2), (.int (1 : Int32)), (.ref b14), (.ref b14)])) (fun _ k => XS.iloadN X17.here hx rfl (hb hby d1_35) rfl k) ?_
        obtain ⟨cl21, Ar21, q21, S21, M21, H21, G21⟩ := V17
        have hin21 : ¬ ((1 : Int32) < 0 ∨ cl21.slots.size ≤ ((1 : Int32)).toNatClampNeg) := inb_of S21 ⟨by decide, by decide⟩
        obtain ⟨T21, h21, X21, e21, W21, st21⟩ := stI X17 hx hZ e17 Ar21 (j := (1 : Int32)) hin21 (g := (mkF m 36 #[.val (.int v0), .val (.int v1), .val (.int v2), .val (.int v3)] [(.int v2), (.int (1 : Int32)), (.ref b14), (.ref b14)])) rfl rfl (hb hby d1_36)
        have f22 := Nat.le_trans f18 (Keep.of_wr W21).1
        have f23 := f19.wr W21 (Or.inr sz_b14)
        have f24 := f20.wr W21
        have V21 : Arv Z h21 b14 k14 .int (2 : Int32) [(.int v1), (.int v2)] (.int (0 : Int32)) := Arv.set Ar21 q21 S21 M21 H21 G21 rfl W21 1 rfl (Nat.le_of_ble_eq_true rfl)
        have N21 := Fr.snoc X21 N17 g_b14
        refine Ends.st (S' := T21.setTop (mkF m 37 #[.val (.int v0), .val (.int v1), .val (.int v2), .val (.int v3)] [(.ref b14)])) (fun _ k => st21 _ k) ?_
        have em : mlen v0 = (2 : Int32) := by simp [mlen, hc1, hc5, hc13]
        obtain ⟨fs, hr, hrun, hended, hW, hsame⟩ := X21.leave (v := some (.ref b14)) (fun h => by rw [Bd.returns] at h; cases h)
        exact ⟨_, _, retRef X21 hx Bd.returns rfl rfl (hb hby d1_37) hr, hrun, hended, _, _, rfl, (by show Q1 Z v0 v1 v2 v3 h0 n0 _ T21.heap _; rw [e21]; exact ⟨b14, rfl, N21, f23, (by rw [em]; exact own_intA V21 (own_vs2 v1 v2 v3))⟩), ⟨_, rfl⟩, hW, hsame.mono (by decide) (by decide)⟩
      · refine Ends.st (S' := s₁.setTop (mkF m 38 #[.val (.int v0), .val (.int v1), .val (.int v2), .val (.int v3)] [])) (fun _ k => XS.icmpYes X0.here hx rfl (pc0 := 23) (pc' := 38) rfl (hb hby d1_23) rfl (feq hc13).2 (by decide) (by decide) k) ?_
        refine Ends.st (S' := s₁.setTop (mkF m 39 #[.val (.int v0), .val (.int v1), .val (.int v2), .val (.int v3)] [(.int (3 : Int32))])) (fun _ k => XS.iconst X0.here hx rfl (hb hby d1_38) k) ?_
        obtain ⟨T25, h25, k25, X25, e25, E25, A25, B25, st25⟩ := newPE X0 hx hZ (hw _ (List.mem_of_getElem? (i := 4) rfl)) e0 (g := (mkF m 39 #[.val (.int v0), .val (.int v1), .val (.int v2), .val (.int v3)] [(.int (3 : Int32))])) rfl (hb hby d1_39) rfl (by decide) (cap := 3) (by decide) (by decide) (by decide) (by decide) (ad := "[I") (by decide)
        obtain ⟨b25, g25⟩ : ∃ z, z = h0.size := ⟨_, rfl⟩
        rw [← g25] at A25 B25 st25
        have g_b25 : n0 ≤ b25 := Nat.le_trans Z0 (Nat.le_of_eq g25.symm)
        have sz_b25 : h0.size ≤ b25 := Nat.le_trans (Keep.refl h0 []).1 (Nat.le_of_eq g25.symm)
        have f26 := Nat.le_trans Z0 E25.1
        have f27 := (Keep.refl h0 []).ext E25
        have V25 : Arv Z h25 b25 k25 .int (3 : Int32) [] (.int (0 : Int32)) := Arv.new A25 (by decide)
        refine Ends.st (S' := T25.setTop (mkF m 41 #[.val (.int v0), .val (.int v1), .val (.int v2), .val (.int v3)] [(.ref b25)])) (fun _ k => st25 _ k) ?_
        refine Ends.st (S' := T25.setTop (mkF m 42 #[.val (.int v0), .val (.int v1), .val (.int v2), .val (.int v3)] [(.ref b25), (.ref b25)])) (fun _ k => XS.dup X25.here hx rfl (hb hby d1_41) rfl rfl k) ?_
        refine Ends.st (S' := T25.setTop (mkF m 43 #[.val (.int v0), .val (.int v1), .val (.int v2), .val (.int v3)] [(.int (0 : Int32)), (.ref b25), (.ref b25)])) (fun _ k => XS.iconst X25.here hx rfl (hb hby d1_42) k) ?_
        refine Ends.st (S' := T25.setTop (mkF m 44 #[.val (.int v0), .val (.int v1), .val (.int v2), .val (.int v3)] [(.int v1), (.int (0 : Int32)), (.ref b25), (.ref b25)])) (fun _ k => XS.iloadN X25.here hx rfl (hb hby d1_43) rfl k) ?_
        have Vp28 : Arv Z h25 b25 k25 .int (3 : Int32) [(.int (0 : Int32)), (.int (0 : Int32)), (.int (0 : Int32))] (.int (0 : Int32)) := (V25).pad (pad_rep [] (.int (0 : Int32)) 3)
        obtain ⟨cl28, Ar28, q28, S28, M28, H28, G28⟩ := Vp28
        have hin28 : ¬ ((0 : Int32) < 0 ∨ cl28.slots.size ≤ ((0 : Int32)).toNatClampNeg) := inb_of S28 ⟨by decide, by decide⟩
        obtain ⟨T28, h28, X28, e28, W28, st28⟩ := stI X25 hx hZ e25 Ar28 (j := (0 : Int32)) hin28 (g := (mkF m 44 #[.val (.int v0), .val (.int v1), .val (.int v2), .val (.int v3)] [(.int v1), (.int (0 : Int32)), (.ref b25), (.ref b25)])) rfl rfl (hb hby d1_44)
        have f29 := Nat.le_trans f26 (Keep.of_wr W28).1
        have f30 := f27.wr W28 (Or.inr sz_b25)
        have f31 := B25.wr W28
        have V28 : Arv Z h28 b25 k25 .int (3 : Int32) [(.int v1), (.int (0 : Int32)), (.int (0 : Int32))] (.int (0 : Int32)) := Arv.set Ar28 q28 S28 M28 H28 G28 rfl W28 0 rfl (Nat.le_of_ble_eq_true rfl)
        have N28 := Fr.snoc X28 N0 g_b25
        refine Ends.st (S' := T28.setTop (mkF m 45 #[.val (.int v0), .val (.int v1), .val (.int v2), .val (.int v3)] [(.ref b25)])) (fun _ k => st28 _ k) ?_
        refine Ends.st (S' := T28.setTop (mkF m 46 #[.val (.int v0), .val (.int v1), .val (.int v2), .val (.int v3)] [(.ref b25), (.ref b25)])) (fun _ k => XS.dup X28.here hx rfl (hb hby d1_45) rfl rfl k) ?_
        refine Ends.st (S' := T28.setTop (mkF m 47 #[.val (.int v0), .val (.int v1), .val (.int v2), .val (.int v3)] [(.int (1 : Int32)), (.ref b25), (.ref b25)])) (fun _ k => XS.iconst X28.here hx rfl (hb hby d1_46) k) ?_
        refine Ends.st (S' := T28.setTop (mkF m 48 #[.val (.int v0), .val (.int v1), .val (.int v2), .val (.int v3)] [(.int v2), (.int (1 : Int32)), (.ref b25), (.ref b25)])) (fun _ k => XS.iloadN X28.here hx rfl (hb hby d1_47) rfl k) ?_
        obtain ⟨cl32, Ar32, q32, S32, M32, H32, G32⟩ := V28
        have hin32 : ¬ ((1 : Int32) < 0 ∨ cl32.slots.size ≤ ((1 : Int32)).toNatClampNeg) := inb_of S32 ⟨by decide, by decide⟩
        obtain ⟨T32, h32, X32, e32, W32, st32⟩ := stI X28 hx hZ e28 Ar32 (j := (1 : Int32)) hin32 (g := (mkF m 48 #[.val (.int v0), .val (.int v1), .val (.int v2), .val (.int v3)] [(.int v2), (.int (1 : Int32)), (.ref b25), (.ref b25)])) rfl rfl (hb hby d1_48)
        have f33 := Nat.le_trans f29 (Keep.of_wr W32).1
        have f34 := f30.wr W32 (Or.inr sz_b25)
        have f35 := f31.wr W32
        have V32 : Arv Z h32 b25 k25 .int (3 : Int32) [(.int v1), (.int v2), (.int (0 : Int32))] (.int (0 : Int32)) := Arv.set Ar32 q32 S32 M32 H32 G32 rfl W32 1 rfl (Nat.le_of_ble_eq_true rfl)
        have N32 := Fr.snoc X32 N28 g_b25
        refine Ends.st (S' := T32.setTop (mkF m 49 #[.val (.int v0), .val (.int v1), .val (.int v2), .val (.int v3)] [(.ref b25)])) (fun _ k => st32 _ k) ?_
        refine Ends.st (S' := T32.setTop (mkF m 50 #[.val (.int v0), .val (.int v1), .val (.int v2), .val (.int v3)] [(.ref b25), (.ref b25)])) (fun _ k => XS.dup X32.here hx rfl (hb hby d1_49) rfl rfl k) ?_
        refine Ends.st (S' := T32.setTop (mkF m 51 #[.val (.int v0), .val (.int v1), .val (.int v2), .val (.int v3)] [(.int (2 : Int32)), (.ref b25), (.ref b25)])) (fun _ k => XS.iconst X32.here hx rfl (hb hby d1_50) k) ?_
        refine Ends.st (S' := T32.setTop (mkF m 52 #[.val (.int v0), .val (.int v1), .val (.int v2), .val (.int v3)] [(.int v3), (.int (2 : Int32)), (.ref b25), (.ref b25)])) (fun _ k => XS.iloadN X32.here hx rfl (hb hby d1_51) rfl k) ?_
        obtain ⟨cl36, Ar36, q36, S36, M36, H36, G36⟩ := V32
        have hin36 : ¬ ((2 : Int32) < 0 ∨ cl36.slots.size ≤ ((2 : Int32)).toNatClampNeg) := inb_of S36 ⟨by decide, by decide⟩
        obtain ⟨T36, h36, X36, e36, W36, st36⟩ := stI X32 hx hZ e32 Ar36 (j := (2 : Int32)) hin36 (g := (mkF m 52 #[.val (.int v0), .val (.int v1), .val (.int v2), .val (.int v3)] [(.int v3), (.int (2 : Int32)), (.ref b25), (.ref b25)])) rfl rfl (hb hby d1_52)
        have f37 := Nat.le_trans f33 (Keep.of_wr W36).1
        have f38 := f34.wr W36 (Or.inr sz_b25)
        have f39 := f35.wr W36
        have V36 : Arv Z h36 b25 k25 .int (3 : Int32) [(.int v1), (.int v2), (.int v3)] (.int (0 : Int32)) := Arv.set Ar36 q36 S36 M36 H36 G36 rfl W36 2 rfl (Nat.le_of_ble_eq_true rfl)
        have N36 := Fr.snoc X36 N32 g_b25
        refine Ends.st (S' := T36.setTop (mkF m 53 #[.val (.int v0), .val (.int v1), .val (.int v2), .val (.int v3)] [(.ref b25)])) (fun _ k => st36 _ k) ?_
        have em : mlen v0 = (3 : Int32) := by simp [mlen, hc1, hc5, hc13]
        obtain ⟨fs, hr, hrun, hended, hW, hsame⟩ := X36.leave (v := some (.ref b25)) (fun h => by rw [Bd.returns] at h; cases h)
        exact ⟨_, _, retRef X36 hx Bd.returns rfl rfl (hb hby d1_53) hr, hrun, hended, _, _, rfl, (by show Q1 Z v0 v1 v2 v3 h0 n0 _ T36.heap _; rw [e36]; exact ⟨b25, rfl, N36, f38, (by rw [em]; exact own_intA V36 (own_vs3 v1 v2 v3))⟩), ⟨_, rfl⟩, hW, hsame.mono (by decide) (by decide)⟩
theorem ef_rm2 (m : MethodId) (x0 : Addr) (x1 : Int32) (x2 : Addr) (x3 : Int32) (x4 : Int32)  : entryFrame m #[(.ref x0), (.int x1), (.ref x2), (.int x3), (.int x4)] 8 = mkF m 0 #[.val (.ref x0), .val (.int x1), .val (.ref x2), .val (.int x3), .val (.int x4), .unset, .unset, .unset] [] := by first | (simp [entryFrame, mkF, argsToLocals, Value.category]; done) | rfl
set_option maxRecDepth 65536 in
set_option maxHeartbeats 40000000 in
theorem rm2 (l : Launch) (Z : State) (a0 : Array Value) (hw : ∀ d ∈ tables_1, d.before a0 Z = true) (ws : List Jvm.Cond) (n1 : Int32) (n2 : Int32) (f1 : Int32 → Int32) (f2 : Int32 → Int32) (d : Int32) (v1 : Int32) (v2 : Int32) (a1 : Addr) (a2 : Addr) (h0 : Heap) (n0 : Nat) (Z0 : n0 ≤ h0.size) (I1 : IntA Z h0 a1 n1 f1) (I2 : IntA Z h0 a2 n2 f2) (hd : d = 1 ∨ d = -1) (hn : n1.toInt ≤ 3) :
    MetFree l (⟨"com/example/umpteenth_copy/umpteenthcopy/engine/Match", "sameFrom", "([II[III)I"⟩ : MethodName) (head1 (Jvm.Cond.code (⟨"com/example/umpteenth_copy/umpteenthcopy/engine/Match", "sameFrom", "([II[III)I"⟩ : MethodName) prog_14_method_18_code 8 (some .int) :: ws) ({ frames := 0, cells := 0, slots := 0, locals := 0 } : Room)) (fun a U => a = #[(.ref a1), (.int v1), (.ref a2), (.int v2), (.int d)] ∧ Z.Warmed39 U.vm ∧ U.heap = h0) (fun _ _ _ _ _ => True) (fun _ U o U' => ∃ v L, o = .returned v ∧ Q2 Z n1 n2 f1 f2 d v1 v2 h0 n0 v U'.heap L ∧ FrameEnd U o U' L ({ frames := 0, cells := 0, slots := 0, locals := 0 } : Room).cells ({ frames := 0, cells := 0, slots := 0, locals := 0 } : Room).slots) := by
  refine MetFree.of_bodySF (plainFor_of_name pn_2) hisR ?_
  intro p e s m args below meth c s₁ Bd hml0 hP hK
  obtain ⟨rfl, hZ, hh⟩ := hP
  have hx := Bd.exec
  have hby := Bd.bytes
  have hml : c.maxLocals = 8 := hml0
  have hown : s.vm.findClass "com/example/umpteenth_copy/umpteenthcopy/engine/Match" = some m.cls := findClass_of_methodNamed Bd.named
  have hnm := (name_of_methodNamed Bd.named Bd.method).1
  have X0 : Stand p l e ({ frames := 0, cells := 0, slots := 0, locals := 0 } : Room) s m #[(.ref a1), (.int v1), (.ref a2), (.int v2), (.int d)] below meth c s₁ [] 0 0 := Stand.of_body Bd
  have e0 : s₁.heap = h0 := by rw [← hh, Bd.state]; rfl
  have N0 := Fr.nil n0
  refine Ends.st (tb := p.tables) (e := e) (below := below) (S' := s₁.setTop (mkF m 0 #[.val (.ref a1), .val (.int v1), .val (.ref a2), .val (.int v2), .val (.int d), .unset, .unset, .unset] [])) (fun t k => castTop (ef_rm2 m a1 v1 a2 v2 d) k) ?_
  obtain ⟨cl1, Ar1, S1, M1, H1⟩ := I1
  obtain ⟨cl2, Ar2, S2, M2, H2⟩ := I2
  have loop : ∀ (k : Nat) (i j r : Int32), Fuel n1 d k i → sf n1 n2 f1 f2 d k i j r = sf n1 n2 f1 f2 d 4 (st0 d v1) (st0 d v2) 0 → Ends p.tables e below (s₁.setTop (mkF m 31 #[.val (.ref a1), .val (.int v1), .val (.ref a2), .val (.int v2), .val (.int d), .val (.int i), .val (.int j), .val (.int r)] [])) (fun (s₂ : State) (o : Outcome) => s₂.status = .running ∧ Ended s₂ below o ∧ ∃ v L, o = .returned v ∧ Q2 Z n1 n2 f1 f2 d v1 v2 h0 n0 v s₂.heap L ∧ FrameEnd s o s₂ L ({ frames := 0, cells := 0, slots := 0, locals := 0 } : Room).cells ({ frames := 0, cells := 0, slots := 0, locals := 0 } : Room).slots) := by
    intro k
    induction k with
    | zero =>
      intro i j r hC hinv
      refine Ends.st (S' := s₁.setTop (mkF m 33 #[.val (.ref a1), .val (.int v1), .val (.ref a2), .val (.int v2), .val (.int d), .val (.int i), .val (.int j), .val (.int r)] [(.int i)])) (fun _ k => XS.iload X0.here hx rfl (hb hby d2_31) rfl k) ?_
      by_cases hc1 : i < (0 : Int32)
      · refine Ends.st (S' := s₁.setTop (mkF m 86 #[.val (.ref a1), .val (.int v1), .val (.ref a2), .val (.int v2), .val (.int d), .val (.int i), .val (.int j), .val (.int r)] [])) (fun _ k => XS.ifYes X0.here hx rfl (pc0 := 33) (pc' := 86) rfl (hb hby d2_33) rfl ((if0 _ _).trans (tlt hc1).1) (by decide) (by decide) k) ?_
        refine Ends.st (S' := s₁.setTop (mkF m 88 #[.val (.ref a1), .val (.int v1), .val (.ref a2), .val (.int v2), .val (.int d), .val (.int i), .val (.int j), .val (.int r)] [(.int r)])) (fun _ k => XS.iload X0.here hx rfl (hb hby d2_86) rfl k) ?_
        obtain ⟨fs, hr, hrun, hended, hW, hsame⟩ := X0.leave (v := some (.int r)) (fun h => by rw [Bd.returns] at h; cases h)
        exact ⟨_, _, retI X0 hx Bd.returns (hb hby d2_88) hr, hrun, hended, _, _, rfl, (by show Q2 Z n1 n2 f1 f2 d v1 v2 h0 n0 _ s₁.heap _; rw [e0]; exact ⟨(by rw [← hinv]; simp only [sf, hc1, if_true, if_false]), N0, rfl⟩), ⟨_, rfl⟩, hW, hsame.mono (by decide) (by decide)⟩
      · refine Ends.st (S' := s₁.setTop (mkF m 36 #[.val (.ref a1), .val (.int v1), .val (.ref a2), .val (.int v2), .val (.int d), .val (.int i), .val (.int j), .val (.int r)] [])) (fun _ k => XS.ifNo X0.here hx rfl (hb hby d2_33) rfl ((if0 _ _).trans (flt hc1).1) k) ?_
        refine Ends.st (S' := s₁.setTop (mkF m 38 #[.val (.ref a1), .val (.int v1), .val (.ref a2), .val (.int v2), .val (.int d), .val (.int i), .val (.int j), .val (.int r)] [(.int i)])) (fun _ k => XS.iload X0.here hx rfl (hb hby d2_36) rfl k) ?_
        refine Ends.st (S' := s₁.setTop (mkF m 39 #[.val (.ref a1), .val (.int v1), .val (.ref a2), .val (.int v2), .val (.int d), .val (.int i), .val (.int j), .val (.int r)] [(.ref a1), (.int i)])) (fun _ k => XS.aloadN X0.here hx rfl (hb hby d2_38) rfl rfl k) ?_
        refine Ends.st (S' := s₁.setTop (mkF m 40 #[.val (.ref a1), .val (.int v1), .val (.ref a2), .val (.int v2), .val (.int d), .val (.int i), .val (.int j), .val (.int r)] [(.int n1), (.int i)])) (fun _ k => X0.arraylength hx (by rw [e0]; exact Ar1.1) (State.isArrayOf_alike hZ.alike Ar1.2.1) (g := (mkF m 39 #[.val (.ref a1), .val (.int v1), .val (.ref a2), .val (.int v2), .val (.int d), .val (.int i), .val (.int j), .val (.int r)] [(.ref a1), (.int i)])) rfl rfl (hb hby d2_39) _ (by rw [len_of S1 M1]; exact k)) ?_
        have hb2 : ¬ (i < n1) := own_fuel0 hC hc1
        refine Ends.st (S' := s₁.setTop (mkF m 86 #[.val (.ref a1), .val (.int v1), .val (.ref a2), .val (.int v2), .val (.int d), .val (.int i), .val (.int j), .val (.int r)] [])) (fun _ k => XS.icmpYes X0.here hx rfl (pc0 := 40) (pc' := 86) rfl (hb hby d2_40) rfl (flt hb2).2.1 (by decide) (by decide) k) ?_
        refine Ends.st (S' := s₁.setTop (mkF m 88 #[.val (.ref a1), .val (.int v1), .val (.ref a2), .val (.int v2), .val (.int d), .val (.int i), .val (.int j), .val (.int r)] [(.int r)])) (fun _ k => XS.iload X0.here hx rfl (hb hby d2_86) rfl k) ?_
        obtain ⟨fs, hr, hrun, hended, hW, hsame⟩ := X0.leave (v := some (.int r)) (fun h => by rw [Bd.returns] at h; cases h)
        exact ⟨_, _, retI X0 hx Bd.returns (hb hby d2_88) hr, hrun, hended, _, _, rfl, (by show Q2 Z n1 n2 f1 f2 d v1 v2 h0 n0 _ s₁.heap _; rw [e0]; exact ⟨(by rw [← hinv]; simp only [sf, hc1, hb2, if_true, if_false]), N0, rfl⟩), ⟨_, rfl⟩, hW, hsame.mono (by decide) (by decide)⟩
    | succ k ih =>
      intro i j r hC hinv
      refine Ends.st (S' := s₁.setTop (mkF m 33 #[.val (.ref a1), .val (.int v1), .val (.ref a2), .val (.int v2), .val (.int d), .val (.int i), .val (.int j), .val (.int r)] [(.int i)])) (fun _ k => XS.iload X0.here hx rfl (hb hby d2_31) rfl k) ?_
      by_cases hc3 : i < (0 : Int32)
      · refine Ends.st (S' := s₁.setTop (mkF m 86 #[.val (.ref a1), .val (.int v1), .val (.ref a2), .val (.int v2), .val (.int d), .val (.int i), .val (.int j), .val (.int r)] [])) (fun _ k => XS.ifYes X0.here hx rfl (pc0 := 33) (pc' := 86) rfl (hb hby d2_33) rfl ((if0 _ _).trans (tlt hc3).1) (by decide) (by decide) k) ?_
        refine Ends.st (S' := s₁.setTop (mkF m 88 #[.val (.ref a1), .val (.int v1), .val (.ref a2), .val (.int v2), .val (.int d), .val (.int i), .val (.int j), .val (.int r)] [(.int r)])) (fun _ k => XS.iload X0.here hx rfl (hb hby d2_86) rfl k) ?_
        obtain ⟨fs, hr, hrun, hended, hW, hsame⟩ := X0.leave (v := some (.int r)) (fun h => by rw [Bd.returns] at h; cases h)
        exact ⟨_, _, retI X0 hx Bd.returns (hb hby d2_88) hr, hrun, hended, _, _, rfl, (by show Q2 Z n1 n2 f1 f2 d v1 v2 h0 n0 _ s₁.heap _; rw [e0]; exact ⟨(by rw [← hinv]; simp only [sf, hc3, if_true, if_false]), N0, rfl⟩), ⟨_, rfl⟩, hW, hsame.mono (by decide) (by decide)⟩
      · refine Ends.st (S' := s₁.setTop (mkF m 36 #[.val (.ref a1), .val (.int v1), .val (.ref a2), .val (.int v2), .val (.int d), .val (.int i), .val (.int j), .val (.int r)] [])) (fun _ k => XS.ifNo X0.here hx rfl (hb hby d2_33) rfl ((if0 _ _).trans (flt hc3).1) k) ?_
        refine Ends.st (S' := s₁.setTop (mkF m 38 #[.val (.ref a1), .val (.int v1), .val (.ref a2), .val (.int v2), .val (.int d), .val (.int i), .val (.int j), .val (.int r)] [(.int i)])) (fun _ k => XS.iload X0.here hx rfl (hb hby d2_36) rfl k) ?_
        refine Ends.st (S' := s₁.setTop (mkF m 39 #[.val (.ref a1), .val (.int v1), .val (.ref a2), .val (.int v2), .val (.int d), .val (.int i), .val (.int j), .val (.int r)] [(.ref a1), (.int i)])) (fun _ k => XS.aloadN X0.here hx rfl (hb hby d2_38) rfl rfl k) ?_
        refine Ends.st (S' := s₁.setTop (mkF m 40 #[.val (.ref a1), .val (.int v1), .val (.ref a2), .val (.int v2), .val (.int d), .val (.int i), .val (.int j), .val (.int r)] [(.int n1), (.int i)])) (fun _ k => X0.arraylength hx (by rw [e0]; exact Ar1.1) (State.isArrayOf_alike hZ.alike Ar1.2.1) (g := (mkF m 39 #[.val (.ref a1), .val (.int v1), .val (.ref a2), .val (.int v2), .val (.int d), .val (.int i), .val (.int j), .val (.int r)] [(.ref a1), (.int i)])) rfl rfl (hb hby d2_39) _ (by rw [len_of S1 M1]; exact k)) ?_
        by_cases hc4 : i < n1
        · refine Ends.st (S' := s₁.setTop (mkF m 43 #[.val (.ref a1), .val (.int v1), .val (.ref a2), .val (.int v2), .val (.int d), .val (.int i), .val (.int j), .val (.int r)] [])) (fun _ k => XS.icmpNo X0.here hx rfl (hb hby d2_40) rfl (tlt hc4).2.1 k) ?_
          refine Ends.st (S' := s₁.setTop (mkF m 45 #[.val (.ref a1), .val (.int v1), .val (.ref a2), .val (.int v2), .val (.int d), .val (.int i), .val (.int j), .val (.int r)] [(.int j)])) (fun _ k => XS.iload X0.here hx rfl (hb hby d2_43) rfl k) ?_
          by_cases hc5 : j < (0 : Int32)
          · refine Ends.st (S' := s₁.setTop (mkF m 86 #[.val (.ref a1), .val (.int v1), .val (.ref a2), .val (.int v2), .val (.int d), .val (.int i), .val (.int j), .val (.int r)] [])) (fun _ k => XS.ifYes X0.here hx rfl (pc0 := 45) (pc' := 86) rfl (hb hby d2_45) rfl ((if0 _ _).trans (tlt hc5).1) (by decide) (by decide) k) ?_
            refine Ends.st (S' := s₁.setTop (mkF m 88 #[.val (.ref a1), .val (.int v1), .val (.ref a2), .val (.int v2), .val (.int d), .val (.int i), .val (.int j), .val (.int r)] [(.int r)])) (fun _ k => XS.iload X0.here hx rfl (hb hby d2_86) rfl k) ?_
            obtain ⟨fs, hr, hrun, hended, hW, hsame⟩ := X0.leave (v := some (.int r)) (fun h => by rw [Bd.returns] at h; cases h)
            exact ⟨_, _, retI X0 hx Bd.returns (hb hby d2_88) hr, hrun, hended, _, _, rfl, (by show Q2 Z n1 n2 f1 f2 d v1 v2 h0 n0 _ s₁.heap _; rw [e0]; exact ⟨(by rw [← hinv]; simp only [sf, hc3, hc4, hc5, if_true, if_false]), N0, rfl⟩), ⟨_, rfl⟩, hW, hsame.mono (by decide) (by decide)⟩
          · refine Ends.st (S' := s₁.setTop (mkF m 48 #[.val (.ref a1), .val (.int v1), .val (.ref a2), .val (.int v2), .val (.int d), .val (.int i), .val (.int j), .val (.int r)] [])) (fun _ k => XS.ifNo X0.here hx rfl (hb hby d2_45) rfl ((if0 _ _).trans (flt hc5).1) k) ?_
            refine Ends.st (S' := s₁.setTop (mkF m 50 #[.val (.ref a1), .val (.int v1), .val (.ref a2), .val (.int v2), .val (.int d), .val (.int i), .val (.int j), .val (.int r)] [(.int j)])) (fun _ k => XS.iload X0.here hx rfl (hb hby d2_48) rfl k) ?_
            refine Ends.st (S' := s₁.setTop (mkF m 51 #[.val (.ref a1), .val (.int v1), .val (.ref a2), .val (.int v2), .val (.int d), .val (.int i), .val (.int j), .val (.int r)] [(.ref a2), (.int j)])) (fun _ k => XS.aloadN X0.here hx rfl (hb hby d2_50) rfl rfl k) ?_
            refine Ends.st (S' := s₁.setTop (mkF m 52 #[.val (.ref a1), .val (.int v1), .val (.ref a2), .val (.int v2), .val (.int d), .val (.int i), .val (.int j), .val (.int r)] [(.int n2), (.int j)])) (fun _ k => X0.arraylength hx (by rw [e0]; exact Ar2.1) (State.isArrayOf_alike hZ.alike Ar2.2.1) (g := (mkF m 51 #[.val (.ref a1), .val (.int v1), .val (.ref a2), .val (.int v2), .val (.int d), .val (.int i), .val (.int j), .val (.int r)] [(.ref a2), (.int j)])) rfl rfl (hb hby d2_51) _ (by rw [len_of S2 M2]; exact k)) ?_
            by_cases hc6 : j < n2
            · refine Ends.st (S' := s₁.setTop (mkF m 55 #[.val (.ref a1), .val (.int v1), .val (.ref a2), .val (.int v2), .val (.int d), .val (.int i), .val (.int j), .val (.int r)] [])) (fun _ k => XS.icmpNo X0.here hx rfl (hb hby d2_52) rfl (tlt hc6).2.1 k) ?_
              refine Ends.st (S' := s₁.setTop (mkF m 56 #[.val (.ref a1), .val (.int v1), .val (.ref a2), .val (.int v2), .val (.int d), .val (.int i), .val (.int j), .val (.int r)] [(.ref a1)])) (fun _ k => XS.aloadN X0.here hx rfl (hb hby d2_55) rfl rfl k) ?_
              refine Ends.st (S' := s₁.setTop (mkF m 58 #[.val (.ref a1), .val (.int v1), .val (.ref a2), .val (.int v2), .val (.int d), .val (.int i), .val (.int j), .val (.int r)] [(.int i), (.ref a1)])) (fun _ k => XS.iload X0.here hx rfl (hb hby d2_56) rfl k) ?_
              have hi7 := (⟨hc3, hc4⟩ : ¬ i < 0 ∧ i < n1)
              refine Ends.st (S' := s₁.setTop (mkF m 59 #[.val (.ref a1), .val (.int v1), .val (.ref a2), .val (.int v2), .val (.int d), .val (.int i), .val (.int j), .val (.int r)] [(.int (f1 i))])) (fun _ k => X0.iaload hx (j := i) (v := (.int (f1 i))) (by rw [e0]; exact Ar1.1) (State.isArrayOf_alike hZ.alike Ar1.2.1) Ar1.2.2 (inb_of S1 hi7) (H1 _ hi7.1 hi7.2) (g := (mkF m 58 #[.val (.ref a1), .val (.int v1), .val (.ref a2), .val (.int v2), .val (.int d), .val (.int i), .val (.int j), .val (.int r)] [(.int i), (.ref a1)])) rfl rfl (hb hby d2_58) _ k) ?_
              refine Ends.st (S' := s₁.setTop (mkF m 60 #[.val (.ref a1), .val (.int v1), .val (.ref a2), .val (.int v2), .val (.int d), .val (.int i), .val (.int j), .val (.int r)] [(.ref a2), (.int (f1 i))])) (fun _ k => XS.aloadN X0.here hx rfl (hb hby d2_59) rfl rfl k) ?_
              refine Ends.st (S' := s₁.setTop (mkF m 62 #[.val (.ref a1), .val (.int v1), .val (.ref a2), .val (.int v2), .val (.int d), .val (.int i), .val (.int j), .val (.int r)] [(.int j), (.ref a2), (.int (f1 i))])) (fun _ k => XS.iload X0.here hx rfl (hb hby d2_60) rfl k) ?_
              have hi8 := (⟨hc5, hc6⟩ : ¬ j < 0 ∧ j < n2)
              refine Ends.st (S' := s₁.setTop (mkF m 63 #[.val (.ref a1), .val (.int v1), .val (.ref a2), .val (.int v2), .val (.int d), .val (.int i), .val (.int j), .val (.int r)] [(.int (f2 j)), (.int (f1 i))])) (fun _ k => X0.iaload hx (j := j) (v := (.int (f2 j))) (by rw [e0]; exact Ar2.1) (State.isArrayOf_alike hZ.alike Ar2.2.1) Ar2.2.2 (inb_of S2 hi8) (H2 _ hi8.1 hi8.2) (g := (mkF m 62 #[.val (.ref a1), .val (.int v1), .val (.ref a2), .val (.int v2), .val (.int d), .val (.int i), .val (.int j), .val (.int r)] [(.int j), (.ref a2), (.int (f1 i))])) rfl rfl (hb hby d2_62) _ k) ?_
              by_cases hc9 : (f1 i) = (f2 j)
              · refine Ends.st (S' := s₁.setTop (mkF m 66 #[.val (.ref a1), .val (.int v1), .val (.ref a2), .val (.int v2), .val (.int d), .val (.int i), .val (.int j), .val (.int r)] [])) (fun _ k => XS.icmpNo X0.here hx rfl (hb hby d2_63) rfl (teq hc9).2 k) ?_
                refine Ends.st (S' := s₁.setTop (mkF m 69 #[.val (.ref a1), .val (.int v1), .val (.ref a2), .val (.int v2), .val (.int d), .val (.int i), .val (.int j), .val (.int (r + (1 : Int32)))] [])) (fun _ k => XS.iinc X0.here hx rfl (hb hby d2_66) rfl (l' := #[.val (.ref a1), .val (.int v1), .val (.ref a2), .val (.int v2), .val (.int d), .val (.int i), .val (.int j), .val (.int (r + (1 : Int32)))]) rfl k) ?_
                refine Ends.st (S' := s₁.setTop (mkF m 71 #[.val (.ref a1), .val (.int v1), .val (.ref a2), .val (.int v2), .val (.int d), .val (.int i), .val (.int j), .val (.int (r + (1 : Int32)))] [(.int i)])) (fun _ k => XS.iload X0.here hx rfl (hb hby d2_69) rfl k) ?_
                refine Ends.st (S' := s₁.setTop (mkF m 73 #[.val (.ref a1), .val (.int v1), .val (.ref a2), .val (.int v2), .val (.int d), .val (.int i), .val (.int j), .val (.int (r + (1 : Int32)))] [(.int d), (.int i)])) (fun _ k => XS.iload X0.here hx rfl (hb hby d2_71) rfl k) ?_
                refine Ends.st (S' := s₁.setTop (mkF m 74 #[.val (.ref a1), .val (.int v1), .val (.ref a2), .val (.int v2), .val (.int d), .val (.int i), .val (.int j), .val (.int (r + (1 : Int32)))] [(.int (i + d))])) (fun _ k => XS.iadd X0.here hx rfl (hb hby d2_73) rfl k) ?_
                refine Ends.st (S' := s₁.setTop (mkF m 76 #[.val (.ref a1), .val (.int v1), .val (.ref a2), .val (.int v2), .val (.int d), .val (.int (i + d)), .val (.int j), .val (.int (r + (1 : Int32)))] [])) (fun _ k => XS.istore X0.here hx rfl (hb hby d2_74) rfl (l' := #[.val (.ref a1), .val (.int v1), .val (.ref a2), .val (.int v2), .val (.int d), .val (.int (i + d)), .val (.int j), .val (.int (r + (1 : Int32)))]) rfl k) ?_
                refine Ends.st (S' := s₁.setTop (mkF m 78 #[.val (.ref a1), .val (.int v1), .val (.ref a2), .val (.int v2), .val (.int d), .val (.int (i + d)), .val (.int j), .val (.int (r + (1 : Int32)))] [(.int j)])) (fun _ k => XS.iload X0.here hx rfl (hb hby d2_76) rfl k) ?_
                refine Ends.st (S' := s₁.setTop (mkF m 80 #[.val (.ref a1), .val (.int v1), .val (.ref a2), .val (.int v2), .val (.int d), .val (.int (i + d)), .val (.int j), .val (.int (r + (1 : Int32)))] [(.int d), (.int j)])) (fun _ k => XS.iload X0.here hx rfl (hb hby d2_78) rfl k) ?_
                refine Ends.st (S' := s₁.setTop (mkF m 81 #[.val (.ref a1), .val (.int v1), .val (.ref a2), .val (.int v2), .val (.int d), .val (.int (i + d)), .val (.int j), .val (.int (r + (1 : Int32)))] [(.int (j + d))])) (fun _ k => XS.iadd X0.here hx rfl (hb hby d2_80) rfl k) ?_
                refine Ends.st (S' := s₁.setTop (mkF m 83 #[.val (.ref a1), .val (.int v1), .val (.ref a2), .val (.int v2), .val (.int d), .val (.int (i + d)), .val (.int (j + d)), .val (.int (r + (1 : Int32)))] [])) (fun _ k => XS.istore X0.here hx rfl (hb hby d2_81) rfl (l' := #[.val (.ref a1), .val (.int v1), .val (.ref a2), .val (.int v2), .val (.int d), .val (.int (i + d)), .val (.int (j + d)), .val (.int (r + (1 : Int32)))]) rfl k) ?_
                refine Ends.st (S' := s₁.setTop (mkF m 31 #[.val (.ref a1), .val (.int v1), .val (.ref a2), .val (.int v2), .val (.int d), .val (.int (i + d)), .val (.int (j + d)), .val (.int (r + (1 : Int32)))] [])) (fun _ k => XS.goto X0.here hx rfl (pc0 := 83) (pc' := 31) rfl (hb hby d2_83) (by decide) (by decide) k) ?_
                exact ih _ _ _ (own_fuelS hC hc3 hc4) (by rw [← hinv]; simp only [sf, hc3, hc4, hc5, hc6, hc9, if_true, if_false])
              · refine Ends.st (S' := s₁.setTop (mkF m 86 #[.val (.ref a1), .val (.int v1), .val (.ref a2), .val (.int v2), .val (.int d), .val (.int i), .val (.int j), .val (.int r)] [])) (fun _ k => XS.icmpYes X0.here hx rfl (pc0 := 63) (pc' := 86) rfl (hb hby d2_63) rfl (feq hc9).2 (by decide) (by decide) k) ?_
                refine Ends.st (S' := s₁.setTop (mkF m 88 #[.val (.ref a1), .val (.int v1), .val (.ref a2), .val (.int v2), .val (.int d), .val (.int i), .val (.int j), .val (.int r)] [(.int r)])) (fun _ k => XS.iload X0.here hx rfl (hb hby d2_86) rfl k) ?_
                obtain ⟨fs, hr, hrun, hended, hW, hsame⟩ := X0.leave (v := some (.int r)) (fun h => by rw [Bd.returns] at h; cases h)
                exact ⟨_, _, retI X0 hx Bd.returns (hb hby d2_88) hr, hrun, hended, _, _, rfl, (by show Q2 Z n1 n2 f1 f2 d v1 v2 h0 n0 _ s₁.heap _; rw [e0]; exact ⟨(by rw [← hinv]; simp only [sf, hc3, hc4, hc5, hc6, hc9, if_true, if_false]), N0, rfl⟩), ⟨_, rfl⟩, hW, hsame.mono (by decide) (by decide)⟩
            · refine Ends.st (S' := s₁.setTop (mkF m 86 #[.val (.ref a1), .val (.int v1), .val (.ref a2), .val (.int v2), .val (.int d), .val (.int i), .val (.int j), .val (.int r)] [])) (fun _ k => XS.icmpYes X0.here hx rfl (pc0 := 52) (pc' := 86) rfl (hb hby d2_52) rfl (flt hc6).2.1 (by decide) (by decide) k) ?_
              refine Ends.st (S' := s₁.setTop (mkF m 88 #[.val (.ref a1), .val (.int v1), .val (.ref a2), .val (.int v2), .val (.int d), .val (.int i), .val (.int j), .val (.int r)] [(.int r)])) (fun _ k => XS.iload X0.here hx rfl (hb hby d2_86) rfl k) ?_
              obtain ⟨fs, hr, hrun, hended, hW, hsame⟩ := X0.leave (v := some (.int r)) (fun h => by rw [Bd.returns] at h; cases h)
              exact ⟨_, _, retI X0 hx Bd.returns (hb hby d2_88) hr, hrun, hended, _, _, rfl, (by show Q2 Z n1 n2 f1 f2 d v1 v2 h0 n0 _ s₁.heap _; rw [e0]; exact ⟨(by rw [← hinv]; simp only [sf, hc3, hc4, hc5, hc6, if_true, if_false]), N0, rfl⟩), ⟨_, rfl⟩, hW, hsame.mono (by decide) (by decide)⟩
        · refine Ends.st (S' := s₁.setTop (mkF m 86 #[.val (.ref a1), .val (.int v1), .val (.ref a2), .val (.int v2), .val (.int d), .val (.int i), .val (.int j), .val (.int r)] [])) (fun _ k => XS.icmpYes X0.here hx rfl (pc0 := 40) (pc' := 86) rfl (hb hby d2_40) rfl (flt hc4).2.1 (by decide) (by decide) k) ?_
          refine Ends.st (S' := s₁.setTop (mkF m 88 #[.val (.ref a1), .val (.int v1), .val (.ref a2), .val (.int v2), .val (.int d), .val (.int i), .val (.int j), .val (.int r)] [(.int r)])) (fun _ k => XS.iload X0.here hx rfl (hb hby d2_86) rfl k) ?_
          obtain ⟨fs, hr, hrun, hended, hW, hsame⟩ := X0.leave (v := some (.int r)) (fun h => by rw [Bd.returns] at h; cases h)
          exact ⟨_, _, retI X0 hx Bd.returns (hb hby d2_88) hr, hrun, hended, _, _, rfl, (by show Q2 Z n1 n2 f1 f2 d v1 v2 h0 n0 _ s₁.heap _; rw [e0]; exact ⟨(by rw [← hinv]; simp only [sf, hc3, hc4, if_true, if_false]), N0, rfl⟩), ⟨_, rfl⟩, hW, hsame.mono (by decide) (by decide)⟩
  refine Ends.st (S' := s₁.setTop (mkF m 2 #[.val (.ref a1), .val (.int v1), .val (.ref a2), .val (.int v2), .val (.int d), .unset, .unset, .unset] [(.int d)])) (fun _ k => XS.iload X0.here hx rfl (hb hby d2_0) rfl k) ?_
  by_cases hc10 : (0 : Int32) < d
  · refine Ends.st (S' := s₁.setTop (mkF m 5 #[.val (.ref a1), .val (.int v1), .val (.ref a2), .val (.int v2), .val (.int d), .unset, .unset, .unset] [])) (fun _ k => XS.ifNo X0.here hx rfl (hb hby d2_2) rfl ((if0 _ _).trans (tlt hc10).2.2.2) k) ?_
    refine Ends.st (S' := s₁.setTop (mkF m 6 #[.val (.ref a1), .val (.int v1), .val (.ref a2), .val (.int v2), .val (.int d), .unset, .unset, .unset] [(.int v1)])) (fun _ k => XS.iloadN X0.here hx rfl (hb hby d2_5) rfl k) ?_
    refine Ends.st (S' := s₁.setTop (mkF m 12 #[.val (.ref a1), .val (.int v1), .val (.ref a2), .val (.int v2), .val (.int d), .unset, .unset, .unset] [(.int v1)])) (fun _ k => XS.goto X0.here hx rfl (pc0 := 6) (pc' := 12) rfl (hb hby d2_6) (by decide) (by decide) k) ?_
    refine Ends.st (S' := s₁.setTop (mkF m 14 #[.val (.ref a1), .val (.int v1), .val (.ref a2), .val (.int v2), .val (.int d), .val (.int v1), .unset, .unset] [])) (fun _ k => XS.istore X0.here hx rfl (hb hby d2_12) rfl (l' := #[.val (.ref a1), .val (.int v1), .val (.ref a2), .val (.int v2), .val (.int d), .val (.int v1), .unset, .unset]) rfl k) ?_
    refine Ends.st (S' := s₁.setTop (mkF m 16 #[.val (.ref a1), .val (.int v1), .val (.ref a2), .val (.int v2), .val (.int d), .val (.int v1), .unset, .unset] [(.int d)])) (fun _ k => XS.iload X0.here hx rfl (hb hby d2_14) rfl k) ?_
    refine Ends.st (S' := s₁.setTop (mkF m 19 #[.val (.ref a1), .val (.int v1), .val (.ref a2), .val (.int v2), .val (.int d), .val (.int v1), .unset, .unset] [])) (fun _ k => XS.ifNo X0.here hx rfl (hb hby d2_16) rfl ((if0 _ _).trans (tlt hc10).2.2.2) k) ?_
    refine Ends.st (S' := s₁.setTop (mkF m 20 #[.val (.ref a1), .val (.int v1), .val (.ref a2), .val (.int v2), .val (.int d), .val (.int v1), .unset, .unset] [(.int v2)])) (fun _ k => XS.iloadN X0.here hx rfl (hb hby d2_19) rfl k) ?_
    refine Ends.st (S' := s₁.setTop (mkF m 26 #[.val (.ref a1), .val (.int v1), .val (.ref a2), .val (.int v2), .val (.int d), .val (.int v1), .unset, .unset] [(.int v2)])) (fun _ k => XS.goto X0.here hx rfl (pc0 := 20) (pc' := 26) rfl (hb hby d2_20) (by decide) (by decide) k) ?_
    refine Ends.st (S' := s₁.setTop (mkF m 28 #[.val (.ref a1), .val (.int v1), .val (.ref a2), .val (.int v2), .val (.int d), .val (.int v1), .val (.int v2), .unset] [])) (fun _ k => XS.istore X0.here hx rfl (hb hby d2_26) rfl (l' := #[.val (.ref a1), .val (.int v1), .val (.ref a2), .val (.int v2), .val (.int d), .val (.int v1), .val (.int v2), .unset]) rfl k) ?_
    refine Ends.st (S' := s₁.setTop (mkF m 29 #[.val (.ref a1), .val (.int v1), .val (.ref a2), .val (.int v2), .val (.int d), .val (.int v1), .val (.int v2), .unset] [(.int (0 : Int32))])) (fun _ k => XS.iconst X0.here hx rfl (hb hby d2_28) k) ?_
    refine Ends.st (S' := s₁.setTop (mkF m 31 #[.val (.ref a1), .val (.int v1), .val (.ref a2), .val (.int v2), .val (.int d), .val (.int v1), .val (.int v2), .val (.int (0 : Int32))] [])) (fun _ k => XS.istore X0.here hx rfl (hb hby d2_29) rfl (l' := #[.val (.ref a1), .val (.int v1), .val (.ref a2), .val (.int v2), .val (.int d), .val (.int v1), .val (.int v2), .val (.int (0 : Int32))]) rfl k) ?_
    exact loop 4 _ _ _ (own_fuel4 hd hn) (by simp only [st0, hc10, if_true, if_false])
  · refine Ends.st (S' := s₁.setTop (mkF m 9 #[.val (.ref a1), .val (.int v1), .val (.ref a2), .val (.int v2), .val (.int d), .unset, .unset, .unset] [])) (fun _ k => XS.ifYes X0.here hx rfl (pc0 := 2) (pc' := 9) rfl (hb hby d2_2) rfl ((if0 _ _).trans (flt hc10).2.2.2) (by decide) (by decide) k) ?_
    refine Ends.st (S' := s₁.setTop (mkF m 10 #[.val (.ref a1), .val (.int v1), .val (.ref a2), .val (.int v2), .val (.int d), .unset, .unset, .unset] [(.int v1)])) (fun _ k => XS.iloadN X0.here hx rfl (hb hby d2_9) rfl k) ?_
    refine Ends.st (S' := s₁.setTop (mkF m 11 #[.val (.ref a1), .val (.int v1), .val (.ref a2), .val (.int v2), .val (.int d), .unset, .unset, .unset] [(.int (1 : Int32)), (.int v1)])) (fun _ k => XS.iconst X0.here hx rfl (hb hby d2_10) k) ?_
    refine Ends.st (S' := s₁.setTop (mkF m 12 #[.val (.ref a1), .val (.int v1), .val (.ref a2), .val (.int v2), .val (.int d), .unset, .unset, .unset] [(.int (v1 - (1 : Int32)))])) (fun _ k => XS.isub X0.here hx rfl (hb hby d2_11) rfl k) ?_
    refine Ends.st (S' := s₁.setTop (mkF m 14 #[.val (.ref a1), .val (.int v1), .val (.ref a2), .val (.int v2), .val (.int d), .val (.int (v1 - (1 : Int32))), .unset, .unset] [])) (fun _ k => XS.istore X0.here hx rfl (hb hby d2_12) rfl (l' := #[.val (.ref a1), .val (.int v1), .val (.ref a2), .val (.int v2), .val (.int d), .val (.int (v1 - (1 : Int32))), .unset, .unset]) rfl k) ?_
    refine Ends.st (S' := s₁.setTop (mkF m 16 #[.val (.ref a1), .val (.int v1), .val (.ref a2), .val (.int v2), .val (.int d), .val (.int (v1 - (1 : Int32))), .unset, .unset] [(.int d)])) (fun _ k => XS.iload X0.here hx rfl (hb hby d2_14) rfl k) ?_
    refine Ends.st (S' := s₁.setTop (mkF m 23 #[.val (.ref a1), .val (.int v1), .val (.ref a2), .val (.int v2), .val (.int d), .val (.int (v1 - (1 : Int32))), .unset, .unset] [])) (fun _ k => XS.ifYes X0.here hx rfl (pc0 := 16) (pc' := 23) rfl (hb hby d2_16) rfl ((if0 _ _).trans (flt hc10).2.2.2) (by decide) (by decide) k) ?_
    refine Ends.st (S' := s₁.setTop (mkF m 24 #[.val (.ref a1), .val (.int v1), .val (.ref a2), .val (.int v2), .val (.int d), .val (.int (v1 - (1 : Int32))), .unset, .unset] [(.int v2)])) (fun _ k => XS.iloadN X0.here hx rfl (hb hby d2_23) rfl k) ?_
    refine Ends.st (S' := s₁.setTop (mkF m 25 #[.val (.ref a1), .val (.int v1), .val (.ref a2), .val (.int v2), .val (.int d), .val (.int (v1 - (1 : Int32))), .unset, .unset] [(.int (1 : Int32)), (.int v2)])) (fun _ k => XS.iconst X0.here hx rfl (hb hby d2_24) k) ?_
    refine Ends.st (S' := s₁.setTop (mkF m 26 #[.val (.ref a1), .val (.int v1), .val (.ref a2), .val (.int v2), .val (.int d), .val (.int (v1 - (1 : Int32))), .unset, .unset] [(.int (v2 - (1 : Int32)))])) (fun _ k => XS.isub X0.here hx rfl (hb hby d2_25) rfl k) ?_
    refine Ends.st (S' := s₁.setTop (mkF m 28 #[.val (.ref a1), .val (.int v1), .val (.ref a2), .val (.int v2), .val (.int d), .val (.int (v1 - (1 : Int32))), .val (.int (v2 - (1 : Int32))), .unset] [])) (fun _ k => XS.istore X0.here hx rfl (hb hby d2_26) rfl (l' := #[.val (.ref a1), .val (.int v1), .val (.ref a2), .val (.int v2), .val (.int d), .val (.int (v1 - (1 : Int32))), .val (.int (v2 - (1 : Int32))), .unset]) rfl k) ?_
    refine Ends.st (S' := s₁.setTop (mkF m 29 #[.val (.ref a1), .val (.int v1), .val (.ref a2), .val (.int v2), .val (.int d), .val (.int (v1 - (1 : Int32))), .val (.int (v2 - (1 : Int32))), .unset] [(.int (0 : Int32))])) (fun _ k => XS.iconst X0.here hx rfl (hb hby d2_28) k) ?_
    refine Ends.st (S' := s₁.setTop (mkF m 31 #[.val (.ref a1), .val (.int v1), .val (.ref a2), .val (.int v2), .val (.int d), .val (.int (v1 - (1 : Int32))), .val (.int (v2 - (1 : Int32))), .val (.int (0 : Int32))] [])) (fun _ k => XS.istore X0.here hx rfl (hb hby d2_29) rfl (l' := #[.val (.ref a1), .val (.int v1), .val (.ref a2), .val (.int v2), .val (.int d), .val (.int (v1 - (1 : Int32))), .val (.int (v2 - (1 : Int32))), .val (.int (0 : Int32))]) rfl k) ?_
    exact loop 4 _ _ _ (own_fuel4 hd hn) (by simp only [st0, hc10, if_true, if_false])
theorem ef_rm3 (m : MethodId) (x0 : Addr) (x1 : Int32) (x2 : Addr) (x3 : Int32) (x4 : Int32) (x5 : Int32)  : entryFrame m #[(.ref x0), (.int x1), (.ref x2), (.int x3), (.int x4), (.int x5)] 10 = mkF m 0 #[.val (.ref x0), .val (.int x1), .val (.ref x2), .val (.int x3), .val (.int x4), .val (.int x5), .unset, .unset, .unset, .unset] [] := by first | (simp [entryFrame, mkF, argsToLocals, Value.category]; done) | rfl
set_option maxRecDepth 65536 in
set_option maxHeartbeats 40000000 in
theorem rm3 (l : Launch) (Z : State) (a0 : Array Value) (hw : ∀ d ∈ tables_1, d.before a0 Z = true) (ws : List Jvm.Cond) (n1 : Int32) (n2 : Int32) (f1 : Int32 → Int32) (f2 : Int32 → Int32) (d : Int32) (v1 : Int32) (v2 : Int32) (a1 : Addr) (a2 : Addr) (v3 : Int32) (h0 : Heap) (n0 : Nat) (Z0 : n0 ≤ h0.size) (I1 : IntA Z h0 a1 n1 f1) (I2 : IntA Z h0 a2 n2 f2) :
    MetFree l (⟨"com/example/umpteenth_copy/umpteenthcopy/engine/MatchSameFromPinLaw", "ok", "([II[IIII)Z"⟩ : MethodName) (head1 (Jvm.Cond.code (⟨"com/example/umpteenth_copy/umpteenthcopy/engine/MatchSameFromPinLaw", "ok", "([II[IIII)Z"⟩ : MethodName) method_4_code 10 (some .boolean) :: ws) ({ frames := 0, cells := 0, slots := 0, locals := 0 } : Room)) (fun a U => a = #[(.ref a1), (.int v1), (.ref a2), (.int v2), (.int d), (.int v3)] ∧ Z.Warmed39 U.vm ∧ U.heap = h0) (fun _ _ _ _ _ => True) (fun _ U o U' => ∃ v L, o = .returned v ∧ Q3 Z n1 n2 f1 f2 d v1 v2 v3 h0 n0 v U'.heap L ∧ FrameEnd U o U' L ({ frames := 0, cells := 0, slots := 0, locals := 0 } : Room).cells ({ frames := 0, cells := 0, slots := 0, locals := 0 } : Room).slots) := by
  refine MetFree.of_bodySF (plainFor_of_name pn_3) hisR ?_
  intro p e s m args below meth c s₁ Bd hml0 hP hK
  obtain ⟨rfl, hZ, hh⟩ := hP
  have hx := Bd.exec
  have hby := Bd.bytes
  have hml : c.maxLocals = 10 := hml0
  have hown : s.vm.findClass "com/example/umpteenth_copy/umpteenthcopy/engine/MatchSameFromPinLaw" = some m.cls := findClass_of_methodNamed Bd.named
  have hnm := (name_of_methodNamed Bd.named Bd.method).1
  have X0 : Stand p l e ({ frames := 0, cells := 0, slots := 0, locals := 0 } : Room) s m #[(.ref a1), (.int v1), (.ref a2), (.int v2), (.int d), (.int v3)] below meth c s₁ [] 0 0 := Stand.of_body Bd
  have e0 : s₁.heap = h0 := by rw [← hh, Bd.state]; rfl
  have N0 := Fr.nil n0
  refine Ends.st (tb := p.tables) (e := e) (below := below) (S' := s₁.setTop (mkF m 0 #[.val (.ref a1), .val (.int v1), .val (.ref a2), .val (.int v2), .val (.int d), .val (.int v3), .unset, .unset, .unset, .unset] [])) (fun t k => castTop (ef_rm3 m a1 v1 a2 v2 d v3) k) ?_
  obtain ⟨cl1, Ar1, S1, M1, H1⟩ := I1
  obtain ⟨cl2, Ar2, S2, M2, H2⟩ := I2
  have rest3 : Ends p.tables e below (s₁.setTop (mkF m 48 #[.val (.ref a1), .val (.int v1), .val (.ref a2), .val (.int v2), .val (.int d), .val (.int v3), .val (.long (ix d v1 v3)), .second, .val (.long (ix d v2 v3)), .second] [])) (fun (s₂ : State) (o : Outcome) => s₂.status = .running ∧ Ended s₂ below o ∧ ∃ v L, o = .returned v ∧ Q3 Z n1 n2 f1 f2 d v1 v2 v3 h0 n0 v s₂.heap L ∧ FrameEnd s o s₂ L ({ frames := 0, cells := 0, slots := 0, locals := 0 } : Room).cells ({ frames := 0, cells := 0, slots := 0, locals := 0 } : Room).slots) := by
    refine Ends.st (S' := s₁.setTop (mkF m 50 #[.val (.ref a1), .val (.int v1), .val (.ref a2), .val (.int v2), .val (.int d), .val (.int v3), .val (.long (ix d v1 v3)), .second, .val (.long (ix d v2 v3)), .second] [(.long (ix d v1 v3))])) (fun _ k => XS.lload X0.here hx rfl (hb hby d3_48) rfl k) ?_
    refine Ends.st (S' := s₁.setTop (mkF m 51 #[.val (.ref a1), .val (.int v1), .val (.ref a2), .val (.int v2), .val (.int d), .val (.int v3), .val (.long (ix d v1 v3)), .second, .val (.long (ix d v2 v3)), .second] [(.long (0 : Int64)), (.long (ix d v1 v3))])) (fun _ k => XS.lconst X0.here hx rfl (hb hby d3_50) k) ?_
    refine Ends.st (S' := s₁.setTop (mkF m 52 #[.val (.ref a1), .val (.int v1), .val (.ref a2), .val (.int v2), .val (.int d), .val (.int v3), .val (.long (ix d v1 v3)), .second, .val (.long (ix d v2 v3)), .second] [(.int (lcmpW (ix d v1 v3) (0 : Int64)))])) (fun _ k => XS.lcmp X0.here hx rfl (hb hby d3_51) rfl k) ?_
    by_cases hc1 : (lcmpW (ix d v1 v3) (0 : Int64)) < (0 : Int32)
    · refine Ends.st (S' := s₁.setTop (mkF m 97 #[.val (.ref a1), .val (.int v1), .val (.ref a2), .val (.int v2), .val (.int d), .val (.int v3), .val (.long (ix d v1 v3)), .second, .val (.long (ix d v2 v3)), .second] [])) (fun _ k => XS.ifYes X0.here hx rfl (pc0 := 52) (pc' := 97) rfl (hb hby d3_52) rfl ((if0 _ _).trans (tlt hc1).1) (by decide) (by decide) k) ?_
      refine Ends.st (S' := s₁.setTop (mkF m 98 #[.val (.ref a1), .val (.int v1), .val (.ref a2), .val (.int v2), .val (.int d), .val (.int v3), .val (.long (ix d v1 v3)), .second, .val (.long (ix d v2 v3)), .second] [(.int (0 : Int32))])) (fun _ k => XS.iconst X0.here hx rfl (hb hby d3_97) k) ?_
      obtain ⟨fs, hr, hrun, hended, hW, hsame⟩ := X0.leave (v := some (.int (0 : Int32))) (fun h => by rw [Bd.returns] at h; cases h)
      exact ⟨_, _, retN X0 hx (t := .boolean) Bd.returns (by simp) (hb hby d3_98) hr, hrun, hended, _, _, rfl, (by show Q3 Z n1 n2 f1 f2 d v1 v2 v3 h0 n0 _ s₁.heap _; rw [e0]; exact ⟨(by simp only [okf, hc1, if_true, if_false]), N0, rfl⟩), ⟨_, rfl⟩, hW, hsame.mono (by decide) (by decide)⟩
    · refine Ends.st (S' := s₁.setTop (mkF m 55 #[.val (.ref a1), .val (.int v1), .val (.ref a2), .val (.int v2), .val (.int d), .val (.int v3), .val (.long (ix d v1 v3)), .second, .val (.long (ix d v2 v3)), .second] [])) (fun _ k => XS.ifNo X0.here hx rfl (hb hby d3_52) rfl ((if0 _ _).trans (flt hc1).1) k) ?_
      refine Ends.st (S' := s₁.setTop (mkF m 57 #[.val (.ref a1), .val (.int v1), .val (.ref a2), .val (.int v2), .val (.int d), .val (.int v3), .val (.long (ix d v1 v3)), .second, .val (.long (ix d v2 v3)), .second] [(.long (ix d v1 v3))])) (fun _ k => XS.lload X0.here hx rfl (hb hby d3_55) rfl k) ?_
      refine Ends.st (S' := s₁.setTop (mkF m 58 #[.val (.ref a1), .val (.int v1), .val (.ref a2), .val (.int v2), .val (.int d), .val (.int v3), .val (.long (ix d v1 v3)), .second, .val (.long (ix d v2 v3)), .second] [(.ref a1), (.long (ix d v1 v3))])) (fun _ k => XS.aloadN X0.here hx rfl (hb hby d3_57) rfl rfl k) ?_
      refine Ends.st (S' := s₁.setTop (mkF m 59 #[.val (.ref a1), .val (.int v1), .val (.ref a2), .val (.int v2), .val (.int d), .val (.int v3), .val (.long (ix d v1 v3)), .second, .val (.long (ix d v2 v3)), .second] [(.int n1), (.long (ix d v1 v3))])) (fun _ k => X0.arraylength hx (by rw [e0]; exact Ar1.1) (State.isArrayOf_alike hZ.alike Ar1.2.1) (g := (mkF m 58 #[.val (.ref a1), .val (.int v1), .val (.ref a2), .val (.int v2), .val (.int d), .val (.int v3), .val (.long (ix d v1 v3)), .second, .val (.long (ix d v2 v3)), .second] [(.ref a1), (.long (ix d v1 v3))])) rfl rfl (hb hby d3_58) _ (by rw [len_of S1 M1]; exact k)) ?_
      refine Ends.st (S' := s₁.setTop (mkF m 60 #[.val (.ref a1), .val (.int v1), .val (.ref a2), .val (.int v2), .val (.int d), .val (.int v3), .val (.long (ix d v1 v3)), .second, .val (.long (ix d v2 v3)), .second] [(.long (n1.toInt64)), (.long (ix d v1 v3))])) (fun _ k => XS.i2l X0.here hx rfl (hb hby d3_59) rfl k) ?_
      refine Ends.st (S' := s₁.setTop (mkF m 61 #[.val (.ref a1), .val (.int v1), .val (.ref a2), .val (.int v2), .val (.int d), .val (.int v3), .val (.long (ix d v1 v3)), .second, .val (.long (ix d v2 v3)), .second] [(.int (lcmpW (ix d v1 v3) (n1.toInt64)))])) (fun _ k => XS.lcmp X0.here hx rfl (hb hby d3_60) rfl k) ?_
      by_cases hc2 : (lcmpW (ix d v1 v3) (n1.toInt64)) < (0 : Int32)
      · refine Ends.st (S' := s₁.setTop (mkF m 64 #[.val (.ref a1), .val (.int v1), .val (.ref a2), .val (.int v2), .val (.int d), .val (.int v3), .val (.long (ix d v1 v3)), .second, .val (.long (ix d v2 v3)), .second] [])) (fun _ k => XS.ifNo X0.here hx rfl (hb hby d3_61) rfl ((if0 _ _).trans (tlt hc2).2.1) k) ?_
        refine Ends.st (S' := s₁.setTop (mkF m 66 #[.val (.ref a1), .val (.int v1), .val (.ref a2), .val (.int v2), .val (.int d), .val (.int v3), .val (.long (ix d v1 v3)), .second, .val (.long (ix d v2 v3)), .second] [(.long (ix d v2 v3))])) (fun _ k => XS.lload X0.here hx rfl (hb hby d3_64) rfl k) ?_
        refine Ends.st (S' := s₁.setTop (mkF m 67 #[.val (.ref a1), .val (.int v1), .val (.ref a2), .val (.int v2), .val (.int d), .val (.int v3), .val (.long (ix d v1 v3)), .second, .val (.long (ix d v2 v3)), .second] [(.long (0 : Int64)), (.long (ix d v2 v3))])) (fun _ k => XS.lconst X0.here hx rfl (hb hby d3_66) k) ?_
        refine Ends.st (S' := s₁.setTop (mkF m 68 #[.val (.ref a1), .val (.int v1), .val (.ref a2), .val (.int v2), .val (.int d), .val (.int v3), .val (.long (ix d v1 v3)), .second, .val (.long (ix d v2 v3)), .second] [(.int (lcmpW (ix d v2 v3) (0 : Int64)))])) (fun _ k => XS.lcmp X0.here hx rfl (hb hby d3_67) rfl k) ?_
        by_cases hc3 : (lcmpW (ix d v2 v3) (0 : Int64)) < (0 : Int32)
        · refine Ends.st (S' := s₁.setTop (mkF m 97 #[.val (.ref a1), .val (.int v1), .val (.ref a2), .val (.int v2), .val (.int d), .val (.int v3), .val (.long (ix d v1 v3)), .second, .val (.long (ix d v2 v3)), .second] [])) (fun _ k => XS.ifYes X0.here hx rfl (pc0 := 68) (pc' := 97) rfl (hb hby d3_68) rfl ((if0 _ _).trans (tlt hc3).1) (by decide) (by decide) k) ?_
          refine Ends.st (S' := s₁.setTop (mkF m 98 #[.val (.ref a1), .val (.int v1), .val (.ref a2), .val (.int v2), .val (.int d), .val (.int v3), .val (.long (ix d v1 v3)), .second, .val (.long (ix d v2 v3)), .second] [(.int (0 : Int32))])) (fun _ k => XS.iconst X0.here hx rfl (hb hby d3_97) k) ?_
          obtain ⟨fs, hr, hrun, hended, hW, hsame⟩ := X0.leave (v := some (.int (0 : Int32))) (fun h => by rw [Bd.returns] at h; cases h)
          exact ⟨_, _, retN X0 hx (t := .boolean) Bd.returns (by simp) (hb hby d3_98) hr, hrun, hended, _, _, rfl, (by show Q3 Z n1 n2 f1 f2 d v1 v2 v3 h0 n0 _ s₁.heap _; rw [e0]; exact ⟨(by simp only [okf, hc1, hc2, hc3, if_true, if_false]), N0, rfl⟩), ⟨_, rfl⟩, hW, hsame.mono (by decide) (by decide)⟩
        · refine Ends.st (S' := s₁.setTop (mkF m 71 #[.val (.ref a1), .val (.int v1), .val (.ref a2), .val (.int v2), .val (.int d), .val (.int v3), .val (.long (ix d v1 v3)), .second, .val (.long (ix d v2 v3)), .second] [])) (fun _ k => XS.ifNo X0.here hx rfl (hb hby d3_68) rfl ((if0 _ _).trans (flt hc3).1) k) ?_
          refine Ends.st (S' := s₁.setTop (mkF m 73 #[.val (.ref a1), .val (.int v1), .val (.ref a2), .val (.int v2), .val (.int d), .val (.int v3), .val (.long (ix d v1 v3)), .second, .val (.long (ix d v2 v3)), .second] [(.long (ix d v2 v3))])) (fun _ k => XS.lload X0.here hx rfl (hb hby d3_71) rfl k) ?_
          refine Ends.st (S' := s₁.setTop (mkF m 74 #[.val (.ref a1), .val (.int v1), .val (.ref a2), .val (.int v2), .val (.int d), .val (.int v3), .val (.long (ix d v1 v3)), .second, .val (.long (ix d v2 v3)), .second] [(.ref a2), (.long (ix d v2 v3))])) (fun _ k => XS.aloadN X0.here hx rfl (hb hby d3_73) rfl rfl k) ?_
          refine Ends.st (S' := s₁.setTop (mkF m 75 #[.val (.ref a1), .val (.int v1), .val (.ref a2), .val (.int v2), .val (.int d), .val (.int v3), .val (.long (ix d v1 v3)), .second, .val (.long (ix d v2 v3)), .second] [(.int n2), (.long (ix d v2 v3))])) (fun _ k => X0.arraylength hx (by rw [e0]; exact Ar2.1) (State.isArrayOf_alike hZ.alike Ar2.2.1) (g := (mkF m 74 #[.val (.ref a1), .val (.int v1), .val (.ref a2), .val (.int v2), .val (.int d), .val (.int v3), .val (.long (ix d v1 v3)), .second, .val (.long (ix d v2 v3)), .second] [(.ref a2), (.long (ix d v2 v3))])) rfl rfl (hb hby d3_74) _ (by rw [len_of S2 M2]; exact k)) ?_
          refine Ends.st (S' := s₁.setTop (mkF m 76 #[.val (.ref a1), .val (.int v1), .val (.ref a2), .val (.int v2), .val (.int d), .val (.int v3), .val (.long (ix d v1 v3)), .second, .val (.long (ix d v2 v3)), .second] [(.long (n2.toInt64)), (.long (ix d v2 v3))])) (fun _ k => XS.i2l X0.here hx rfl (hb hby d3_75) rfl k) ?_
          refine Ends.st (S' := s₁.setTop (mkF m 77 #[.val (.ref a1), .val (.int v1), .val (.ref a2), .val (.int v2), .val (.int d), .val (.int v3), .val (.long (ix d v1 v3)), .second, .val (.long (ix d v2 v3)), .second] [(.int (lcmpW (ix d v2 v3) (n2.toInt64)))])) (fun _ k => XS.lcmp X0.here hx rfl (hb hby d3_76) rfl k) ?_
          by_cases hc4 : (lcmpW (ix d v2 v3) (n2.toInt64)) < (0 : Int32)
          · refine Ends.st (S' := s₁.setTop (mkF m 80 #[.val (.ref a1), .val (.int v1), .val (.ref a2), .val (.int v2), .val (.int d), .val (.int v3), .val (.long (ix d v1 v3)), .second, .val (.long (ix d v2 v3)), .second] [])) (fun _ k => XS.ifNo X0.here hx rfl (hb hby d3_77) rfl ((if0 _ _).trans (tlt hc4).2.1) k) ?_
            refine Ends.st (S' := s₁.setTop (mkF m 81 #[.val (.ref a1), .val (.int v1), .val (.ref a2), .val (.int v2), .val (.int d), .val (.int v3), .val (.long (ix d v1 v3)), .second, .val (.long (ix d v2 v3)), .second] [(.ref a1)])) (fun _ k => XS.aloadN X0.here hx rfl (hb hby d3_80) rfl rfl k) ?_
            refine Ends.st (S' := s₁.setTop (mkF m 83 #[.val (.ref a1), .val (.int v1), .val (.ref a2), .val (.int v2), .val (.int d), .val (.int v3), .val (.long (ix d v1 v3)), .second, .val (.long (ix d v2 v3)), .second] [(.long (ix d v1 v3)), (.ref a1)])) (fun _ k => XS.lload X0.here hx rfl (hb hby d3_81) rfl k) ?_
            refine Ends.st (S' := s₁.setTop (mkF m 84 #[.val (.ref a1), .val (.int v1), .val (.ref a2), .val (.int v2), .val (.int d), .val (.int v3), .val (.long (ix d v1 v3)), .second, .val (.long (ix d v2 v3)), .second] [(.int ((ix d v1 v3).toInt32)), (.ref a1)])) (fun _ k => XS.l2i X0.here hx rfl (hb hby d3_83) rfl k) ?_
            have hi5 := own_ixin hc1 hc2
            refine Ends.st (S' := s₁.setTop (mkF m 85 #[.val (.ref a1), .val (.int v1), .val (.ref a2), .val (.int v2), .val (.int d), .val (.int v3), .val (.long (ix d v1 v3)), .second, .val (.long (ix d v2 v3)), .second] [(.int (f1 ((ix d v1 v3).toInt32)))])) (fun _ k => X0.iaload hx (j := ((ix d v1 v3).toInt32)) (v := (.int (f1 ((ix d v1 v3).toInt32)))) (by rw [e0]; exact Ar1.1) (State.isArrayOf_alike hZ.alike Ar1.2.1) Ar1.2.2 (inb_of S1 hi5) (H1 _ hi5.1 hi5.2) (g := (mkF m 84 #[.val (.ref a1), .val (.int v1), .val (.ref a2), .val (.int v2), .val (.int d), .val (.int v3), .val (.long (ix d v1 v3)), .second, .val (.long (ix d v2 v3)), .second] [(.int ((ix d v1 v3).toInt32)), (.ref a1)])) rfl rfl (hb hby d3_84) _ k) ?_
            refine Ends.st (S' := s₁.setTop (mkF m 86 #[.val (.ref a1), .val (.int v1), .val (.ref a2), .val (.int v2), .val (.int d), .val (.int v3), .val (.long (ix d v1 v3)), .second, .val (.long (ix d v2 v3)), .second] [(.ref a2), (.int (f1 ((ix d v1 v3).toInt32)))])) (fun _ k => XS.aloadN X0.here hx rfl (hb hby d3_85) rfl rfl k) ?_
            refine Ends.st (S' := s₁.setTop (mkF m 88 #[.val (.ref a1), .val (.int v1), .val (.ref a2), .val (.int v2), .val (.int d), .val (.int v3), .val (.long (ix d v1 v3)), .second, .val (.long (ix d v2 v3)), .second] [(.long (ix d v2 v3)), (.ref a2), (.int (f1 ((ix d v1 v3).toInt32)))])) (fun _ k => XS.lload X0.here hx rfl (hb hby d3_86) rfl k) ?_
            refine Ends.st (S' := s₁.setTop (mkF m 89 #[.val (.ref a1), .val (.int v1), .val (.ref a2), .val (.int v2), .val (.int d), .val (.int v3), .val (.long (ix d v1 v3)), .second, .val (.long (ix d v2 v3)), .second] [(.int ((ix d v2 v3).toInt32)), (.ref a2), (.int (f1 ((ix d v1 v3).toInt32)))])) (fun _ k => XS.l2i X0.here hx rfl (hb hby d3_88) rfl k) ?_
            have hi6 := own_ixin hc3 hc4
            refine Ends.st (S' := s₁.setTop (mkF m 90 #[.val (.ref a1), .val (.int v1), .val (.ref a2), .val (.int v2), .val (.int d), .val (.int v3), .val (.long (ix d v1 v3)), .second, .val (.long (ix d v2 v3)), .second] [(.int (f2 ((ix d v2 v3).toInt32))), (.int (f1 ((ix d v1 v3).toInt32)))])) (fun _ k => X0.iaload hx (j := ((ix d v2 v3).toInt32)) (v := (.int (f2 ((ix d v2 v3).toInt32)))) (by rw [e0]; exact Ar2.1) (State.isArrayOf_alike hZ.alike Ar2.2.1) Ar2.2.2 (inb_of S2 hi6) (H2 _ hi6.1 hi6.2) (g := (mkF m 89 #[.val (.ref a1), .val (.int v1), .val (.ref a2), .val (.int v2), .val (.int d), .val (.int v3), .val (.long (ix d v1 v3)), .second, .val (.long (ix d v2 v3)), .second] [(.int ((ix d v2 v3).toInt32)), (.ref a2), (.int (f1 ((ix d v1 v3).toInt32)))])) rfl rfl (hb hby d3_89) _ k) ?_
            by_cases hc7 : (f1 ((ix d v1 v3).toInt32)) = (f2 ((ix d v2 v3).toInt32))
            · refine Ends.st (S' := s₁.setTop (mkF m 93 #[.val (.ref a1), .val (.int v1), .val (.ref a2), .val (.int v2), .val (.int d), .val (.int v3), .val (.long (ix d v1 v3)), .second, .val (.long (ix d v2 v3)), .second] [])) (fun _ k => XS.icmpNo X0.here hx rfl (hb hby d3_90) rfl (teq hc7).2 k) ?_
              refine Ends.st (S' := s₁.setTop (mkF m 94 #[.val (.ref a1), .val (.int v1), .val (.ref a2), .val (.int v2), .val (.int d), .val (.int v3), .val (.long (ix d v1 v3)), .second, .val (.long (ix d v2 v3)), .second] [(.int (1 : Int32))])) (fun _ k => XS.iconst X0.here hx rfl (hb hby d3_93) k) ?_
              refine Ends.st (S' := s₁.setTop (mkF m 98 #[.val (.ref a1), .val (.int v1), .val (.ref a2), .val (.int v2), .val (.int d), .val (.int v3), .val (.long (ix d v1 v3)), .second, .val (.long (ix d v2 v3)), .second] [(.int (1 : Int32))])) (fun _ k => XS.goto X0.here hx rfl (pc0 := 94) (pc' := 98) rfl (hb hby d3_94) (by decide) (by decide) k) ?_
              obtain ⟨fs, hr, hrun, hended, hW, hsame⟩ := X0.leave (v := some (.int (1 : Int32))) (fun h => by rw [Bd.returns] at h; cases h)
              exact ⟨_, _, retN X0 hx (t := .boolean) Bd.returns (by simp) (hb hby d3_98) hr, hrun, hended, _, _, rfl, (by show Q3 Z n1 n2 f1 f2 d v1 v2 v3 h0 n0 _ s₁.heap _; rw [e0]; exact ⟨(by simp only [okf, hc1, hc2, hc3, hc4, hc7, if_true, if_false]), N0, rfl⟩), ⟨_, rfl⟩, hW, hsame.mono (by decide) (by decide)⟩
            · refine Ends.st (S' := s₁.setTop (mkF m 97 #[.val (.ref a1), .val (.int v1), .val (.ref a2), .val (.int v2), .val (.int d), .val (.int v3), .val (.long (ix d v1 v3)), .second, .val (.long (ix d v2 v3)), .second] [])) (fun _ k => XS.icmpYes X0.here hx rfl (pc0 := 90) (pc' := 97) rfl (hb hby d3_90) rfl (feq hc7).2 (by decide) (by decide) k) ?_
              refine Ends.st (S' := s₁.setTop (mkF m 98 #[.val (.ref a1), .val (.int v1), .val (.ref a2), .val (.int v2), .val (.int d), .val (.int v3), .val (.long (ix d v1 v3)), .second, .val (.long (ix d v2 v3)), .second] [(.int (0 : Int32))])) (fun _ k => XS.iconst X0.here hx rfl (hb hby d3_97) k) ?_
              obtain ⟨fs, hr, hrun, hended, hW, hsame⟩ := X0.leave (v := some (.int (0 : Int32))) (fun h => by rw [Bd.returns] at h; cases h)
              exact ⟨_, _, retN X0 hx (t := .boolean) Bd.returns (by simp) (hb hby d3_98) hr, hrun, hended, _, _, rfl, (by show Q3 Z n1 n2 f1 f2 d v1 v2 v3 h0 n0 _ s₁.heap _; rw [e0]; exact ⟨(by simp only [okf, hc1, hc2, hc3, hc4, hc7, if_true, if_false]), N0, rfl⟩), ⟨_, rfl⟩, hW, hsame.mono (by decide) (by decide)⟩
          · refine Ends.st (S' := s₁.setTop (mkF m 97 #[.val (.ref a1), .val (.int v1), .val (.ref a2), .val (.int v2), .val (.int d), .val (.int v3), .val (.long (ix d v1 v3)), .second, .val (.long (ix d v2 v3)), .second] [])) (fun _ k => XS.ifYes X0.here hx rfl (pc0 := 77) (pc' := 97) rfl (hb hby d3_77) rfl ((if0 _ _).trans (flt hc4).2.1) (by decide) (by decide) k) ?_
            refine Ends.st (S' := s₁.setTop (mkF m 98 #[.val (.ref a1), .val (.int v1), .val (.ref a2), .val (.int v2), .val (.int d), .val (.int v3), .val (.long (ix d v1 v3)), .second, .val (.long (ix d v2 v3)), .second] [(.int (0 : Int32))])) (fun _ k => XS.iconst X0.here hx rfl (hb hby d3_97) k) ?_
            obtain ⟨fs, hr, hrun, hended, hW, hsame⟩ := X0.leave (v := some (.int (0 : Int32))) (fun h => by rw [Bd.returns] at h; cases h)
            exact ⟨_, _, retN X0 hx (t := .boolean) Bd.returns (by simp) (hb hby d3_98) hr, hrun, hended, _, _, rfl, (by show Q3 Z n1 n2 f1 f2 d v1 v2 v3 h0 n0 _ s₁.heap _; rw [e0]; exact ⟨(by simp only [okf, hc1, hc2, hc3, hc4, if_true, if_false]), N0, rfl⟩), ⟨_, rfl⟩, hW, hsame.mono (by decide) (by decide)⟩
      · refine Ends.st (S' := s₁.setTop (mkF m 97 #[.val (.ref a1), .val (.int v1), .val (.ref a2), .val (.int v2), .val (.int d), .val (.int v3), .val (.long (ix d v1 v3)), .second, .val (.long (ix d v2 v3)), .second] [])) (fun _ k => XS.ifYes X0.here hx rfl (pc0 := 61) (pc' := 97) rfl (hb hby d3_61) rfl ((if0 _ _).trans (flt hc2).2.1) (by decide) (by decide) k) ?_
        refine Ends.st (S' := s₁.setTop (mkF m 98 #[.val (.ref a1), .val (.int v1), .val (.ref a2), .val (.int v2), .val (.int d), .val (.int v3), .val (.long (ix d v1 v3)), .second, .val (.long (ix d v2 v3)), .second] [(.int (0 : Int32))])) (fun _ k => XS.iconst X0.here hx rfl (hb hby d3_97) k) ?_
        obtain ⟨fs, hr, hrun, hended, hW, hsame⟩ := X0.leave (v := some (.int (0 : Int32))) (fun h => by rw [Bd.returns] at h; cases h)
        exact ⟨_, _, retN X0 hx (t := .boolean) Bd.returns (by simp) (hb hby d3_98) hr, hrun, hended, _, _, rfl, (by show Q3 Z n1 n2 f1 f2 d v1 v2 v3 h0 n0 _ s₁.heap _; rw [e0]; exact ⟨(by simp only [okf, hc1, hc2, if_true, if_false]), N0, rfl⟩), ⟨_, rfl⟩, hW, hsame.mono (by decide) (by decide)⟩
  refine Ends.st (S' := s₁.setTop (mkF m 2 #[.val (.ref a1), .val (.int v1), .val (.ref a2), .val (.int v2), .val (.int d), .val (.int v3), .unset, .unset, .unset, .unset] [(.int d)])) (fun _ k => XS.iload X0.here hx rfl (hb hby d3_0) rfl k) ?_
  by_cases hc8 : (0 : Int32) < d
  · refine Ends.st (S' := s₁.setTop (mkF m 5 #[.val (.ref a1), .val (.int v1), .val (.ref a2), .val (.int v2), .val (.int d), .val (.int v3), .unset, .unset, .unset, .unset] [])) (fun _ k => XS.ifNo X0.here hx rfl (hb hby d3_2) rfl ((if0 _ _).trans (tlt hc8).2.2.2) k) ?_
    refine Ends.st (S' := s₁.setTop (mkF m 6 #[.val (.ref a1), .val (.int v1), .val (.ref a2), .val (.int v2), .val (.int d), .val (.int v3), .unset, .unset, .unset, .unset] [(.int v1)])) (fun _ k => XS.iloadN X0.here hx rfl (hb hby d3_5) rfl k) ?_
    refine Ends.st (S' := s₁.setTop (mkF m 7 #[.val (.ref a1), .val (.int v1), .val (.ref a2), .val (.int v2), .val (.int d), .val (.int v3), .unset, .unset, .unset, .unset] [(.long (v1.toInt64))])) (fun _ k => XS.i2l X0.here hx rfl (hb hby d3_6) rfl k) ?_
    refine Ends.st (S' := s₁.setTop (mkF m 9 #[.val (.ref a1), .val (.int v1), .val (.ref a2), .val (.int v2), .val (.int d), .val (.int v3), .unset, .unset, .unset, .unset] [(.int v3), (.long (v1.toInt64))])) (fun _ k => XS.iload X0.here hx rfl (hb hby d3_7) rfl k) ?_
    refine Ends.st (S' := s₁.setTop (mkF m 10 #[.val (.ref a1), .val (.int v1), .val (.ref a2), .val (.int v2), .val (.int d), .val (.int v3), .unset, .unset, .unset, .unset] [(.long (v3.toInt64)), (.long (v1.toInt64))])) (fun _ k => XS.i2l X0.here hx rfl (hb hby d3_9) rfl k) ?_
    refine Ends.st (S' := s₁.setTop (mkF m 11 #[.val (.ref a1), .val (.int v1), .val (.ref a2), .val (.int v2), .val (.int d), .val (.int v3), .unset, .unset, .unset, .unset] [(.long ((v1.toInt64) + (v3.toInt64)))])) (fun _ k => XS.ladd X0.here hx rfl (hb hby d3_10) rfl k) ?_
    refine Ends.st (S' := s₁.setTop (mkF m 22 #[.val (.ref a1), .val (.int v1), .val (.ref a2), .val (.int v2), .val (.int d), .val (.int v3), .unset, .unset, .unset, .unset] [(.long ((v1.toInt64) + (v3.toInt64)))])) (fun _ k => XS.goto X0.here hx rfl (pc0 := 11) (pc' := 22) rfl (hb hby d3_11) (by decide) (by decide) k) ?_
    refine Ends.st (S' := s₁.setTop (mkF m 24 #[.val (.ref a1), .val (.int v1), .val (.ref a2), .val (.int v2), .val (.int d), .val (.int v3), .val (.long ((v1.toInt64) + (v3.toInt64))), .second, .unset, .unset] [])) (fun _ k => XS.lstore X0.here hx rfl (hb hby d3_22) rfl (l' := #[.val (.ref a1), .val (.int v1), .val (.ref a2), .val (.int v2), .val (.int d), .val (.int v3), .val (.long ((v1.toInt64) + (v3.toInt64))), .second, .unset, .unset]) rfl k) ?_
    refine Ends.st (S' := s₁.setTop (mkF m 26 #[.val (.ref a1), .val (.int v1), .val (.ref a2), .val (.int v2), .val (.int d), .val (.int v3), .val (.long ((v1.toInt64) + (v3.toInt64))), .second, .unset, .unset] [(.int d)])) (fun _ k => XS.iload X0.here hx rfl (hb hby d3_24) rfl k) ?_
    refine Ends.st (S' := s₁.setTop (mkF m 29 #[.val (.ref a1), .val (.int v1), .val (.ref a2), .val (.int v2), .val (.int d), .val (.int v3), .val (.long ((v1.toInt64) + (v3.toInt64))), .second, .unset, .unset] [])) (fun _ k => XS.ifNo X0.here hx rfl (hb hby d3_26) rfl ((if0 _ _).trans (tlt hc8).2.2.2) k) ?_
    refine Ends.st (S' := s₁.setTop (mkF m 30 #[.val (.ref a1), .val (.int v1), .val (.ref a2), .val (.int v2), .val (.int d), .val (.int v3), .val (.long ((v1.toInt64) + (v3.toInt64))), .second, .unset, .unset] [(.int v2)])) (fun _ k => XS.iloadN X0.here hx rfl (hb hby d3_29) rfl k) ?_
    refine Ends.st (S' := s₁.setTop (mkF m 31 #[.val (.ref a1), .val (.int v1), .val (.ref a2), .val (.int v2), .val (.int d), .val (.int v3), .val (.long ((v1.toInt64) + (v3.toInt64))), .second, .unset, .unset] [(.long (v2.toInt64))])) (fun _ k => XS.i2l X0.here hx rfl (hb hby d3_30) rfl k) ?_
    refine Ends.st (S' := s₁.setTop (mkF m 33 #[.val (.ref a1), .val (.int v1), .val (.ref a2), .val (.int v2), .val (.int d), .val (.int v3), .val (.long ((v1.toInt64) + (v3.toInt64))), .second, .unset, .unset] [(.int v3), (.long (v2.toInt64))])) (fun _ k => XS.iload X0.here hx rfl (hb hby d3_31) rfl k) ?_
    refine Ends.st (S' := s₁.setTop (mkF m 34 #[.val (.ref a1), .val (.int v1), .val (.ref a2), .val (.int v2), .val (.int d), .val (.int v3), .val (.long ((v1.toInt64) + (v3.toInt64))), .second, .unset, .unset] [(.long (v3.toInt64)), (.long (v2.toInt64))])) (fun _ k => XS.i2l X0.here hx rfl (hb hby d3_33) rfl k) ?_
    refine Ends.st (S' := s₁.setTop (mkF m 35 #[.val (.ref a1), .val (.int v1), .val (.ref a2), .val (.int v2), .val (.int d), .val (.int v3), .val (.long ((v1.toInt64) + (v3.toInt64))), .second, .unset, .unset] [(.long ((v2.toInt64) + (v3.toInt64)))])) (fun _ k => XS.ladd X0.here hx rfl (hb hby d3_34) rfl k) ?_
    refine Ends.st (S' := s₁.setTop (mkF m 46 #[.val (.ref a1), .val (.int v1), .val (.ref a2), .val (.int v2), .val (.int d), .val (.int v3), .val (.long ((v1.toInt64) + (v3.toInt64))), .second, .unset, .unset] [(.long ((v2.toInt64) + (v3.toInt64)))])) (fun _ k => XS.goto X0.here hx rfl (pc0 := 35) (pc' := 46) rfl (hb hby d3_35) (by decide) (by decide) k) ?_
    refine Ends.st (S' := s₁.setTop (mkF m 48 #[.val (.ref a1), .val (.int v1), .val (.ref a2), .val (.int v2), .val (.int d), .val (.int v3), .val (.long ((v1.toInt64) + (v3.toInt64))), .second, .val (.long ((v2.toInt64) + (v3.toInt64))), .second] [])) (fun _ k => XS.lstore X0.here hx rfl (hb hby d3_46) rfl (l' := #[.val (.ref a1), .val (.int v1), .val (.ref a2), .val (.int v2), .val (.int d), .val (.int v3), .val (.long ((v1.toInt64) + (v3.toInt64))), .second, .val (.long ((v2.toInt64) + (v3.toInt64))), .second]) rfl k) ?_
    have ei9 : ((v1.toInt64) + (v3.toInt64)) = ix d v1 v3 := by simp only [ix, hc8, if_true, if_false]
    have ej10 : ((v2.toInt64) + (v3.toInt64)) = ix d v2 v3 := by simp only [ix, hc8, if_true, if_false]
    rw [ei9, ej10]
    exact rest3
  · refine Ends.st (S' := s₁.setTop (mkF m 14 #[.val (.ref a1), .val (.int v1), .val (.ref a2), .val (.int v2), .val (.int d), .val (.int v3), .unset, .unset, .unset, .unset] [])) (fun _ k => XS.ifYes X0.here hx rfl (pc0 := 2) (pc' := 14) rfl (hb hby d3_2) rfl ((if0 _ _).trans (flt hc8).2.2.2) (by decide) (by decide) k) ?_
    refine Ends.st (S' := s₁.setTop (mkF m 15 #[.val (.ref a1), .val (.int v1), .val (.ref a2), .val (.int v2), .val (.int d), .val (.int v3), .unset, .unset, .unset, .unset] [(.int v1)])) (fun _ k => XS.iloadN X0.here hx rfl (hb hby d3_14) rfl k) ?_
    refine Ends.st (S' := s₁.setTop (mkF m 16 #[.val (.ref a1), .val (.int v1), .val (.ref a2), .val (.int v2), .val (.int d), .val (.int v3), .unset, .unset, .unset, .unset] [(.long (v1.toInt64))])) (fun _ k => XS.i2l X0.here hx rfl (hb hby d3_15) rfl k) ?_
    refine Ends.st (S' := s₁.setTop (mkF m 17 #[.val (.ref a1), .val (.int v1), .val (.ref a2), .val (.int v2), .val (.int d), .val (.int v3), .unset, .unset, .unset, .unset] [(.long (1 : Int64)), (.long (v1.toInt64))])) (fun _ k => XS.lconst X0.here hx rfl (hb hby d3_16) k) ?_
    refine Ends.st (S' := s₁.setTop (mkF m 18 #[.val (.ref a1), .val (.int v1), .val (.ref a2), .val (.int v2), .val (.int d), .val (.int v3), .unset, .unset, .unset, .unset] [(.long ((v1.toInt64) - (1 : Int64)))])) (fun _ k => XS.lsub X0.here hx rfl (hb hby d3_17) rfl k) ?_
    refine Ends.st (S' := s₁.setTop (mkF m 20 #[.val (.ref a1), .val (.int v1), .val (.ref a2), .val (.int v2), .val (.int d), .val (.int v3), .unset, .unset, .unset, .unset] [(.int v3), (.long ((v1.toInt64) - (1 : Int64)))])) (fun _ k => XS.iload X0.here hx rfl (hb hby d3_18) rfl k) ?_
    refine Ends.st (S' := s₁.setTop (mkF m 21 #[.val (.ref a1), .val (.int v1), .val (.ref a2), .val (.int v2), .val (.int d), .val (.int v3), .unset, .unset, .unset, .unset] [(.long (v3.toInt64)), (.long ((v1.toInt64) - (1 : Int64)))])) (fun _ k => XS.i2l X0.here hx rfl (hb hby d3_20) rfl k) ?_
    refine Ends.st (S' := s₁.setTop (mkF m 22 #[.val (.ref a1), .val (.int v1), .val (.ref a2), .val (.int v2), .val (.int d), .val (.int v3), .unset, .unset, .unset, .unset] [(.long (((v1.toInt64) - (1 : Int64)) - (v3.toInt64)))])) (fun _ k => XS.lsub X0.here hx rfl (hb hby d3_21) rfl k) ?_
    refine Ends.st (S' := s₁.setTop (mkF m 24 #[.val (.ref a1), .val (.int v1), .val (.ref a2), .val (.int v2), .val (.int d), .val (.int v3), .val (.long (((v1.toInt64) - (1 : Int64)) - (v3.toInt64))), .second, .unset, .unset] [])) (fun _ k => XS.lstore X0.here hx rfl (hb hby d3_22) rfl (l' := #[.val (.ref a1), .val (.int v1), .val (.ref a2), .val (.int v2), .val (.int d), .val (.int v3), .val (.long (((v1.toInt64) - (1 : Int64)) - (v3.toInt64))), .second, .unset, .unset]) rfl k) ?_
    refine Ends.st (S' := s₁.setTop (mkF m 26 #[.val (.ref a1), .val (.int v1), .val (.ref a2), .val (.int v2), .val (.int d), .val (.int v3), .val (.long (((v1.toInt64) - (1 : Int64)) - (v3.toInt64))), .second, .unset, .unset] [(.int d)])) (fun _ k => XS.iload X0.here hx rfl (hb hby d3_24) rfl k) ?_
    refine Ends.st (S' := s₁.setTop (mkF m 38 #[.val (.ref a1), .val (.int v1), .val (.ref a2), .val (.int v2), .val (.int d), .val (.int v3), .val (.long (((v1.toInt64) - (1 : Int64)) - (v3.toInt64))), .second, .unset, .unset] [])) (fun _ k => XS.ifYes X0.here hx rfl (pc0 := 26) (pc' := 38) rfl (hb hby d3_26) rfl ((if0 _ _).trans (flt hc8).2.2.2) (by decide) (by decide) k) ?_
    refine Ends.st (S' := s₁.setTop (mkF m 39 #[.val (.ref a1), .val (.int v1), .val (.ref a2), .val (.int v2), .val (.int d), .val (.int v3), .val (.long (((v1.toInt64) - (1 : Int64)) - (v3.toInt64))), .second, .unset, .unset] [(.int v2)])) (fun _ k => XS.iloadN X0.here hx rfl (hb hby d3_38) rfl k) ?_
    refine Ends.st (S' := s₁.setTop (mkF m 40 #[.val (.ref a1), .val (.int v1), .val (.ref a2), .val (.int v2), .val (.int d), .val (.int v3), .val (.long (((v1.toInt64) - (1 : Int64)) - (v3.toInt64))), .second, .unset, .unset] [(.long (v2.toInt64))])) (fun _ k => XS.i2l X0.here hx rfl (hb hby d3_39) rfl k) ?_
    refine Ends.st (S' := s₁.setTop (mkF m 41 #[.val (.ref a1), .val (.int v1), .val (.ref a2), .val (.int v2), .val (.int d), .val (.int v3), .val (.long (((v1.toInt64) - (1 : Int64)) - (v3.toInt64))), .second, .unset, .unset] [(.long (1 : Int64)), (.long (v2.toInt64))])) (fun _ k => XS.lconst X0.here hx rfl (hb hby d3_40) k) ?_
    refine Ends.st (S' := s₁.setTop (mkF m 42 #[.val (.ref a1), .val (.int v1), .val (.ref a2), .val (.int v2), .val (.int d), .val (.int v3), .val (.long (((v1.toInt64) - (1 : Int64)) - (v3.toInt64))), .second, .unset, .unset] [(.long ((v2.toInt64) - (1 : Int64)))])) (fun _ k => XS.lsub X0.here hx rfl (hb hby d3_41) rfl k) ?_
    refine Ends.st (S' := s₁.setTop (mkF m 44 #[.val (.ref a1), .val (.int v1), .val (.ref a2), .val (.int v2), .val (.int d), .val (.int v3), .val (.long (((v1.toInt64) - (1 : Int64)) - (v3.toInt64))), .second, .unset, .unset] [(.int v3), (.long ((v2.toInt64) - (1 : Int64)))])) (fun _ k => XS.iload X0.here hx rfl (hb hby d3_42) rfl k) ?_
    refine Ends.st (S' := s₁.setTop (mkF m 45 #[.val (.ref a1), .val (.int v1), .val (.ref a2), .val (.int v2), .val (.int d), .val (.int v3), .val (.long (((v1.toInt64) - (1 : Int64)) - (v3.toInt64))), .second, .unset, .unset] [(.long (v3.toInt64)), (.long ((v2.toInt64) - (1 : Int64)))])) (fun _ k => XS.i2l X0.here hx rfl (hb hby d3_44) rfl k) ?_
    refine Ends.st (S' := s₁.setTop (mkF m 46 #[.val (.ref a1), .val (.int v1), .val (.ref a2), .val (.int v2), .val (.int d), .val (.int v3), .val (.long (((v1.toInt64) - (1 : Int64)) - (v3.toInt64))), .second, .unset, .unset] [(.long (((v2.toInt64) - (1 : Int64)) - (v3.toInt64)))])) (fun _ k => XS.lsub X0.here hx rfl (hb hby d3_45) rfl k) ?_
    refine Ends.st (S' := s₁.setTop (mkF m 48 #[.val (.ref a1), .val (.int v1), .val (.ref a2), .val (.int v2), .val (.int d), .val (.int v3), .val (.long (((v1.toInt64) - (1 : Int64)) - (v3.toInt64))), .second, .val (.long (((v2.toInt64) - (1 : Int64)) - (v3.toInt64))), .second] [])) (fun _ k => XS.lstore X0.here hx rfl (hb hby d3_46) rfl (l' := #[.val (.ref a1), .val (.int v1), .val (.ref a2), .val (.int v2), .val (.int d), .val (.int v3), .val (.long (((v1.toInt64) - (1 : Int64)) - (v3.toInt64))), .second, .val (.long (((v2.toInt64) - (1 : Int64)) - (v3.toInt64))), .second]) rfl k) ?_
    have ei11 : (((v1.toInt64) - (1 : Int64)) - (v3.toInt64)) = ix d v1 v3 := by simp only [ix, hc8, if_true, if_false]
    have ej12 : (((v2.toInt64) - (1 : Int64)) - (v3.toInt64)) = ix d v2 v3 := by simp only [ix, hc8, if_true, if_false]
    rw [ei11, ej12]
    exact rest3
theorem ef_rm0 (m : MethodId) (x0 : Int32) (x1 : Int32) (x2 : Int32) (x3 : Int32) (x4 : Int32)  : entryFrame m #[(.int x0), (.int x1), (.int x2), (.int x3), (.int x4)] maxLocals = mkF m 0 #[.val (.int x0), .val (.int x1), .val (.int x2), .val (.int x3), .val (.int x4), .unset, .unset, .unset, .unset, .unset, .unset, .unset, .unset, .unset, .unset] [] := by first | (simp [entryFrame, mkF, argsToLocals, Value.category, maxLocals]; done) | rfl
set_option maxRecDepth 65536 in
set_option maxHeartbeats 40000000 in
theorem rm0 (l : Launch) (Z : State) (a0 : Array Value) (hw : ∀ d ∈ tables_1, d.before a0 Z = true) (ws : List Jvm.Cond) (v0 : Int32) (v1 : Int32) (v2 : Int32) (v3 : Int32) (v4 : Int32) (h0 : Heap) (n0 : Nat) (Z0 : n0 ≤ h0.size) :
    MetFree l x (head1 (Jvm.Cond.code x code maxLocals ret :: ws) room_1) (fun a U => a = #[(.int v0), (.int v1), (.int v2), (.int v3), (.int v4)] ∧ Z.Warmed39 U.vm ∧ U.heap = h0) (fun _ _ _ _ _ => True) (fun _ U o U' => ∃ v L, o = .returned v ∧ Q0 Z  h0 n0 v U'.heap L ∧ FrameEnd U o U' L room_1.cells room_1.slots) := by
  refine MetFree.of_bodySF (plainFor_of_name pn_0) hisR ?_
  intro p e s m args below meth c s₁ Bd hml0 hP hK
  obtain ⟨rfl, hZ, hh⟩ := hP
  have hx := Bd.exec
  have hby := Bd.bytes
  have hml : c.maxLocals = 15 := hml0
  have hown : s.vm.findClass "com/example/umpteenth_copy/umpteenthcopy/engine/MatchSameFromPinLaw" = some m.cls := findClass_of_methodNamed Bd.named
  have hnm := (name_of_methodNamed Bd.named Bd.method).1
  have X0 : Stand p l e room_1 s m #[(.int v0), (.int v1), (.int v2), (.int v3), (.int v4)] below meth c s₁ [] 0 0 := Stand.of_body Bd
  have e0 : s₁.heap = h0 := by rw [← hh, Bd.state]; rfl
  have N0 := Fr.nil n0
  refine Ends.st (tb := p.tables) (e := e) (below := below) (S' := s₁.setTop (mkF m 0 #[.val (.int v0), .val (.int v1), .val (.int v2), .val (.int v3), .val (.int v4), .unset, .unset, .unset, .unset, .unset, .unset, .unset, .unset, .unset, .unset] [])) (fun t k => castTop (ef_rm0 m v0 v1 v2 v3 v4) k) ?_
  refine Ends.st (S' := s₁.setTop (mkF m 1 #[.val (.int v0), .val (.int v1), .val (.int v2), .val (.int v3), .val (.int v4), .unset, .unset, .unset, .unset, .unset, .unset, .unset, .unset, .unset, .unset] [(.int v0)])) (fun _ k => XS.iloadN X0.here hx rfl (hb hby at_0) rfl k) ?_
  refine Ends.st (S' := s₁.setTop (mkF m 2 #[.val (.int v0), .val (.int v1), .val (.int v2), .val (.int v3), .val (.int v4), .unset, .unset, .unset, .unset, .unset, .unset, .unset, .unset, .unset, .unset] [(.int (3 : Int32)), (.int v0)])) (fun _ k => XS.iconst X0.here hx rfl (hb hby at_1) k) ?_
  refine Ends.st (S' := s₁.setTop (mkF m 3 #[.val (.int v0), .val (.int v1), .val (.int v2), .val (.int v3), .val (.int v4), .unset, .unset, .unset, .unset, .unset, .unset, .unset, .unset, .unset, .unset] [(.int (v0 &&& (3 : Int32)))])) (fun _ k => XS.iand X0.here hx rfl (hb hby at_2) rfl k) ?_
  refine Ends.st (S' := s₁.setTop (mkF m 5 #[.val (.int v0), .val (.int v1), .val (.int v2), .val (.int v3), .val (.int v4), .val (.int (v0 &&& (3 : Int32))), .unset, .unset, .unset, .unset, .unset, .unset, .unset, .unset, .unset] [])) (fun _ k => XS.istore X0.here hx rfl (hb hby at_3) rfl (l' := #[.val (.int v0), .val (.int v1), .val (.int v2), .val (.int v3), .val (.int v4), .val (.int (v0 &&& (3 : Int32))), .unset, .unset, .unset, .unset, .unset, .unset, .unset, .unset, .unset]) rfl k) ?_
  refine Ends.st (S' := s₁.setTop (mkF m 6 #[.val (.int v0), .val (.int v1), .val (.int v2), .val (.int v3), .val (.int v4), .val (.int (v0 &&& (3 : Int32))), .unset, .unset, .unset, .unset, .unset, .unset, .unset, .unset, .unset] [(.int v0)])) (fun _ k => XS.iloadN X0.here hx rfl (hb hby at_5) rfl k) ?_
  refine Ends.st (S' := s₁.setTop (mkF m 7 #[.val (.int v0), .val (.int v1), .val (.int v2), .val (.int v3), .val (.int v4), .val (.int (v0 &&& (3 : Int32))), .unset, .unset, .unset, .unset, .unset, .unset, .unset, .unset, .unset] [(.int (2 : Int32)), (.int v0)])) (fun _ k => XS.iconst X0.here hx rfl (hb hby at_6) k) ?_
  refine Ends.st (S' := s₁.setTop (mkF m 8 #[.val (.int v0), .val (.int v1), .val (.int v2), .val (.int v3), .val (.int v4), .val (.int (v0 &&& (3 : Int32))), .unset, .unset, .unset, .unset, .unset, .unset, .unset, .unset, .unset] [(.int ((v0.toUInt32 >>> ((2 : Int32) &&& 31).toUInt32).toInt32))])) (fun _ k => XS.iushr X0.here hx rfl (hb hby at_7) rfl k) ?_
  refine Ends.st (S' := s₁.setTop (mkF m 9 #[.val (.int v0), .val (.int v1), .val (.int v2), .val (.int v3), .val (.int v4), .val (.int (v0 &&& (3 : Int32))), .unset, .unset, .unset, .unset, .unset, .unset, .unset, .unset, .unset] [(.int (3 : Int32)), (.int ((v0.toUInt32 >>> ((2 : Int32) &&& 31).toUInt32).toInt32))])) (fun _ k => XS.iconst X0.here hx rfl (hb hby at_8) k) ?_
  refine Ends.st (S' := s₁.setTop (mkF m 10 #[.val (.int v0), .val (.int v1), .val (.int v2), .val (.int v3), .val (.int v4), .val (.int (v0 &&& (3 : Int32))), .unset, .unset, .unset, .unset, .unset, .unset, .unset, .unset, .unset] [(.int (((v0.toUInt32 >>> ((2 : Int32) &&& 31).toUInt32).toInt32) &&& (3 : Int32)))])) (fun _ k => XS.iand X0.here hx rfl (hb hby at_9) rfl k) ?_
  refine Ends.st (S' := s₁.setTop (mkF m 12 #[.val (.int v0), .val (.int v1), .val (.int v2), .val (.int v3), .val (.int v4), .val (.int (v0 &&& (3 : Int32))), .val (.int (((v0.toUInt32 >>> ((2 : Int32) &&& 31).toUInt32).toInt32) &&& (3 : Int32))), .unset, .unset, .unset, .unset, .unset, .unset, .unset, .unset] [])) (fun _ k => XS.istore X0.here hx rfl (hb hby at_10) rfl (l' := #[.val (.int v0), .val (.int v1), .val (.int v2), .val (.int v3), .val (.int v4), .val (.int (v0 &&& (3 : Int32))), .val (.int (((v0.toUInt32 >>> ((2 : Int32) &&& 31).toUInt32).toInt32) &&& (3 : Int32))), .unset, .unset, .unset, .unset, .unset, .unset, .unset, .unset]) rfl k) ?_
  refine Ends.st (S' := s₁.setTop (mkF m 14 #[.val (.int v0), .val (.int v1), .val (.int v2), .val (.int v3), .val (.int v4), .val (.int (v0 &&& (3 : Int32))), .val (.int (((v0.toUInt32 >>> ((2 : Int32) &&& 31).toUInt32).toInt32) &&& (3 : Int32))), .unset, .unset, .unset, .unset, .unset, .unset, .unset, .unset] [(.int (v0 &&& (3 : Int32)))])) (fun _ k => XS.iload X0.here hx rfl (hb hby at_12) rfl k) ?_
  refine Ends.st (S' := s₁.setTop (mkF m 15 #[.val (.int v0), .val (.int v1), .val (.int v2), .val (.int v3), .val (.int v4), .val (.int (v0 &&& (3 : Int32))), .val (.int (((v0.toUInt32 >>> ((2 : Int32) &&& 31).toUInt32).toInt32) &&& (3 : Int32))), .unset, .unset, .unset, .unset, .unset, .unset, .unset, .unset] [(.int v1), (.int (v0 &&& (3 : Int32)))])) (fun _ k => XS.iloadN X0.here hx rfl (hb hby at_14) rfl k) ?_
  refine Ends.st (S' := s₁.setTop (mkF m 16 #[.val (.int v0), .val (.int v1), .val (.int v2), .val (.int v3), .val (.int v4), .val (.int (v0 &&& (3 : Int32))), .val (.int (((v0.toUInt32 >>> ((2 : Int32) &&& 31).toUInt32).toInt32) &&& (3 : Int32))), .unset, .unset, .unset, .unset, .unset, .unset, .unset, .unset] [(.int (3 : Int32)), (.int v1), (.int (v0 &&& (3 : Int32)))])) (fun _ k => XS.iconst X0.here hx rfl (hb hby at_15) k) ?_
  refine Ends.st (S' := s₁.setTop (mkF m 17 #[.val (.int v0), .val (.int v1), .val (.int v2), .val (.int v3), .val (.int v4), .val (.int (v0 &&& (3 : Int32))), .val (.int (((v0.toUInt32 >>> ((2 : Int32) &&& 31).toUInt32).toInt32) &&& (3 : Int32))), .unset, .unset, .unset, .unset, .unset, .unset, .unset, .unset] [(.int (v1 &&& (3 : Int32))), (.int (v0 &&& (3 : Int32)))])) (fun _ k => XS.iand X0.here hx rfl (hb hby at_16) rfl k) ?_
  refine Ends.st (S' := s₁.setTop (mkF m 18 #[.val (.int v0), .val (.int v1), .val (.int v2), .val (.int v3), .val (.int v4), .val (.int (v0 &&& (3 : Int32))), .val (.int (((v0.toUInt32 >>> ((2 : Int32) &&& 31).toUInt32).toInt32) &&& (3 : Int32))), .unset, .unset, .unset, .unset, .unset, .unset, .unset, .unset] [(.int v1), (.int (v1 &&& (3 : Int32))), (.int (v0 &&& (3 : Int32)))])) (fun _ k => XS.iloadN X0.here hx rfl (hb hby at_17) rfl k) ?_
  refine Ends.st (S' := s₁.setTop (mkF m 19 #[.val (.int v0), .val (.int v1), .val (.int v2), .val (.int v3), .val (.int v4), .val (.int (v0 &&& (3 : Int32))), .val (.int (((v0.toUInt32 >>> ((2 : Int32) &&& 31).toUInt32).toInt32) &&& (3 : Int32))), .unset, .unset, .unset, .unset, .unset, .unset, .unset, .unset] [(.int (2 : Int32)), (.int v1), (.int (v1 &&& (3 : Int32))), (.int (v0 &&& (3 : Int32)))])) (fun _ k => XS.iconst X0.here hx rfl (hb hby at_18) k) ?_
  refine Ends.st (S' := s₁.setTop (mkF m 20 #[.val (.int v0), .val (.int v1), .val (.int v2), .val (.int v3), .val (.int v4), .val (.int (v0 &&& (3 : Int32))), .val (.int (((v0.toUInt32 >>> ((2 : Int32) &&& 31).toUInt32).toInt32) &&& (3 : Int32))), .unset, .unset, .unset, .unset, .unset, .unset, .unset, .unset] [(.int ((v1.toUInt32 >>> ((2 : Int32) &&& 31).toUInt32).toInt32)), (.int (v1 &&& (3 : Int32))), (.int (v0 &&& (3 : Int32)))])) (fun _ k => XS.iushr X0.here hx rfl (hb hby at_19) rfl k) ?_
  refine Ends.st (S' := s₁.setTop (mkF m 21 #[.val (.int v0), .val (.int v1), .val (.int v2), .val (.int v3), .val (.int v4), .val (.int (v0 &&& (3 : Int32))), .val (.int (((v0.toUInt32 >>> ((2 : Int32) &&& 31).toUInt32).toInt32) &&& (3 : Int32))), .unset, .unset, .unset, .unset, .unset, .unset, .unset, .unset] [(.int (3 : Int32)), (.int ((v1.toUInt32 >>> ((2 : Int32) &&& 31).toUInt32).toInt32)), (.int (v1 &&& (3 : Int32))), (.int (v0 &&& (3 : Int32)))])) (fun _ k => XS.iconst X0.here hx rfl (hb hby at_20) k) ?_
  refine Ends.st (S' := s₁.setTop (mkF m 22 #[.val (.int v0), .val (.int v1), .val (.int v2), .val (.int v3), .val (.int v4), .val (.int (v0 &&& (3 : Int32))), .val (.int (((v0.toUInt32 >>> ((2 : Int32) &&& 31).toUInt32).toInt32) &&& (3 : Int32))), .unset, .unset, .unset, .unset, .unset, .unset, .unset, .unset] [(.int (((v1.toUInt32 >>> ((2 : Int32) &&& 31).toUInt32).toInt32) &&& (3 : Int32))), (.int (v1 &&& (3 : Int32))), (.int (v0 &&& (3 : Int32)))])) (fun _ k => XS.iand X0.here hx rfl (hb hby at_21) rfl k) ?_
  refine Ends.st (S' := s₁.setTop (mkF m 23 #[.val (.int v0), .val (.int v1), .val (.int v2), .val (.int v3), .val (.int v4), .val (.int (v0 &&& (3 : Int32))), .val (.int (((v0.toUInt32 >>> ((2 : Int32) &&& 31).toUInt32).toInt32) &&& (3 : Int32))), .unset, .unset, .unset, .unset, .unset, .unset, .unset, .unset] [(.int v1), (.int (((v1.toUInt32 >>> ((2 : Int32) &&& 31).toUInt32).toInt32) &&& (3 : Int32))), (.int (v1 &&& (3 : Int32))), (.int (v0 &&& (3 : Int32)))])) (fun _ k => XS.iloadN X0.here hx rfl (hb hby at_22) rfl k) ?_
  refine Ends.st (S' := s₁.setTop (mkF m 24 #[.val (.int v0), .val (.int v1), .val (.int v2), .val (.int v3), .val (.int v4), .val (.int (v0 &&& (3 : Int32))), .val (.int (((v0.toUInt32 >>> ((2 : Int32) &&& 31).toUInt32).toInt32) &&& (3 : Int32))), .unset, .unset, .unset, .unset, .unset, .unset, .unset, .unset] [(.int (4 : Int32)), (.int v1), (.int (((v1.toUInt32 >>> ((2 : Int32) &&& 31).toUInt32).toInt32) &&& (3 : Int32))), (.int (v1 &&& (3 : Int32))), (.int (v0 &&& (3 : Int32)))])) (fun _ k => XS.iconst X0.here hx rfl (hb hby at_23) k) ?_
  refine Ends.st (S' := s₁.setTop (mkF m 25 #[.val (.int v0), .val (.int v1), .val (.int v2), .val (.int v3), .val (.int v4), .val (.int (v0 &&& (3 : Int32))), .val (.int (((v0.toUInt32 >>> ((2 : Int32) &&& 31).toUInt32).toInt32) &&& (3 : Int32))), .unset, .unset, .unset, .unset, .unset, .unset, .unset, .unset] [(.int ((v1.toUInt32 >>> ((4 : Int32) &&& 31).toUInt32).toInt32)), (.int (((v1.toUInt32 >>> ((2 : Int32) &&& 31).toUInt32).toInt32) &&& (3 : Int32))), (.int (v1 &&& (3 : Int32))), (.int (v0 &&& (3 : Int32)))])) (fun _ k => XS.iushr X0.here hx rfl (hb hby at_24) rfl k) ?_
  refine Ends.st (S' := s₁.setTop (mkF m 26 #[.val (.int v0), .val (.int v1), .val (.int v2), .val (.int v3), .val (.int v4), .val (.int (v0 &&& (3 : Int32))), .val (.int (((v0.toUInt32 >>> ((2 : Int32) &&& 31).toUInt32).toInt32) &&& (3 : Int32))), .unset, .unset, .unset, .unset, .unset, .unset, .unset, .unset] [(.int (3 : Int32)), (.int ((v1.toUInt32 >>> ((4 : Int32) &&& 31).toUInt32).toInt32)), (.int (((v1.toUInt32 >>> ((2 : Int32) &&& 31).toUInt32).toInt32) &&& (3 : Int32))), (.int (v1 &&& (3 : Int32))), (.int (v0 &&& (3 : Int32)))])) (fun _ k => XS.iconst X0.here hx rfl (hb hby at_25) k) ?_
  refine Ends.st (S' := s₁.setTop (mkF m 27 #[.val (.int v0), .val (.int v1), .val (.int v2), .val (.int v3), .val (.int v4), .val (.int (v0 &&& (3 : Int32))), .val (.int (((v0.toUInt32 >>> ((2 : Int32) &&& 31).toUInt32).toInt32) &&& (3 : Int32))), .unset, .unset, .unset, .unset, .unset, .unset, .unset, .unset] [(.int (((v1.toUInt32 >>> ((4 : Int32) &&& 31).toUInt32).toInt32) &&& (3 : Int32))), (.int (((v1.toUInt32 >>> ((2 : Int32) &&& 31).toUInt32).toInt32) &&& (3 : Int32))), (.int (v1 &&& (3 : Int32))), (.int (v0 &&& (3 : Int32)))])) (fun _ k => XS.iand X0.here hx rfl (hb hby at_26) rfl k) ?_
  obtain ⟨_, _, ⟨T1, L1, k1, n1⟩, -, X1, ⟨Lc1, hQ1, l1, y1, z1⟩, st1⟩ := Jvm.LawKit.callS X0 hx (y := (⟨"com/example/umpteenth_copy/umpteenthcopy/engine/MatchSameFromPinLaw", "make", "(IIII)[I"⟩ : MethodName)) hown (mvT hZ (hw _ (List.mem_of_getElem? (i := 0) rfl))) (mvT hZ (hw _ (List.mem_of_getElem? (i := 1) rfl))) (mvT hZ (hw _ (List.mem_of_getElem? (i := 2) rfl))) (mvT hZ (hw _ (List.mem_of_getElem? (i := 3) rfl))) (by decide) (backOf (W := 0) (rm1 l Z a0 hw [] (v0 &&& (3 : Int32)) (v1 &&& (3 : Int32)) (((v1.toUInt32 >>> ((2 : Int32) &&& 31).toUInt32).toInt32) &&& (3 : Int32)) (((v1.toUInt32 >>> ((4 : Int32) &&& 31).toUInt32).toInt32) &&& (3 : Int32)) h0 n0 Z0) hZ (hw _ (List.mem_of_getElem? (i := 3) rfl)) (hw _ (List.mem_of_getElem? (i := 2) rfl)) (by decide) (by decide)) (g := (mkF m 27 #[.val (.int v0), .val (.int v1), .val (.int v2), .val (.int v3), .val (.int v4), .val (.int (v0 &&& (3 : Int32))), .val (.int (((v0.toUInt32 >>> ((2 : Int32) &&& 31).toUInt32).toInt32) &&& (3 : Int32))), .unset, .unset, .unset, .unset, .unset, .unset, .unset, .unset] [(.int (((v1.toUInt32 >>> ((4 : Int32) &&& 31).toUInt32).toInt32) &&& (3 : Int32))), (.int (((v1.toUInt32 >>> ((2 : Int32) &&& 31).toUInt32).toInt32) &&& (3 : Int32))), (.int (v1 &&& (3 : Int32))), (.int (v0 &&& (3 : Int32)))])) rfl (by rw [hml]; rfl) (argsL := [(.int (v0 &&& (3 : Int32))), (.int (v1 &&& (3 : Int32))), (.int (((v1.toUInt32 >>> ((2 : Int32) &&& 31).toUInt32).toInt32) &&& (3 : Int32))), (.int (((v1.toUInt32 >>> ((4 : Int32) &&& 31).toUInt32).toInt32) &&& (3 : Int32)))]) (rest := []) (lenOf pd_0 rfl) rfl (by show 2 * 0 + _ ≤ _; exact Nat.le_of_eq rfl) (hb hby at_27) (fun _ _ => ⟨rfl, e0, (by decide : 0 + 1 ≤ _), (by decide : 0 + 3 ≤ _)⟩)
  dsimp only [Pt.U, Pt.locs, Pt.cells, Pt.slots] at X1 l1 y1 z1 st1 hQ1
  subst l1 y1 z1
  obtain ⟨b1, rfl, N1q, K1, G1⟩ := hQ1
  have N1 := Fr.app N0 N1q
  refine Ends.st (S' := T1.setTop (mkF m 30 #[.val (.int v0), .val (.int v1), .val (.int v2), .val (.int v3), .val (.int v4), .val (.int (v0 &&& (3 : Int32))), .val (.int (((v0.toUInt32 >>> ((2 : Int32) &&& 31).toUInt32).toInt32) &&& (3 : Int32))), .unset, .unset, .unset, .unset, .unset, .unset, .unset, .unset] [(.ref b1)])) (fun _ k => st1 _ k) ?_
  refine Ends.st (S' := T1.setTop (mkF m 32 #[.val (.int v0), .val (.int v1), .val (.int v2), .val (.int v3), .val (.int v4), .val (.int (v0 &&& (3 : Int32))), .val (.int (((v0.toUInt32 >>> ((2 : Int32) &&& 31).toUInt32).toInt32) &&& (3 : Int32))), .val (.ref b1), .unset, .unset, .unset, .unset, .unset, .unset, .unset] [])) (fun _ k => XS.astore X1.here hx rfl (hb hby at_30) rfl rfl (l' := #[.val (.int v0), .val (.int v1), .val (.int v2), .val (.int v3), .val (.int v4), .val (.int (v0 &&& (3 : Int32))), .val (.int (((v0.toUInt32 >>> ((2 : Int32) &&& 31).toUInt32).toInt32) &&& (3 : Int32))), .val (.ref b1), .unset, .unset, .unset, .unset, .unset, .unset, .unset]) rfl k) ?_
  refine Ends.st (S' := T1.setTop (mkF m 34 #[.val (.int v0), .val (.int v1), .val (.int v2), .val (.int v3), .val (.int v4), .val (.int (v0 &&& (3 : Int32))), .val (.int (((v0.toUInt32 >>> ((2 : Int32) &&& 31).toUInt32).toInt32) &&& (3 : Int32))), .val (.ref b1), .unset, .unset, .unset, .unset, .unset, .unset, .unset] [(.int (((v0.toUInt32 >>> ((2 : Int32) &&& 31).toUInt32).toInt32) &&& (3 : Int32)))])) (fun _ k => XS.iload X1.here hx rfl (hb hby at_32) rfl k) ?_
  refine Ends.st (S' := T1.setTop (mkF m 35 #[.val (.int v0), .val (.int v1), .val (.int v2), .val (.int v3), .val (.int v4), .val (.int (v0 &&& (3 : Int32))), .val (.int (((v0.toUInt32 >>> ((2 : Int32) &&& 31).toUInt32).toInt32) &&& (3 : Int32))), .val (.ref b1), .unset, .unset, .unset, .unset, .unset, .unset, .unset] [(.int v1), (.int (((v0.toUInt32 >>> ((2 : Int32) &&& 31).toUInt32).toInt32) &&& (3 : Int32)))])) (fun _ k => XS.iloadN X1.here hx rfl (hb hby at_34) rfl k) ?_
  refine Ends.st (S' := T1.setTop (mkF m 37 #[.val (.int v0), .val (.int v1), .val (.int v2), .val (.int v3), .val (.int v4), .val (.int (v0 &&& (3 : Int32))), .val (.int (((v0.toUInt32 >>> ((2 : Int32) &&& 31).toUInt32).toInt32) &&& (3 : Int32))), .val (.ref b1), .unset, .unset, .unset, .unset, .unset, .unset, .unset] [(.int (6 : Int32)), (.int v1), (.int (((v0.toUInt32 >>> ((2 : Int32) &&& 31).toUInt32).toInt32) &&& (3 : Int32)))])) (fun _ k => XS.bipush X1.here hx rfl (hb hby at_35) k) ?_
  refine Ends.st (S' := T1.setTop (mkF m 38 #[.val (.int v0), .val (.int v1), .val (.int v2), .val (.int v3), .val (.int v4), .val (.int (v0 &&& (3 : Int32))), .val (.int (((v0.toUInt32 >>> ((2 : Int32) &&& 31).toUInt32).toInt32) &&& (3 : Int32))), .val (.ref b1), .unset, .unset, .unset, .unset, .unset, .unset, .unset] [(.int ((v1.toUInt32 >>> ((6 : Int32) &&& 31).toUInt32).toInt32)), (.int (((v0.toUInt32 >>> ((2 : Int32) &&& 31).toUInt32).toInt32) &&& (3 : Int32)))])) (fun _ k => XS.iushr X1.here hx rfl (hb hby at_37) rfl k) ?_
  refine Ends.st (S' := T1.setTop (mkF m 39 #[.val (.int v0), .val (.int v1), .val (.int v2), .val (.int v3), .val (.int v4), .val (.int (v0 &&& (3 : Int32))), .val (.int (((v0.toUInt32 >>> ((2 : Int32) &&& 31).toUInt32).toInt32) &&& (3 : Int32))), .val (.ref b1), .unset, .unset, .unset, .unset, .unset, .unset, .unset] [(.int (3 : Int32)), (.int ((v1.toUInt32 >>> ((6 : Int32) &&& 31).toUInt32).toInt32)), (.int (((v0.toUInt32 >>> ((2 : Int32) &&& 31).toUInt32).toInt32) &&& (3 : Int32)))])) (fun _ k => XS.iconst X1.here hx rfl (hb hby at_38) k) ?_
  refine Ends.st (S' := T1.setTop (mkF m 40 #[.val (.int v0), .val (.int v1), .val (.int v2), .val (.int v3), .val (.int v4), .val (.int (v0 &&& (3 : Int32))), .val (.int (((v0.toUInt32 >>> ((2 : Int32) &&& 31).toUInt32).toInt32) &&& (3 : Int32))), .val (.ref b1), .unset, .unset, .unset, .unset, .unset, .unset, .unset] [(.int (((v1.toUInt32 >>> ((6 : Int32) &&& 31).toUInt32).toInt32) &&& (3 : Int32))), (.int (((v0.toUInt32 >>> ((2 : Int32) &&& 31).toUInt32).toInt32) &&& (3 : Int32)))])) (fun _ k => XS.iand X1.here hx rfl (hb hby at_39) rfl k) ?_
  refine Ends.st (S' := T1.setTop (mkF m 41 #[.val (.int v0), .val (.int v1), .val (.int v2), .val (.int v3), .val (.int v4), .val (.int (v0 &&& (3 : Int32))), .val (.int (((v0.toUInt32 >>> ((2 : Int32) &&& 31).toUInt32).toInt32) &&& (3 : Int32))), .val (.ref b1), .unset, .unset, .unset, .unset, .unset, .unset, .unset] [(.int v1), (.int (((v1.toUInt32 >>> ((6 : Int32) &&& 31).toUInt32).toInt32) &&& (3 : Int32))), (.int (((v0.toUInt32 >>> ((2 : Int32) &&& 31).toUInt32).toInt32) &&& (3 : Int32)))])) (fun _ k => XS.iloadN X1.here hx rfl (hb hby at_40) rfl k) ?_
  refine Ends.st (S' := T1.setTop (mkF m 43 #[.val (.int v0), .val (.int v1), .val (.int v2), .val (.int v3), .val (.int v4), .val (.int (v0 &&& (3 : Int32))), .val (.int (((v0.toUInt32 >>> ((2 : Int32) &&& 31).toUInt32).toInt32) &&& (3 : Int32))), .val (.ref b1), .unset, .unset, .unset, .unset, .unset, .unset, .unset] [(.int (8 : Int32)), (.int v1), (.int (((v1.toUInt32 >>> ((6 : Int32) &&& 31).toUInt32).toInt32) &&& (3 : Int32))), (.int (((v0.toUInt32 >>> ((2 : Int32) &&& 31).toUInt32).toInt32) &&& (3 : Int32)))])) (fun _ k => XS.bipush X1.here hx rfl (hb hby at_41) k) ?_
  refine Ends.st (S' := T1.setTop (mkF m 44 #[.val (.int v0), .val (.int v1), .val (.int v2), .val (.int v3), .val (.int v4), .val (.int (v0 &&& (3 : Int32))), .val (.int (((v0.toUInt32 >>> ((2 : Int32) &&& 31).toUInt32).toInt32) &&& (3 : Int32))), .val (.ref b1), .unset, .unset, .unset, .unset, .unset, .unset, .unset] [(.int ((v1.toUInt32 >>> ((8 : Int32) &&& 31).toUInt32).toInt32)), (.int (((v1.toUInt32 >>> ((6 : Int32) &&& 31).toUInt32).toInt32) &&& (3 : Int32))), (.int (((v0.toUInt32 >>> ((2 : Int32) &&& 31).toUInt32).toInt32) &&& (3 : Int32)))])) (fun _ k => XS.iushr X1.here hx rfl (hb hby at_43) rfl k) ?_
  refine Ends.st (S' := T1.setTop (mkF m 45 #[.val (.int v0), .val (.int v1), .val (.int v2), .val (.int v3), .val (.int v4), .val (.int (v0 &&& (3 : Int32))), .val (.int (((v0.toUInt32 >>> ((2 : Int32) &&& 31).toUInt32).toInt32) &&& (3 : Int32))), .val (.ref b1), .unset, .unset, .unset, .unset, .unset, .unset, .unset] [(.int (3 : Int32)), (.int ((v1.toUInt32 >>> ((8 : Int32) &&& 31).toUInt32).toInt32)), (.int (((v1.toUInt32 >>> ((6 : Int32) &&& 31).toUInt32).toInt32) &&& (3 : Int32))), (.int (((v0.toUInt32 >>> ((2 : Int32) &&& 31).toUInt32).toInt32) &&& (3 : Int32)))])) (fun _ k => XS.iconst X1.here hx rfl (hb hby at_44) k) ?_
  refine Ends.st (S' := T1.setTop (mkF m 46 #[.val (.int v0), .val (.int v1), .val (.int v2), .val (.int v3), .val (.int v4), .val (.int (v0 &&& (3 : Int32))), .val (.int (((v0.toUInt32 >>> ((2 : Int32) &&& 31).toUInt32).toInt32) &&& (3 : Int32))), .val (.ref b1), .unset, .unset, .unset, .unset, .unset, .unset, .unset] [(.int (((v1.toUInt32 >>> ((8 : Int32) &&& 31).toUInt32).toInt32) &&& (3 : Int32))), (.int (((v1.toUInt32 >>> ((6 : Int32) &&& 31).toUInt32).toInt32) &&& (3 : Int32))), (.int (((v0.toUInt32 >>> ((2 : Int32) &&& 31).toUInt32).toInt32) &&& (3 : Int32)))])) (fun _ k => XS.iand X1.here hx rfl (hb hby at_45) rfl k) ?_
  refine Ends.st (S' := T1.setTop (mkF m 47 #[.val (.int v0), .val (.int v1), .val (.int v2), .val (.int v3), .val (.int v4), .val (.int (v0 &&& (3 : Int32))), .val (.int (((v0.toUInt32 >>> ((2 : Int32) &&& 31).toUInt32).toInt32) &&& (3 : Int32))), .val (.ref b1), .unset, .unset, .unset, .unset, .unset, .unset, .unset] [(.int v1), (.int (((v1.toUInt32 >>> ((8 : Int32) &&& 31).toUInt32).toInt32) &&& (3 : Int32))), (.int (((v1.toUInt32 >>> ((6 : Int32) &&& 31).toUInt32).toInt32) &&& (3 : Int32))), (.int (((v0.toUInt32 >>> ((2 : Int32) &&& 31).toUInt32).toInt32) &&& (3 : Int32)))])) (fun _ k => XS.iloadN X1.here hx rfl (hb hby at_46) rfl k) ?_
  refine Ends.st (S' := T1.setTop (mkF m 49 #[.val (.int v0), .val (.int v1), .val (.int v2), .val (.int v3), .val (.int v4), .val (.int (v0 &&& (3 : Int32))), .val (.int (((v0.toUInt32 >>> ((2 : Int32) &&& 31).toUInt32).toInt32) &&& (3 : Int32))), .val (.ref b1), .unset, .unset, .unset, .unset, .unset, .unset, .unset] [(.int (10 : Int32)), (.int v1), (.int (((v1.toUInt32 >>> ((8 : Int32) &&& 31).toUInt32).toInt32) &&& (3 : Int32))), (.int (((v1.toUInt32 >>> ((6 : Int32) &&& 31).toUInt32).toInt32) &&& (3 : Int32))), (.int (((v0.toUInt32 >>> ((2 : Int32) &&& 31).toUInt32).toInt32) &&& (3 : Int32)))])) (fun _ k => XS.bipush X1.here hx rfl (hb hby at_47) k) ?_
  refine Ends.st (S' := T1.setTop (mkF m 50 #[.val (.int v0), .val (.int v1), .val (.int v2), .val (.int v3), .val (.int v4), .val (.int (v0 &&& (3 : Int32))), .val (.int (((v0.toUInt32 >>> ((2 : Int32) &&& 31).toUInt32).toInt32) &&& (3 : Int32))), .val (.ref b1), .unset, .unset, .unset, .unset, .unset, .unset, .unset] [(.int ((v1.toUInt32 >>> ((10 : Int32) &&& 31).toUInt32).toInt32)), (.int (((v1.toUInt32 >>> ((8 : Int32) &&& 31).toUInt32).toInt32) &&& (3 : Int32))), (.int (((v1.toUInt32 >>> ((6 : Int32) &&& 31).toUInt32).toInt32) &&& (3 : Int32))), (.int (((v0.toUInt32 >>> ((2 : Int32) &&& 31).toUInt32).toInt32) &&& (3 : Int32)))])) (fun _ k => XS.iushr X1.here hx rfl (hb hby at_49) rfl k) ?_
  refine Ends.st (S' := T1.setTop (mkF m 51 #[.val (.int v0), .val (.int v1), .val (.int v2), .val (.int v3), .val (.int v4), .val (.int (v0 &&& (3 : Int32))), .val (.int (((v0.toUInt32 >>> ((2 : Int32) &&& 31).toUInt32).toInt32) &&& (3 : Int32))), .val (.ref b1), .unset, .unset, .unset, .unset, .unset, .unset, .unset] [(.int (3 : Int32)), (.int ((v1.toUInt32 >>> ((10 : Int32) &&& 31).toUInt32).toInt32)), (.int (((v1.toUInt32 >>> ((8 : Int32) &&& 31).toUInt32).toInt32) &&& (3 : Int32))), (.int (((v1.toUInt32 >>> ((6 : Int32) &&& 31).toUInt32).toInt32) &&& (3 : Int32))), (.int (((v0.toUInt32 >>> ((2 : Int32) &&& 31).toUInt32).toInt32) &&& (3 : Int32)))])) (fun _ k => XS.iconst X1.here hx rfl (hb hby at_50) k) ?_
  refine Ends.st (S' := T1.setTop (mkF m 52 #[.val (.int v0), .val (.int v1), .val (.int v2), .val (.int v3), .val (.int v4), .val (.int (v0 &&& (3 : Int32))), .val (.int (((v0.toUInt32 >>> ((2 : Int32) &&& 31).toUInt32).toInt32) &&& (3 : Int32))), .val (.ref b1), .unset, .unset, .unset, .unset, .unset, .unset, .unset] [(.int (((v1.toUInt32 >>> ((10 : Int32) &&& 31).toUInt32).toInt32) &&& (3 : Int32))), (.int (((v1.toUInt32 >>> ((8 : Int32) &&& 31).toUInt32).toInt32) &&& (3 : Int32))), (.int (((v1.toUInt32 >>> ((6 : Int32) &&& 31).toUInt32).toInt32) &&& (3 : Int32))), (.int (((v0.toUInt32 >>> ((2 : Int32) &&& 31).toUInt32).toInt32) &&& (3 : Int32)))])) (fun _ k => XS.iand X1.here hx rfl (hb hby at_51) rfl k) ?_
  obtain ⟨_, _, ⟨T2, L2, k2, n2⟩, -, X2, ⟨Lc2, hQ2, l2, y2, z2⟩, st2⟩ := Jvm.LawKit.callS X1 hx (y := (⟨"com/example/umpteenth_copy/umpteenthcopy/engine/MatchSameFromPinLaw", "make", "(IIII)[I"⟩ : MethodName)) hown (mvT hZ (hw _ (List.mem_of_getElem? (i := 0) rfl))) (mvT hZ (hw _ (List.mem_of_getElem? (i := 1) rfl))) (mvT hZ (hw _ (List.mem_of_getElem? (i := 2) rfl))) (mvT hZ (hw _ (List.mem_of_getElem? (i := 3) rfl))) (by decide) (backOf (W := 0) (rm1 l Z a0 hw [] (((v0.toUInt32 >>> ((2 : Int32) &&& 31).toUInt32).toInt32) &&& (3 : Int32)) (((v1.toUInt32 >>> ((6 : Int32) &&& 31).toUInt32).toInt32) &&& (3 : Int32)) (((v1.toUInt32 >>> ((8 : Int32) &&& 31).toUInt32).toInt32) &&& (3 : Int32)) (((v1.toUInt32 >>> ((10 : Int32) &&& 31).toUInt32).toInt32) &&& (3 : Int32)) T1.heap n0 (Nat.le_trans Z0 K1.1)) hZ (hw _ (List.mem_of_getElem? (i := 3) rfl)) (hw _ (List.mem_of_getElem? (i := 2) rfl)) (by decide) (by decide)) (g := (mkF m 52 #[.val (.int v0), .val (.int v1), .val (.int v2), .val (.int v3), .val (.int v4), .val (.int (v0 &&& (3 : Int32))), .val (.int (((v0.toUInt32 >>> ((2 : Int32) &&& 31).toUInt32).toInt32) &&& (3 : Int32))), .val (.ref b1), .unset, .unset, .unset, .unset, .unset, .unset, .unset] [(.int (((v1.toUInt32 >>> ((10 : Int32) &&& 31).toUInt32).toInt32) &&& (3 : Int32))), (.int (((v1.toUInt32 >>> ((8 : Int32) &&& 31).toUInt32).toInt32) &&& (3 : Int32))), (.int (((v1.toUInt32 >>> ((6 : Int32) &&& 31).toUInt32).toInt32) &&& (3 : Int32))), (.int (((v0.toUInt32 >>> ((2 : Int32) &&& 31).toUInt32).toInt32) &&& (3 : Int32)))])) rfl (by rw [hml]; rfl) (argsL := [(.int (((v0.toUInt32 >>> ((2 : Int32) &&& 31).toUInt32).toInt32) &&& (3 : Int32))), (.int (((v1.toUInt32 >>> ((6 : Int32) &&& 31).toUInt32).toInt32) &&& (3 : Int32))), (.int (((v1.toUInt32 >>> ((8 : Int32) &&& 31).toUInt32).toInt32) &&& (3 : Int32))), (.int (((v1.toUInt32 >>> ((10 : Int32) &&& 31).toUInt32).toInt32) &&& (3 : Int32)))]) (rest := []) (lenOf pd_0 rfl) rfl (by show 2 * 0 + _ ≤ _; exact Nat.le_of_eq rfl) (hb hby at_52) (fun _ _ => ⟨rfl, rfl, (by decide : 0 + 1 + 1 ≤ _), (by decide : 0 + 3 + 3 ≤ _)⟩)
  dsimp only [Pt.U, Pt.locs, Pt.cells, Pt.slots] at X2 l2 y2 z2 st2 hQ2
  subst l2 y2 z2
  obtain ⟨b2, rfl, N2q, K2, G2⟩ := hQ2
  have N2 := Fr.app N1 N2q
  have I1' := IntA.keep G1 K2
  refine Ends.st (S' := T2.setTop (mkF m 55 #[.val (.int v0), .val (.int v1), .val (.int v2), .val (.int v3), .val (.int v4), .val (.int (v0 &&& (3 : Int32))), .val (.int (((v0.toUInt32 >>> ((2 : Int32) &&& 31).toUInt32).toInt32) &&& (3 : Int32))), .val (.ref b1), .unset, .unset, .unset, .unset, .unset, .unset, .unset] [(.ref b2)])) (fun _ k => st2 _ k) ?_
  refine Ends.st (S' := T2.setTop (mkF m 57 #[.val (.int v0), .val (.int v1), .val (.int v2), .val (.int v3), .val (.int v4), .val (.int (v0 &&& (3 : Int32))), .val (.int (((v0.toUInt32 >>> ((2 : Int32) &&& 31).toUInt32).toInt32) &&& (3 : Int32))), .val (.ref b1), .val (.ref b2), .unset, .unset, .unset, .unset, .unset, .unset] [])) (fun _ k => XS.astore X2.here hx rfl (hb hby at_55) rfl rfl (l' := #[.val (.int v0), .val (.int v1), .val (.int v2), .val (.int v3), .val (.int v4), .val (.int (v0 &&& (3 : Int32))), .val (.int (((v0.toUInt32 >>> ((2 : Int32) &&& 31).toUInt32).toInt32) &&& (3 : Int32))), .val (.ref b1), .val (.ref b2), .unset, .unset, .unset, .unset, .unset, .unset]) rfl k) ?_
  obtain ⟨l1, hl1⟩ : ∃ z, z = mlen (v0 &&& (3 : Int32)) := ⟨_, rfl⟩
  obtain ⟨g1, hg1⟩ : ∃ z, z = mf (v1 &&& (3 : Int32)) (((v1.toUInt32 >>> ((2 : Int32) &&& 31).toUInt32).toInt32) &&& (3 : Int32)) (((v1.toUInt32 >>> ((4 : Int32) &&& 31).toUInt32).toInt32) &&& (3 : Int32)) := ⟨_, rfl⟩
  have J1 := I1'
  rw [← hl1, ← hg1] at J1
  have bl1 : 0 ≤ l1.toInt ∧ l1.toInt ≤ 3 := hl1 ▸ own_mlen _
  obtain ⟨l2, hl2⟩ : ∃ z, z = mlen (((v0.toUInt32 >>> ((2 : Int32) &&& 31).toUInt32).toInt32) &&& (3 : Int32)) := ⟨_, rfl⟩
  obtain ⟨g2, hg2⟩ : ∃ z, z = mf (((v1.toUInt32 >>> ((6 : Int32) &&& 31).toUInt32).toInt32) &&& (3 : Int32)) (((v1.toUInt32 >>> ((8 : Int32) &&& 31).toUInt32).toInt32) &&& (3 : Int32)) (((v1.toUInt32 >>> ((10 : Int32) &&& 31).toUInt32).toInt32) &&& (3 : Int32)) := ⟨_, rfl⟩
  have J2 := G2
  rw [← hl2, ← hg2] at J2
  have bl2 : 0 ≤ l2.toInt ∧ l2.toInt ≤ 3 := hl2 ▸ own_mlen _
  obtain ⟨u5, hu5⟩ : ∃ z, z = (v0 &&& (3 : Int32)) := ⟨_, rfl⟩
  rw [← hu5]
  obtain ⟨u6, hu6⟩ : ∃ z, z = (((v0.toUInt32 >>> ((2 : Int32) &&& 31).toUInt32).toInt32) &&& (3 : Int32)) := ⟨_, rfl⟩
  rw [← hu6]
  have rest0 : ∀ wd pp qq d : Int32, d = 1 ∨ d = -1 → Ends p.tables e below (T2.setTop (mkF m 119 #[.val (.int v0), .val (.int v1), .val (.int v2), .val (.int v3), .val (.int v4), .val (.int u5), .val (.int u6), .val (.ref b1), .val (.ref b2), .val (.int wd), .val (.int pp), .val (.int qq), .val (.int d), .unset, .unset] [])) (fun (s₂ : State) (o : Outcome) => s₂.status = .running ∧ Ended s₂ below o ∧ ∃ v L, o = .returned v ∧ Q0 Z  h0 n0 v s₂.heap L ∧ FrameEnd s o s₂ L room_1.cells room_1.slots) := by
    intro wd pp qq d hd
    refine Ends.st (S' := T2.setTop (mkF m 121 #[.val (.int v0), .val (.int v1), .val (.int v2), .val (.int v3), .val (.int v4), .val (.int u5), .val (.int u6), .val (.ref b1), .val (.ref b2), .val (.int wd), .val (.int pp), .val (.int qq), .val (.int d), .unset, .unset] [(.ref b1)])) (fun _ k => XS.aload X2.here hx rfl (hb hby at_119) rfl rfl k) ?_
    refine Ends.st (S' := T2.setTop (mkF m 123 #[.val (.int v0), .val (.int v1), .val (.int v2), .val (.int v3), .val (.int v4), .val (.int u5), .val (.int u6), .val (.ref b1), .val (.ref b2), .val (.int wd), .val (.int pp), .val (.int qq), .val (.int d), .unset, .unset] [(.int pp), (.ref b1)])) (fun _ k => XS.iload X2.here hx rfl (hb hby at_121) rfl k) ?_
    refine Ends.st (S' := T2.setTop (mkF m 125 #[.val (.int v0), .val (.int v1), .val (.int v2), .val (.int v3), .val (.int v4), .val (.int u5), .val (.int u6), .val (.ref b1), .val (.ref b2), .val (.int wd), .val (.int pp), .val (.int qq), .val (.int d), .unset, .unset] [(.ref b2), (.int pp), (.ref b1)])) (fun _ k => XS.aload X2.here hx rfl (hb hby at_123) rfl rfl k) ?_
    refine Ends.st (S' := T2.setTop (mkF m 127 #[.val (.int v0), .val (.int v1), .val (.int v2), .val (.int v3), .val (.int v4), .val (.int u5), .val (.int u6), .val (.ref b1), .val (.ref b2), .val (.int wd), .val (.int pp), .val (.int qq), .val (.int d), .unset, .unset] [(.int qq), (.ref b2), (.int pp), (.ref b1)])) (fun _ k => XS.iload X2.here hx rfl (hb hby at_125) rfl k) ?_
    refine Ends.st (S' := T2.setTop (mkF m 129 #[.val (.int v0), .val (.int v1), .val (.int v2), .val (.int v3), .val (.int v4), .val (.int u5), .val (.int u6), .val (.ref b1), .val (.ref b2), .val (.int wd), .val (.int pp), .val (.int qq), .val (.int d), .unset, .unset] [(.int d), (.int qq), (.ref b2), (.int pp), (.ref b1)])) (fun _ k => XS.iload X2.here hx rfl (hb hby at_127) rfl k) ?_
    obtain ⟨_, _, ⟨T3, L3, k3, n3⟩, -, X3, ⟨Lc3, hQ3, l3, y3, z3⟩, st3⟩ := Jvm.LawKit.callS X2 hx (y := (⟨"com/example/umpteenth_copy/umpteenthcopy/engine/Match", "sameFrom", "([II[III)I"⟩ : MethodName)) hown (mvT hZ (hw _ (List.mem_of_getElem? (i := 5) rfl))) (mvT hZ (hw _ (List.mem_of_getElem? (i := 6) rfl))) (mvT hZ (hw _ (List.mem_of_getElem? (i := 7) rfl))) (mvT hZ (hw _ (List.mem_of_getElem? (i := 8) rfl))) (by decide) (backOf (W := 0) (rm2 l Z a0 hw [] l1 l2 g1 g2 d pp qq b1 b2 T2.heap n0 (Nat.le_trans (Nat.le_trans Z0 K1.1) K2.1) J1 J2 hd bl1.2) hZ (hw _ (List.mem_of_getElem? (i := 8) rfl)) (hw _ (List.mem_of_getElem? (i := 7) rfl)) (by decide) (by decide)) (g := (mkF m 129 #[.val (.int v0), .val (.int v1), .val (.int v2), .val (.int v3), .val (.int v4), .val (.int u5), .val (.int u6), .val (.ref b1), .val (.ref b2), .val (.int wd), .val (.int pp), .val (.int qq), .val (.int d), .unset, .unset] [(.int d), (.int qq), (.ref b2), (.int pp), (.ref b1)])) rfl (by rw [hml]; rfl) (argsL := [(.ref b1), (.int pp), (.ref b2), (.int qq), (.int d)]) (rest := []) (lenOf pd_1 rfl) rfl (by show 2 * 0 + _ ≤ _; exact Nat.le_of_eq rfl) (hb hby at_129) (fun _ _ => ⟨rfl, rfl, (by decide : 0 + 1 + 1 + 0 ≤ _), (by decide : 0 + 3 + 3 + 0 ≤ _)⟩)
    dsimp only [Pt.U, Pt.locs, Pt.cells, Pt.slots] at X3 l3 y3 z3 st3 hQ3
    subst l3 y3 z3
    obtain ⟨rfl, N3q, e3⟩ := hQ3
    have N3 := Fr.app N2 N3q
    refine Ends.st (S' := T3.setTop (mkF m 132 #[.val (.int v0), .val (.int v1), .val (.int v2), .val (.int v3), .val (.int v4), .val (.int u5), .val (.int u6), .val (.ref b1), .val (.ref b2), .val (.int wd), .val (.int pp), .val (.int qq), .val (.int d), .unset, .unset] [(.int (sf l1 l2 g1 g2 d 4 (st0 d pp) (st0 d qq) 0))])) (fun _ k => st3 _ k) ?_
    obtain ⟨rr, hrr⟩ : ∃ z, z = (sf l1 l2 g1 g2 d 4 (st0 d pp) (st0 d qq) 0) := ⟨_, rfl⟩
    rw [← hrr]
    obtain ⟨hr0, hr3, hrk, hrn⟩ := own_law hd bl1 bl2 hrr
    refine Ends.st (S' := T3.setTop (mkF m 134 #[.val (.int v0), .val (.int v1), .val (.int v2), .val (.int v3), .val (.int v4), .val (.int u5), .val (.int u6), .val (.ref b1), .val (.ref b2), .val (.int wd), .val (.int pp), .val (.int qq), .val (.int d), .val (.int rr), .unset] [])) (fun _ k => XS.istore X3.here hx rfl (hb hby at_132) rfl (l' := #[.val (.int v0), .val (.int v1), .val (.int v2), .val (.int v3), .val (.int v4), .val (.int u5), .val (.int u6), .val (.ref b1), .val (.ref b2), .val (.int wd), .val (.int pp), .val (.int qq), .val (.int d), .val (.int rr), .unset]) rfl k) ?_
    refine Ends.st (S' := T3.setTop (mkF m 136 #[.val (.int v0), .val (.int v1), .val (.int v2), .val (.int v3), .val (.int v4), .val (.int u5), .val (.int u6), .val (.ref b1), .val (.ref b2), .val (.int wd), .val (.int pp), .val (.int qq), .val (.int d), .val (.int rr), .unset] [(.int rr)])) (fun _ k => XS.iload X3.here hx rfl (hb hby at_134) rfl k) ?_
    have hb4 : ¬ (rr < (0 : Int32)) := hr0
    refine Ends.st (S' := T3.setTop (mkF m 139 #[.val (.int v0), .val (.int v1), .val (.int v2), .val (.int v3), .val (.int v4), .val (.int u5), .val (.int u6), .val (.ref b1), .val (.ref b2), .val (.int wd), .val (.int pp), .val (.int qq), .val (.int d), .val (.int rr), .unset] [])) (fun _ k => XS.ifNo X3.here hx rfl (hb hby at_136) rfl ((if0 _ _).trans (flt hb4).1) k) ?_
    refine Ends.st (S' := T3.setTop (mkF m 141 #[.val (.int v0), .val (.int v1), .val (.int v2), .val (.int v3), .val (.int v4), .val (.int u5), .val (.int u6), .val (.ref b1), .val (.ref b2), .val (.int wd), .val (.int pp), .val (.int qq), .val (.int d), .val (.int rr), .unset] [(.int rr)])) (fun _ k => XS.iload X3.here hx rfl (hb hby at_139) rfl k) ?_
    refine Ends.st (S' := T3.setTop (mkF m 142 #[.val (.int v0), .val (.int v1), .val (.int v2), .val (.int v3), .val (.int v4), .val (.int u5), .val (.int u6), .val (.ref b1), .val (.ref b2), .val (.int wd), .val (.int pp), .val (.int qq), .val (.int d), .val (.int rr), .unset] [(.int (3 : Int32)), (.int rr)])) (fun _ k => XS.iconst X3.here hx rfl (hb hby at_141) k) ?_
    have hb5 : ¬ ((3 : Int32) < rr) := hr3
    refine Ends.st (S' := T3.setTop (mkF m 147 #[.val (.int v0), .val (.int v1), .val (.int v2), .val (.int v3), .val (.int v4), .val (.int u5), .val (.int u6), .val (.ref b1), .val (.ref b2), .val (.int wd), .val (.int pp), .val (.int qq), .val (.int d), .val (.int rr), .unset] [])) (fun _ k => XS.icmpYes X3.here hx rfl (pc0 := 142) (pc' := 147) rfl (hb hby at_142) rfl (flt hb5).2.2.2 (by decide) (by decide) k) ?_
    refine Ends.st (S' := T3.setTop (mkF m 149 #[.val (.int v0), .val (.int v1), .val (.int v2), .val (.int v3), .val (.int v4), .val (.int u5), .val (.int u6), .val (.ref b1), .val (.ref b2), .val (.int wd), .val (.int pp), .val (.int qq), .val (.int d), .val (.int rr), .unset] [(.int rr)])) (fun _ k => XS.iload X3.here hx rfl (hb hby at_147) rfl k) ?_
    refine Ends.st (S' := T3.setTop (mkF m 150 #[.val (.int v0), .val (.int v1), .val (.int v2), .val (.int v3), .val (.int v4), .val (.int u5), .val (.int u6), .val (.ref b1), .val (.ref b2), .val (.int wd), .val (.int pp), .val (.int qq), .val (.int d), .val (.int rr), .unset] [(.int (1 : Int32)), (.int rr)])) (fun _ k => XS.iconst X3.here hx rfl (hb hby at_149) k) ?_
    by_cases hc6 : rr < (1 : Int32)
    · refine Ends.st (S' := T3.setTop (mkF m 170 #[.val (.int v0), .val (.int v1), .val (.int v2), .val (.int v3), .val (.int v4), .val (.int u5), .val (.int u6), .val (.ref b1), .val (.ref b2), .val (.int wd), .val (.int pp), .val (.int qq), .val (.int d), .val (.int rr), .unset] [])) (fun _ k => XS.icmpYes X3.here hx rfl (pc0 := 150) (pc' := 170) rfl (hb hby at_150) rfl (tlt hc6).1 (by decide) (by decide) k) ?_
      refine Ends.st (S' := T3.setTop (mkF m 172 #[.val (.int v0), .val (.int v1), .val (.int v2), .val (.int v3), .val (.int v4), .val (.int u5), .val (.int u6), .val (.ref b1), .val (.ref b2), .val (.int wd), .val (.int pp), .val (.int qq), .val (.int d), .val (.int rr), .unset] [(.int rr)])) (fun _ k => XS.iload X3.here hx rfl (hb hby at_170) rfl k) ?_
      refine Ends.st (S' := T3.setTop (mkF m 173 #[.val (.int v0), .val (.int v1), .val (.int v2), .val (.int v3), .val (.int v4), .val (.int u5), .val (.int u6), .val (.ref b1), .val (.ref b2), .val (.int wd), .val (.int pp), .val (.int qq), .val (.int d), .val (.int rr), .unset] [(.int (2 : Int32)), (.int rr)])) (fun _ k => XS.iconst X3.here hx rfl (hb hby at_172) k) ?_
      by_cases hc7 : rr < (2 : Int32)
      · refine Ends.st (S' := T3.setTop (mkF m 193 #[.val (.int v0), .val (.int v1), .val (.int v2), .val (.int v3), .val (.int v4), .val (.int u5), .val (.int u6), .val (.ref b1), .val (.ref b2), .val (.int wd), .val (.int pp), .val (.int qq), .val (.int d), .val (.int rr), .unset] [])) (fun _ k => XS.icmpYes X3.here hx rfl (pc0 := 173) (pc' := 193) rfl (hb hby at_173) rfl (tlt hc7).1 (by decide) (by decide) k) ?_
        refine Ends.st (S' := T3.setTop (mkF m 195 #[.val (.int v0), .val (.int v1), .val (.int v2), .val (.int v3), .val (.int v4), .val (.int u5), .val (.int u6), .val (.ref b1), .val (.ref b2), .val (.int wd), .val (.int pp), .val (.int qq), .val (.int d), .val (.int rr), .unset] [(.int rr)])) (fun _ k => XS.iload X3.here hx rfl (hb hby at_193) rfl k) ?_
        refine Ends.st (S' := T3.setTop (mkF m 196 #[.val (.int v0), .val (.int v1), .val (.int v2), .val (.int v3), .val (.int v4), .val (.int u5), .val (.int u6), .val (.ref b1), .val (.ref b2), .val (.int wd), .val (.int pp), .val (.int qq), .val (.int d), .val (.int rr), .unset] [(.int (3 : Int32)), (.int rr)])) (fun _ k => XS.iconst X3.here hx rfl (hb hby at_195) k) ?_
        by_cases hc8 : rr < (3 : Int32)
        · refine Ends.st (S' := T3.setTop (mkF m 216 #[.val (.int v0), .val (.int v1), .val (.int v2), .val (.int v3), .val (.int v4), .val (.int u5), .val (.int u6), .val (.ref b1), .val (.ref b2), .val (.int wd), .val (.int pp), .val (.int qq), .val (.int d), .val (.int rr), .unset] [])) (fun _ k => XS.icmpYes X3.here hx rfl (pc0 := 196) (pc' := 216) rfl (hb hby at_196) rfl (tlt hc8).1 (by decide) (by decide) k) ?_
          refine Ends.st (S' := T3.setTop (mkF m 217 #[.val (.int v0), .val (.int v1), .val (.int v2), .val (.int v3), .val (.int v4), .val (.int u5), .val (.int u6), .val (.ref b1), .val (.ref b2), .val (.int wd), .val (.int pp), .val (.int qq), .val (.int d), .val (.int rr), .unset] [(.int (1 : Int32))])) (fun _ k => XS.iconst X3.here hx rfl (hb hby at_216) k) ?_
          refine Ends.st (S' := T3.setTop (mkF m 221 #[.val (.int v0), .val (.int v1), .val (.int v2), .val (.int v3), .val (.int v4), .val (.int u5), .val (.int u6), .val (.ref b1), .val (.ref b2), .val (.int wd), .val (.int pp), .val (.int qq), .val (.int d), .val (.int rr), .unset] [(.int (1 : Int32))])) (fun _ k => XS.goto X3.here hx rfl (pc0 := 217) (pc' := 221) rfl (hb hby at_217) (by decide) (by decide) k) ?_
          refine Ends.st (S' := T3.setTop (mkF m 223 #[.val (.int v0), .val (.int v1), .val (.int v2), .val (.int v3), .val (.int v4), .val (.int u5), .val (.int u6), .val (.ref b1), .val (.ref b2), .val (.int wd), .val (.int pp), .val (.int qq), .val (.int d), .val (.int rr), .val (.int (1 : Int32))] [])) (fun _ k => XS.istore X3.here hx rfl (hb hby at_221) rfl (l' := #[.val (.int v0), .val (.int v1), .val (.int v2), .val (.int v3), .val (.int v4), .val (.int u5), .val (.int u6), .val (.ref b1), .val (.ref b2), .val (.int wd), .val (.int pp), .val (.int qq), .val (.int d), .val (.int rr), .val (.int (1 : Int32))]) rfl k) ?_
          refine Ends.st (S' := T3.setTop (mkF m 225 #[.val (.int v0), .val (.int v1), .val (.int v2), .val (.int v3), .val (.int v4), .val (.int u5), .val (.int u6), .val (.ref b1), .val (.ref b2), .val (.int wd), .val (.int pp), .val (.int qq), .val (.int d), .val (.int rr), .val (.int (1 : Int32))] [(.int (1 : Int32))])) (fun _ k => XS.iload X3.here hx rfl (hb hby at_223) rfl k) ?_
          refine Ends.st (S' := T3.setTop (mkF m 228 #[.val (.int v0), .val (.int v1), .val (.int v2), .val (.int v3), .val (.int v4), .val (.int u5), .val (.int u6), .val (.ref b1), .val (.ref b2), .val (.int wd), .val (.int pp), .val (.int qq), .val (.int d), .val (.int rr), .val (.int (1 : Int32))] [])) (fun _ k => XS.ifNo X3.here hx rfl (hb hby at_225) rfl ((if0 _ _).trans (feq (by decide : ¬ ((1 : Int32) = (0 : Int32)))).1) k) ?_
          refine Ends.st (S' := T3.setTop (mkF m 230 #[.val (.int v0), .val (.int v1), .val (.int v2), .val (.int v3), .val (.int v4), .val (.int u5), .val (.int u6), .val (.ref b1), .val (.ref b2), .val (.int wd), .val (.int pp), .val (.int qq), .val (.int d), .val (.int rr), .val (.int (1 : Int32))] [(.ref b1)])) (fun _ k => XS.aload X3.here hx rfl (hb hby at_228) rfl rfl k) ?_
          refine Ends.st (S' := T3.setTop (mkF m 232 #[.val (.int v0), .val (.int v1), .val (.int v2), .val (.int v3), .val (.int v4), .val (.int u5), .val (.int u6), .val (.ref b1), .val (.ref b2), .val (.int wd), .val (.int pp), .val (.int qq), .val (.int d), .val (.int rr), .val (.int (1 : Int32))] [(.int pp), (.ref b1)])) (fun _ k => XS.iload X3.here hx rfl (hb hby at_230) rfl k) ?_
          refine Ends.st (S' := T3.setTop (mkF m 234 #[.val (.int v0), .val (.int v1), .val (.int v2), .val (.int v3), .val (.int v4), .val (.int u5), .val (.int u6), .val (.ref b1), .val (.ref b2), .val (.int wd), .val (.int pp), .val (.int qq), .val (.int d), .val (.int rr), .val (.int (1 : Int32))] [(.ref b2), (.int pp), (.ref b1)])) (fun _ k => XS.aload X3.here hx rfl (hb hby at_232) rfl rfl k) ?_
          refine Ends.st (S' := T3.setTop (mkF m 236 #[.val (.int v0), .val (.int v1), .val (.int v2), .val (.int v3), .val (.int v4), .val (.int u5), .val (.int u6), .val (.ref b1), .val (.ref b2), .val (.int wd), .val (.int pp), .val (.int qq), .val (.int d), .val (.int rr), .val (.int (1 : Int32))] [(.int qq), (.ref b2), (.int pp), (.ref b1)])) (fun _ k => XS.iload X3.here hx rfl (hb hby at_234) rfl k) ?_
          refine Ends.st (S' := T3.setTop (mkF m 238 #[.val (.int v0), .val (.int v1), .val (.int v2), .val (.int v3), .val (.int v4), .val (.int u5), .val (.int u6), .val (.ref b1), .val (.ref b2), .val (.int wd), .val (.int pp), .val (.int qq), .val (.int d), .val (.int rr), .val (.int (1 : Int32))] [(.int d), (.int qq), (.ref b2), (.int pp), (.ref b1)])) (fun _ k => XS.iload X3.here hx rfl (hb hby at_236) rfl k) ?_
          refine Ends.st (S' := T3.setTop (mkF m 240 #[.val (.int v0), .val (.int v1), .val (.int v2), .val (.int v3), .val (.int v4), .val (.int u5), .val (.int u6), .val (.ref b1), .val (.ref b2), .val (.int wd), .val (.int pp), .val (.int qq), .val (.int d), .val (.int rr), .val (.int (1 : Int32))] [(.int rr), (.int d), (.int qq), (.ref b2), (.int pp), (.ref b1)])) (fun _ k => XS.iload X3.here hx rfl (hb hby at_238) rfl k) ?_
          obtain ⟨_, _, ⟨T9, L9, k9, n9⟩, -, X9, ⟨Lc9, hQ9, l9, y9, z9⟩, st9⟩ := Jvm.LawKit.callS X3 hx (y := (⟨"com/example/umpteenth_copy/umpteenthcopy/engine/MatchSameFromPinLaw", "ok", "([II[IIII)Z"⟩ : MethodName)) hown (mvT hZ (hw _ (List.mem_of_getElem? (i := 9) rfl))) (mvT hZ (hw _ (List.mem_of_getElem? (i := 10) rfl))) (mvT hZ (hw _ (List.mem_of_getElem? (i := 2) rfl))) (mvT hZ (hw _ (List.mem_of_getElem? (i := 11) rfl))) (by decide) (backOf (W := 0) (rm3 l Z a0 hw [] l1 l2 g1 g2 d pp qq b1 b2 rr T2.heap n0 (Nat.le_trans (Nat.le_trans Z0 K1.1) K2.1) J1 J2) hZ (hw _ (List.mem_of_getElem? (i := 11) rfl)) (hw _ (List.mem_of_getElem? (i := 2) rfl)) (by decide) (by decide)) (g := (mkF m 240 #[.val (.int v0), .val (.int v1), .val (.int v2), .val (.int v3), .val (.int v4), .val (.int u5), .val (.int u6), .val (.ref b1), .val (.ref b2), .val (.int wd), .val (.int pp), .val (.int qq), .val (.int d), .val (.int rr), .val (.int (1 : Int32))] [(.int rr), (.int d), (.int qq), (.ref b2), (.int pp), (.ref b1)])) rfl (by rw [hml]; rfl) (argsL := [(.ref b1), (.int pp), (.ref b2), (.int qq), (.int d), (.int rr)]) (rest := []) (lenOf pd_2 rfl) rfl (by show 2 * 0 + _ ≤ _; exact Nat.le_of_eq rfl) (hb hby at_240) (fun _ _ => ⟨rfl, e3, (by decide : 0 + 1 + 1 + 0 + 0 ≤ _), (by decide : 0 + 3 + 3 + 0 + 0 ≤ _)⟩)
          dsimp only [Pt.U, Pt.locs, Pt.cells, Pt.slots] at X9 l9 y9 z9 st9 hQ9
          subst l9 y9 z9
          obtain ⟨rfl, N9q, e9⟩ := hQ9
          have N9 := Fr.app N3 N9q
          refine Ends.st (S' := T9.setTop (mkF m 243 #[.val (.int v0), .val (.int v1), .val (.int v2), .val (.int v3), .val (.int v4), .val (.int u5), .val (.int u6), .val (.ref b1), .val (.ref b2), .val (.int wd), .val (.int pp), .val (.int qq), .val (.int d), .val (.int rr), .val (.int (1 : Int32))] [(.int (okf l1 l2 g1 g2 d pp qq rr))])) (fun _ k => st9 _ k) ?_
          have hb10 : (okf l1 l2 g1 g2 d pp qq rr) = (0 : Int32) := hrn
          refine Ends.st (S' := T9.setTop (mkF m 246 #[.val (.int v0), .val (.int v1), .val (.int v2), .val (.int v3), .val (.int v4), .val (.int u5), .val (.int u6), .val (.ref b1), .val (.ref b2), .val (.int wd), .val (.int pp), .val (.int qq), .val (.int d), .val (.int rr), .val (.int (1 : Int32))] [])) (fun _ k => XS.ifNo X9.here hx rfl (hb hby at_243) rfl ((if0 _ _).trans (teq hb10).2) k) ?_
          refine Ends.st (S' := T9.setTop (mkF m 247 #[.val (.int v0), .val (.int v1), .val (.int v2), .val (.int v3), .val (.int v4), .val (.int u5), .val (.int u6), .val (.ref b1), .val (.ref b2), .val (.int wd), .val (.int pp), .val (.int qq), .val (.int d), .val (.int rr), .val (.int (1 : Int32))] [(.int (1 : Int32))])) (fun _ k => XS.iconst X9.here hx rfl (hb hby at_246) k) ?_
          refine Ends.st (S' := T9.setTop (mkF m 251 #[.val (.int v0), .val (.int v1), .val (.int v2), .val (.int v3), .val (.int v4), .val (.int u5), .val (.int u6), .val (.ref b1), .val (.ref b2), .val (.int wd), .val (.int pp), .val (.int qq), .val (.int d), .val (.int rr), .val (.int (1 : Int32))] [(.int (1 : Int32))])) (fun _ k => XS.goto X9.here hx rfl (pc0 := 247) (pc' := 251) rfl (hb hby at_247) (by decide) (by decide) k) ?_
          obtain ⟨fs, hr, hrun, hended, hW, hsame⟩ := X9.leave (v := some (.int (1 : Int32))) (fun h => by rw [Bd.returns] at h; cases h)
          exact ⟨_, _, retN X9 hx (t := .boolean) Bd.returns (by simp) (hb hby at_251) hr, hrun, hended, _, _, rfl, (by show Q0 Z  h0 n0 _ T9.heap _; rw [e9]; exact ⟨rfl, N9⟩), ⟨_, rfl⟩, hW, hsame.mono (by decide) (by decide)⟩
        · refine Ends.st (S' := T3.setTop (mkF m 199 #[.val (.int v0), .val (.int v1), .val (.int v2), .val (.int v3), .val (.int v4), .val (.int u5), .val (.int u6), .val (.ref b1), .val (.ref b2), .val (.int wd), .val (.int pp), .val (.int qq), .val (.int d), .val (.int rr), .unset] [])) (fun _ k => XS.icmpNo X3.here hx rfl (hb hby at_196) rfl (flt hc8).1 k) ?_
          refine Ends.st (S' := T3.setTop (mkF m 201 #[.val (.int v0), .val (.int v1), .val (.int v2), .val (.int v3), .val (.int v4), .val (.int u5), .val (.int u6), .val (.ref b1), .val (.ref b2), .val (.int wd), .val (.int pp), .val (.int qq), .val (.int d), .val (.int rr), .unset] [(.ref b1)])) (fun _ k => XS.aload X3.here hx rfl (hb hby at_199) rfl rfl k) ?_
          refine Ends.st (S' := T3.setTop (mkF m 203 #[.val (.int v0), .val (.int v1), .val (.int v2), .val (.int v3), .val (.int v4), .val (.int u5), .val (.int u6), .val (.ref b1), .val (.ref b2), .val (.int wd), .val (.int pp), .val (.int qq), .val (.int d), .val (.int rr), .unset] [(.int pp), (.ref b1)])) (fun _ k => XS.iload X3.here hx rfl (hb hby at_201) rfl k) ?_
          refine Ends.st (S' := T3.setTop (mkF m 205 #[.val (.int v0), .val (.int v1), .val (.int v2), .val (.int v3), .val (.int v4), .val (.int u5), .val (.int u6), .val (.ref b1), .val (.ref b2), .val (.int wd), .val (.int pp), .val (.int qq), .val (.int d), .val (.int rr), .unset] [(.ref b2), (.int pp), (.ref b1)])) (fun _ k => XS.aload X3.here hx rfl (hb hby at_203) rfl rfl k) ?_
          refine Ends.st (S' := T3.setTop (mkF m 207 #[.val (.int v0), .val (.int v1), .val (.int v2), .val (.int v3), .val (.int v4), .val (.int u5), .val (.int u6), .val (.ref b1), .val (.ref b2), .val (.int wd), .val (.int pp), .val (.int qq), .val (.int d), .val (.int rr), .unset] [(.int qq), (.ref b2), (.int pp), (.ref b1)])) (fun _ k => XS.iload X3.here hx rfl (hb hby at_205) rfl k) ?_
          refine Ends.st (S' := T3.setTop (mkF m 209 #[.val (.int v0), .val (.int v1), .val (.int v2), .val (.int v3), .val (.int v4), .val (.int u5), .val (.int u6), .val (.ref b1), .val (.ref b2), .val (.int wd), .val (.int pp), .val (.int qq), .val (.int d), .val (.int rr), .unset] [(.int d), (.int qq), (.ref b2), (.int pp), (.ref b1)])) (fun _ k => XS.iload X3.here hx rfl (hb hby at_207) rfl k) ?_
          refine Ends.st (S' := T3.setTop (mkF m 210 #[.val (.int v0), .val (.int v1), .val (.int v2), .val (.int v3), .val (.int v4), .val (.int u5), .val (.int u6), .val (.ref b1), .val (.ref b2), .val (.int wd), .val (.int pp), .val (.int qq), .val (.int d), .val (.int rr), .unset] [(.int (2 : Int32)), (.int d), (.int qq), (.ref b2), (.int pp), (.ref b1)])) (fun _ k => XS.iconst X3.here hx rfl (hb hby at_209) k) ?_
          obtain ⟨_, _, ⟨T11, L11, k11, n11⟩, -, X11, ⟨Lc11, hQ11, l11, y11, z11⟩, st11⟩ := Jvm.LawKit.callS X3 hx (y := (⟨"com/example/umpteenth_copy/umpteenthcopy/engine/MatchSameFromPinLaw", "ok", "([II[IIII)Z"⟩ : MethodName)) hown (mvT hZ (hw _ (List.mem_of_getElem? (i := 9) rfl))) (mvT hZ (hw _ (List.mem_of_getElem? (i := 10) rfl))) (mvT hZ (hw _ (List.mem_of_getElem? (i := 2) rfl))) (mvT hZ (hw _ (List.mem_of_getElem? (i := 11) rfl))) (by decide) (backOf (W := 0) (rm3 l Z a0 hw [] l1 l2 g1 g2 d pp qq b1 b2 (2 : Int32) T2.heap n0 (Nat.le_trans (Nat.le_trans Z0 K1.1) K2.1) J1 J2) hZ (hw _ (List.mem_of_getElem? (i := 11) rfl)) (hw _ (List.mem_of_getElem? (i := 2) rfl)) (by decide) (by decide)) (g := (mkF m 210 #[.val (.int v0), .val (.int v1), .val (.int v2), .val (.int v3), .val (.int v4), .val (.int u5), .val (.int u6), .val (.ref b1), .val (.ref b2), .val (.int wd), .val (.int pp), .val (.int qq), .val (.int d), .val (.int rr), .unset] [(.int (2 : Int32)), (.int d), (.int qq), (.ref b2), (.int pp), (.ref b1)])) rfl (by rw [hml]; rfl) (argsL := [(.ref b1), (.int pp), (.ref b2), (.int qq), (.int d), (.int (2 : Int32))]) (rest := []) (lenOf pd_2 rfl) rfl (by show 2 * 0 + _ ≤ _; exact Nat.le_of_eq rfl) (hb hby at_210) (fun _ _ => ⟨rfl, e3, (by decide : 0 + 1 + 1 + 0 + 0 ≤ _), (by decide : 0 + 3 + 3 + 0 + 0 ≤ _)⟩)
          dsimp only [Pt.U, Pt.locs, Pt.cells, Pt.slots] at X11 l11 y11 z11 st11 hQ11
          subst l11 y11 z11
          obtain ⟨rfl, N11q, e11⟩ := hQ11
          have N11 := Fr.app N3 N11q
          refine Ends.st (S' := T11.setTop (mkF m 213 #[.val (.int v0), .val (.int v1), .val (.int v2), .val (.int v3), .val (.int v4), .val (.int u5), .val (.int u6), .val (.ref b1), .val (.ref b2), .val (.int wd), .val (.int pp), .val (.int qq), .val (.int d), .val (.int rr), .unset] [(.int (okf l1 l2 g1 g2 d pp qq (2 : Int32)))])) (fun _ k => st11 _ k) ?_
          have hb12 : ¬ ((okf l1 l2 g1 g2 d pp qq (2 : Int32)) = (0 : Int32)) := by rw [hrk (2 : Int32) (by decide) (own_ge2 hc8)]; decide
          refine Ends.st (S' := T11.setTop (mkF m 216 #[.val (.int v0), .val (.int v1), .val (.int v2), .val (.int v3), .val (.int v4), .val (.int u5), .val (.int u6), .val (.ref b1), .val (.ref b2), .val (.int wd), .val (.int pp), .val (.int qq), .val (.int d), .val (.int rr), .unset] [])) (fun _ k => XS.ifNo X11.here hx rfl (hb hby at_213) rfl ((if0 _ _).trans (feq hb12).1) k) ?_
          refine Ends.st (S' := T11.setTop (mkF m 217 #[.val (.int v0), .val (.int v1), .val (.int v2), .val (.int v3), .val (.int v4), .val (.int u5), .val (.int u6), .val (.ref b1), .val (.ref b2), .val (.int wd), .val (.int pp), .val (.int qq), .val (.int d), .val (.int rr), .unset] [(.int (1 : Int32))])) (fun _ k => XS.iconst X11.here hx rfl (hb hby at_216) k) ?_
          refine Ends.st (S' := T11.setTop (mkF m 221 #[.val (.int v0), .val (.int v1), .val (.int v2), .val (.int v3), .val (.int v4), .val (.int u5), .val (.int u6), .val (.ref b1), .val (.ref b2), .val (.int wd), .val (.int pp), .val (.int qq), .val (.int d), .val (.int rr), .unset] [(.int (1 : Int32))])) (fun _ k => XS.goto X11.here hx rfl (pc0 := 217) (pc' := 221) rfl (hb hby at_217) (by decide) (by decide) k) ?_
          refine Ends.st (S' := T11.setTop (mkF m 223 #[.val (.int v0), .val (.int v1), .val (.int v2), .val (.int v3), .val (.int v4), .val (.int u5), .val (.int u6), .val (.ref b1), .val (.ref b2), .val (.int wd), .val (.int pp), .val (.int qq), .val (.int d), .val (.int rr), .val (.int (1 : Int32))] [])) (fun _ k => XS.istore X11.here hx rfl (hb hby at_221) rfl (l' := #[.val (.int v0), .val (.int v1), .val (.int v2), .val (.int v3), .val (.int v4), .val (.int u5), .val (.int u6), .val (.ref b1), .val (.ref b2), .val (.int wd), .val (.int pp), .val (.int qq), .val (.int d), .val (.int rr), .val (.int (1 : Int32))]) rfl k) ?_
          refine Ends.st (S' := T11.setTop (mkF m 225 #[.val (.int v0), .val (.int v1), .val (.int v2), .val (.int v3), .val (.int v4), .val (.int u5), .val (.int u6), .val (.ref b1), .val (.ref b2), .val (.int wd), .val (.int pp), .val (.int qq), .val (.int d), .val (.int rr), .val (.int (1 : Int32))] [(.int (1 : Int32))])) (fun _ k => XS.iload X11.here hx rfl (hb hby at_223) rfl k) ?_
          refine Ends.st (S' := T11.setTop (mkF m 228 #[.val (.int v0), .val (.int v1), .val (.int v2), .val (.int v3), .val (.int v4), .val (.int u5), .val (.int u6), .val (.ref b1), .val (.ref b2), .val (.int wd), .val (.int pp), .val (.int qq), .val (.int d), .val (.int rr), .val (.int (1 : Int32))] [])) (fun _ k => XS.ifNo X11.here hx rfl (hb hby at_225) rfl ((if0 _ _).trans (feq (by decide : ¬ ((1 : Int32) = (0 : Int32)))).1) k) ?_
          refine Ends.st (S' := T11.setTop (mkF m 230 #[.val (.int v0), .val (.int v1), .val (.int v2), .val (.int v3), .val (.int v4), .val (.int u5), .val (.int u6), .val (.ref b1), .val (.ref b2), .val (.int wd), .val (.int pp), .val (.int qq), .val (.int d), .val (.int rr), .val (.int (1 : Int32))] [(.ref b1)])) (fun _ k => XS.aload X11.here hx rfl (hb hby at_228) rfl rfl k) ?_
          refine Ends.st (S' := T11.setTop (mkF m 232 #[.val (.int v0), .val (.int v1), .val (.int v2), .val (.int v3), .val (.int v4), .val (.int u5), .val (.int u6), .val (.ref b1), .val (.ref b2), .val (.int wd), .val (.int pp), .val (.int qq), .val (.int d), .val (.int rr), .val (.int (1 : Int32))] [(.int pp), (.ref b1)])) (fun _ k => XS.iload X11.here hx rfl (hb hby at_230) rfl k) ?_
          refine Ends.st (S' := T11.setTop (mkF m 234 #[.val (.int v0), .val (.int v1), .val (.int v2), .val (.int v3), .val (.int v4), .val (.int u5), .val (.int u6), .val (.ref b1), .val (.ref b2), .val (.int wd), .val (.int pp), .val (.int qq), .val (.int d), .val (.int rr), .val (.int (1 : Int32))] [(.ref b2), (.int pp), (.ref b1)])) (fun _ k => XS.aload X11.here hx rfl (hb hby at_232) rfl rfl k) ?_
          refine Ends.st (S' := T11.setTop (mkF m 236 #[.val (.int v0), .val (.int v1), .val (.int v2), .val (.int v3), .val (.int v4), .val (.int u5), .val (.int u6), .val (.ref b1), .val (.ref b2), .val (.int wd), .val (.int pp), .val (.int qq), .val (.int d), .val (.int rr), .val (.int (1 : Int32))] [(.int qq), (.ref b2), (.int pp), (.ref b1)])) (fun _ k => XS.iload X11.here hx rfl (hb hby at_234) rfl k) ?_
          refine Ends.st (S' := T11.setTop (mkF m 238 #[.val (.int v0), .val (.int v1), .val (.int v2), .val (.int v3), .val (.int v4), .val (.int u5), .val (.int u6), .val (.ref b1), .val (.ref b2), .val (.int wd), .val (.int pp), .val (.int qq), .val (.int d), .val (.int rr), .val (.int (1 : Int32))] [(.int d), (.int qq), (.ref b2), (.int pp), (.ref b1)])) (fun _ k => XS.iload X11.here hx rfl (hb hby at_236) rfl k) ?_
          refine Ends.st (S' := T11.setTop (mkF m 240 #[.val (.int v0), .val (.int v1), .val (.int v2), .val (.int v3), .val (.int v4), .val (.int u5), .val (.int u6), .val (.ref b1), .val (.ref b2), .val (.int wd), .val (.int pp), .val (.int qq), .val (.int d), .val (.int rr), .val (.int (1 : Int32))] [(.int rr), (.int d), (.int qq), (.ref b2), (.int pp), (.ref b1)])) (fun _ k => XS.iload X11.here hx rfl (hb hby at_238) rfl k) ?_
          obtain ⟨_, _, ⟨T13, L13, k13, n13⟩, -, X13, ⟨Lc13, hQ13, l13, y13, z13⟩, st13⟩ := Jvm.LawKit.callS X11 hx (y := (⟨"com/example/umpteenth_copy/umpteenthcopy/engine/MatchSameFromPinLaw", "ok", "([II[IIII)Z"⟩ : MethodName)) hown (mvT hZ (hw _ (List.mem_of_getElem? (i := 9) rfl))) (mvT hZ (hw _ (List.mem_of_getElem? (i := 10) rfl))) (mvT hZ (hw _ (List.mem_of_getElem? (i := 2) rfl))) (mvT hZ (hw _ (List.mem_of_getElem? (i := 11) rfl))) (by decide) (backOf (W := 0) (rm3 l Z a0 hw [] l1 l2 g1 g2 d pp qq b1 b2 rr T2.heap n0 (Nat.le_trans (Nat.le_trans Z0 K1.1) K2.1) J1 J2) hZ (hw _ (List.mem_of_getElem? (i := 11) rfl)) (hw _ (List.mem_of_getElem? (i := 2) rfl)) (by decide) (by decide)) (g := (mkF m 240 #[.val (.int v0), .val (.int v1), .val (.int v2), .val (.int v3), .val (.int v4), .val (.int u5), .val (.int u6), .val (.ref b1), .val (.ref b2), .val (.int wd), .val (.int pp), .val (.int qq), .val (.int d), .val (.int rr), .val (.int (1 : Int32))] [(.int rr), (.int d), (.int qq), (.ref b2), (.int pp), (.ref b1)])) rfl (by rw [hml]; rfl) (argsL := [(.ref b1), (.int pp), (.ref b2), (.int qq), (.int d), (.int rr)]) (rest := []) (lenOf pd_2 rfl) rfl (by show 2 * 0 + _ ≤ _; exact Nat.le_of_eq rfl) (hb hby at_240) (fun _ _ => ⟨rfl, e11, (by decide : 0 + 1 + 1 + 0 + 0 + 0 ≤ _), (by decide : 0 + 3 + 3 + 0 + 0 + 0 ≤ _)⟩)
          dsimp only [Pt.U, Pt.locs, Pt.cells, Pt.slots] at X13 l13 y13 z13 st13 hQ13
          subst l13 y13 z13
          obtain ⟨rfl, N13q, e13⟩ := hQ13
          have N13 := Fr.app N11 N13q
          refine Ends.st (S' := T13.setTop (mkF m 243 #[.val (.int v0), .val (.int v1), .val (.int v2), .val (.int v3), .val (.int v4), .val (.int u5), .val (.int u6), .val (.ref b1), .val (.ref b2), .val (.int wd), .val (.int pp), .val (.int qq), .val (.int d), .val (.int rr), .val (.int (1 : Int32))] [(.int (okf l1 l2 g1 g2 d pp qq rr))])) (fun _ k => st13 _ k) ?_
          have hb14 : (okf l1 l2 g1 g2 d pp qq rr) = (0 : Int32) := hrn
          refine Ends.st (S' := T13.setTop (mkF m 246 #[.val (.int v0), .val (.int v1), .val (.int v2), .val (.int v3), .val (.int v4), .val (.int u5), .val (.int u6), .val (.ref b1), .val (.ref b2), .val (.int wd), .val (.int pp), .val (.int qq), .val (.int d), .val (.int rr), .val (.int (1 : Int32))] [])) (fun _ k => XS.ifNo X13.here hx rfl (hb hby at_243) rfl ((if0 _ _).trans (teq hb14).2) k) ?_
          refine Ends.st (S' := T13.setTop (mkF m 247 #[.val (.int v0), .val (.int v1), .val (.int v2), .val (.int v3), .val (.int v4), .val (.int u5), .val (.int u6), .val (.ref b1), .val (.ref b2), .val (.int wd), .val (.int pp), .val (.int qq), .val (.int d), .val (.int rr), .val (.int (1 : Int32))] [(.int (1 : Int32))])) (fun _ k => XS.iconst X13.here hx rfl (hb hby at_246) k) ?_
          refine Ends.st (S' := T13.setTop (mkF m 251 #[.val (.int v0), .val (.int v1), .val (.int v2), .val (.int v3), .val (.int v4), .val (.int u5), .val (.int u6), .val (.ref b1), .val (.ref b2), .val (.int wd), .val (.int pp), .val (.int qq), .val (.int d), .val (.int rr), .val (.int (1 : Int32))] [(.int (1 : Int32))])) (fun _ k => XS.goto X13.here hx rfl (pc0 := 247) (pc' := 251) rfl (hb hby at_247) (by decide) (by decide) k) ?_
          obtain ⟨fs, hr, hrun, hended, hW, hsame⟩ := X13.leave (v := some (.int (1 : Int32))) (fun h => by rw [Bd.returns] at h; cases h)
          exact ⟨_, _, retN X13 hx (t := .boolean) Bd.returns (by simp) (hb hby at_251) hr, hrun, hended, _, _, rfl, (by show Q0 Z  h0 n0 _ T13.heap _; rw [e13]; exact ⟨rfl, N13⟩), ⟨_, rfl⟩, hW, hsame.mono (by decide) (by decide)⟩
      · refine Ends.st (S' := T3.setTop (mkF m 176 #[.val (.int v0), .val (.int v1), .val (.int v2), .val (.int v3), .val (.int v4), .val (.int u5), .val (.int u6), .val (.ref b1), .val (.ref b2), .val (.int wd), .val (.int pp), .val (.int qq), .val (.int d), .val (.int rr), .unset] [])) (fun _ k => XS.icmpNo X3.here hx rfl (hb hby at_173) rfl (flt hc7).1 k) ?_
        refine Ends.st (S' := T3.setTop (mkF m 178 #[.val (.int v0), .val (.int v1), .val (.int v2), .val (.int v3), .val (.int v4), .val (.int u5), .val (.int u6), .val (.ref b1), .val (.ref b2), .val (.int wd), .val (.int pp), .val (.int qq), .val (.int d), .val (.int rr), .unset] [(.ref b1)])) (fun _ k => XS.aload X3.here hx rfl (hb hby at_176) rfl rfl k) ?_
        refine Ends.st (S' := T3.setTop (mkF m 180 #[.val (.int v0), .val (.int v1), .val (.int v2), .val (.int v3), .val (.int v4), .val (.int u5), .val (.int u6), .val (.ref b1), .val (.ref b2), .val (.int wd), .val (.int pp), .val (.int qq), .val (.int d), .val (.int rr), .unset] [(.int pp), (.ref b1)])) (fun _ k => XS.iload X3.here hx rfl (hb hby at_178) rfl k) ?_
        refine Ends.st (S' := T3.setTop (mkF m 182 #[.val (.int v0), .val (.int v1), .val (.int v2), .val (.int v3), .val (.int v4), .val (.int u5), .val (.int u6), .val (.ref b1), .val (.ref b2), .val (.int wd), .val (.int pp), .val (.int qq), .val (.int d), .val (.int rr), .unset] [(.ref b2), (.int pp), (.ref b1)])) (fun _ k => XS.aload X3.here hx rfl (hb hby at_180) rfl rfl k) ?_
        refine Ends.st (S' := T3.setTop (mkF m 184 #[.val (.int v0), .val (.int v1), .val (.int v2), .val (.int v3), .val (.int v4), .val (.int u5), .val (.int u6), .val (.ref b1), .val (.ref b2), .val (.int wd), .val (.int pp), .val (.int qq), .val (.int d), .val (.int rr), .unset] [(.int qq), (.ref b2), (.int pp), (.ref b1)])) (fun _ k => XS.iload X3.here hx rfl (hb hby at_182) rfl k) ?_
        refine Ends.st (S' := T3.setTop (mkF m 186 #[.val (.int v0), .val (.int v1), .val (.int v2), .val (.int v3), .val (.int v4), .val (.int u5), .val (.int u6), .val (.ref b1), .val (.ref b2), .val (.int wd), .val (.int pp), .val (.int qq), .val (.int d), .val (.int rr), .unset] [(.int d), (.int qq), (.ref b2), (.int pp), (.ref b1)])) (fun _ k => XS.iload X3.here hx rfl (hb hby at_184) rfl k) ?_
        refine Ends.st (S' := T3.setTop (mkF m 187 #[.val (.int v0), .val (.int v1), .val (.int v2), .val (.int v3), .val (.int v4), .val (.int u5), .val (.int u6), .val (.ref b1), .val (.ref b2), .val (.int wd), .val (.int pp), .val (.int qq), .val (.int d), .val (.int rr), .unset] [(.int (1 : Int32)), (.int d), (.int qq), (.ref b2), (.int pp), (.ref b1)])) (fun _ k => XS.iconst X3.here hx rfl (hb hby at_186) k) ?_
        obtain ⟨_, _, ⟨T15, L15, k15, n15⟩, -, X15, ⟨Lc15, hQ15, l15, y15, z15⟩, st15⟩ := Jvm.LawKit.callS X3 hx (y := (⟨"com/example/umpteenth_copy/umpteenthcopy/engine/MatchSameFromPinLaw", "ok", "([II[IIII)Z"⟩ : MethodName)) hown (mvT hZ (hw _ (List.mem_of_getElem? (i := 9) rfl))) (mvT hZ (hw _ (List.mem_of_getElem? (i := 10) rfl))) (mvT hZ (hw _ (List.mem_of_getElem? (i := 2) rfl))) (mvT hZ (hw _ (List.mem_of_getElem? (i := 11) rfl))) (by decide) (backOf (W := 0) (rm3 l Z a0 hw [] l1 l2 g1 g2 d pp qq b1 b2 (1 : Int32) T2.heap n0 (Nat.le_trans (Nat.le_trans Z0 K1.1) K2.1) J1 J2) hZ (hw _ (List.mem_of_getElem? (i := 11) rfl)) (hw _ (List.mem_of_getElem? (i := 2) rfl)) (by decide) (by decide)) (g := (mkF m 187 #[.val (.int v0), .val (.int v1), .val (.int v2), .val (.int v3), .val (.int v4), .val (.int u5), .val (.int u6), .val (.ref b1), .val (.ref b2), .val (.int wd), .val (.int pp), .val (.int qq), .val (.int d), .val (.int rr), .unset] [(.int (1 : Int32)), (.int d), (.int qq), (.ref b2), (.int pp), (.ref b1)])) rfl (by rw [hml]; rfl) (argsL := [(.ref b1), (.int pp), (.ref b2), (.int qq), (.int d), (.int (1 : Int32))]) (rest := []) (lenOf pd_2 rfl) rfl (by show 2 * 0 + _ ≤ _; exact Nat.le_of_eq rfl) (hb hby at_187) (fun _ _ => ⟨rfl, e3, (by decide : 0 + 1 + 1 + 0 + 0 ≤ _), (by decide : 0 + 3 + 3 + 0 + 0 ≤ _)⟩)
        dsimp only [Pt.U, Pt.locs, Pt.cells, Pt.slots] at X15 l15 y15 z15 st15 hQ15
        subst l15 y15 z15
        obtain ⟨rfl, N15q, e15⟩ := hQ15
        have N15 := Fr.app N3 N15q
        refine Ends.st (S' := T15.setTop (mkF m 190 #[.val (.int v0), .val (.int v1), .val (.int v2), .val (.int v3), .val (.int v4), .val (.int u5), .val (.int u6), .val (.ref b1), .val (.ref b2), .val (.int wd), .val (.int pp), .val (.int qq), .val (.int d), .val (.int rr), .unset] [(.int (okf l1 l2 g1 g2 d pp qq (1 : Int32)))])) (fun _ k => st15 _ k) ?_
        have hb16 : ¬ ((okf l1 l2 g1 g2 d pp qq (1 : Int32)) = (0 : Int32)) := by rw [hrk (1 : Int32) (by decide) (own_ge1 hc7)]; decide
        refine Ends.st (S' := T15.setTop (mkF m 193 #[.val (.int v0), .val (.int v1), .val (.int v2), .val (.int v3), .val (.int v4), .val (.int u5), .val (.int u6), .val (.ref b1), .val (.ref b2), .val (.int wd), .val (.int pp), .val (.int qq), .val (.int d), .val (.int rr), .unset] [])) (fun _ k => XS.ifNo X15.here hx rfl (hb hby at_190) rfl ((if0 _ _).trans (feq hb16).1) k) ?_
        refine Ends.st (S' := T15.setTop (mkF m 195 #[.val (.int v0), .val (.int v1), .val (.int v2), .val (.int v3), .val (.int v4), .val (.int u5), .val (.int u6), .val (.ref b1), .val (.ref b2), .val (.int wd), .val (.int pp), .val (.int qq), .val (.int d), .val (.int rr), .unset] [(.int rr)])) (fun _ k => XS.iload X15.here hx rfl (hb hby at_193) rfl k) ?_
        refine Ends.st (S' := T15.setTop (mkF m 196 #[.val (.int v0), .val (.int v1), .val (.int v2), .val (.int v3), .val (.int v4), .val (.int u5), .val (.int u6), .val (.ref b1), .val (.ref b2), .val (.int wd), .val (.int pp), .val (.int qq), .val (.int d), .val (.int rr), .unset] [(.int (3 : Int32)), (.int rr)])) (fun _ k => XS.iconst X15.here hx rfl (hb hby at_195) k) ?_
        by_cases hc17 : rr < (3 : Int32)
        · refine Ends.st (S' := T15.setTop (mkF m 216 #[.val (.int v0), .val (.int v1), .val (.int v2), .val (.int v3), .val (.int v4), .val (.int u5), .val (.int u6), .val (.ref b1), .val (.ref b2), .val (.int wd), .val (.int pp), .val (.int qq), .val (.int d), .val (.int rr), .unset] [])) (fun _ k => XS.icmpYes X15.here hx rfl (pc0 := 196) (pc' := 216) rfl (hb hby at_196) rfl (tlt hc17).1 (by decide) (by decide) k) ?_
          refine Ends.st (S' := T15.setTop (mkF m 217 #[.val (.int v0), .val (.int v1), .val (.int v2), .val (.int v3), .val (.int v4), .val (.int u5), .val (.int u6), .val (.ref b1), .val (.ref b2), .val (.int wd), .val (.int pp), .val (.int qq), .val (.int d), .val (.int rr), .unset] [(.int (1 : Int32))])) (fun _ k => XS.iconst X15.here hx rfl (hb hby at_216) k) ?_
          refine Ends.st (S' := T15.setTop (mkF m 221 #[.val (.int v0), .val (.int v1), .val (.int v2), .val (.int v3), .val (.int v4), .val (.int u5), .val (.int u6), .val (.ref b1), .val (.ref b2), .val (.int wd), .val (.int pp), .val (.int qq), .val (.int d), .val (.int rr), .unset] [(.int (1 : Int32))])) (fun _ k => XS.goto X15.here hx rfl (pc0 := 217) (pc' := 221) rfl (hb hby at_217) (by decide) (by decide) k) ?_
          refine Ends.st (S' := T15.setTop (mkF m 223 #[.val (.int v0), .val (.int v1), .val (.int v2), .val (.int v3), .val (.int v4), .val (.int u5), .val (.int u6), .val (.ref b1), .val (.ref b2), .val (.int wd), .val (.int pp), .val (.int qq), .val (.int d), .val (.int rr), .val (.int (1 : Int32))] [])) (fun _ k => XS.istore X15.here hx rfl (hb hby at_221) rfl (l' := #[.val (.int v0), .val (.int v1), .val (.int v2), .val (.int v3), .val (.int v4), .val (.int u5), .val (.int u6), .val (.ref b1), .val (.ref b2), .val (.int wd), .val (.int pp), .val (.int qq), .val (.int d), .val (.int rr), .val (.int (1 : Int32))]) rfl k) ?_
          refine Ends.st (S' := T15.setTop (mkF m 225 #[.val (.int v0), .val (.int v1), .val (.int v2), .val (.int v3), .val (.int v4), .val (.int u5), .val (.int u6), .val (.ref b1), .val (.ref b2), .val (.int wd), .val (.int pp), .val (.int qq), .val (.int d), .val (.int rr), .val (.int (1 : Int32))] [(.int (1 : Int32))])) (fun _ k => XS.iload X15.here hx rfl (hb hby at_223) rfl k) ?_
          refine Ends.st (S' := T15.setTop (mkF m 228 #[.val (.int v0), .val (.int v1), .val (.int v2), .val (.int v3), .val (.int v4), .val (.int u5), .val (.int u6), .val (.ref b1), .val (.ref b2), .val (.int wd), .val (.int pp), .val (.int qq), .val (.int d), .val (.int rr), .val (.int (1 : Int32))] [])) (fun _ k => XS.ifNo X15.here hx rfl (hb hby at_225) rfl ((if0 _ _).trans (feq (by decide : ¬ ((1 : Int32) = (0 : Int32)))).1) k) ?_
          refine Ends.st (S' := T15.setTop (mkF m 230 #[.val (.int v0), .val (.int v1), .val (.int v2), .val (.int v3), .val (.int v4), .val (.int u5), .val (.int u6), .val (.ref b1), .val (.ref b2), .val (.int wd), .val (.int pp), .val (.int qq), .val (.int d), .val (.int rr), .val (.int (1 : Int32))] [(.ref b1)])) (fun _ k => XS.aload X15.here hx rfl (hb hby at_228) rfl rfl k) ?_
          refine Ends.st (S' := T15.setTop (mkF m 232 #[.val (.int v0), .val (.int v1), .val (.int v2), .val (.int v3), .val (.int v4), .val (.int u5), .val (.int u6), .val (.ref b1), .val (.ref b2), .val (.int wd), .val (.int pp), .val (.int qq), .val (.int d), .val (.int rr), .val (.int (1 : Int32))] [(.int pp), (.ref b1)])) (fun _ k => XS.iload X15.here hx rfl (hb hby at_230) rfl k) ?_
          refine Ends.st (S' := T15.setTop (mkF m 234 #[.val (.int v0), .val (.int v1), .val (.int v2), .val (.int v3), .val (.int v4), .val (.int u5), .val (.int u6), .val (.ref b1), .val (.ref b2), .val (.int wd), .val (.int pp), .val (.int qq), .val (.int d), .val (.int rr), .val (.int (1 : Int32))] [(.ref b2), (.int pp), (.ref b1)])) (fun _ k => XS.aload X15.here hx rfl (hb hby at_232) rfl rfl k) ?_
          refine Ends.st (S' := T15.setTop (mkF m 236 #[.val (.int v0), .val (.int v1), .val (.int v2), .val (.int v3), .val (.int v4), .val (.int u5), .val (.int u6), .val (.ref b1), .val (.ref b2), .val (.int wd), .val (.int pp), .val (.int qq), .val (.int d), .val (.int rr), .val (.int (1 : Int32))] [(.int qq), (.ref b2), (.int pp), (.ref b1)])) (fun _ k => XS.iload X15.here hx rfl (hb hby at_234) rfl k) ?_
          refine Ends.st (S' := T15.setTop (mkF m 238 #[.val (.int v0), .val (.int v1), .val (.int v2), .val (.int v3), .val (.int v4), .val (.int u5), .val (.int u6), .val (.ref b1), .val (.ref b2), .val (.int wd), .val (.int pp), .val (.int qq), .val (.int d), .val (.int rr), .val (.int (1 : Int32))] [(.int d), (.int qq), (.ref b2), (.int pp), (.ref b1)])) (fun _ k => XS.iload X15.here hx rfl (hb hby at_236) rfl k) ?_
          refine Ends.st (S' := T15.setTop (mkF m 240 #[.val (.int v0), .val (.int v1), .val (.int v2), .val (.int v3), .val (.int v4), .val (.int u5), .val (.int u6), .val (.ref b1), .val (.ref b2), .val (.int wd), .val (.int pp), .val (.int qq), .val (.int d), .val (.int rr), .val (.int (1 : Int32))] [(.int rr), (.int d), (.int qq), (.ref b2), (.int pp), (.ref b1)])) (fun _ k => XS.iload X15.here hx rfl (hb hby at_238) rfl k) ?_
          obtain ⟨_, _, ⟨T18, L18, k18, n18⟩, -, X18, ⟨Lc18, hQ18, l18, y18, z18⟩, st18⟩ := Jvm.LawKit.callS X15 hx (y := (⟨"com/example/umpteenth_copy/umpteenthcopy/engine/MatchSameFromPinLaw", "ok", "([II[IIII)Z"⟩ : MethodName)) hown (mvT hZ (hw _ (List.mem_of_getElem? (i := 9) rfl))) (mvT hZ (hw _ (List.mem_of_getElem? (i := 10) rfl))) (mvT hZ (hw _ (List.mem_of_getElem? (i := 2) rfl))) (mvT hZ (hw _ (List.mem_of_getElem? (i := 11) rfl))) (by decide) (backOf (W := 0) (rm3 l Z a0 hw [] l1 l2 g1 g2 d pp qq b1 b2 rr T2.heap n0 (Nat.le_trans (Nat.le_trans Z0 K1.1) K2.1) J1 J2) hZ (hw _ (List.mem_of_getElem? (i := 11) rfl)) (hw _ (List.mem_of_getElem? (i := 2) rfl)) (by decide) (by decide)) (g := (mkF m 240 #[.val (.int v0), .val (.int v1), .val (.int v2), .val (.int v3), .val (.int v4), .val (.int u5), .val (.int u6), .val (.ref b1), .val (.ref b2), .val (.int wd), .val (.int pp), .val (.int qq), .val (.int d), .val (.int rr), .val (.int (1 : Int32))] [(.int rr), (.int d), (.int qq), (.ref b2), (.int pp), (.ref b1)])) rfl (by rw [hml]; rfl) (argsL := [(.ref b1), (.int pp), (.ref b2), (.int qq), (.int d), (.int rr)]) (rest := []) (lenOf pd_2 rfl) rfl (by show 2 * 0 + _ ≤ _; exact Nat.le_of_eq rfl) (hb hby at_240) (fun _ _ => ⟨rfl, e15, (by decide : 0 + 1 + 1 + 0 + 0 + 0 ≤ _), (by decide : 0 + 3 + 3 + 0 + 0 + 0 ≤ _)⟩)
          dsimp only [Pt.U, Pt.locs, Pt.cells, Pt.slots] at X18 l18 y18 z18 st18 hQ18
          subst l18 y18 z18
          obtain ⟨rfl, N18q, e18⟩ := hQ18
          have N18 := Fr.app N15 N18q
          refine Ends.st (S' := T18.setTop (mkF m 243 #[.val (.int v0), .val (.int v1), .val (.int v2), .val (.int v3), .val (.int v4), .val (.int u5), .val (.int u6), .val (.ref b1), .val (.ref b2), .val (.int wd), .val (.int pp), .val (.int qq), .val (.int d), .val (.int rr), .val (.int (1 : Int32))] [(.int (okf l1 l2 g1 g2 d pp qq rr))])) (fun _ k => st18 _ k) ?_
          have hb19 : (okf l1 l2 g1 g2 d pp qq rr) = (0 : Int32) := hrn
          refine Ends.st (S' := T18.setTop (mkF m 246 #[.val (.int v0), .val (.int v1), .val (.int v2), .val (.int v3), .val (.int v4), .val (.int u5), .val (.int u6), .val (.ref b1), .val (.ref b2), .val (.int wd), .val (.int pp), .val (.int qq), .val (.int d), .val (.int rr), .val (.int (1 : Int32))] [])) (fun _ k => XS.ifNo X18.here hx rfl (hb hby at_243) rfl ((if0 _ _).trans (teq hb19).2) k) ?_
          refine Ends.st (S' := T18.setTop (mkF m 247 #[.val (.int v0), .val (.int v1), .val (.int v2), .val (.int v3), .val (.int v4), .val (.int u5), .val (.int u6), .val (.ref b1), .val (.ref b2), .val (.int wd), .val (.int pp), .val (.int qq), .val (.int d), .val (.int rr), .val (.int (1 : Int32))] [(.int (1 : Int32))])) (fun _ k => XS.iconst X18.here hx rfl (hb hby at_246) k) ?_
          refine Ends.st (S' := T18.setTop (mkF m 251 #[.val (.int v0), .val (.int v1), .val (.int v2), .val (.int v3), .val (.int v4), .val (.int u5), .val (.int u6), .val (.ref b1), .val (.ref b2), .val (.int wd), .val (.int pp), .val (.int qq), .val (.int d), .val (.int rr), .val (.int (1 : Int32))] [(.int (1 : Int32))])) (fun _ k => XS.goto X18.here hx rfl (pc0 := 247) (pc' := 251) rfl (hb hby at_247) (by decide) (by decide) k) ?_
          obtain ⟨fs, hr, hrun, hended, hW, hsame⟩ := X18.leave (v := some (.int (1 : Int32))) (fun h => by rw [Bd.returns] at h; cases h)
          exact ⟨_, _, retN X18 hx (t := .boolean) Bd.returns (by simp) (hb hby at_251) hr, hrun, hended, _, _, rfl, (by show Q0 Z  h0 n0 _ T18.heap _; rw [e18]; exact ⟨rfl, N18⟩), ⟨_, rfl⟩, hW, hsame.mono (by decide) (by decide)⟩
        · refine Ends.st (S' := T15.setTop (mkF m 199 #[.val (.int v0), .val (.int v1), .val (.int v2), .val (.int v3), .val (.int v4), .val (.int u5), .val (.int u6), .val (.ref b1), .val (.ref b2), .val (.int wd), .val (.int pp), .val (.int qq), .val (.int d), .val (.int rr), .unset] [])) (fun _ k => XS.icmpNo X15.here hx rfl (hb hby at_196) rfl (flt hc17).1 k) ?_
          refine Ends.st (S' := T15.setTop (mkF m 201 #[.val (.int v0), .val (.int v1), .val (.int v2), .val (.int v3), .val (.int v4), .val (.int u5), .val (.int u6), .val (.ref b1), .val (.ref b2), .val (.int wd), .val (.int pp), .val (.int qq), .val (.int d), .val (.int rr), .unset] [(.ref b1)])) (fun _ k => XS.aload X15.here hx rfl (hb hby at_199) rfl rfl k) ?_
          refine Ends.st (S' := T15.setTop (mkF m 203 #[.val (.int v0), .val (.int v1), .val (.int v2), .val (.int v3), .val (.int v4), .val (.int u5), .val (.int u6), .val (.ref b1), .val (.ref b2), .val (.int wd), .val (.int pp), .val (.int qq), .val (.int d), .val (.int rr), .unset] [(.int pp), (.ref b1)])) (fun _ k => XS.iload X15.here hx rfl (hb hby at_201) rfl k) ?_
          refine Ends.st (S' := T15.setTop (mkF m 205 #[.val (.int v0), .val (.int v1), .val (.int v2), .val (.int v3), .val (.int v4), .val (.int u5), .val (.int u6), .val (.ref b1), .val (.ref b2), .val (.int wd), .val (.int pp), .val (.int qq), .val (.int d), .val (.int rr), .unset] [(.ref b2), (.int pp), (.ref b1)])) (fun _ k => XS.aload X15.here hx rfl (hb hby at_203) rfl rfl k) ?_
          refine Ends.st (S' := T15.setTop (mkF m 207 #[.val (.int v0), .val (.int v1), .val (.int v2), .val (.int v3), .val (.int v4), .val (.int u5), .val (.int u6), .val (.ref b1), .val (.ref b2), .val (.int wd), .val (.int pp), .val (.int qq), .val (.int d), .val (.int rr), .unset] [(.int qq), (.ref b2), (.int pp), (.ref b1)])) (fun _ k => XS.iload X15.here hx rfl (hb hby at_205) rfl k) ?_
          refine Ends.st (S' := T15.setTop (mkF m 209 #[.val (.int v0), .val (.int v1), .val (.int v2), .val (.int v3), .val (.int v4), .val (.int u5), .val (.int u6), .val (.ref b1), .val (.ref b2), .val (.int wd), .val (.int pp), .val (.int qq), .val (.int d), .val (.int rr), .unset] [(.int d), (.int qq), (.ref b2), (.int pp), (.ref b1)])) (fun _ k => XS.iload X15.here hx rfl (hb hby at_207) rfl k) ?_
          refine Ends.st (S' := T15.setTop (mkF m 210 #[.val (.int v0), .val (.int v1), .val (.int v2), .val (.int v3), .val (.int v4), .val (.int u5), .val (.int u6), .val (.ref b1), .val (.ref b2), .val (.int wd), .val (.int pp), .val (.int qq), .val (.int d), .val (.int rr), .unset] [(.int (2 : Int32)), (.int d), (.int qq), (.ref b2), (.int pp), (.ref b1)])) (fun _ k => XS.iconst X15.here hx rfl (hb hby at_209) k) ?_
          obtain ⟨_, _, ⟨T20, L20, k20, n20⟩, -, X20, ⟨Lc20, hQ20, l20, y20, z20⟩, st20⟩ := Jvm.LawKit.callS X15 hx (y := (⟨"com/example/umpteenth_copy/umpteenthcopy/engine/MatchSameFromPinLaw", "ok", "([II[IIII)Z"⟩ : MethodName)) hown (mvT hZ (hw _ (List.mem_of_getElem? (i := 9) rfl))) (mvT hZ (hw _ (List.mem_of_getElem? (i := 10) rfl))) (mvT hZ (hw _ (List.mem_of_getElem? (i := 2) rfl))) (mvT hZ (hw _ (List.mem_of_getElem? (i := 11) rfl))) (by decide) (backOf (W := 0) (rm3 l Z a0 hw [] l1 l2 g1 g2 d pp qq b1 b2 (2 : Int32) T2.heap n0 (Nat.le_trans (Nat.le_trans Z0 K1.1) K2.1) J1 J2) hZ (hw _ (List.mem_of_getElem? (i := 11) rfl)) (hw _ (List.mem_of_getElem? (i := 2) rfl)) (by decide) (by decide)) (g := (mkF m 210 #[.val (.int v0), .val (.int v1), .val (.int v2), .val (.int v3), .val (.int v4), .val (.int u5), .val (.int u6), .val (.ref b1), .val (.ref b2), .val (.int wd), .val (.int pp), .val (.int qq), .val (.int d), .val (.int rr), .unset] [(.int (2 : Int32)), (.int d), (.int qq), (.ref b2), (.int pp), (.ref b1)])) rfl (by rw [hml]; rfl) (argsL := [(.ref b1), (.int pp), (.ref b2), (.int qq), (.int d), (.int (2 : Int32))]) (rest := []) (lenOf pd_2 rfl) rfl (by show 2 * 0 + _ ≤ _; exact Nat.le_of_eq rfl) (hb hby at_210) (fun _ _ => ⟨rfl, e15, (by decide : 0 + 1 + 1 + 0 + 0 + 0 ≤ _), (by decide : 0 + 3 + 3 + 0 + 0 + 0 ≤ _)⟩)
          dsimp only [Pt.U, Pt.locs, Pt.cells, Pt.slots] at X20 l20 y20 z20 st20 hQ20
          subst l20 y20 z20
          obtain ⟨rfl, N20q, e20⟩ := hQ20
          have N20 := Fr.app N15 N20q
          refine Ends.st (S' := T20.setTop (mkF m 213 #[.val (.int v0), .val (.int v1), .val (.int v2), .val (.int v3), .val (.int v4), .val (.int u5), .val (.int u6), .val (.ref b1), .val (.ref b2), .val (.int wd), .val (.int pp), .val (.int qq), .val (.int d), .val (.int rr), .unset] [(.int (okf l1 l2 g1 g2 d pp qq (2 : Int32)))])) (fun _ k => st20 _ k) ?_
          have hb21 : ¬ ((okf l1 l2 g1 g2 d pp qq (2 : Int32)) = (0 : Int32)) := by rw [hrk (2 : Int32) (by decide) (own_ge2 hc17)]; decide
          refine Ends.st (S' := T20.setTop (mkF m 216 #[.val (.int v0), .val (.int v1), .val (.int v2), .val (.int v3), .val (.int v4), .val (.int u5), .val (.int u6), .val (.ref b1), .val (.ref b2), .val (.int wd), .val (.int pp), .val (.int qq), .val (.int d), .val (.int rr), .unset] [])) (fun _ k => XS.ifNo X20.here hx rfl (hb hby at_213) rfl ((if0 _ _).trans (feq hb21).1) k) ?_
          refine Ends.st (S' := T20.setTop (mkF m 217 #[.val (.int v0), .val (.int v1), .val (.int v2), .val (.int v3), .val (.int v4), .val (.int u5), .val (.int u6), .val (.ref b1), .val (.ref b2), .val (.int wd), .val (.int pp), .val (.int qq), .val (.int d), .val (.int rr), .unset] [(.int (1 : Int32))])) (fun _ k => XS.iconst X20.here hx rfl (hb hby at_216) k) ?_
          refine Ends.st (S' := T20.setTop (mkF m 221 #[.val (.int v0), .val (.int v1), .val (.int v2), .val (.int v3), .val (.int v4), .val (.int u5), .val (.int u6), .val (.ref b1), .val (.ref b2), .val (.int wd), .val (.int pp), .val (.int qq), .val (.int d), .val (.int rr), .unset] [(.int (1 : Int32))])) (fun _ k => XS.goto X20.here hx rfl (pc0 := 217) (pc' := 221) rfl (hb hby at_217) (by decide) (by decide) k) ?_
          refine Ends.st (S' := T20.setTop (mkF m 223 #[.val (.int v0), .val (.int v1), .val (.int v2), .val (.int v3), .val (.int v4), .val (.int u5), .val (.int u6), .val (.ref b1), .val (.ref b2), .val (.int wd), .val (.int pp), .val (.int qq), .val (.int d), .val (.int rr), .val (.int (1 : Int32))] [])) (fun _ k => XS.istore X20.here hx rfl (hb hby at_221) rfl (l' := #[.val (.int v0), .val (.int v1), .val (.int v2), .val (.int v3), .val (.int v4), .val (.int u5), .val (.int u6), .val (.ref b1), .val (.ref b2), .val (.int wd), .val (.int pp), .val (.int qq), .val (.int d), .val (.int rr), .val (.int (1 : Int32))]) rfl k) ?_
          refine Ends.st (S' := T20.setTop (mkF m 225 #[.val (.int v0), .val (.int v1), .val (.int v2), .val (.int v3), .val (.int v4), .val (.int u5), .val (.int u6), .val (.ref b1), .val (.ref b2), .val (.int wd), .val (.int pp), .val (.int qq), .val (.int d), .val (.int rr), .val (.int (1 : Int32))] [(.int (1 : Int32))])) (fun _ k => XS.iload X20.here hx rfl (hb hby at_223) rfl k) ?_
          refine Ends.st (S' := T20.setTop (mkF m 228 #[.val (.int v0), .val (.int v1), .val (.int v2), .val (.int v3), .val (.int v4), .val (.int u5), .val (.int u6), .val (.ref b1), .val (.ref b2), .val (.int wd), .val (.int pp), .val (.int qq), .val (.int d), .val (.int rr), .val (.int (1 : Int32))] [])) (fun _ k => XS.ifNo X20.here hx rfl (hb hby at_225) rfl ((if0 _ _).trans (feq (by decide : ¬ ((1 : Int32) = (0 : Int32)))).1) k) ?_
          refine Ends.st (S' := T20.setTop (mkF m 230 #[.val (.int v0), .val (.int v1), .val (.int v2), .val (.int v3), .val (.int v4), .val (.int u5), .val (.int u6), .val (.ref b1), .val (.ref b2), .val (.int wd), .val (.int pp), .val (.int qq), .val (.int d), .val (.int rr), .val (.int (1 : Int32))] [(.ref b1)])) (fun _ k => XS.aload X20.here hx rfl (hb hby at_228) rfl rfl k) ?_
          refine Ends.st (S' := T20.setTop (mkF m 232 #[.val (.int v0), .val (.int v1), .val (.int v2), .val (.int v3), .val (.int v4), .val (.int u5), .val (.int u6), .val (.ref b1), .val (.ref b2), .val (.int wd), .val (.int pp), .val (.int qq), .val (.int d), .val (.int rr), .val (.int (1 : Int32))] [(.int pp), (.ref b1)])) (fun _ k => XS.iload X20.here hx rfl (hb hby at_230) rfl k) ?_
          refine Ends.st (S' := T20.setTop (mkF m 234 #[.val (.int v0), .val (.int v1), .val (.int v2), .val (.int v3), .val (.int v4), .val (.int u5), .val (.int u6), .val (.ref b1), .val (.ref b2), .val (.int wd), .val (.int pp), .val (.int qq), .val (.int d), .val (.int rr), .val (.int (1 : Int32))] [(.ref b2), (.int pp), (.ref b1)])) (fun _ k => XS.aload X20.here hx rfl (hb hby at_232) rfl rfl k) ?_
          refine Ends.st (S' := T20.setTop (mkF m 236 #[.val (.int v0), .val (.int v1), .val (.int v2), .val (.int v3), .val (.int v4), .val (.int u5), .val (.int u6), .val (.ref b1), .val (.ref b2), .val (.int wd), .val (.int pp), .val (.int qq), .val (.int d), .val (.int rr), .val (.int (1 : Int32))] [(.int qq), (.ref b2), (.int pp), (.ref b1)])) (fun _ k => XS.iload X20.here hx rfl (hb hby at_234) rfl k) ?_
          refine Ends.st (S' := T20.setTop (mkF m 238 #[.val (.int v0), .val (.int v1), .val (.int v2), .val (.int v3), .val (.int v4), .val (.int u5), .val (.int u6), .val (.ref b1), .val (.ref b2), .val (.int wd), .val (.int pp), .val (.int qq), .val (.int d), .val (.int rr), .val (.int (1 : Int32))] [(.int d), (.int qq), (.ref b2), (.int pp), (.ref b1)])) (fun _ k => XS.iload X20.here hx rfl (hb hby at_236) rfl k) ?_
          refine Ends.st (S' := T20.setTop (mkF m 240 #[.val (.int v0), .val (.int v1), .val (.int v2), .val (.int v3), .val (.int v4), .val (.int u5), .val (.int u6), .val (.ref b1), .val (.ref b2), .val (.int wd), .val (.int pp), .val (.int qq), .val (.int d), .val (.int rr), .val (.int (1 : Int32))] [(.int rr), (.int d), (.int qq), (.ref b2), (.int pp), (.ref b1)])) (fun _ k => XS.iload X20.here hx rfl (hb hby at_238) rfl k) ?_
          obtain ⟨_, _, ⟨T22, L22, k22, n22⟩, -, X22, ⟨Lc22, hQ22, l22, y22, z22⟩, st22⟩ := Jvm.LawKit.callS X20 hx (y := (⟨"com/example/umpteenth_copy/umpteenthcopy/engine/MatchSameFromPinLaw", "ok", "([II[IIII)Z"⟩ : MethodName)) hown (mvT hZ (hw _ (List.mem_of_getElem? (i := 9) rfl))) (mvT hZ (hw _ (List.mem_of_getElem? (i := 10) rfl))) (mvT hZ (hw _ (List.mem_of_getElem? (i := 2) rfl))) (mvT hZ (hw _ (List.mem_of_getElem? (i := 11) rfl))) (by decide) (backOf (W := 0) (rm3 l Z a0 hw [] l1 l2 g1 g2 d pp qq b1 b2 rr T2.heap n0 (Nat.le_trans (Nat.le_trans Z0 K1.1) K2.1) J1 J2) hZ (hw _ (List.mem_of_getElem? (i := 11) rfl)) (hw _ (List.mem_of_getElem? (i := 2) rfl)) (by decide) (by decide)) (g := (mkF m 240 #[.val (.int v0), .val (.int v1), .val (.int v2), .val (.int v3), .val (.int v4), .val (.int u5), .val (.int u6), .val (.ref b1), .val (.ref b2), .val (.int wd), .val (.int pp), .val (.int qq), .val (.int d), .val (.int rr), .val (.int (1 : Int32))] [(.int rr), (.int d), (.int qq), (.ref b2), (.int pp), (.ref b1)])) rfl (by rw [hml]; rfl) (argsL := [(.ref b1), (.int pp), (.ref b2), (.int qq), (.int d), (.int rr)]) (rest := []) (lenOf pd_2 rfl) rfl (by show 2 * 0 + _ ≤ _; exact Nat.le_of_eq rfl) (hb hby at_240) (fun _ _ => ⟨rfl, e20, (by decide : 0 + 1 + 1 + 0 + 0 + 0 + 0 ≤ _), (by decide : 0 + 3 + 3 + 0 + 0 + 0 + 0 ≤ _)⟩)
          dsimp only [Pt.U, Pt.locs, Pt.cells, Pt.slots] at X22 l22 y22 z22 st22 hQ22
          subst l22 y22 z22
          obtain ⟨rfl, N22q, e22⟩ := hQ22
          have N22 := Fr.app N20 N22q
          refine Ends.st (S' := T22.setTop (mkF m 243 #[.val (.int v0), .val (.int v1), .val (.int v2), .val (.int v3), .val (.int v4), .val (.int u5), .val (.int u6), .val (.ref b1), .val (.ref b2), .val (.int wd), .val (.int pp), .val (.int qq), .val (.int d), .val (.int rr), .val (.int (1 : Int32))] [(.int (okf l1 l2 g1 g2 d pp qq rr))])) (fun _ k => st22 _ k) ?_
          have hb23 : (okf l1 l2 g1 g2 d pp qq rr) = (0 : Int32) := hrn
          refine Ends.st (S' := T22.setTop (mkF m 246 #[.val (.int v0), .val (.int v1), .val (.int v2), .val (.int v3), .val (.int v4), .val (.int u5), .val (.int u6), .val (.ref b1), .val (.ref b2), .val (.int wd), .val (.int pp), .val (.int qq), .val (.int d), .val (.int rr), .val (.int (1 : Int32))] [])) (fun _ k => XS.ifNo X22.here hx rfl (hb hby at_243) rfl ((if0 _ _).trans (teq hb23).2) k) ?_
          refine Ends.st (S' := T22.setTop (mkF m 247 #[.val (.int v0), .val (.int v1), .val (.int v2), .val (.int v3), .val (.int v4), .val (.int u5), .val (.int u6), .val (.ref b1), .val (.ref b2), .val (.int wd), .val (.int pp), .val (.int qq), .val (.int d), .val (.int rr), .val (.int (1 : Int32))] [(.int (1 : Int32))])) (fun _ k => XS.iconst X22.here hx rfl (hb hby at_246) k) ?_
          refine Ends.st (S' := T22.setTop (mkF m 251 #[.val (.int v0), .val (.int v1), .val (.int v2), .val (.int v3), .val (.int v4), .val (.int u5), .val (.int u6), .val (.ref b1), .val (.ref b2), .val (.int wd), .val (.int pp), .val (.int qq), .val (.int d), .val (.int rr), .val (.int (1 : Int32))] [(.int (1 : Int32))])) (fun _ k => XS.goto X22.here hx rfl (pc0 := 247) (pc' := 251) rfl (hb hby at_247) (by decide) (by decide) k) ?_
          obtain ⟨fs, hr, hrun, hended, hW, hsame⟩ := X22.leave (v := some (.int (1 : Int32))) (fun h => by rw [Bd.returns] at h; cases h)
          exact ⟨_, _, retN X22 hx (t := .boolean) Bd.returns (by simp) (hb hby at_251) hr, hrun, hended, _, _, rfl, (by show Q0 Z  h0 n0 _ T22.heap _; rw [e22]; exact ⟨rfl, N22⟩), ⟨_, rfl⟩, hW, hsame.mono (by decide) (by decide)⟩
    · refine Ends.st (S' := T3.setTop (mkF m 153 #[.val (.int v0), .val (.int v1), .val (.int v2), .val (.int v3), .val (.int v4), .val (.int u5), .val (.int u6), .val (.ref b1), .val (.ref b2), .val (.int wd), .val (.int pp), .val (.int qq), .val (.int d), .val (.int rr), .unset] [])) (fun _ k => XS.icmpNo X3.here hx rfl (hb hby at_150) rfl (flt hc6).1 k) ?_
      refine Ends.st (S' := T3.setTop (mkF m 155 #[.val (.int v0), .val (.int v1), .val (.int v2), .val (.int v3), .val (.int v4), .val (.int u5), .val (.int u6), .val (.ref b1), .val (.ref b2), .val (.int wd), .val (.int pp), .val (.int qq), .val (.int d), .val (.int rr), .unset] [(.ref b1)])) (fun _ k => XS.aload X3.here hx rfl (hb hby at_153) rfl rfl k) ?_
      refine Ends.st (S' := T3.setTop (mkF m 157 #[.val (.int v0), .val (.int v1), .val (.int v2), .val (.int v3), .val (.int v4), .val (.int u5), .val (.int u6), .val (.ref b1), .val (.ref b2), .val (.int wd), .val (.int pp), .val (.int qq), .val (.int d), .val (.int rr), .unset] [(.int pp), (.ref b1)])) (fun _ k => XS.iload X3.here hx rfl (hb hby at_155) rfl k) ?_
      refine Ends.st (S' := T3.setTop (mkF m 159 #[.val (.int v0), .val (.int v1), .val (.int v2), .val (.int v3), .val (.int v4), .val (.int u5), .val (.int u6), .val (.ref b1), .val (.ref b2), .val (.int wd), .val (.int pp), .val (.int qq), .val (.int d), .val (.int rr), .unset] [(.ref b2), (.int pp), (.ref b1)])) (fun _ k => XS.aload X3.here hx rfl (hb hby at_157) rfl rfl k) ?_
      refine Ends.st (S' := T3.setTop (mkF m 161 #[.val (.int v0), .val (.int v1), .val (.int v2), .val (.int v3), .val (.int v4), .val (.int u5), .val (.int u6), .val (.ref b1), .val (.ref b2), .val (.int wd), .val (.int pp), .val (.int qq), .val (.int d), .val (.int rr), .unset] [(.int qq), (.ref b2), (.int pp), (.ref b1)])) (fun _ k => XS.iload X3.here hx rfl (hb hby at_159) rfl k) ?_
      refine Ends.st (S' := T3.setTop (mkF m 163 #[.val (.int v0), .val (.int v1), .val (.int v2), .val (.int v3), .val (.int v4), .val (.int u5), .val (.int u6), .val (.ref b1), .val (.ref b2), .val (.int wd), .val (.int pp), .val (.int qq), .val (.int d), .val (.int rr), .unset] [(.int d), (.int qq), (.ref b2), (.int pp), (.ref b1)])) (fun _ k => XS.iload X3.here hx rfl (hb hby at_161) rfl k) ?_
      refine Ends.st (S' := T3.setTop (mkF m 164 #[.val (.int v0), .val (.int v1), .val (.int v2), .val (.int v3), .val (.int v4), .val (.int u5), .val (.int u6), .val (.ref b1), .val (.ref b2), .val (.int wd), .val (.int pp), .val (.int qq), .val (.int d), .val (.int rr), .unset] [(.int (0 : Int32)), (.int d), (.int qq), (.ref b2), (.int pp), (.ref b1)])) (fun _ k => XS.iconst X3.here hx rfl (hb hby at_163) k) ?_
      obtain ⟨_, _, ⟨T24, L24, k24, n24⟩, -, X24, ⟨Lc24, hQ24, l24, y24, z24⟩, st24⟩ := Jvm.LawKit.callS X3 hx (y := (⟨"com/example/umpteenth_copy/umpteenthcopy/engine/MatchSameFromPinLaw", "ok", "([II[IIII)Z"⟩ : MethodName)) hown (mvT hZ (hw _ (List.mem_of_getElem? (i := 9) rfl))) (mvT hZ (hw _ (List.mem_of_getElem? (i := 10) rfl))) (mvT hZ (hw _ (List.mem_of_getElem? (i := 2) rfl))) (mvT hZ (hw _ (List.mem_of_getElem? (i := 11) rfl))) (by decide) (backOf (W := 0) (rm3 l Z a0 hw [] l1 l2 g1 g2 d pp qq b1 b2 (0 : Int32) T2.heap n0 (Nat.le_trans (Nat.le_trans Z0 K1.1) K2.1) J1 J2) hZ (hw _ (List.mem_of_getElem? (i := 11) rfl)) (hw _ (List.mem_of_getElem? (i := 2) rfl)) (by decide) (by decide)) (g := (mkF m 164 #[.val (.int v0), .val (.int v1), .val (.int v2), .val (.int v3), .val (.int v4), .val (.int u5), .val (.int u6), .val (.ref b1), .val (.ref b2), .val (.int wd), .val (.int pp), .val (.int qq), .val (.int d), .val (.int rr), .unset] [(.int (0 : Int32)), (.int d), (.int qq), (.ref b2), (.int pp), (.ref b1)])) rfl (by rw [hml]; rfl) (argsL := [(.ref b1), (.int pp), (.ref b2), (.int qq), (.int d), (.int (0 : Int32))]) (rest := []) (lenOf pd_2 rfl) rfl (by show 2 * 0 + _ ≤ _; exact Nat.le_of_eq rfl) (hb hby at_164) (fun _ _ => ⟨rfl, e3, (by decide : 0 + 1 + 1 + 0 + 0 ≤ _), (by decide : 0 + 3 + 3 + 0 + 0 ≤ _)⟩)
      dsimp only [Pt.U, Pt.locs, Pt.cells, Pt.slots] at X24 l24 y24 z24 st24 hQ24
      subst l24 y24 z24
      obtain ⟨rfl, N24q, e24⟩ := hQ24
      have N24 := Fr.app N3 N24q
      refine Ends.st (S' := T24.setTop (mkF m 167 #[.val (.int v0), .val (.int v1), .val (.int v2), .val (.int v3), .val (.int v4), .val (.int u5), .val (.int u6), .val (.ref b1), .val (.ref b2), .val (.int wd), .val (.int pp), .val (.int qq), .val (.int d), .val (.int rr), .unset] [(.int (okf l1 l2 g1 g2 d pp qq (0 : Int32)))])) (fun _ k => st24 _ k) ?_
      have hb25 : ¬ ((okf l1 l2 g1 g2 d pp qq (0 : Int32)) = (0 : Int32)) := by rw [hrk (0 : Int32) (by decide) (own_ge0 hc6)]; decide
      refine Ends.st (S' := T24.setTop (mkF m 170 #[.val (.int v0), .val (.int v1), .val (.int v2), .val (.int v3), .val (.int v4), .val (.int u5), .val (.int u6), .val (.ref b1), .val (.ref b2), .val (.int wd), .val (.int pp), .val (.int qq), .val (.int d), .val (.int rr), .unset] [])) (fun _ k => XS.ifNo X24.here hx rfl (hb hby at_167) rfl ((if0 _ _).trans (feq hb25).1) k) ?_
      refine Ends.st (S' := T24.setTop (mkF m 172 #[.val (.int v0), .val (.int v1), .val (.int v2), .val (.int v3), .val (.int v4), .val (.int u5), .val (.int u6), .val (.ref b1), .val (.ref b2), .val (.int wd), .val (.int pp), .val (.int qq), .val (.int d), .val (.int rr), .unset] [(.int rr)])) (fun _ k => XS.iload X24.here hx rfl (hb hby at_170) rfl k) ?_
      refine Ends.st (S' := T24.setTop (mkF m 173 #[.val (.int v0), .val (.int v1), .val (.int v2), .val (.int v3), .val (.int v4), .val (.int u5), .val (.int u6), .val (.ref b1), .val (.ref b2), .val (.int wd), .val (.int pp), .val (.int qq), .val (.int d), .val (.int rr), .unset] [(.int (2 : Int32)), (.int rr)])) (fun _ k => XS.iconst X24.here hx rfl (hb hby at_172) k) ?_
      by_cases hc26 : rr < (2 : Int32)
      · refine Ends.st (S' := T24.setTop (mkF m 193 #[.val (.int v0), .val (.int v1), .val (.int v2), .val (.int v3), .val (.int v4), .val (.int u5), .val (.int u6), .val (.ref b1), .val (.ref b2), .val (.int wd), .val (.int pp), .val (.int qq), .val (.int d), .val (.int rr), .unset] [])) (fun _ k => XS.icmpYes X24.here hx rfl (pc0 := 173) (pc' := 193) rfl (hb hby at_173) rfl (tlt hc26).1 (by decide) (by decide) k) ?_
        refine Ends.st (S' := T24.setTop (mkF m 195 #[.val (.int v0), .val (.int v1), .val (.int v2), .val (.int v3), .val (.int v4), .val (.int u5), .val (.int u6), .val (.ref b1), .val (.ref b2), .val (.int wd), .val (.int pp), .val (.int qq), .val (.int d), .val (.int rr), .unset] [(.int rr)])) (fun _ k => XS.iload X24.here hx rfl (hb hby at_193) rfl k) ?_
        refine Ends.st (S' := T24.setTop (mkF m 196 #[.val (.int v0), .val (.int v1), .val (.int v2), .val (.int v3), .val (.int v4), .val (.int u5), .val (.int u6), .val (.ref b1), .val (.ref b2), .val (.int wd), .val (.int pp), .val (.int qq), .val (.int d), .val (.int rr), .unset] [(.int (3 : Int32)), (.int rr)])) (fun _ k => XS.iconst X24.here hx rfl (hb hby at_195) k) ?_
        by_cases hc27 : rr < (3 : Int32)
        · refine Ends.st (S' := T24.setTop (mkF m 216 #[.val (.int v0), .val (.int v1), .val (.int v2), .val (.int v3), .val (.int v4), .val (.int u5), .val (.int u6), .val (.ref b1), .val (.ref b2), .val (.int wd), .val (.int pp), .val (.int qq), .val (.int d), .val (.int rr), .unset] [])) (fun _ k => XS.icmpYes X24.here hx rfl (pc0 := 196) (pc' := 216) rfl (hb hby at_196) rfl (tlt hc27).1 (by decide) (by decide) k) ?_
          refine Ends.st (S' := T24.setTop (mkF m 217 #[.val (.int v0), .val (.int v1), .val (.int v2), .val (.int v3), .val (.int v4), .val (.int u5), .val (.int u6), .val (.ref b1), .val (.ref b2), .val (.int wd), .val (.int pp), .val (.int qq), .val (.int d), .val (.int rr), .unset] [(.int (1 : Int32))])) (fun _ k => XS.iconst X24.here hx rfl (hb hby at_216) k) ?_
          refine Ends.st (S' := T24.setTop (mkF m 221 #[.val (.int v0), .val (.int v1), .val (.int v2), .val (.int v3), .val (.int v4), .val (.int u5), .val (.int u6), .val (.ref b1), .val (.ref b2), .val (.int wd), .val (.int pp), .val (.int qq), .val (.int d), .val (.int rr), .unset] [(.int (1 : Int32))])) (fun _ k => XS.goto X24.here hx rfl (pc0 := 217) (pc' := 221) rfl (hb hby at_217) (by decide) (by decide) k) ?_
          refine Ends.st (S' := T24.setTop (mkF m 223 #[.val (.int v0), .val (.int v1), .val (.int v2), .val (.int v3), .val (.int v4), .val (.int u5), .val (.int u6), .val (.ref b1), .val (.ref b2), .val (.int wd), .val (.int pp), .val (.int qq), .val (.int d), .val (.int rr), .val (.int (1 : Int32))] [])) (fun _ k => XS.istore X24.here hx rfl (hb hby at_221) rfl (l' := #[.val (.int v0), .val (.int v1), .val (.int v2), .val (.int v3), .val (.int v4), .val (.int u5), .val (.int u6), .val (.ref b1), .val (.ref b2), .val (.int wd), .val (.int pp), .val (.int qq), .val (.int d), .val (.int rr), .val (.int (1 : Int32))]) rfl k) ?_
          refine Ends.st (S' := T24.setTop (mkF m 225 #[.val (.int v0), .val (.int v1), .val (.int v2), .val (.int v3), .val (.int v4), .val (.int u5), .val (.int u6), .val (.ref b1), .val (.ref b2), .val (.int wd), .val (.int pp), .val (.int qq), .val (.int d), .val (.int rr), .val (.int (1 : Int32))] [(.int (1 : Int32))])) (fun _ k => XS.iload X24.here hx rfl (hb hby at_223) rfl k) ?_
          refine Ends.st (S' := T24.setTop (mkF m 228 #[.val (.int v0), .val (.int v1), .val (.int v2), .val (.int v3), .val (.int v4), .val (.int u5), .val (.int u6), .val (.ref b1), .val (.ref b2), .val (.int wd), .val (.int pp), .val (.int qq), .val (.int d), .val (.int rr), .val (.int (1 : Int32))] [])) (fun _ k => XS.ifNo X24.here hx rfl (hb hby at_225) rfl ((if0 _ _).trans (feq (by decide : ¬ ((1 : Int32) = (0 : Int32)))).1) k) ?_
          refine Ends.st (S' := T24.setTop (mkF m 230 #[.val (.int v0), .val (.int v1), .val (.int v2), .val (.int v3), .val (.int v4), .val (.int u5), .val (.int u6), .val (.ref b1), .val (.ref b2), .val (.int wd), .val (.int pp), .val (.int qq), .val (.int d), .val (.int rr), .val (.int (1 : Int32))] [(.ref b1)])) (fun _ k => XS.aload X24.here hx rfl (hb hby at_228) rfl rfl k) ?_
          refine Ends.st (S' := T24.setTop (mkF m 232 #[.val (.int v0), .val (.int v1), .val (.int v2), .val (.int v3), .val (.int v4), .val (.int u5), .val (.int u6), .val (.ref b1), .val (.ref b2), .val (.int wd), .val (.int pp), .val (.int qq), .val (.int d), .val (.int rr), .val (.int (1 : Int32))] [(.int pp), (.ref b1)])) (fun _ k => XS.iload X24.here hx rfl (hb hby at_230) rfl k) ?_
          refine Ends.st (S' := T24.setTop (mkF m 234 #[.val (.int v0), .val (.int v1), .val (.int v2), .val (.int v3), .val (.int v4), .val (.int u5), .val (.int u6), .val (.ref b1), .val (.ref b2), .val (.int wd), .val (.int pp), .val (.int qq), .val (.int d), .val (.int rr), .val (.int (1 : Int32))] [(.ref b2), (.int pp), (.ref b1)])) (fun _ k => XS.aload X24.here hx rfl (hb hby at_232) rfl rfl k) ?_
          refine Ends.st (S' := T24.setTop (mkF m 236 #[.val (.int v0), .val (.int v1), .val (.int v2), .val (.int v3), .val (.int v4), .val (.int u5), .val (.int u6), .val (.ref b1), .val (.ref b2), .val (.int wd), .val (.int pp), .val (.int qq), .val (.int d), .val (.int rr), .val (.int (1 : Int32))] [(.int qq), (.ref b2), (.int pp), (.ref b1)])) (fun _ k => XS.iload X24.here hx rfl (hb hby at_234) rfl k) ?_
          refine Ends.st (S' := T24.setTop (mkF m 238 #[.val (.int v0), .val (.int v1), .val (.int v2), .val (.int v3), .val (.int v4), .val (.int u5), .val (.int u6), .val (.ref b1), .val (.ref b2), .val (.int wd), .val (.int pp), .val (.int qq), .val (.int d), .val (.int rr), .val (.int (1 : Int32))] [(.int d), (.int qq), (.ref b2), (.int pp), (.ref b1)])) (fun _ k => XS.iload X24.here hx rfl (hb hby at_236) rfl k) ?_
          refine Ends.st (S' := T24.setTop (mkF m 240 #[.val (.int v0), .val (.int v1), .val (.int v2), .val (.int v3), .val (.int v4), .val (.int u5), .val (.int u6), .val (.ref b1), .val (.ref b2), .val (.int wd), .val (.int pp), .val (.int qq), .val (.int d), .val (.int rr), .val (.int (1 : Int32))] [(.int rr), (.int d), (.int qq), (.ref b2), (.int pp), (.ref b1)])) (fun _ k => XS.iload X24.here hx rfl (hb hby at_238) rfl k) ?_
          obtain ⟨_, _, ⟨T28, L28, k28, n28⟩, -, X28, ⟨Lc28, hQ28, l28, y28, z28⟩, st28⟩ := Jvm.LawKit.callS X24 hx (y := (⟨"com/example/umpteenth_copy/umpteenthcopy/engine/MatchSameFromPinLaw", "ok", "([II[IIII)Z"⟩ : MethodName)) hown (mvT hZ (hw _ (List.mem_of_getElem? (i := 9) rfl))) (mvT hZ (hw _ (List.mem_of_getElem? (i := 10) rfl))) (mvT hZ (hw _ (List.mem_of_getElem? (i := 2) rfl))) (mvT hZ (hw _ (List.mem_of_getElem? (i := 11) rfl))) (by decide) (backOf (W := 0) (rm3 l Z a0 hw [] l1 l2 g1 g2 d pp qq b1 b2 rr T2.heap n0 (Nat.le_trans (Nat.le_trans Z0 K1.1) K2.1) J1 J2) hZ (hw _ (List.mem_of_getElem? (i := 11) rfl)) (hw _ (List.mem_of_getElem? (i := 2) rfl)) (by decide) (by decide)) (g := (mkF m 240 #[.val (.int v0), .val (.int v1), .val (.int v2), .val (.int v3), .val (.int v4), .val (.int u5), .val (.int u6), .val (.ref b1), .val (.ref b2), .val (.int wd), .val (.int pp), .val (.int qq), .val (.int d), .val (.int rr), .val (.int (1 : Int32))] [(.int rr), (.int d), (.int qq), (.ref b2), (.int pp), (.ref b1)])) rfl (by rw [hml]; rfl) (argsL := [(.ref b1), (.int pp), (.ref b2), (.int qq), (.int d), (.int rr)]) (rest := []) (lenOf pd_2 rfl) rfl (by show 2 * 0 + _ ≤ _; exact Nat.le_of_eq rfl) (hb hby at_240) (fun _ _ => ⟨rfl, e24, (by decide : 0 + 1 + 1 + 0 + 0 + 0 ≤ _), (by decide : 0 + 3 + 3 + 0 + 0 + 0 ≤ _)⟩)
          dsimp only [Pt.U, Pt.locs, Pt.cells, Pt.slots] at X28 l28 y28 z28 st28 hQ28
          subst l28 y28 z28
          obtain ⟨rfl, N28q, e28⟩ := hQ28
          have N28 := Fr.app N24 N28q
          refine Ends.st (S' := T28.setTop (mkF m 243 #[.val (.int v0), .val (.int v1), .val (.int v2), .val (.int v3), .val (.int v4), .val (.int u5), .val (.int u6), .val (.ref b1), .val (.ref b2), .val (.int wd), .val (.int pp), .val (.int qq), .val (.int d), .val (.int rr), .val (.int (1 : Int32))] [(.int (okf l1 l2 g1 g2 d pp qq rr))])) (fun _ k => st28 _ k) ?_
          have hb29 : (okf l1 l2 g1 g2 d pp qq rr) = (0 : Int32) := hrn
          refine Ends.st (S' := T28.setTop (mkF m 246 #[.val (.int v0), .val (.int v1), .val (.int v2), .val (.int v3), .val (.int v4), .val (.int u5), .val (.int u6), .val (.ref b1), .val (.ref b2), .val (.int wd), .val (.int pp), .val (.int qq), .val (.int d), .val (.int rr), .val (.int (1 : Int32))] [])) (fun _ k => XS.ifNo X28.here hx rfl (hb hby at_243) rfl ((if0 _ _).trans (teq hb29).2) k) ?_
          refine Ends.st (S' := T28.setTop (mkF m 247 #[.val (.int v0), .val (.int v1), .val (.int v2), .val (.int v3), .val (.int v4), .val (.int u5), .val (.int u6), .val (.ref b1), .val (.ref b2), .val (.int wd), .val (.int pp), .val (.int qq), .val (.int d), .val (.int rr), .val (.int (1 : Int32))] [(.int (1 : Int32))])) (fun _ k => XS.iconst X28.here hx rfl (hb hby at_246) k) ?_
          refine Ends.st (S' := T28.setTop (mkF m 251 #[.val (.int v0), .val (.int v1), .val (.int v2), .val (.int v3), .val (.int v4), .val (.int u5), .val (.int u6), .val (.ref b1), .val (.ref b2), .val (.int wd), .val (.int pp), .val (.int qq), .val (.int d), .val (.int rr), .val (.int (1 : Int32))] [(.int (1 : Int32))])) (fun _ k => XS.goto X28.here hx rfl (pc0 := 247) (pc' := 251) rfl (hb hby at_247) (by decide) (by decide) k) ?_
          obtain ⟨fs, hr, hrun, hended, hW, hsame⟩ := X28.leave (v := some (.int (1 : Int32))) (fun h => by rw [Bd.returns] at h; cases h)
          exact ⟨_, _, retN X28 hx (t := .boolean) Bd.returns (by simp) (hb hby at_251) hr, hrun, hended, _, _, rfl, (by show Q0 Z  h0 n0 _ T28.heap _; rw [e28]; exact ⟨rfl, N28⟩), ⟨_, rfl⟩, hW, hsame.mono (by decide) (by decide)⟩
        · refine Ends.st (S' := T24.setTop (mkF m 199 #[.val (.int v0), .val (.int v1), .val (.int v2), .val (.int v3), .val (.int v4), .val (.int u5), .val (.int u6), .val (.ref b1), .val (.ref b2), .val (.int wd), .val (.int pp), .val (.int qq), .val (.int d), .val (.int rr), .unset] [])) (fun _ k => XS.icmpNo X24.here hx rfl (hb hby at_196) rfl (flt hc27).1 k) ?_
          refine Ends.st (S' := T24.setTop (mkF m 201 #[.val (.int v0), .val (.int v1), .val (.int v2), .val (.int v3), .val (.int v4), .val (.int u5), .val (.int u6), .val (.ref b1), .val (.ref b2), .val (.int wd), .val (.int pp), .val (.int qq), .val (.int d), .val (.int rr), .unset] [(.ref b1)])) (fun _ k => XS.aload X24.here hx rfl (hb hby at_199) rfl rfl k) ?_
          refine Ends.st (S' := T24.setTop (mkF m 203 #[.val (.int v0), .val (.int v1), .val (.int v2), .val (.int v3), .val (.int v4), .val (.int u5), .val (.int u6), .val (.ref b1), .val (.ref b2), .val (.int wd), .val (.int pp), .val (.int qq), .val (.int d), .val (.int rr), .unset] [(.int pp), (.ref b1)])) (fun _ k => XS.iload X24.here hx rfl (hb hby at_201) rfl k) ?_
          refine Ends.st (S' := T24.setTop (mkF m 205 #[.val (.int v0), .val (.int v1), .val (.int v2), .val (.int v3), .val (.int v4), .val (.int u5), .val (.int u6), .val (.ref b1), .val (.ref b2), .val (.int wd), .val (.int pp), .val (.int qq), .val (.int d), .val (.int rr), .unset] [(.ref b2), (.int pp), (.ref b1)])) (fun _ k => XS.aload X24.here hx rfl (hb hby at_203) rfl rfl k) ?_
          refine Ends.st (S' := T24.setTop (mkF m 207 #[.val (.int v0), .val (.int v1), .val (.int v2), .val (.int v3), .val (.int v4), .val (.int u5), .val (.int u6), .val (.ref b1), .val (.ref b2), .val (.int wd), .val (.int pp), .val (.int qq), .val (.int d), .val (.int rr), .unset] [(.int qq), (.ref b2), (.int pp), (.ref b1)])) (fun _ k => XS.iload X24.here hx rfl (hb hby at_205) rfl k) ?_
          refine Ends.st (S' := T24.setTop (mkF m 209 #[.val (.int v0), .val (.int v1), .val (.int v2), .val (.int v3), .val (.int v4), .val (.int u5), .val (.int u6), .val (.ref b1), .val (.ref b2), .val (.int wd), .val (.int pp), .val (.int qq), .val (.int d), .val (.int rr), .unset] [(.int d), (.int qq), (.ref b2), (.int pp), (.ref b1)])) (fun _ k => XS.iload X24.here hx rfl (hb hby at_207) rfl k) ?_
          refine Ends.st (S' := T24.setTop (mkF m 210 #[.val (.int v0), .val (.int v1), .val (.int v2), .val (.int v3), .val (.int v4), .val (.int u5), .val (.int u6), .val (.ref b1), .val (.ref b2), .val (.int wd), .val (.int pp), .val (.int qq), .val (.int d), .val (.int rr), .unset] [(.int (2 : Int32)), (.int d), (.int qq), (.ref b2), (.int pp), (.ref b1)])) (fun _ k => XS.iconst X24.here hx rfl (hb hby at_209) k) ?_
          obtain ⟨_, _, ⟨T30, L30, k30, n30⟩, -, X30, ⟨Lc30, hQ30, l30, y30, z30⟩, st30⟩ := Jvm.LawKit.callS X24 hx (y := (⟨"com/example/umpteenth_copy/umpteenthcopy/engine/MatchSameFromPinLaw", "ok", "([II[IIII)Z"⟩ : MethodName)) hown (mvT hZ (hw _ (List.mem_of_getElem? (i := 9) rfl))) (mvT hZ (hw _ (List.mem_of_getElem? (i := 10) rfl))) (mvT hZ (hw _ (List.mem_of_getElem? (i := 2) rfl))) (mvT hZ (hw _ (List.mem_of_getElem? (i := 11) rfl))) (by decide) (backOf (W := 0) (rm3 l Z a0 hw [] l1 l2 g1 g2 d pp qq b1 b2 (2 : Int32) T2.heap n0 (Nat.le_trans (Nat.le_trans Z0 K1.1) K2.1) J1 J2) hZ (hw _ (List.mem_of_getElem? (i := 11) rfl)) (hw _ (List.mem_of_getElem? (i := 2) rfl)) (by decide) (by decide)) (g := (mkF m 210 #[.val (.int v0), .val (.int v1), .val (.int v2), .val (.int v3), .val (.int v4), .val (.int u5), .val (.int u6), .val (.ref b1), .val (.ref b2), .val (.int wd), .val (.int pp), .val (.int qq), .val (.int d), .val (.int rr), .unset] [(.int (2 : Int32)), (.int d), (.int qq), (.ref b2), (.int pp), (.ref b1)])) rfl (by rw [hml]; rfl) (argsL := [(.ref b1), (.int pp), (.ref b2), (.int qq), (.int d), (.int (2 : Int32))]) (rest := []) (lenOf pd_2 rfl) rfl (by show 2 * 0 + _ ≤ _; exact Nat.le_of_eq rfl) (hb hby at_210) (fun _ _ => ⟨rfl, e24, (by decide : 0 + 1 + 1 + 0 + 0 + 0 ≤ _), (by decide : 0 + 3 + 3 + 0 + 0 + 0 ≤ _)⟩)
          dsimp only [Pt.U, Pt.locs, Pt.cells, Pt.slots] at X30 l30 y30 z30 st30 hQ30
          subst l30 y30 z30
          obtain ⟨rfl, N30q, e30⟩ := hQ30
          have N30 := Fr.app N24 N30q
          refine Ends.st (S' := T30.setTop (mkF m 213 #[.val (.int v0), .val (.int v1), .val (.int v2), .val (.int v3), .val (.int v4), .val (.int u5), .val (.int u6), .val (.ref b1), .val (.ref b2), .val (.int wd), .val (.int pp), .val (.int qq), .val (.int d), .val (.int rr), .unset] [(.int (okf l1 l2 g1 g2 d pp qq (2 : Int32)))])) (fun _ k => st30 _ k) ?_
          have hb31 : ¬ ((okf l1 l2 g1 g2 d pp qq (2 : Int32)) = (0 : Int32)) := by rw [hrk (2 : Int32) (by decide) (own_ge2 hc27)]; decide
          refine Ends.st (S' := T30.setTop (mkF m 216 #[.val (.int v0), .val (.int v1), .val (.int v2), .val (.int v3), .val (.int v4), .val (.int u5), .val (.int u6), .val (.ref b1), .val (.ref b2), .val (.int wd), .val (.int pp), .val (.int qq), .val (.int d), .val (.int rr), .unset] [])) (fun _ k => XS.ifNo X30.here hx rfl (hb hby at_213) rfl ((if0 _ _).trans (feq hb31).1) k) ?_
          refine Ends.st (S' := T30.setTop (mkF m 217 #[.val (.int v0), .val (.int v1), .val (.int v2), .val (.int v3), .val (.int v4), .val (.int u5), .val (.int u6), .val (.ref b1), .val (.ref b2), .val (.int wd), .val (.int pp), .val (.int qq), .val (.int d), .val (.int rr), .unset] [(.int (1 : Int32))])) (fun _ k => XS.iconst X30.here hx rfl (hb hby at_216) k) ?_
          refine Ends.st (S' := T30.setTop (mkF m 221 #[.val (.int v0), .val (.int v1), .val (.int v2), .val (.int v3), .val (.int v4), .val (.int u5), .val (.int u6), .val (.ref b1), .val (.ref b2), .val (.int wd), .val (.int pp), .val (.int qq), .val (.int d), .val (.int rr), .unset] [(.int (1 : Int32))])) (fun _ k => XS.goto X30.here hx rfl (pc0 := 217) (pc' := 221) rfl (hb hby at_217) (by decide) (by decide) k) ?_
          refine Ends.st (S' := T30.setTop (mkF m 223 #[.val (.int v0), .val (.int v1), .val (.int v2), .val (.int v3), .val (.int v4), .val (.int u5), .val (.int u6), .val (.ref b1), .val (.ref b2), .val (.int wd), .val (.int pp), .val (.int qq), .val (.int d), .val (.int rr), .val (.int (1 : Int32))] [])) (fun _ k => XS.istore X30.here hx rfl (hb hby at_221) rfl (l' := #[.val (.int v0), .val (.int v1), .val (.int v2), .val (.int v3), .val (.int v4), .val (.int u5), .val (.int u6), .val (.ref b1), .val (.ref b2), .val (.int wd), .val (.int pp), .val (.int qq), .val (.int d), .val (.int rr), .val (.int (1 : Int32))]) rfl k) ?_
          refine Ends.st (S' := T30.setTop (mkF m 225 #[.val (.int v0), .val (.int v1), .val (.int v2), .val (.int v3), .val (.int v4), .val (.int u5), .val (.int u6), .val (.ref b1), .val (.ref b2), .val (.int wd), .val (.int pp), .val (.int qq), .val (.int d), .val (.int rr), .val (.int (1 : Int32))] [(.int (1 : Int32))])) (fun _ k => XS.iload X30.here hx rfl (hb hby at_223) rfl k) ?_
          refine Ends.st (S' := T30.setTop (mkF m 228 #[.val (.int v0), .val (.int v1), .val (.int v2), .val (.int v3), .val (.int v4), .val (.int u5), .val (.int u6), .val (.ref b1), .val (.ref b2), .val (.int wd), .val (.int pp), .val (.int qq), .val (.int d), .val (.int rr), .val (.int (1 : Int32))] [])) (fun _ k => XS.ifNo X30.here hx rfl (hb hby at_225) rfl ((if0 _ _).trans (feq (by decide : ¬ ((1 : Int32) = (0 : Int32)))).1) k) ?_
          refine Ends.st (S' := T30.setTop (mkF m 230 #[.val (.int v0), .val (.int v1), .val (.int v2), .val (.int v3), .val (.int v4), .val (.int u5), .val (.int u6), .val (.ref b1), .val (.ref b2), .val (.int wd), .val (.int pp), .val (.int qq), .val (.int d), .val (.int rr), .val (.int (1 : Int32))] [(.ref b1)])) (fun _ k => XS.aload X30.here hx rfl (hb hby at_228) rfl rfl k) ?_
          refine Ends.st (S' := T30.setTop (mkF m 232 #[.val (.int v0), .val (.int v1), .val (.int v2), .val (.int v3), .val (.int v4), .val (.int u5), .val (.int u6), .val (.ref b1), .val (.ref b2), .val (.int wd), .val (.int pp), .val (.int qq), .val (.int d), .val (.int rr), .val (.int (1 : Int32))] [(.int pp), (.ref b1)])) (fun _ k => XS.iload X30.here hx rfl (hb hby at_230) rfl k) ?_
          refine Ends.st (S' := T30.setTop (mkF m 234 #[.val (.int v0), .val (.int v1), .val (.int v2), .val (.int v3), .val (.int v4), .val (.int u5), .val (.int u6), .val (.ref b1), .val (.ref b2), .val (.int wd), .val (.int pp), .val (.int qq), .val (.int d), .val (.int rr), .val (.int (1 : Int32))] [(.ref b2), (.int pp), (.ref b1)])) (fun _ k => XS.aload X30.here hx rfl (hb hby at_232) rfl rfl k) ?_
          refine Ends.st (S' := T30.setTop (mkF m 236 #[.val (.int v0), .val (.int v1), .val (.int v2), .val (.int v3), .val (.int v4), .val (.int u5), .val (.int u6), .val (.ref b1), .val (.ref b2), .val (.int wd), .val (.int pp), .val (.int qq), .val (.int d), .val (.int rr), .val (.int (1 : Int32))] [(.int qq), (.ref b2), (.int pp), (.ref b1)])) (fun _ k => XS.iload X30.here hx rfl (hb hby at_234) rfl k) ?_
          refine Ends.st (S' := T30.setTop (mkF m 238 #[.val (.int v0), .val (.int v1), .val (.int v2), .val (.int v3), .val (.int v4), .val (.int u5), .val (.int u6), .val (.ref b1), .val (.ref b2), .val (.int wd), .val (.int pp), .val (.int qq), .val (.int d), .val (.int rr), .val (.int (1 : Int32))] [(.int d), (.int qq), (.ref b2), (.int pp), (.ref b1)])) (fun _ k => XS.iload X30.here hx rfl (hb hby at_236) rfl k) ?_
          refine Ends.st (S' := T30.setTop (mkF m 240 #[.val (.int v0), .val (.int v1), .val (.int v2), .val (.int v3), .val (.int v4), .val (.int u5), .val (.int u6), .val (.ref b1), .val (.ref b2), .val (.int wd), .val (.int pp), .val (.int qq), .val (.int d), .val (.int rr), .val (.int (1 : Int32))] [(.int rr), (.int d), (.int qq), (.ref b2), (.int pp), (.ref b1)])) (fun _ k => XS.iload X30.here hx rfl (hb hby at_238) rfl k) ?_
          obtain ⟨_, _, ⟨T32, L32, k32, n32⟩, -, X32, ⟨Lc32, hQ32, l32, y32, z32⟩, st32⟩ := Jvm.LawKit.callS X30 hx (y := (⟨"com/example/umpteenth_copy/umpteenthcopy/engine/MatchSameFromPinLaw", "ok", "([II[IIII)Z"⟩ : MethodName)) hown (mvT hZ (hw _ (List.mem_of_getElem? (i := 9) rfl))) (mvT hZ (hw _ (List.mem_of_getElem? (i := 10) rfl))) (mvT hZ (hw _ (List.mem_of_getElem? (i := 2) rfl))) (mvT hZ (hw _ (List.mem_of_getElem? (i := 11) rfl))) (by decide) (backOf (W := 0) (rm3 l Z a0 hw [] l1 l2 g1 g2 d pp qq b1 b2 rr T2.heap n0 (Nat.le_trans (Nat.le_trans Z0 K1.1) K2.1) J1 J2) hZ (hw _ (List.mem_of_getElem? (i := 11) rfl)) (hw _ (List.mem_of_getElem? (i := 2) rfl)) (by decide) (by decide)) (g := (mkF m 240 #[.val (.int v0), .val (.int v1), .val (.int v2), .val (.int v3), .val (.int v4), .val (.int u5), .val (.int u6), .val (.ref b1), .val (.ref b2), .val (.int wd), .val (.int pp), .val (.int qq), .val (.int d), .val (.int rr), .val (.int (1 : Int32))] [(.int rr), (.int d), (.int qq), (.ref b2), (.int pp), (.ref b1)])) rfl (by rw [hml]; rfl) (argsL := [(.ref b1), (.int pp), (.ref b2), (.int qq), (.int d), (.int rr)]) (rest := []) (lenOf pd_2 rfl) rfl (by show 2 * 0 + _ ≤ _; exact Nat.le_of_eq rfl) (hb hby at_240) (fun _ _ => ⟨rfl, e30, (by decide : 0 + 1 + 1 + 0 + 0 + 0 + 0 ≤ _), (by decide : 0 + 3 + 3 + 0 + 0 + 0 + 0 ≤ _)⟩)
          dsimp only [Pt.U, Pt.locs, Pt.cells, Pt.slots] at X32 l32 y32 z32 st32 hQ32
          subst l32 y32 z32
          obtain ⟨rfl, N32q, e32⟩ := hQ32
          have N32 := Fr.app N30 N32q
          refine Ends.st (S' := T32.setTop (mkF m 243 #[.val (.int v0), .val (.int v1), .val (.int v2), .val (.int v3), .val (.int v4), .val (.int u5), .val (.int u6), .val (.ref b1), .val (.ref b2), .val (.int wd), .val (.int pp), .val (.int qq), .val (.int d), .val (.int rr), .val (.int (1 : Int32))] [(.int (okf l1 l2 g1 g2 d pp qq rr))])) (fun _ k => st32 _ k) ?_
          have hb33 : (okf l1 l2 g1 g2 d pp qq rr) = (0 : Int32) := hrn
          refine Ends.st (S' := T32.setTop (mkF m 246 #[.val (.int v0), .val (.int v1), .val (.int v2), .val (.int v3), .val (.int v4), .val (.int u5), .val (.int u6), .val (.ref b1), .val (.ref b2), .val (.int wd), .val (.int pp), .val (.int qq), .val (.int d), .val (.int rr), .val (.int (1 : Int32))] [])) (fun _ k => XS.ifNo X32.here hx rfl (hb hby at_243) rfl ((if0 _ _).trans (teq hb33).2) k) ?_
          refine Ends.st (S' := T32.setTop (mkF m 247 #[.val (.int v0), .val (.int v1), .val (.int v2), .val (.int v3), .val (.int v4), .val (.int u5), .val (.int u6), .val (.ref b1), .val (.ref b2), .val (.int wd), .val (.int pp), .val (.int qq), .val (.int d), .val (.int rr), .val (.int (1 : Int32))] [(.int (1 : Int32))])) (fun _ k => XS.iconst X32.here hx rfl (hb hby at_246) k) ?_
          refine Ends.st (S' := T32.setTop (mkF m 251 #[.val (.int v0), .val (.int v1), .val (.int v2), .val (.int v3), .val (.int v4), .val (.int u5), .val (.int u6), .val (.ref b1), .val (.ref b2), .val (.int wd), .val (.int pp), .val (.int qq), .val (.int d), .val (.int rr), .val (.int (1 : Int32))] [(.int (1 : Int32))])) (fun _ k => XS.goto X32.here hx rfl (pc0 := 247) (pc' := 251) rfl (hb hby at_247) (by decide) (by decide) k) ?_
          obtain ⟨fs, hr, hrun, hended, hW, hsame⟩ := X32.leave (v := some (.int (1 : Int32))) (fun h => by rw [Bd.returns] at h; cases h)
          exact ⟨_, _, retN X32 hx (t := .boolean) Bd.returns (by simp) (hb hby at_251) hr, hrun, hended, _, _, rfl, (by show Q0 Z  h0 n0 _ T32.heap _; rw [e32]; exact ⟨rfl, N32⟩), ⟨_, rfl⟩, hW, hsame.mono (by decide) (by decide)⟩
      · refine Ends.st (S' := T24.setTop (mkF m 176 #[.val (.int v0), .val (.int v1), .val (.int v2), .val (.int v3), .val (.int v4), .val (.int u5), .val (.int u6), .val (.ref b1), .val (.ref b2), .val (.int wd), .val (.int pp), .val (.int qq), .val (.int d), .val (.int rr), .unset] [])) (fun _ k => XS.icmpNo X24.here hx rfl (hb hby at_173) rfl (flt hc26).1 k) ?_
        refine Ends.st (S' := T24.setTop (mkF m 178 #[.val (.int v0), .val (.int v1), .val (.int v2), .val (.int v3), .val (.int v4), .val (.int u5), .val (.int u6), .val (.ref b1), .val (.ref b2), .val (.int wd), .val (.int pp), .val (.int qq), .val (.int d), .val (.int rr), .unset] [(.ref b1)])) (fun _ k => XS.aload X24.here hx rfl (hb hby at_176) rfl rfl k) ?_
        refine Ends.st (S' := T24.setTop (mkF m 180 #[.val (.int v0), .val (.int v1), .val (.int v2), .val (.int v3), .val (.int v4), .val (.int u5), .val (.int u6), .val (.ref b1), .val (.ref b2), .val (.int wd), .val (.int pp), .val (.int qq), .val (.int d), .val (.int rr), .unset] [(.int pp), (.ref b1)])) (fun _ k => XS.iload X24.here hx rfl (hb hby at_178) rfl k) ?_
        refine Ends.st (S' := T24.setTop (mkF m 182 #[.val (.int v0), .val (.int v1), .val (.int v2), .val (.int v3), .val (.int v4), .val (.int u5), .val (.int u6), .val (.ref b1), .val (.ref b2), .val (.int wd), .val (.int pp), .val (.int qq), .val (.int d), .val (.int rr), .unset] [(.ref b2), (.int pp), (.ref b1)])) (fun _ k => XS.aload X24.here hx rfl (hb hby at_180) rfl rfl k) ?_
        refine Ends.st (S' := T24.setTop (mkF m 184 #[.val (.int v0), .val (.int v1), .val (.int v2), .val (.int v3), .val (.int v4), .val (.int u5), .val (.int u6), .val (.ref b1), .val (.ref b2), .val (.int wd), .val (.int pp), .val (.int qq), .val (.int d), .val (.int rr), .unset] [(.int qq), (.ref b2), (.int pp), (.ref b1)])) (fun _ k => XS.iload X24.here hx rfl (hb hby at_182) rfl k) ?_
        refine Ends.st (S' := T24.setTop (mkF m 186 #[.val (.int v0), .val (.int v1), .val (.int v2), .val (.int v3), .val (.int v4), .val (.int u5), .val (.int u6), .val (.ref b1), .val (.ref b2), .val (.int wd), .val (.int pp), .val (.int qq), .val (.int d), .val (.int rr), .unset] [(.int d), (.int qq), (.ref b2), (.int pp), (.ref b1)])) (fun _ k => XS.iload X24.here hx rfl (hb hby at_184) rfl k) ?_
        refine Ends.st (S' := T24.setTop (mkF m 187 #[.val (.int v0), .val (.int v1), .val (.int v2), .val (.int v3), .val (.int v4), .val (.int u5), .val (.int u6), .val (.ref b1), .val (.ref b2), .val (.int wd), .val (.int pp), .val (.int qq), .val (.int d), .val (.int rr), .unset] [(.int (1 : Int32)), (.int d), (.int qq), (.ref b2), (.int pp), (.ref b1)])) (fun _ k => XS.iconst X24.here hx rfl (hb hby at_186) k) ?_
        obtain ⟨_, _, ⟨T34, L34, k34, n34⟩, -, X34, ⟨Lc34, hQ34, l34, y34, z34⟩, st34⟩ := Jvm.LawKit.callS X24 hx (y := (⟨"com/example/umpteenth_copy/umpteenthcopy/engine/MatchSameFromPinLaw", "ok", "([II[IIII)Z"⟩ : MethodName)) hown (mvT hZ (hw _ (List.mem_of_getElem? (i := 9) rfl))) (mvT hZ (hw _ (List.mem_of_getElem? (i := 10) rfl))) (mvT hZ (hw _ (List.mem_of_getElem? (i := 2) rfl))) (mvT hZ (hw _ (List.mem_of_getElem? (i := 11) rfl))) (by decide) (backOf (W := 0) (rm3 l Z a0 hw [] l1 l2 g1 g2 d pp qq b1 b2 (1 : Int32) T2.heap n0 (Nat.le_trans (Nat.le_trans Z0 K1.1) K2.1) J1 J2) hZ (hw _ (List.mem_of_getElem? (i := 11) rfl)) (hw _ (List.mem_of_getElem? (i := 2) rfl)) (by decide) (by decide)) (g := (mkF m 187 #[.val (.int v0), .val (.int v1), .val (.int v2), .val (.int v3), .val (.int v4), .val (.int u5), .val (.int u6), .val (.ref b1), .val (.ref b2), .val (.int wd), .val (.int pp), .val (.int qq), .val (.int d), .val (.int rr), .unset] [(.int (1 : Int32)), (.int d), (.int qq), (.ref b2), (.int pp), (.ref b1)])) rfl (by rw [hml]; rfl) (argsL := [(.ref b1), (.int pp), (.ref b2), (.int qq), (.int d), (.int (1 : Int32))]) (rest := []) (lenOf pd_2 rfl) rfl (by show 2 * 0 + _ ≤ _; exact Nat.le_of_eq rfl) (hb hby at_187) (fun _ _ => ⟨rfl, e24, (by decide : 0 + 1 + 1 + 0 + 0 + 0 ≤ _), (by decide : 0 + 3 + 3 + 0 + 0 + 0 ≤ _)⟩)
        dsimp only [Pt.U, Pt.locs, Pt.cells, Pt.slots] at X34 l34 y34 z34 st34 hQ34
        subst l34 y34 z34
        obtain ⟨rfl, N34q, e34⟩ := hQ34
        have N34 := Fr.app N24 N34q
        refine Ends.st (S' := T34.setTop (mkF m 190 #[.val (.int v0), .val (.int v1), .val (.int v2), .val (.int v3), .val (.int v4), .val (.int u5), .val (.int u6), .val (.ref b1), .val (.ref b2), .val (.int wd), .val (.int pp), .val (.int qq), .val (.int d), .val (.int rr), .unset] [(.int (okf l1 l2 g1 g2 d pp qq (1 : Int32)))])) (fun _ k => st34 _ k) ?_
        have hb35 : ¬ ((okf l1 l2 g1 g2 d pp qq (1 : Int32)) = (0 : Int32)) := by rw [hrk (1 : Int32) (by decide) (own_ge1 hc26)]; decide
        refine Ends.st (S' := T34.setTop (mkF m 193 #[.val (.int v0), .val (.int v1), .val (.int v2), .val (.int v3), .val (.int v4), .val (.int u5), .val (.int u6), .val (.ref b1), .val (.ref b2), .val (.int wd), .val (.int pp), .val (.int qq), .val (.int d), .val (.int rr), .unset] [])) (fun _ k => XS.ifNo X34.here hx rfl (hb hby at_190) rfl ((if0 _ _).trans (feq hb35).1) k) ?_
        refine Ends.st (S' := T34.setTop (mkF m 195 #[.val (.int v0), .val (.int v1), .val (.int v2), .val (.int v3), .val (.int v4), .val (.int u5), .val (.int u6), .val (.ref b1), .val (.ref b2), .val (.int wd), .val (.int pp), .val (.int qq), .val (.int d), .val (.int rr), .unset] [(.int rr)])) (fun _ k => XS.iload X34.here hx rfl (hb hby at_193) rfl k) ?_
        refine Ends.st (S' := T34.setTop (mkF m 196 #[.val (.int v0), .val (.int v1), .val (.int v2), .val (.int v3), .val (.int v4), .val (.int u5), .val (.int u6), .val (.ref b1), .val (.ref b2), .val (.int wd), .val (.int pp), .val (.int qq), .val (.int d), .val (.int rr), .unset] [(.int (3 : Int32)), (.int rr)])) (fun _ k => XS.iconst X34.here hx rfl (hb hby at_195) k) ?_
        by_cases hc36 : rr < (3 : Int32)
        · refine Ends.st (S' := T34.setTop (mkF m 216 #[.val (.int v0), .val (.int v1), .val (.int v2), .val (.int v3), .val (.int v4), .val (.int u5), .val (.int u6), .val (.ref b1), .val (.ref b2), .val (.int wd), .val (.int pp), .val (.int qq), .val (.int d), .val (.int rr), .unset] [])) (fun _ k => XS.icmpYes X34.here hx rfl (pc0 := 196) (pc' := 216) rfl (hb hby at_196) rfl (tlt hc36).1 (by decide) (by decide) k) ?_
          refine Ends.st (S' := T34.setTop (mkF m 217 #[.val (.int v0), .val (.int v1), .val (.int v2), .val (.int v3), .val (.int v4), .val (.int u5), .val (.int u6), .val (.ref b1), .val (.ref b2), .val (.int wd), .val (.int pp), .val (.int qq), .val (.int d), .val (.int rr), .unset] [(.int (1 : Int32))])) (fun _ k => XS.iconst X34.here hx rfl (hb hby at_216) k) ?_
          refine Ends.st (S' := T34.setTop (mkF m 221 #[.val (.int v0), .val (.int v1), .val (.int v2), .val (.int v3), .val (.int v4), .val (.int u5), .val (.int u6), .val (.ref b1), .val (.ref b2), .val (.int wd), .val (.int pp), .val (.int qq), .val (.int d), .val (.int rr), .unset] [(.int (1 : Int32))])) (fun _ k => XS.goto X34.here hx rfl (pc0 := 217) (pc' := 221) rfl (hb hby at_217) (by decide) (by decide) k) ?_
          refine Ends.st (S' := T34.setTop (mkF m 223 #[.val (.int v0), .val (.int v1), .val (.int v2), .val (.int v3), .val (.int v4), .val (.int u5), .val (.int u6), .val (.ref b1), .val (.ref b2), .val (.int wd), .val (.int pp), .val (.int qq), .val (.int d), .val (.int rr), .val (.int (1 : Int32))] [])) (fun _ k => XS.istore X34.here hx rfl (hb hby at_221) rfl (l' := #[.val (.int v0), .val (.int v1), .val (.int v2), .val (.int v3), .val (.int v4), .val (.int u5), .val (.int u6), .val (.ref b1), .val (.ref b2), .val (.int wd), .val (.int pp), .val (.int qq), .val (.int d), .val (.int rr), .val (.int (1 : Int32))]) rfl k) ?_
          refine Ends.st (S' := T34.setTop (mkF m 225 #[.val (.int v0), .val (.int v1), .val (.int v2), .val (.int v3), .val (.int v4), .val (.int u5), .val (.int u6), .val (.ref b1), .val (.ref b2), .val (.int wd), .val (.int pp), .val (.int qq), .val (.int d), .val (.int rr), .val (.int (1 : Int32))] [(.int (1 : Int32))])) (fun _ k => XS.iload X34.here hx rfl (hb hby at_223) rfl k) ?_
          refine Ends.st (S' := T34.setTop (mkF m 228 #[.val (.int v0), .val (.int v1), .val (.int v2), .val (.int v3), .val (.int v4), .val (.int u5), .val (.int u6), .val (.ref b1), .val (.ref b2), .val (.int wd), .val (.int pp), .val (.int qq), .val (.int d), .val (.int rr), .val (.int (1 : Int32))] [])) (fun _ k => XS.ifNo X34.here hx rfl (hb hby at_225) rfl ((if0 _ _).trans (feq (by decide : ¬ ((1 : Int32) = (0 : Int32)))).1) k) ?_
          refine Ends.st (S' := T34.setTop (mkF m 230 #[.val (.int v0), .val (.int v1), .val (.int v2), .val (.int v3), .val (.int v4), .val (.int u5), .val (.int u6), .val (.ref b1), .val (.ref b2), .val (.int wd), .val (.int pp), .val (.int qq), .val (.int d), .val (.int rr), .val (.int (1 : Int32))] [(.ref b1)])) (fun _ k => XS.aload X34.here hx rfl (hb hby at_228) rfl rfl k) ?_
          refine Ends.st (S' := T34.setTop (mkF m 232 #[.val (.int v0), .val (.int v1), .val (.int v2), .val (.int v3), .val (.int v4), .val (.int u5), .val (.int u6), .val (.ref b1), .val (.ref b2), .val (.int wd), .val (.int pp), .val (.int qq), .val (.int d), .val (.int rr), .val (.int (1 : Int32))] [(.int pp), (.ref b1)])) (fun _ k => XS.iload X34.here hx rfl (hb hby at_230) rfl k) ?_
          refine Ends.st (S' := T34.setTop (mkF m 234 #[.val (.int v0), .val (.int v1), .val (.int v2), .val (.int v3), .val (.int v4), .val (.int u5), .val (.int u6), .val (.ref b1), .val (.ref b2), .val (.int wd), .val (.int pp), .val (.int qq), .val (.int d), .val (.int rr), .val (.int (1 : Int32))] [(.ref b2), (.int pp), (.ref b1)])) (fun _ k => XS.aload X34.here hx rfl (hb hby at_232) rfl rfl k) ?_
          refine Ends.st (S' := T34.setTop (mkF m 236 #[.val (.int v0), .val (.int v1), .val (.int v2), .val (.int v3), .val (.int v4), .val (.int u5), .val (.int u6), .val (.ref b1), .val (.ref b2), .val (.int wd), .val (.int pp), .val (.int qq), .val (.int d), .val (.int rr), .val (.int (1 : Int32))] [(.int qq), (.ref b2), (.int pp), (.ref b1)])) (fun _ k => XS.iload X34.here hx rfl (hb hby at_234) rfl k) ?_
          refine Ends.st (S' := T34.setTop (mkF m 238 #[.val (.int v0), .val (.int v1), .val (.int v2), .val (.int v3), .val (.int v4), .val (.int u5), .val (.int u6), .val (.ref b1), .val (.ref b2), .val (.int wd), .val (.int pp), .val (.int qq), .val (.int d), .val (.int rr), .val (.int (1 : Int32))] [(.int d), (.int qq), (.ref b2), (.int pp), (.ref b1)])) (fun _ k => XS.iload X34.here hx rfl (hb hby at_236) rfl k) ?_
          refine Ends.st (S' := T34.setTop (mkF m 240 #[.val (.int v0), .val (.int v1), .val (.int v2), .val (.int v3), .val (.int v4), .val (.int u5), .val (.int u6), .val (.ref b1), .val (.ref b2), .val (.int wd), .val (.int pp), .val (.int qq), .val (.int d), .val (.int rr), .val (.int (1 : Int32))] [(.int rr), (.int d), (.int qq), (.ref b2), (.int pp), (.ref b1)])) (fun _ k => XS.iload X34.here hx rfl (hb hby at_238) rfl k) ?_
          obtain ⟨_, _, ⟨T37, L37, k37, n37⟩, -, X37, ⟨Lc37, hQ37, l37, y37, z37⟩, st37⟩ := Jvm.LawKit.callS X34 hx (y := (⟨"com/example/umpteenth_copy/umpteenthcopy/engine/MatchSameFromPinLaw", "ok", "([II[IIII)Z"⟩ : MethodName)) hown (mvT hZ (hw _ (List.mem_of_getElem? (i := 9) rfl))) (mvT hZ (hw _ (List.mem_of_getElem? (i := 10) rfl))) (mvT hZ (hw _ (List.mem_of_getElem? (i := 2) rfl))) (mvT hZ (hw _ (List.mem_of_getElem? (i := 11) rfl))) (by decide) (backOf (W := 0) (rm3 l Z a0 hw [] l1 l2 g1 g2 d pp qq b1 b2 rr T2.heap n0 (Nat.le_trans (Nat.le_trans Z0 K1.1) K2.1) J1 J2) hZ (hw _ (List.mem_of_getElem? (i := 11) rfl)) (hw _ (List.mem_of_getElem? (i := 2) rfl)) (by decide) (by decide)) (g := (mkF m 240 #[.val (.int v0), .val (.int v1), .val (.int v2), .val (.int v3), .val (.int v4), .val (.int u5), .val (.int u6), .val (.ref b1), .val (.ref b2), .val (.int wd), .val (.int pp), .val (.int qq), .val (.int d), .val (.int rr), .val (.int (1 : Int32))] [(.int rr), (.int d), (.int qq), (.ref b2), (.int pp), (.ref b1)])) rfl (by rw [hml]; rfl) (argsL := [(.ref b1), (.int pp), (.ref b2), (.int qq), (.int d), (.int rr)]) (rest := []) (lenOf pd_2 rfl) rfl (by show 2 * 0 + _ ≤ _; exact Nat.le_of_eq rfl) (hb hby at_240) (fun _ _ => ⟨rfl, e34, (by decide : 0 + 1 + 1 + 0 + 0 + 0 + 0 ≤ _), (by decide : 0 + 3 + 3 + 0 + 0 + 0 + 0 ≤ _)⟩)
          dsimp only [Pt.U, Pt.locs, Pt.cells, Pt.slots] at X37 l37 y37 z37 st37 hQ37
          subst l37 y37 z37
          obtain ⟨rfl, N37q, e37⟩ := hQ37
          have N37 := Fr.app N34 N37q
          refine Ends.st (S' := T37.setTop (mkF m 243 #[.val (.int v0), .val (.int v1), .val (.int v2), .val (.int v3), .val (.int v4), .val (.int u5), .val (.int u6), .val (.ref b1), .val (.ref b2), .val (.int wd), .val (.int pp), .val (.int qq), .val (.int d), .val (.int rr), .val (.int (1 : Int32))] [(.int (okf l1 l2 g1 g2 d pp qq rr))])) (fun _ k => st37 _ k) ?_
          have hb38 : (okf l1 l2 g1 g2 d pp qq rr) = (0 : Int32) := hrn
          refine Ends.st (S' := T37.setTop (mkF m 246 #[.val (.int v0), .val (.int v1), .val (.int v2), .val (.int v3), .val (.int v4), .val (.int u5), .val (.int u6), .val (.ref b1), .val (.ref b2), .val (.int wd), .val (.int pp), .val (.int qq), .val (.int d), .val (.int rr), .val (.int (1 : Int32))] [])) (fun _ k => XS.ifNo X37.here hx rfl (hb hby at_243) rfl ((if0 _ _).trans (teq hb38).2) k) ?_
          refine Ends.st (S' := T37.setTop (mkF m 247 #[.val (.int v0), .val (.int v1), .val (.int v2), .val (.int v3), .val (.int v4), .val (.int u5), .val (.int u6), .val (.ref b1), .val (.ref b2), .val (.int wd), .val (.int pp), .val (.int qq), .val (.int d), .val (.int rr), .val (.int (1 : Int32))] [(.int (1 : Int32))])) (fun _ k => XS.iconst X37.here hx rfl (hb hby at_246) k) ?_
          refine Ends.st (S' := T37.setTop (mkF m 251 #[.val (.int v0), .val (.int v1), .val (.int v2), .val (.int v3), .val (.int v4), .val (.int u5), .val (.int u6), .val (.ref b1), .val (.ref b2), .val (.int wd), .val (.int pp), .val (.int qq), .val (.int d), .val (.int rr), .val (.int (1 : Int32))] [(.int (1 : Int32))])) (fun _ k => XS.goto X37.here hx rfl (pc0 := 247) (pc' := 251) rfl (hb hby at_247) (by decide) (by decide) k) ?_
          obtain ⟨fs, hr, hrun, hended, hW, hsame⟩ := X37.leave (v := some (.int (1 : Int32))) (fun h => by rw [Bd.returns] at h; cases h)
          exact ⟨_, _, retN X37 hx (t := .boolean) Bd.returns (by simp) (hb hby at_251) hr, hrun, hended, _, _, rfl, (by show Q0 Z  h0 n0 _ T37.heap _; rw [e37]; exact ⟨rfl, N37⟩), ⟨_, rfl⟩, hW, hsame.mono (by decide) (by decide)⟩
        · refine Ends.st (S' := T34.setTop (mkF m 199 #[.val (.int v0), .val (.int v1), .val (.int v2), .val (.int v3), .val (.int v4), .val (.int u5), .val (.int u6), .val (.ref b1), .val (.ref b2), .val (.int wd), .val (.int pp), .val (.int qq), .val (.int d), .val (.int rr), .unset] [])) (fun _ k => XS.icmpNo X34.here hx rfl (hb hby at_196) rfl (flt hc36).1 k) ?_
          refine Ends.st (S' := T34.setTop (mkF m 201 #[.val (.int v0), .val (.int v1), .val (.int v2), .val (.int v3), .val (.int v4), .val (.int u5), .val (.int u6), .val (.ref b1), .val (.ref b2), .val (.int wd), .val (.int pp), .val (.int qq), .val (.int d), .val (.int rr), .unset] [(.ref b1)])) (fun _ k => XS.aload X34.here hx rfl (hb hby at_199) rfl rfl k) ?_
          refine Ends.st (S' := T34.setTop (mkF m 203 #[.val (.int v0), .val (.int v1), .val (.int v2), .val (.int v3), .val (.int v4), .val (.int u5), .val (.int u6), .val (.ref b1), .val (.ref b2), .val (.int wd), .val (.int pp), .val (.int qq), .val (.int d), .val (.int rr), .unset] [(.int pp), (.ref b1)])) (fun _ k => XS.iload X34.here hx rfl (hb hby at_201) rfl k) ?_
          refine Ends.st (S' := T34.setTop (mkF m 205 #[.val (.int v0), .val (.int v1), .val (.int v2), .val (.int v3), .val (.int v4), .val (.int u5), .val (.int u6), .val (.ref b1), .val (.ref b2), .val (.int wd), .val (.int pp), .val (.int qq), .val (.int d), .val (.int rr), .unset] [(.ref b2), (.int pp), (.ref b1)])) (fun _ k => XS.aload X34.here hx rfl (hb hby at_203) rfl rfl k) ?_
          refine Ends.st (S' := T34.setTop (mkF m 207 #[.val (.int v0), .val (.int v1), .val (.int v2), .val (.int v3), .val (.int v4), .val (.int u5), .val (.int u6), .val (.ref b1), .val (.ref b2), .val (.int wd), .val (.int pp), .val (.int qq), .val (.int d), .val (.int rr), .unset] [(.int qq), (.ref b2), (.int pp), (.ref b1)])) (fun _ k => XS.iload X34.here hx rfl (hb hby at_205) rfl k) ?_
          refine Ends.st (S' := T34.setTop (mkF m 209 #[.val (.int v0), .val (.int v1), .val (.int v2), .val (.int v3), .val (.int v4), .val (.int u5), .val (.int u6), .val (.ref b1), .val (.ref b2), .val (.int wd), .val (.int pp), .val (.int qq), .val (.int d), .val (.int rr), .unset] [(.int d), (.int qq), (.ref b2), (.int pp), (.ref b1)])) (fun _ k => XS.iload X34.here hx rfl (hb hby at_207) rfl k) ?_
          refine Ends.st (S' := T34.setTop (mkF m 210 #[.val (.int v0), .val (.int v1), .val (.int v2), .val (.int v3), .val (.int v4), .val (.int u5), .val (.int u6), .val (.ref b1), .val (.ref b2), .val (.int wd), .val (.int pp), .val (.int qq), .val (.int d), .val (.int rr), .unset] [(.int (2 : Int32)), (.int d), (.int qq), (.ref b2), (.int pp), (.ref b1)])) (fun _ k => XS.iconst X34.here hx rfl (hb hby at_209) k) ?_
          obtain ⟨_, _, ⟨T39, L39, k39, n39⟩, -, X39, ⟨Lc39, hQ39, l39, y39, z39⟩, st39⟩ := Jvm.LawKit.callS X34 hx (y := (⟨"com/example/umpteenth_copy/umpteenthcopy/engine/MatchSameFromPinLaw", "ok", "([II[IIII)Z"⟩ : MethodName)) hown (mvT hZ (hw _ (List.mem_of_getElem? (i := 9) rfl))) (mvT hZ (hw _ (List.mem_of_getElem? (i := 10) rfl))) (mvT hZ (hw _ (List.mem_of_getElem? (i := 2) rfl))) (mvT hZ (hw _ (List.mem_of_getElem? (i := 11) rfl))) (by decide) (backOf (W := 0) (rm3 l Z a0 hw [] l1 l2 g1 g2 d pp qq b1 b2 (2 : Int32) T2.heap n0 (Nat.le_trans (Nat.le_trans Z0 K1.1) K2.1) J1 J2) hZ (hw _ (List.mem_of_getElem? (i := 11) rfl)) (hw _ (List.mem_of_getElem? (i := 2) rfl)) (by decide) (by decide)) (g := (mkF m 210 #[.val (.int v0), .val (.int v1), .val (.int v2), .val (.int v3), .val (.int v4), .val (.int u5), .val (.int u6), .val (.ref b1), .val (.ref b2), .val (.int wd), .val (.int pp), .val (.int qq), .val (.int d), .val (.int rr), .unset] [(.int (2 : Int32)), (.int d), (.int qq), (.ref b2), (.int pp), (.ref b1)])) rfl (by rw [hml]; rfl) (argsL := [(.ref b1), (.int pp), (.ref b2), (.int qq), (.int d), (.int (2 : Int32))]) (rest := []) (lenOf pd_2 rfl) rfl (by show 2 * 0 + _ ≤ _; exact Nat.le_of_eq rfl) (hb hby at_210) (fun _ _ => ⟨rfl, e34, (by decide : 0 + 1 + 1 + 0 + 0 + 0 + 0 ≤ _), (by decide : 0 + 3 + 3 + 0 + 0 + 0 + 0 ≤ _)⟩)
          dsimp only [Pt.U, Pt.locs, Pt.cells, Pt.slots] at X39 l39 y39 z39 st39 hQ39
          subst l39 y39 z39
          obtain ⟨rfl, N39q, e39⟩ := hQ39
          have N39 := Fr.app N34 N39q
          refine Ends.st (S' := T39.setTop (mkF m 213 #[.val (.int v0), .val (.int v1), .val (.int v2), .val (.int v3), .val (.int v4), .val (.int u5), .val (.int u6), .val (.ref b1), .val (.ref b2), .val (.int wd), .val (.int pp), .val (.int qq), .val (.int d), .val (.int rr), .unset] [(.int (okf l1 l2 g1 g2 d pp qq (2 : Int32)))])) (fun _ k => st39 _ k) ?_
          have hb40 : ¬ ((okf l1 l2 g1 g2 d pp qq (2 : Int32)) = (0 : Int32)) := by rw [hrk (2 : Int32) (by decide) (own_ge2 hc36)]; decide
          refine Ends.st (S' := T39.setTop (mkF m 216 #[.val (.int v0), .val (.int v1), .val (.int v2), .val (.int v3), .val (.int v4), .val (.int u5), .val (.int u6), .val (.ref b1), .val (.ref b2), .val (.int wd), .val (.int pp), .val (.int qq), .val (.int d), .val (.int rr), .unset] [])) (fun _ k => XS.ifNo X39.here hx rfl (hb hby at_213) rfl ((if0 _ _).trans (feq hb40).1) k) ?_
          refine Ends.st (S' := T39.setTop (mkF m 217 #[.val (.int v0), .val (.int v1), .val (.int v2), .val (.int v3), .val (.int v4), .val (.int u5), .val (.int u6), .val (.ref b1), .val (.ref b2), .val (.int wd), .val (.int pp), .val (.int qq), .val (.int d), .val (.int rr), .unset] [(.int (1 : Int32))])) (fun _ k => XS.iconst X39.here hx rfl (hb hby at_216) k) ?_
          refine Ends.st (S' := T39.setTop (mkF m 221 #[.val (.int v0), .val (.int v1), .val (.int v2), .val (.int v3), .val (.int v4), .val (.int u5), .val (.int u6), .val (.ref b1), .val (.ref b2), .val (.int wd), .val (.int pp), .val (.int qq), .val (.int d), .val (.int rr), .unset] [(.int (1 : Int32))])) (fun _ k => XS.goto X39.here hx rfl (pc0 := 217) (pc' := 221) rfl (hb hby at_217) (by decide) (by decide) k) ?_
          refine Ends.st (S' := T39.setTop (mkF m 223 #[.val (.int v0), .val (.int v1), .val (.int v2), .val (.int v3), .val (.int v4), .val (.int u5), .val (.int u6), .val (.ref b1), .val (.ref b2), .val (.int wd), .val (.int pp), .val (.int qq), .val (.int d), .val (.int rr), .val (.int (1 : Int32))] [])) (fun _ k => XS.istore X39.here hx rfl (hb hby at_221) rfl (l' := #[.val (.int v0), .val (.int v1), .val (.int v2), .val (.int v3), .val (.int v4), .val (.int u5), .val (.int u6), .val (.ref b1), .val (.ref b2), .val (.int wd), .val (.int pp), .val (.int qq), .val (.int d), .val (.int rr), .val (.int (1 : Int32))]) rfl k) ?_
          refine Ends.st (S' := T39.setTop (mkF m 225 #[.val (.int v0), .val (.int v1), .val (.int v2), .val (.int v3), .val (.int v4), .val (.int u5), .val (.int u6), .val (.ref b1), .val (.ref b2), .val (.int wd), .val (.int pp), .val (.int qq), .val (.int d), .val (.int rr), .val (.int (1 : Int32))] [(.int (1 : Int32))])) (fun _ k => XS.iload X39.here hx rfl (hb hby at_223) rfl k) ?_
          refine Ends.st (S' := T39.setTop (mkF m 228 #[.val (.int v0), .val (.int v1), .val (.int v2), .val (.int v3), .val (.int v4), .val (.int u5), .val (.int u6), .val (.ref b1), .val (.ref b2), .val (.int wd), .val (.int pp), .val (.int qq), .val (.int d), .val (.int rr), .val (.int (1 : Int32))] [])) (fun _ k => XS.ifNo X39.here hx rfl (hb hby at_225) rfl ((if0 _ _).trans (feq (by decide : ¬ ((1 : Int32) = (0 : Int32)))).1) k) ?_
          refine Ends.st (S' := T39.setTop (mkF m 230 #[.val (.int v0), .val (.int v1), .val (.int v2), .val (.int v3), .val (.int v4), .val (.int u5), .val (.int u6), .val (.ref b1), .val (.ref b2), .val (.int wd), .val (.int pp), .val (.int qq), .val (.int d), .val (.int rr), .val (.int (1 : Int32))] [(.ref b1)])) (fun _ k => XS.aload X39.here hx rfl (hb hby at_228) rfl rfl k) ?_
          refine Ends.st (S' := T39.setTop (mkF m 232 #[.val (.int v0), .val (.int v1), .val (.int v2), .val (.int v3), .val (.int v4), .val (.int u5), .val (.int u6), .val (.ref b1), .val (.ref b2), .val (.int wd), .val (.int pp), .val (.int qq), .val (.int d), .val (.int rr), .val (.int (1 : Int32))] [(.int pp), (.ref b1)])) (fun _ k => XS.iload X39.here hx rfl (hb hby at_230) rfl k) ?_
          refine Ends.st (S' := T39.setTop (mkF m 234 #[.val (.int v0), .val (.int v1), .val (.int v2), .val (.int v3), .val (.int v4), .val (.int u5), .val (.int u6), .val (.ref b1), .val (.ref b2), .val (.int wd), .val (.int pp), .val (.int qq), .val (.int d), .val (.int rr), .val (.int (1 : Int32))] [(.ref b2), (.int pp), (.ref b1)])) (fun _ k => XS.aload X39.here hx rfl (hb hby at_232) rfl rfl k) ?_
          refine Ends.st (S' := T39.setTop (mkF m 236 #[.val (.int v0), .val (.int v1), .val (.int v2), .val (.int v3), .val (.int v4), .val (.int u5), .val (.int u6), .val (.ref b1), .val (.ref b2), .val (.int wd), .val (.int pp), .val (.int qq), .val (.int d), .val (.int rr), .val (.int (1 : Int32))] [(.int qq), (.ref b2), (.int pp), (.ref b1)])) (fun _ k => XS.iload X39.here hx rfl (hb hby at_234) rfl k) ?_
          refine Ends.st (S' := T39.setTop (mkF m 238 #[.val (.int v0), .val (.int v1), .val (.int v2), .val (.int v3), .val (.int v4), .val (.int u5), .val (.int u6), .val (.ref b1), .val (.ref b2), .val (.int wd), .val (.int pp), .val (.int qq), .val (.int d), .val (.int rr), .val (.int (1 : Int32))] [(.int d), (.int qq), (.ref b2), (.int pp), (.ref b1)])) (fun _ k => XS.iload X39.here hx rfl (hb hby at_236) rfl k) ?_
          refine Ends.st (S' := T39.setTop (mkF m 240 #[.val (.int v0), .val (.int v1), .val (.int v2), .val (.int v3), .val (.int v4), .val (.int u5), .val (.int u6), .val (.ref b1), .val (.ref b2), .val (.int wd), .val (.int pp), .val (.int qq), .val (.int d), .val (.int rr), .val (.int (1 : Int32))] [(.int rr), (.int d), (.int qq), (.ref b2), (.int pp), (.ref b1)])) (fun _ k => XS.iload X39.here hx rfl (hb hby at_238) rfl k) ?_
          obtain ⟨_, _, ⟨T41, L41, k41, n41⟩, -, X41, ⟨Lc41, hQ41, l41, y41, z41⟩, st41⟩ := Jvm.LawKit.callS X39 hx (y := (⟨"com/example/umpteenth_copy/umpteenthcopy/engine/MatchSameFromPinLaw", "ok", "([II[IIII)Z"⟩ : MethodName)) hown (mvT hZ (hw _ (List.mem_of_getElem? (i := 9) rfl))) (mvT hZ (hw _ (List.mem_of_getElem? (i := 10) rfl))) (mvT hZ (hw _ (List.mem_of_getElem? (i := 2) rfl))) (mvT hZ (hw _ (List.mem_of_getElem? (i := 11) rfl))) (by decide) (backOf (W := 0) (rm3 l Z a0 hw [] l1 l2 g1 g2 d pp qq b1 b2 rr T2.heap n0 (Nat.le_trans (Nat.le_trans Z0 K1.1) K2.1) J1 J2) hZ (hw _ (List.mem_of_getElem? (i := 11) rfl)) (hw _ (List.mem_of_getElem? (i := 2) rfl)) (by decide) (by decide)) (g := (mkF m 240 #[.val (.int v0), .val (.int v1), .val (.int v2), .val (.int v3), .val (.int v4), .val (.int u5), .val (.int u6), .val (.ref b1), .val (.ref b2), .val (.int wd), .val (.int pp), .val (.int qq), .val (.int d), .val (.int rr), .val (.int (1 : Int32))] [(.int rr), (.int d), (.int qq), (.ref b2), (.int pp), (.ref b1)])) rfl (by rw [hml]; rfl) (argsL := [(.ref b1), (.int pp), (.ref b2), (.int qq), (.int d), (.int rr)]) (rest := []) (lenOf pd_2 rfl) rfl (by show 2 * 0 + _ ≤ _; exact Nat.le_of_eq rfl) (hb hby at_240) (fun _ _ => ⟨rfl, e39, (by decide : 0 + 1 + 1 + 0 + 0 + 0 + 0 + 0 ≤ _), (by decide : 0 + 3 + 3 + 0 + 0 + 0 + 0 + 0 ≤ _)⟩)
          dsimp only [Pt.U, Pt.locs, Pt.cells, Pt.slots] at X41 l41 y41 z41 st41 hQ41
          subst l41 y41 z41
          obtain ⟨rfl, N41q, e41⟩ := hQ41
          have N41 := Fr.app N39 N41q
          refine Ends.st (S' := T41.setTop (mkF m 243 #[.val (.int v0), .val (.int v1), .val (.int v2), .val (.int v3), .val (.int v4), .val (.int u5), .val (.int u6), .val (.ref b1), .val (.ref b2), .val (.int wd), .val (.int pp), .val (.int qq), .val (.int d), .val (.int rr), .val (.int (1 : Int32))] [(.int (okf l1 l2 g1 g2 d pp qq rr))])) (fun _ k => st41 _ k) ?_
          have hb42 : (okf l1 l2 g1 g2 d pp qq rr) = (0 : Int32) := hrn
          refine Ends.st (S' := T41.setTop (mkF m 246 #[.val (.int v0), .val (.int v1), .val (.int v2), .val (.int v3), .val (.int v4), .val (.int u5), .val (.int u6), .val (.ref b1), .val (.ref b2), .val (.int wd), .val (.int pp), .val (.int qq), .val (.int d), .val (.int rr), .val (.int (1 : Int32))] [])) (fun _ k => XS.ifNo X41.here hx rfl (hb hby at_243) rfl ((if0 _ _).trans (teq hb42).2) k) ?_
          refine Ends.st (S' := T41.setTop (mkF m 247 #[.val (.int v0), .val (.int v1), .val (.int v2), .val (.int v3), .val (.int v4), .val (.int u5), .val (.int u6), .val (.ref b1), .val (.ref b2), .val (.int wd), .val (.int pp), .val (.int qq), .val (.int d), .val (.int rr), .val (.int (1 : Int32))] [(.int (1 : Int32))])) (fun _ k => XS.iconst X41.here hx rfl (hb hby at_246) k) ?_
          refine Ends.st (S' := T41.setTop (mkF m 251 #[.val (.int v0), .val (.int v1), .val (.int v2), .val (.int v3), .val (.int v4), .val (.int u5), .val (.int u6), .val (.ref b1), .val (.ref b2), .val (.int wd), .val (.int pp), .val (.int qq), .val (.int d), .val (.int rr), .val (.int (1 : Int32))] [(.int (1 : Int32))])) (fun _ k => XS.goto X41.here hx rfl (pc0 := 247) (pc' := 251) rfl (hb hby at_247) (by decide) (by decide) k) ?_
          obtain ⟨fs, hr, hrun, hended, hW, hsame⟩ := X41.leave (v := some (.int (1 : Int32))) (fun h => by rw [Bd.returns] at h; cases h)
          exact ⟨_, _, retN X41 hx (t := .boolean) Bd.returns (by simp) (hb hby at_251) hr, hrun, hended, _, _, rfl, (by show Q0 Z  h0 n0 _ T41.heap _; rw [e41]; exact ⟨rfl, N41⟩), ⟨_, rfl⟩, hW, hsame.mono (by decide) (by decide)⟩
  refine Ends.st (S' := T2.setTop (mkF m 59 #[.val (.int v0), .val (.int v1), .val (.int v2), .val (.int v3), .val (.int v4), .val (.int u5), .val (.int u6), .val (.ref b1), .val (.ref b2), .unset, .unset, .unset, .unset, .unset, .unset] [(.int v4)])) (fun _ k => XS.iload X2.here hx rfl (hb hby at_57) rfl k) ?_
  refine Ends.st (S' := T2.setTop (mkF m 60 #[.val (.int v0), .val (.int v1), .val (.int v2), .val (.int v3), .val (.int v4), .val (.int u5), .val (.int u6), .val (.ref b1), .val (.ref b2), .unset, .unset, .unset, .unset, .unset, .unset] [(.int (2 : Int32)), (.int v4)])) (fun _ k => XS.iconst X2.here hx rfl (hb hby at_59) k) ?_
  refine Ends.st (S' := T2.setTop (mkF m 61 #[.val (.int v0), .val (.int v1), .val (.int v2), .val (.int v3), .val (.int v4), .val (.int u5), .val (.int u6), .val (.ref b1), .val (.ref b2), .unset, .unset, .unset, .unset, .unset, .unset] [(.int (v4 &&& (2 : Int32)))])) (fun _ k => XS.iand X2.here hx rfl (hb hby at_60) rfl k) ?_
  by_cases hc43 : (v4 &&& (2 : Int32)) = (0 : Int32)
  · refine Ends.st (S' := T2.setTop (mkF m 68 #[.val (.int v0), .val (.int v1), .val (.int v2), .val (.int v3), .val (.int v4), .val (.int u5), .val (.int u6), .val (.ref b1), .val (.ref b2), .unset, .unset, .unset, .unset, .unset, .unset] [])) (fun _ k => XS.ifYes X2.here hx rfl (pc0 := 61) (pc' := 68) rfl (hb hby at_61) rfl ((if0 _ _).trans (teq hc43).1) (by decide) (by decide) k) ?_
    refine Ends.st (S' := T2.setTop (mkF m 69 #[.val (.int v0), .val (.int v1), .val (.int v2), .val (.int v3), .val (.int v4), .val (.int u5), .val (.int u6), .val (.ref b1), .val (.ref b2), .unset, .unset, .unset, .unset, .unset, .unset] [(.int (0 : Int32))])) (fun _ k => XS.iconst X2.here hx rfl (hb hby at_68) k) ?_
    refine Ends.st (S' := T2.setTop (mkF m 71 #[.val (.int v0), .val (.int v1), .val (.int v2), .val (.int v3), .val (.int v4), .val (.int u5), .val (.int u6), .val (.ref b1), .val (.ref b2), .val (.int (0 : Int32)), .unset, .unset, .unset, .unset, .unset] [])) (fun _ k => XS.istore X2.here hx rfl (hb hby at_69) rfl (l' := #[.val (.int v0), .val (.int v1), .val (.int v2), .val (.int v3), .val (.int v4), .val (.int u5), .val (.int u6), .val (.ref b1), .val (.ref b2), .val (.int (0 : Int32)), .unset, .unset, .unset, .unset, .unset]) rfl k) ?_
    refine Ends.st (S' := T2.setTop (mkF m 73 #[.val (.int v0), .val (.int v1), .val (.int v2), .val (.int v3), .val (.int v4), .val (.int u5), .val (.int u6), .val (.ref b1), .val (.ref b2), .val (.int (0 : Int32)), .unset, .unset, .unset, .unset, .unset] [(.int (0 : Int32))])) (fun _ k => XS.iload X2.here hx rfl (hb hby at_71) rfl k) ?_
    refine Ends.st (S' := T2.setTop (mkF m 80 #[.val (.int v0), .val (.int v1), .val (.int v2), .val (.int v3), .val (.int v4), .val (.int u5), .val (.int u6), .val (.ref b1), .val (.ref b2), .val (.int (0 : Int32)), .unset, .unset, .unset, .unset, .unset] [])) (fun _ k => XS.ifYes X2.here hx rfl (pc0 := 73) (pc' := 80) rfl (hb hby at_73) rfl ((if0 _ _).trans (teq (by decide : (0 : Int32) = (0 : Int32))).1) (by decide) (by decide) k) ?_
    refine Ends.st (S' := T2.setTop (mkF m 81 #[.val (.int v0), .val (.int v1), .val (.int v2), .val (.int v3), .val (.int v4), .val (.int u5), .val (.int u6), .val (.ref b1), .val (.ref b2), .val (.int (0 : Int32)), .unset, .unset, .unset, .unset, .unset] [(.int v2)])) (fun _ k => XS.iloadN X2.here hx rfl (hb hby at_80) rfl k) ?_
    refine Ends.st (S' := T2.setTop (mkF m 83 #[.val (.int v0), .val (.int v1), .val (.int v2), .val (.int v3), .val (.int v4), .val (.int u5), .val (.int u6), .val (.ref b1), .val (.ref b2), .val (.int (0 : Int32)), .unset, .unset, .unset, .unset, .unset] [(.int (7 : Int32)), (.int v2)])) (fun _ k => XS.bipush X2.here hx rfl (hb hby at_81) k) ?_
    refine Ends.st (S' := T2.setTop (mkF m 84 #[.val (.int v0), .val (.int v1), .val (.int v2), .val (.int v3), .val (.int v4), .val (.int u5), .val (.int u6), .val (.ref b1), .val (.ref b2), .val (.int (0 : Int32)), .unset, .unset, .unset, .unset, .unset] [(.int (v2 &&& (7 : Int32)))])) (fun _ k => XS.iand X2.here hx rfl (hb hby at_83) rfl k) ?_
    refine Ends.st (S' := T2.setTop (mkF m 85 #[.val (.int v0), .val (.int v1), .val (.int v2), .val (.int v3), .val (.int v4), .val (.int u5), .val (.int u6), .val (.ref b1), .val (.ref b2), .val (.int (0 : Int32)), .unset, .unset, .unset, .unset, .unset] [(.int (2 : Int32)), (.int (v2 &&& (7 : Int32)))])) (fun _ k => XS.iconst X2.here hx rfl (hb hby at_84) k) ?_
    refine Ends.st (S' := T2.setTop (mkF m 86 #[.val (.int v0), .val (.int v1), .val (.int v2), .val (.int v3), .val (.int v4), .val (.int u5), .val (.int u6), .val (.ref b1), .val (.ref b2), .val (.int (0 : Int32)), .unset, .unset, .unset, .unset, .unset] [(.int ((v2 &&& (7 : Int32)) - (2 : Int32)))])) (fun _ k => XS.isub X2.here hx rfl (hb hby at_85) rfl k) ?_
    refine Ends.st (S' := T2.setTop (mkF m 88 #[.val (.int v0), .val (.int v1), .val (.int v2), .val (.int v3), .val (.int v4), .val (.int u5), .val (.int u6), .val (.ref b1), .val (.ref b2), .val (.int (0 : Int32)), .val (.int ((v2 &&& (7 : Int32)) - (2 : Int32))), .unset, .unset, .unset, .unset] [])) (fun _ k => XS.istore X2.here hx rfl (hb hby at_86) rfl (l' := #[.val (.int v0), .val (.int v1), .val (.int v2), .val (.int v3), .val (.int v4), .val (.int u5), .val (.int u6), .val (.ref b1), .val (.ref b2), .val (.int (0 : Int32)), .val (.int ((v2 &&& (7 : Int32)) - (2 : Int32))), .unset, .unset, .unset, .unset]) rfl k) ?_
    refine Ends.st (S' := T2.setTop (mkF m 90 #[.val (.int v0), .val (.int v1), .val (.int v2), .val (.int v3), .val (.int v4), .val (.int u5), .val (.int u6), .val (.ref b1), .val (.ref b2), .val (.int (0 : Int32)), .val (.int ((v2 &&& (7 : Int32)) - (2 : Int32))), .unset, .unset, .unset, .unset] [(.int (0 : Int32))])) (fun _ k => XS.iload X2.here hx rfl (hb hby at_88) rfl k) ?_
    refine Ends.st (S' := T2.setTop (mkF m 97 #[.val (.int v0), .val (.int v1), .val (.int v2), .val (.int v3), .val (.int v4), .val (.int u5), .val (.int u6), .val (.ref b1), .val (.ref b2), .val (.int (0 : Int32)), .val (.int ((v2 &&& (7 : Int32)) - (2 : Int32))), .unset, .unset, .unset, .unset] [])) (fun _ k => XS.ifYes X2.here hx rfl (pc0 := 90) (pc' := 97) rfl (hb hby at_90) rfl ((if0 _ _).trans (teq (by decide : (0 : Int32) = (0 : Int32))).1) (by decide) (by decide) k) ?_
    refine Ends.st (S' := T2.setTop (mkF m 98 #[.val (.int v0), .val (.int v1), .val (.int v2), .val (.int v3), .val (.int v4), .val (.int u5), .val (.int u6), .val (.ref b1), .val (.ref b2), .val (.int (0 : Int32)), .val (.int ((v2 &&& (7 : Int32)) - (2 : Int32))), .unset, .unset, .unset, .unset] [(.int v3)])) (fun _ k => XS.iloadN X2.here hx rfl (hb hby at_97) rfl k) ?_
    refine Ends.st (S' := T2.setTop (mkF m 100 #[.val (.int v0), .val (.int v1), .val (.int v2), .val (.int v3), .val (.int v4), .val (.int u5), .val (.int u6), .val (.ref b1), .val (.ref b2), .val (.int (0 : Int32)), .val (.int ((v2 &&& (7 : Int32)) - (2 : Int32))), .unset, .unset, .unset, .unset] [(.int (7 : Int32)), (.int v3)])) (fun _ k => XS.bipush X2.here hx rfl (hb hby at_98) k) ?_
    refine Ends.st (S' := T2.setTop (mkF m 101 #[.val (.int v0), .val (.int v1), .val (.int v2), .val (.int v3), .val (.int v4), .val (.int u5), .val (.int u6), .val (.ref b1), .val (.ref b2), .val (.int (0 : Int32)), .val (.int ((v2 &&& (7 : Int32)) - (2 : Int32))), .unset, .unset, .unset, .unset] [(.int (v3 &&& (7 : Int32)))])) (fun _ k => XS.iand X2.here hx rfl (hb hby at_100) rfl k) ?_
    refine Ends.st (S' := T2.setTop (mkF m 102 #[.val (.int v0), .val (.int v1), .val (.int v2), .val (.int v3), .val (.int v4), .val (.int u5), .val (.int u6), .val (.ref b1), .val (.ref b2), .val (.int (0 : Int32)), .val (.int ((v2 &&& (7 : Int32)) - (2 : Int32))), .unset, .unset, .unset, .unset] [(.int (2 : Int32)), (.int (v3 &&& (7 : Int32)))])) (fun _ k => XS.iconst X2.here hx rfl (hb hby at_101) k) ?_
    refine Ends.st (S' := T2.setTop (mkF m 103 #[.val (.int v0), .val (.int v1), .val (.int v2), .val (.int v3), .val (.int v4), .val (.int u5), .val (.int u6), .val (.ref b1), .val (.ref b2), .val (.int (0 : Int32)), .val (.int ((v2 &&& (7 : Int32)) - (2 : Int32))), .unset, .unset, .unset, .unset] [(.int ((v3 &&& (7 : Int32)) - (2 : Int32)))])) (fun _ k => XS.isub X2.here hx rfl (hb hby at_102) rfl k) ?_
    refine Ends.st (S' := T2.setTop (mkF m 105 #[.val (.int v0), .val (.int v1), .val (.int v2), .val (.int v3), .val (.int v4), .val (.int u5), .val (.int u6), .val (.ref b1), .val (.ref b2), .val (.int (0 : Int32)), .val (.int ((v2 &&& (7 : Int32)) - (2 : Int32))), .val (.int ((v3 &&& (7 : Int32)) - (2 : Int32))), .unset, .unset, .unset] [])) (fun _ k => XS.istore X2.here hx rfl (hb hby at_103) rfl (l' := #[.val (.int v0), .val (.int v1), .val (.int v2), .val (.int v3), .val (.int v4), .val (.int u5), .val (.int u6), .val (.ref b1), .val (.ref b2), .val (.int (0 : Int32)), .val (.int ((v2 &&& (7 : Int32)) - (2 : Int32))), .val (.int ((v3 &&& (7 : Int32)) - (2 : Int32))), .unset, .unset, .unset]) rfl k) ?_
    refine Ends.st (S' := T2.setTop (mkF m 107 #[.val (.int v0), .val (.int v1), .val (.int v2), .val (.int v3), .val (.int v4), .val (.int u5), .val (.int u6), .val (.ref b1), .val (.ref b2), .val (.int (0 : Int32)), .val (.int ((v2 &&& (7 : Int32)) - (2 : Int32))), .val (.int ((v3 &&& (7 : Int32)) - (2 : Int32))), .unset, .unset, .unset] [(.int v4)])) (fun _ k => XS.iload X2.here hx rfl (hb hby at_105) rfl k) ?_
    refine Ends.st (S' := T2.setTop (mkF m 108 #[.val (.int v0), .val (.int v1), .val (.int v2), .val (.int v3), .val (.int v4), .val (.int u5), .val (.int u6), .val (.ref b1), .val (.ref b2), .val (.int (0 : Int32)), .val (.int ((v2 &&& (7 : Int32)) - (2 : Int32))), .val (.int ((v3 &&& (7 : Int32)) - (2 : Int32))), .unset, .unset, .unset] [(.int (1 : Int32)), (.int v4)])) (fun _ k => XS.iconst X2.here hx rfl (hb hby at_107) k) ?_
    refine Ends.st (S' := T2.setTop (mkF m 109 #[.val (.int v0), .val (.int v1), .val (.int v2), .val (.int v3), .val (.int v4), .val (.int u5), .val (.int u6), .val (.ref b1), .val (.ref b2), .val (.int (0 : Int32)), .val (.int ((v2 &&& (7 : Int32)) - (2 : Int32))), .val (.int ((v3 &&& (7 : Int32)) - (2 : Int32))), .unset, .unset, .unset] [(.int (v4 &&& (1 : Int32)))])) (fun _ k => XS.iand X2.here hx rfl (hb hby at_108) rfl k) ?_
    by_cases hc44 : (v4 &&& (1 : Int32)) = (0 : Int32)
    · refine Ends.st (S' := T2.setTop (mkF m 116 #[.val (.int v0), .val (.int v1), .val (.int v2), .val (.int v3), .val (.int v4), .val (.int u5), .val (.int u6), .val (.ref b1), .val (.ref b2), .val (.int (0 : Int32)), .val (.int ((v2 &&& (7 : Int32)) - (2 : Int32))), .val (.int ((v3 &&& (7 : Int32)) - (2 : Int32))), .unset, .unset, .unset] [])) (fun _ k => XS.ifYes X2.here hx rfl (pc0 := 109) (pc' := 116) rfl (hb hby at_109) rfl ((if0 _ _).trans (teq hc44).1) (by decide) (by decide) k) ?_
      refine Ends.st (S' := T2.setTop (mkF m 117 #[.val (.int v0), .val (.int v1), .val (.int v2), .val (.int v3), .val (.int v4), .val (.int u5), .val (.int u6), .val (.ref b1), .val (.ref b2), .val (.int (0 : Int32)), .val (.int ((v2 &&& (7 : Int32)) - (2 : Int32))), .val (.int ((v3 &&& (7 : Int32)) - (2 : Int32))), .unset, .unset, .unset] [(.int (-1 : Int32))])) (fun _ k => XS.iconst X2.here hx rfl (hb hby at_116) k) ?_
      refine Ends.st (S' := T2.setTop (mkF m 119 #[.val (.int v0), .val (.int v1), .val (.int v2), .val (.int v3), .val (.int v4), .val (.int u5), .val (.int u6), .val (.ref b1), .val (.ref b2), .val (.int (0 : Int32)), .val (.int ((v2 &&& (7 : Int32)) - (2 : Int32))), .val (.int ((v3 &&& (7 : Int32)) - (2 : Int32))), .val (.int (-1 : Int32)), .unset, .unset] [])) (fun _ k => XS.istore X2.here hx rfl (hb hby at_117) rfl (l' := #[.val (.int v0), .val (.int v1), .val (.int v2), .val (.int v3), .val (.int v4), .val (.int u5), .val (.int u6), .val (.ref b1), .val (.ref b2), .val (.int (0 : Int32)), .val (.int ((v2 &&& (7 : Int32)) - (2 : Int32))), .val (.int ((v3 &&& (7 : Int32)) - (2 : Int32))), .val (.int (-1 : Int32)), .unset, .unset]) rfl k) ?_
      exact rest0 _ _ _ _ (by decide)
    · refine Ends.st (S' := T2.setTop (mkF m 112 #[.val (.int v0), .val (.int v1), .val (.int v2), .val (.int v3), .val (.int v4), .val (.int u5), .val (.int u6), .val (.ref b1), .val (.ref b2), .val (.int (0 : Int32)), .val (.int ((v2 &&& (7 : Int32)) - (2 : Int32))), .val (.int ((v3 &&& (7 : Int32)) - (2 : Int32))), .unset, .unset, .unset] [])) (fun _ k => XS.ifNo X2.here hx rfl (hb hby at_109) rfl ((if0 _ _).trans (feq hc44).1) k) ?_
      refine Ends.st (S' := T2.setTop (mkF m 113 #[.val (.int v0), .val (.int v1), .val (.int v2), .val (.int v3), .val (.int v4), .val (.int u5), .val (.int u6), .val (.ref b1), .val (.ref b2), .val (.int (0 : Int32)), .val (.int ((v2 &&& (7 : Int32)) - (2 : Int32))), .val (.int ((v3 &&& (7 : Int32)) - (2 : Int32))), .unset, .unset, .unset] [(.int (1 : Int32))])) (fun _ k => XS.iconst X2.here hx rfl (hb hby at_112) k) ?_
      refine Ends.st (S' := T2.setTop (mkF m 117 #[.val (.int v0), .val (.int v1), .val (.int v2), .val (.int v3), .val (.int v4), .val (.int u5), .val (.int u6), .val (.ref b1), .val (.ref b2), .val (.int (0 : Int32)), .val (.int ((v2 &&& (7 : Int32)) - (2 : Int32))), .val (.int ((v3 &&& (7 : Int32)) - (2 : Int32))), .unset, .unset, .unset] [(.int (1 : Int32))])) (fun _ k => XS.goto X2.here hx rfl (pc0 := 113) (pc' := 117) rfl (hb hby at_113) (by decide) (by decide) k) ?_
      refine Ends.st (S' := T2.setTop (mkF m 119 #[.val (.int v0), .val (.int v1), .val (.int v2), .val (.int v3), .val (.int v4), .val (.int u5), .val (.int u6), .val (.ref b1), .val (.ref b2), .val (.int (0 : Int32)), .val (.int ((v2 &&& (7 : Int32)) - (2 : Int32))), .val (.int ((v3 &&& (7 : Int32)) - (2 : Int32))), .val (.int (1 : Int32)), .unset, .unset] [])) (fun _ k => XS.istore X2.here hx rfl (hb hby at_117) rfl (l' := #[.val (.int v0), .val (.int v1), .val (.int v2), .val (.int v3), .val (.int v4), .val (.int u5), .val (.int u6), .val (.ref b1), .val (.ref b2), .val (.int (0 : Int32)), .val (.int ((v2 &&& (7 : Int32)) - (2 : Int32))), .val (.int ((v3 &&& (7 : Int32)) - (2 : Int32))), .val (.int (1 : Int32)), .unset, .unset]) rfl k) ?_
      exact rest0 _ _ _ _ (by decide)
  · refine Ends.st (S' := T2.setTop (mkF m 64 #[.val (.int v0), .val (.int v1), .val (.int v2), .val (.int v3), .val (.int v4), .val (.int u5), .val (.int u6), .val (.ref b1), .val (.ref b2), .unset, .unset, .unset, .unset, .unset, .unset] [])) (fun _ k => XS.ifNo X2.here hx rfl (hb hby at_61) rfl ((if0 _ _).trans (feq hc43).1) k) ?_
    refine Ends.st (S' := T2.setTop (mkF m 65 #[.val (.int v0), .val (.int v1), .val (.int v2), .val (.int v3), .val (.int v4), .val (.int u5), .val (.int u6), .val (.ref b1), .val (.ref b2), .unset, .unset, .unset, .unset, .unset, .unset] [(.int (1 : Int32))])) (fun _ k => XS.iconst X2.here hx rfl (hb hby at_64) k) ?_
    refine Ends.st (S' := T2.setTop (mkF m 69 #[.val (.int v0), .val (.int v1), .val (.int v2), .val (.int v3), .val (.int v4), .val (.int u5), .val (.int u6), .val (.ref b1), .val (.ref b2), .unset, .unset, .unset, .unset, .unset, .unset] [(.int (1 : Int32))])) (fun _ k => XS.goto X2.here hx rfl (pc0 := 65) (pc' := 69) rfl (hb hby at_65) (by decide) (by decide) k) ?_
    refine Ends.st (S' := T2.setTop (mkF m 71 #[.val (.int v0), .val (.int v1), .val (.int v2), .val (.int v3), .val (.int v4), .val (.int u5), .val (.int u6), .val (.ref b1), .val (.ref b2), .val (.int (1 : Int32)), .unset, .unset, .unset, .unset, .unset] [])) (fun _ k => XS.istore X2.here hx rfl (hb hby at_69) rfl (l' := #[.val (.int v0), .val (.int v1), .val (.int v2), .val (.int v3), .val (.int v4), .val (.int u5), .val (.int u6), .val (.ref b1), .val (.ref b2), .val (.int (1 : Int32)), .unset, .unset, .unset, .unset, .unset]) rfl k) ?_
    refine Ends.st (S' := T2.setTop (mkF m 73 #[.val (.int v0), .val (.int v1), .val (.int v2), .val (.int v3), .val (.int v4), .val (.int u5), .val (.int u6), .val (.ref b1), .val (.ref b2), .val (.int (1 : Int32)), .unset, .unset, .unset, .unset, .unset] [(.int (1 : Int32))])) (fun _ k => XS.iload X2.here hx rfl (hb hby at_71) rfl k) ?_
    refine Ends.st (S' := T2.setTop (mkF m 76 #[.val (.int v0), .val (.int v1), .val (.int v2), .val (.int v3), .val (.int v4), .val (.int u5), .val (.int u6), .val (.ref b1), .val (.ref b2), .val (.int (1 : Int32)), .unset, .unset, .unset, .unset, .unset] [])) (fun _ k => XS.ifNo X2.here hx rfl (hb hby at_73) rfl ((if0 _ _).trans (feq (by decide : ¬ ((1 : Int32) = (0 : Int32)))).1) k) ?_
    refine Ends.st (S' := T2.setTop (mkF m 77 #[.val (.int v0), .val (.int v1), .val (.int v2), .val (.int v3), .val (.int v4), .val (.int u5), .val (.int u6), .val (.ref b1), .val (.ref b2), .val (.int (1 : Int32)), .unset, .unset, .unset, .unset, .unset] [(.int v2)])) (fun _ k => XS.iloadN X2.here hx rfl (hb hby at_76) rfl k) ?_
    refine Ends.st (S' := T2.setTop (mkF m 86 #[.val (.int v0), .val (.int v1), .val (.int v2), .val (.int v3), .val (.int v4), .val (.int u5), .val (.int u6), .val (.ref b1), .val (.ref b2), .val (.int (1 : Int32)), .unset, .unset, .unset, .unset, .unset] [(.int v2)])) (fun _ k => XS.goto X2.here hx rfl (pc0 := 77) (pc' := 86) rfl (hb hby at_77) (by decide) (by decide) k) ?_
    refine Ends.st (S' := T2.setTop (mkF m 88 #[.val (.int v0), .val (.int v1), .val (.int v2), .val (.int v3), .val (.int v4), .val (.int u5), .val (.int u6), .val (.ref b1), .val (.ref b2), .val (.int (1 : Int32)), .val (.int v2), .unset, .unset, .unset, .unset] [])) (fun _ k => XS.istore X2.here hx rfl (hb hby at_86) rfl (l' := #[.val (.int v0), .val (.int v1), .val (.int v2), .val (.int v3), .val (.int v4), .val (.int u5), .val (.int u6), .val (.ref b1), .val (.ref b2), .val (.int (1 : Int32)), .val (.int v2), .unset, .unset, .unset, .unset]) rfl k) ?_
    refine Ends.st (S' := T2.setTop (mkF m 90 #[.val (.int v0), .val (.int v1), .val (.int v2), .val (.int v3), .val (.int v4), .val (.int u5), .val (.int u6), .val (.ref b1), .val (.ref b2), .val (.int (1 : Int32)), .val (.int v2), .unset, .unset, .unset, .unset] [(.int (1 : Int32))])) (fun _ k => XS.iload X2.here hx rfl (hb hby at_88) rfl k) ?_
    refine Ends.st (S' := T2.setTop (mkF m 93 #[.val (.int v0), .val (.int v1), .val (.int v2), .val (.int v3), .val (.int v4), .val (.int u5), .val (.int u6), .val (.ref b1), .val (.ref b2), .val (.int (1 : Int32)), .val (.int v2), .unset, .unset, .unset, .unset] [])) (fun _ k => XS.ifNo X2.here hx rfl (hb hby at_90) rfl ((if0 _ _).trans (feq (by decide : ¬ ((1 : Int32) = (0 : Int32)))).1) k) ?_
    refine Ends.st (S' := T2.setTop (mkF m 94 #[.val (.int v0), .val (.int v1), .val (.int v2), .val (.int v3), .val (.int v4), .val (.int u5), .val (.int u6), .val (.ref b1), .val (.ref b2), .val (.int (1 : Int32)), .val (.int v2), .unset, .unset, .unset, .unset] [(.int v3)])) (fun _ k => XS.iloadN X2.here hx rfl (hb hby at_93) rfl k) ?_
    refine Ends.st (S' := T2.setTop (mkF m 103 #[.val (.int v0), .val (.int v1), .val (.int v2), .val (.int v3), .val (.int v4), .val (.int u5), .val (.int u6), .val (.ref b1), .val (.ref b2), .val (.int (1 : Int32)), .val (.int v2), .unset, .unset, .unset, .unset] [(.int v3)])) (fun _ k => XS.goto X2.here hx rfl (pc0 := 94) (pc' := 103) rfl (hb hby at_94) (by decide) (by decide) k) ?_
    refine Ends.st (S' := T2.setTop (mkF m 105 #[.val (.int v0), .val (.int v1), .val (.int v2), .val (.int v3), .val (.int v4), .val (.int u5), .val (.int u6), .val (.ref b1), .val (.ref b2), .val (.int (1 : Int32)), .val (.int v2), .val (.int v3), .unset, .unset, .unset] [])) (fun _ k => XS.istore X2.here hx rfl (hb hby at_103) rfl (l' := #[.val (.int v0), .val (.int v1), .val (.int v2), .val (.int v3), .val (.int v4), .val (.int u5), .val (.int u6), .val (.ref b1), .val (.ref b2), .val (.int (1 : Int32)), .val (.int v2), .val (.int v3), .unset, .unset, .unset]) rfl k) ?_
    refine Ends.st (S' := T2.setTop (mkF m 107 #[.val (.int v0), .val (.int v1), .val (.int v2), .val (.int v3), .val (.int v4), .val (.int u5), .val (.int u6), .val (.ref b1), .val (.ref b2), .val (.int (1 : Int32)), .val (.int v2), .val (.int v3), .unset, .unset, .unset] [(.int v4)])) (fun _ k => XS.iload X2.here hx rfl (hb hby at_105) rfl k) ?_
    refine Ends.st (S' := T2.setTop (mkF m 108 #[.val (.int v0), .val (.int v1), .val (.int v2), .val (.int v3), .val (.int v4), .val (.int u5), .val (.int u6), .val (.ref b1), .val (.ref b2), .val (.int (1 : Int32)), .val (.int v2), .val (.int v3), .unset, .unset, .unset] [(.int (1 : Int32)), (.int v4)])) (fun _ k => XS.iconst X2.here hx rfl (hb hby at_107) k) ?_
    refine Ends.st (S' := T2.setTop (mkF m 109 #[.val (.int v0), .val (.int v1), .val (.int v2), .val (.int v3), .val (.int v4), .val (.int u5), .val (.int u6), .val (.ref b1), .val (.ref b2), .val (.int (1 : Int32)), .val (.int v2), .val (.int v3), .unset, .unset, .unset] [(.int (v4 &&& (1 : Int32)))])) (fun _ k => XS.iand X2.here hx rfl (hb hby at_108) rfl k) ?_
    by_cases hc45 : (v4 &&& (1 : Int32)) = (0 : Int32)
    · refine Ends.st (S' := T2.setTop (mkF m 116 #[.val (.int v0), .val (.int v1), .val (.int v2), .val (.int v3), .val (.int v4), .val (.int u5), .val (.int u6), .val (.ref b1), .val (.ref b2), .val (.int (1 : Int32)), .val (.int v2), .val (.int v3), .unset, .unset, .unset] [])) (fun _ k => XS.ifYes X2.here hx rfl (pc0 := 109) (pc' := 116) rfl (hb hby at_109) rfl ((if0 _ _).trans (teq hc45).1) (by decide) (by decide) k) ?_
      refine Ends.st (S' := T2.setTop (mkF m 117 #[.val (.int v0), .val (.int v1), .val (.int v2), .val (.int v3), .val (.int v4), .val (.int u5), .val (.int u6), .val (.ref b1), .val (.ref b2), .val (.int (1 : Int32)), .val (.int v2), .val (.int v3), .unset, .unset, .unset] [(.int (-1 : Int32))])) (fun _ k => XS.iconst X2.here hx rfl (hb hby at_116) k) ?_
      refine Ends.st (S' := T2.setTop (mkF m 119 #[.val (.int v0), .val (.int v1), .val (.int v2), .val (.int v3), .val (.int v4), .val (.int u5), .val (.int u6), .val (.ref b1), .val (.ref b2), .val (.int (1 : Int32)), .val (.int v2), .val (.int v3), .val (.int (-1 : Int32)), .unset, .unset] [])) (fun _ k => XS.istore X2.here hx rfl (hb hby at_117) rfl (l' := #[.val (.int v0), .val (.int v1), .val (.int v2), .val (.int v3), .val (.int v4), .val (.int u5), .val (.int u6), .val (.ref b1), .val (.ref b2), .val (.int (1 : Int32)), .val (.int v2), .val (.int v3), .val (.int (-1 : Int32)), .unset, .unset]) rfl k) ?_
      exact rest0 _ _ _ _ (by decide)
    · refine Ends.st (S' := T2.setTop (mkF m 112 #[.val (.int v0), .val (.int v1), .val (.int v2), .val (.int v3), .val (.int v4), .val (.int u5), .val (.int u6), .val (.ref b1), .val (.ref b2), .val (.int (1 : Int32)), .val (.int v2), .val (.int v3), .unset, .unset, .unset] [])) (fun _ k => XS.ifNo X2.here hx rfl (hb hby at_109) rfl ((if0 _ _).trans (feq hc45).1) k) ?_
      refine Ends.st (S' := T2.setTop (mkF m 113 #[.val (.int v0), .val (.int v1), .val (.int v2), .val (.int v3), .val (.int v4), .val (.int u5), .val (.int u6), .val (.ref b1), .val (.ref b2), .val (.int (1 : Int32)), .val (.int v2), .val (.int v3), .unset, .unset, .unset] [(.int (1 : Int32))])) (fun _ k => XS.iconst X2.here hx rfl (hb hby at_112) k) ?_
      refine Ends.st (S' := T2.setTop (mkF m 117 #[.val (.int v0), .val (.int v1), .val (.int v2), .val (.int v3), .val (.int v4), .val (.int u5), .val (.int u6), .val (.ref b1), .val (.ref b2), .val (.int (1 : Int32)), .val (.int v2), .val (.int v3), .unset, .unset, .unset] [(.int (1 : Int32))])) (fun _ k => XS.goto X2.here hx rfl (pc0 := 113) (pc' := 117) rfl (hb hby at_113) (by decide) (by decide) k) ?_
      refine Ends.st (S' := T2.setTop (mkF m 119 #[.val (.int v0), .val (.int v1), .val (.int v2), .val (.int v3), .val (.int v4), .val (.int u5), .val (.int u6), .val (.ref b1), .val (.ref b2), .val (.int (1 : Int32)), .val (.int v2), .val (.int v3), .val (.int (1 : Int32)), .unset, .unset] [])) (fun _ k => XS.istore X2.here hx rfl (hb hby at_117) rfl (l' := #[.val (.int v0), .val (.int v1), .val (.int v2), .val (.int v3), .val (.int v4), .val (.int u5), .val (.int u6), .val (.ref b1), .val (.ref b2), .val (.int (1 : Int32)), .val (.int v2), .val (.int v3), .val (.int (1 : Int32)), .unset, .unset]) rfl k) ?_
      exact rest0 _ _ _ _ (by decide)
set_option maxRecDepth 65536 in
set_option maxHeartbeats 40000000 in
theorem comes_1 {Post : Tables → Env → Array Value → State → Outcome → State → Prop} (hpost : ∀ tb e args s v u, (limb_1_1.after args s (.returned v) u = true ∧ limb_1_2.after args s (.returned v) u = true ∧ True) → FrameEnd s (.returned v) u (Jvm.fieldLocs frame_1_writes args s ++ Jvm.arrayLocs frame_1_arrays args s ++ Jvm.staticLocs frame_1_statics s) 16 128 → Post tb e args s (.returned v) u) :
    ArmFor flags0 classFile x code maxLocals ret World_1 tables_1 room_1 Calls_1 rest_1 Pre_1 Post := by
  intro l hfl _ _ p e ha hc hk s m args below hf hA hF happ hP
  obtain ⟨hcalls, hrest, hpre⟩ := hP
  obtain ⟨-, -, -, hnamed, -, -, -, hat⟩ := (Spec.applies_iff hf).mp happ
  obtain ⟨hg, hn⟩ := and_e (Cond.before_iff.mp (show (Jvm.Cond.and given_1 narrow_1).before args s = true from hpre))
  obtain ⟨gc, gr0⟩ := and_e hg
  obtain ⟨ga0, gr1⟩ := and_e gr0
  obtain ⟨ga1, gr2⟩ := and_e gr1
  obtain ⟨ga2, gr3⟩ := and_e gr2
  obtain ⟨ga3, gr4⟩ := and_e gr3
  obtain ⟨w0, w1, w2, w3, w4, rfl⟩ : ∃ w0 w1 w2 w3 w4 : Value, args = #[w0, w1, w2, w3, w4] := by
    have hs : args.size = 5 := by simpa [Cond.value, given_1] using gc
    obtain ⟨L⟩ := args
    match L, hs with
    | [w0, w1, w2, w3, w4], _ => exact ⟨w0, w1, w2, w3, w4, rfl⟩
  have hw := fun d (hd : d ∈ tables_1) => atoms_spec (ws := Jvm.Cond.code x code maxLocals ret :: tables_1) hat d (List.mem_cons_of_mem _ hd)
  have hfit : Fit s := fun {y c} hc i hi => by
    obtain ⟨ha, rfl⟩ := Array.getElem?_eq_some_iff.mp hc
    have q := List.all_eq_true.mp ((Array.all_eq_true_iff_forall_mem.mp hF) _ (Array.getElem_mem ha)) i (List.mem_range.mpr hi)
    simpa [Array.getElem?_eq_getElem hi] using q
  obtain ⟨i0, ei0⟩ := is_v ga0
  obtain rfl : w0 = (.int i0) := Option.some.inj ei0
  obtain ⟨i1, ei1⟩ := is_v ga1
  obtain rfl : w1 = (.int i1) := Option.some.inj ei1
  obtain ⟨i2, ei2⟩ := is_v ga2
  obtain rfl : w2 = (.int i2) := Option.some.inj ei2
  obtain ⟨i3, ei3⟩ := is_v ga3
  obtain rfl : w3 = (.int i3) := Option.some.inj ei3
  obtain ⟨i4, ei4⟩ := is_v gr4
  obtain rfl : w4 = (.int i4) := Option.some.inj ei4
  obtain ⟨n, o, h1, h2, h3, _, L, rfl, ⟨rfl, N⟩, hq⟩ := rm0 l s _ hw tables_1 i0 i1 i2 i3 i4 s.heap s.heap.size (Nat.le_refl _)  p e ha hc hk s m _ below hf ((Spec.applies_iff_loose hf).mp happ).1 ⟨rfl, State.Warmed39.refl s, rfl⟩ trivial
  refine ⟨n, _, h1, h2, h3, hpost _ _ _ _ _ _ ⟨Cond.after_iff.mpr rfl, Cond.after_iff.mpr (eq_i res_at (Term.int_eval (1)) rfl), trivial⟩ ⟨hq.1, hq.2.1, (hq.2.2.sift fun y hy => Or.inr (N y hy)).mono (by decide) (by decide)⟩⟩
theorem main_1_1 : Claimed_1_1 := comes_1 fun _ _ _ _ _ _ h hF => ⟨h.1, hF⟩
theorem main_1_2 : Claimed_1_2 := comes_1 fun _ _ _ _ _ _ h hF => ⟨h.2.1, hF⟩
end Jvm.Pilot.@@N@@
namespace Jvm.Pilot.@@N@@
open Jvm Jvm.ClassFile Sem Op Lib Jvm.Free Jvm.Stand Jvm.Pilot.@@N@@.Jvm.D
/-! MADE BY PROGRAM (witnessworld.py) out of the Statement's table words and the real class files: 9 classes; the members and pool entries that the words name. The judged class is class 1, her method 1. -/
namespace start1
open Jvm.ClassFile
def u (s : String) : CpInfo := .utf8 (stringToUtf16 s)
/-- a pool by its gaps: so many unusable entries, then the entry; so many at the end -/
def gap : Nat → List CpInfo → List CpInfo
  | 0, r => r
  | n + 1, r => .unusable :: gap n r
def poolList (es : List (Nat × CpInfo)) (last : Nat) : List CpInfo := es.foldr (fun e r => gap e.1 (e.2 :: r)) (gap last [])
def pool (es : List (Nat × CpInfo)) (last : Nat) : Array CpInfo := ⟨poolList es last⟩
def fileOf (pool : Array CpInfo) (this : Nat) (attrs : Array Attribute := #[]) (ms : Array MethodInfo := #[]) (fl : Nat := 33) (sup : Nat := 0) (ifs : Array Nat := #[]) (fds : Array FieldInfo := #[]) : ClassFile where
  minorVersion := 0
  majorVersion := 65
  constantPool := pool
  accessFlags := fl
  thisClass := this
  superClass := sup
  interfaces := ifs
  fields := fds
  methods := ms
  attributes := attrs
def plain (name : String) (sup : Option ClassId) : Class where
  name := name
  kind := .ordinary
  loader := none
  accessFlags := 33
  super := sup
  interfaces := #[]
  cf := none
  fields := #[]
  methods := #[]
  instanceTypes := #[]
  staticTypes := #[]
  resolved := #[]
  callSites := []
  init := .initialized
  statics := none
  mirror := none

def pool0 : Array CpInfo := pool [(5, u "<init>"), (0, u "()V"), (1, .class_ 10), (1, u "java/lang/Object")] 113

def k0m0 : Method := { name := "<init>", desc := "()V", sig := { parameters := [], returnType := none }, accessFlags := 1, code := none }
/-- java/lang/Object -/
def k0 : Class := { plain "java/lang/Object" none with
  accessFlags := 33
  interfaces := #[]
  cf := some (fileOf pool0 8 #[] #[{ accessFlags := 1, nameIndex := 5, descriptorIndex := 6, attributes := #[] }] 33 0 #[] #[])
  fields := #[]
  methods := #[k0m0]
  instanceTypes := #[]
  staticTypes := #[]
  resolved := Array.replicate 124 none
  statics := none }

def pool1 : Array CpInfo := pool [(2, .class_ 4), (1, u "java/lang/Object"), (0, u "<init>"), (0, u "()V"), (0, .methodref 8 9), (0, .class_ 10), (0, .nameAndType 11 12), (0, u "com/example/umpteenth_copy/umpteenthcopy/engine/MatchSameFromPinLaw"), (0, u "make"), (0, u "(IIII)[I"), (0, .methodref 14 15), (0, .class_ 16), (0, .nameAndType 17 18), (0, u "com/example/umpteenth_copy/umpteenthcopy/engine/Match"), (0, u "sameFrom"), (0, u "([II[III)I"), (0, .methodref 8 20), (0, .nameAndType 21 22), (0, u "ok"), (0, u "([II[IIII)Z"), (2, u "law"), (0, u "(IIIII)Z")] 5

def k1m0 : Method := { name := "<init>", desc := "()V", sig := { parameters := [], returnType := none }, accessFlags := 1, code := none }
def k1c1 : Code := { maxStack := 6, maxLocals := 15, code := code, exceptionTable := #[], attributes := #[] }
def k1m1 : Method := { name := "law", desc := "(IIIII)Z", sig := { parameters := [.int, .int, .int, .int, .int], returnType := some .boolean }, accessFlags := 9, code := some k1c1 }
def k1c2 : Code := { maxStack := 4, maxLocals := 4, code := method_3_code, exceptionTable := #[], attributes := #[] }
def k1m2 : Method := { name := "make", desc := "(IIII)[I", sig := { parameters := [.int, .int, .int, .int], returnType := some (.array .int) }, accessFlags := 10, code := some k1c2 }
def k1c3 : Code := { maxStack := 4, maxLocals := 10, code := method_4_code, exceptionTable := #[], attributes := #[] }
def k1m3 : Method := { name := "ok", desc := "([II[IIII)Z", sig := { parameters := [(.array .int), .int, (.array .int), .int, .int, .int], returnType := some .boolean }, accessFlags := 10, code := some k1c3 }
/-- com/example/umpteenth_copy/umpteenthcopy/engine/MatchSameFromPinLaw -/
def k1 : Class := { plain "com/example/umpteenth_copy/umpteenthcopy/engine/MatchSameFromPinLaw" (some 0) with
  accessFlags := 49
  interfaces := #[]
  cf := some (fileOf pool1 8 #[] #[{ accessFlags := 1, nameIndex := 5, descriptorIndex := 6, attributes := #[] }, { accessFlags := 9, nameIndex := 25, descriptorIndex := 26, attributes := #[] }, { accessFlags := 10, nameIndex := 11, descriptorIndex := 12, attributes := #[] }, { accessFlags := 10, nameIndex := 21, descriptorIndex := 22, attributes := #[] }] 49 2 #[] #[])
  fields := #[]
  methods := #[k1m0, k1m1, k1m2, k1m3]
  instanceTypes := #[]
  staticTypes := #[]
  resolved := Array.replicate 32 none
  statics := none }

def pool2 : Array CpInfo := pool [(1, .class_ 2), (0, u "com/example/umpteenth_copy/umpteenthcopy/engine/Match"), (1, .class_ 6), (1, u "java/lang/Object"), (4, u "article"), (0, u "I"), (2, u "froms"), (0, u "[I"), (2, u "heldFroms"), (2, u "lengths"), (2, u "shared"), (48, u "sameFrom"), (0, u "([II[III)I"), (18, u "GAP"), (2, u "RUN"), (1, u "DROP")] 20

def k2c0 : Code := { maxStack := 3, maxLocals := 8, code := prog_14_method_18_code, exceptionTable := #[], attributes := #[] }
def k2m0 : Method := { name := "sameFrom", desc := "([II[III)I", sig := { parameters := [(.array .int), .int, (.array .int), .int, .int], returnType := some .int }, accessFlags := 8, code := some k2c0 }
/-- com/example/umpteenth_copy/umpteenthcopy/engine/Match -/
def k2 : Class := { plain "com/example/umpteenth_copy/umpteenthcopy/engine/Match" (some 0) with
  accessFlags := 32
  interfaces := #[]
  cf := some (fileOf pool2 1 #[] #[{ accessFlags := 8, nameIndex := 74, descriptorIndex := 75, attributes := #[] }] 32 4 #[] #[{ accessFlags := 26, nameIndex := 94, descriptorIndex := 12, attributes := #[] }, { accessFlags := 26, nameIndex := 97, descriptorIndex := 12, attributes := #[] }, { accessFlags := 26, nameIndex := 99, descriptorIndex := 12, attributes := #[] }, { accessFlags := 18, nameIndex := 11, descriptorIndex := 12, attributes := #[] }, { accessFlags := 18, nameIndex := 15, descriptorIndex := 16, attributes := #[] }, { accessFlags := 18, nameIndex := 19, descriptorIndex := 16, attributes := #[] }, { accessFlags := 18, nameIndex := 22, descriptorIndex := 16, attributes := #[] }, { accessFlags := 18, nameIndex := 25, descriptorIndex := 12, attributes := #[] }])
  fields := #[{ name := "GAP", type := .int, accessFlags := 26, slot := 0, constantValue := 0 }, { name := "RUN", type := .int, accessFlags := 26, slot := 1, constantValue := 0 }, { name := "DROP", type := .int, accessFlags := 26, slot := 2, constantValue := 0 }, { name := "article", type := .int, accessFlags := 18, slot := 0, constantValue := 0 }, { name := "froms", type := (.array .int), accessFlags := 18, slot := 1, constantValue := 0 }, { name := "heldFroms", type := (.array .int), accessFlags := 18, slot := 2, constantValue := 0 }, { name := "lengths", type := (.array .int), accessFlags := 18, slot := 3, constantValue := 0 }, { name := "shared", type := .int, accessFlags := 18, slot := 4, constantValue := 0 }]
  methods := #[k2m0]
  instanceTypes := #[.int, (.array .int), (.array .int), (.array .int), .int]
  staticTypes := #[.int, .int, .int]
  resolved := Array.replicate 120 none
  statics := none }

def pool3 : Array CpInfo := pool [(1, u "java/lang/Cloneable"), (0, .class_ 1), (0, u "java/lang/Object"), (0, .class_ 3)] 3

/-- java/lang/Cloneable -/
def k3 : Class := { plain "java/lang/Cloneable" (some 0) with
  accessFlags := 1537
  interfaces := #[]
  cf := some (fileOf pool3 2 #[] #[] 1537 4 #[] #[])
  fields := #[]
  methods := #[]
  instanceTypes := #[]
  staticTypes := #[]
  resolved := Array.replicate 8 none
  statics := none }

def pool4 : Array CpInfo := pool [(1, u "java/io/Serializable"), (0, .class_ 1), (0, u "java/lang/Object"), (0, .class_ 3)] 3

/-- java/io/Serializable -/
def k4 : Class := { plain "java/io/Serializable" (some 0) with
  accessFlags := 1537
  interfaces := #[]
  cf := some (fileOf pool4 2 #[] #[] 1537 4 #[] #[])
  fields := #[]
  methods := #[]
  instanceTypes := #[]
  staticTypes := #[]
  resolved := Array.replicate 8 none
  statics := none }

/-- the primitive byte -/
def k5 : Class := { plain "byte" none with kind := .primitive 'B', accessFlags := 0x411 }
/-- [B -/
def k6 : Class := { plain "[B" (some 0) with kind := .array 5 .byte, interfaces := #[3, 4], accessFlags := 1041 }

/-- the primitive int -/
def k7 : Class := { plain "int" none with kind := .primitive 'I', accessFlags := 0x411 }
/-- [I -/
def k8 : Class := { plain "[I" (some 0) with kind := .array 7 .int, interfaces := #[3, 4], accessFlags := 1041 }

def heap : Heap := #[]
def classes : Array Class := #[k0, k1, k2, k3, k4, k5, k6, k7, k8]
def interned : List (Array UInt16 × Addr) := []
def slotsUsed : Nat := 0
def theMethod : MethodId := ⟨1, 1⟩
def args0 : Array Value := #[.int 7, .int 5, .int 1, .int 2, .int 3]
def aboutOver (below : List Frame) : State where
  vm := { classes := classes, interned := interned.toArray }
  heap := heap
  slotsUsed := slotsUsed
  threads := #[{ frames := .invoking theMethod args0 :: below }]
def below0 : List Frame := [.native { method := ⟨0, 0⟩, args := #[] }]
def about1 : State := aboutOver below0
def p0 : Program := .bare "" "" ""
def e0 : Env := launch0.env 0 0 0
theorem w_frames : about1.frames = Frame.invoking theMethod args0 :: below0 := rfl
set_option maxRecDepth 65536 in
theorem w_args : argsFit about1.vm theMethod args0 = true := by decide +kernel
set_option maxRecDepth 65536 in
theorem w_heap : heapFits about1 = true := by decide +kernel
set_option maxRecDepth 65536 in
theorem w_runnable : about1.curStatus? = some .runnable := by decide +kernel
set_option maxRecDepth 65536 in
theorem w_alone : about1.alone = true := by decide +kernel
set_option maxRecDepth 65536 in
theorem w_named : about1.methodNamed? x = some theMethod := by decide +kernel
set_option maxRecDepth 65536 in
theorem w_hears : about1.hears theMethod below0 = true := by decide +kernel
set_option maxRecDepth 65536 in
theorem w_ripe : about1.ripe theMethod args0 below0 = true := by decide +kernel
theorem w_running : about1.status = .running := rfl
set_option maxRecDepth 65536 in
theorem w_room : about1.hasRoom e0.platform room_1 = true :=
  launch0.hasRoom_least _ room_1 (by decide +kernel) (by decide +kernel) (by decide +kernel) (by decide +kernel) (by decide +kernel) (by decide +kernel)
theorem allAtoms_all (ts : List Jvm.Cond) (a : Array Jvm.Value) (st : Jvm.State) : (allAtoms ts).before a st = ts.all (fun c => c.before a st) := by
  induction ts with
  | nil => rfl
  | cons c t ih =>
    show (Jvm.Cond.and c (allAtoms t)).before a st = _
    rw [Jvm.Cond.before_and, ih, List.all_cons]
def words1 : List Jvm.Cond := Jvm.Cond.code x code maxLocals ret :: tables_1
/-- a 'code' word, met by the world's own term for the bytes: nothing is compared byte by byte -/
theorem code_word {y : MethodName} {bytes : ByteArray} {mx : Nat} {rt : Option FieldType} {a : Array Value} {s : State} {m : MethodId} {meth : Method} {c : Code} (h1 : s.methodNamed? y = some m) (h2 : s.vm.method? m = some meth) (h3 : meth.code = some c) (h4 : c.code = bytes)
    (h5 : (c.maxLocals == mx && c.exceptionTable.isEmpty && decide (c.maxStack ≤ mostOperands) && decide (meth.sig.returnType = rt) && !meth.locks && decide (parseMethodDescriptor y.desc = some meth.sig)) = true) : (Jvm.Cond.code y bytes mx rt).before a s = true := by
  simp only [Bool.and_eq_true, beq_iff_eq, Bool.not_eq_true', decide_eq_true_eq] at h5
  obtain ⟨⟨⟨⟨⟨g1, g2⟩, g3⟩, g4⟩, g5⟩, g6⟩ := h5
  simp [Cond.before, Cond.holds, Cond.value, h1, h2, h3, h4, g1, g2, g3, g4, g5, g6]
def isCode : Jvm.Cond → Bool
  | .code _ _ _ _ => true
  | _ => false
theorem all_split {L : List Jvm.Cond} {P : Jvm.Cond → Bool} (h1 : L.all (fun c => isCode c || P c) = true) (h2 : ∀ c ∈ L.filter isCode, P c = true) : L.all P = true := by
  refine List.all_eq_true.mpr fun c hc => ?_
  have h := List.all_eq_true.mp h1 c hc
  rcases Bool.eq_false_or_eq_true (isCode c) with hi | hi
  · exact h2 c (List.mem_filter.mpr ⟨hc, hi⟩)
  · simpa [hi] using h
set_option maxRecDepth 65536 in
theorem w_c0 : (Jvm.Cond.code x code maxLocals ret).before args0 about1 = true := code_word (m := ⟨1, 1⟩) (meth := k1m1) (c := k1c1) (by decide +kernel) rfl rfl rfl (by decide +kernel)
set_option maxRecDepth 65536 in
theorem w_c1 : (Jvm.Cond.code ({ cls := "com/example/umpteenth_copy/umpteenthcopy/engine/MatchSameFromPinLaw", name := "make", desc := "(IIII)[I" } : Jvm.MethodName) method_3_code (4 : Nat) (Option.some (Jvm.ClassFile.FieldType.array Jvm.ClassFile.FieldType.int))).before args0 about1 = true := code_word (m := ⟨1, 2⟩) (meth := k1m2) (c := k1c2) (by decide +kernel) rfl rfl rfl (by decide +kernel)
set_option maxRecDepth 65536 in
theorem w_c2 : (Jvm.Cond.code ({ cls := "com/example/umpteenth_copy/umpteenthcopy/engine/Match", name := "sameFrom", desc := "([II[III)I" } : Jvm.MethodName) prog_14_method_18_code (8 : Nat) (Option.some Jvm.ClassFile.FieldType.int)).before args0 about1 = true := code_word (m := ⟨2, 0⟩) (meth := k2m0) (c := k2c0) (by decide +kernel) rfl rfl rfl (by decide +kernel)
set_option maxRecDepth 65536 in
theorem w_c3 : (Jvm.Cond.code ({ cls := "com/example/umpteenth_copy/umpteenthcopy/engine/MatchSameFromPinLaw", name := "ok", desc := "([II[IIII)Z" } : Jvm.MethodName) method_4_code (10 : Nat) (Option.some Jvm.ClassFile.FieldType.boolean)).before args0 about1 = true := code_word (m := ⟨1, 3⟩) (meth := k1m3) (c := k1c3) (by decide +kernel) rfl rfl rfl (by decide +kernel)
def codes1 : List Jvm.Cond := [Jvm.Cond.code x code maxLocals ret, Jvm.Cond.code ({ cls := "com/example/umpteenth_copy/umpteenthcopy/engine/MatchSameFromPinLaw", name := "make", desc := "(IIII)[I" } : Jvm.MethodName) method_3_code (4 : Nat) (Option.some (Jvm.ClassFile.FieldType.array Jvm.ClassFile.FieldType.int)), Jvm.Cond.code ({ cls := "com/example/umpteenth_copy/umpteenthcopy/engine/Match", name := "sameFrom", desc := "([II[III)I" } : Jvm.MethodName) prog_14_method_18_code (8 : Nat) (Option.some Jvm.ClassFile.FieldType.int), Jvm.Cond.code ({ cls := "com/example/umpteenth_copy/umpteenthcopy/engine/MatchSameFromPinLaw", name := "ok", desc := "([II[IIII)Z" } : Jvm.MethodName) method_4_code (10 : Nat) (Option.some Jvm.ClassFile.FieldType.boolean)]
set_option maxRecDepth 65536 in
theorem codes_eq : words1.filter isCode = codes1 := rfl
theorem w_codes : ∀ c ∈ words1.filter isCode, c.before args0 about1 = true := by
  rw [codes_eq]
  intro c hc
  simp only [codes1, List.mem_cons, List.not_mem_nil, or_false] at hc
  rcases hc with rfl | rfl | rfl | rfl
  · exact w_c0
  · exact w_c1
  · exact w_c2
  · exact w_c3
set_option maxRecDepth 65536 in
theorem w_t1 : words1.all (fun c => isCode c || c.before args0 about1) = true := by decide +kernel
theorem w_tables : (allAtoms (Jvm.Cond.code x code maxLocals ret :: tables_1)).before args0 about1 = true := by
  rw [allAtoms_all]
  show words1.all (fun c => c.before args0 about1) = true
  refine all_split ?_ w_codes
  rw [w_t1]
set_option maxRecDepth 65536 in
theorem w_case : (Jvm.Cond.and given_1 narrow_1).before args0 about1 = true := by decide +kernel
theorem w_applies : (headSpec (Jvm.Cond.code x code maxLocals ret :: tables_1) room_1).applies x e0.platform about1 = true :=
  (Spec.applies_iff w_frames).mpr ⟨w_running, w_runnable, w_alone, w_named, w_hears, w_ripe, w_room, w_tables⟩
theorem atStart : AtStart classFile x code maxLocals ret World_1 tables_1 room_1 Calls_1 rest_1 Pre_1 launch0 p0 e0 about1 theMethod args0 below0 :=
  ⟨lists_1, trivial, launch0.admits_env _ _ _, launch0.least_env, fairChoices_fair.cas, fairChoices_fair.clock, w_frames, w_args, w_heap, w_applies, trivial, trivial, w_case⟩
end start1
theorem witness_1 : WitnessClaimed_1 := ⟨start1.p0, start1.e0, start1.about1, start1.theMethod, start1.args0, start1.below0, start1.atStart⟩
end Jvm.Pilot.@@N@@
