import JvmDerived
import JvmDerived.Pilot.@@N@@Statement
import JvmDerived.Pilot.@@N@@Code
set_option linter.unusedVariables false
set_option linter.unusedSimpArgs false
@@BLOCK:NumsL.lean.txt@@
namespace Jvm.RoadKit
open Sem ClassFile Op Lib Jvm.Stand Jvm.Free Jvm.LawKit
section New
variable {p : Program} {l : Launch} {e : Env} {R : Room} {s : State} {m : MethodId} {args : Array Value} {below : List Frame} {meth : Method} {c : Code} {T : State} {locs : List Loc} {cells slots : Nat}
theorem retI (X : Stand p l e R s m args below meth c T locs cells slots) (hx : p.tables.exec = Jvm.exec) {pc : Nat} {Ls : Array Slot} {z : Int32} {rest : List Value} (hret : meth.sig.returnType = some .int) (hd : decode c.code pc = .ok (.ireturn, 1)) {fs : List Frame}
    (hl : ∀ (f : JFrame) (acts : List Action), f.method = m → f.locked = none → f.entered = [] → (doReturn e (T.setTop f) acts (some (.int z))).1 = T.setFrames fs) : Steps p.tables e below (T.setTop (mkF m pc Ls (.int z :: rest))) (T.setFrames fs) := by
  have hm' : T.vm.method? m = some meth := X.method'
  have hn : narrow .int (.int z) = .int z := rfl
  show Steps p.tables e below (T.setTop { method := m, pc := pc, locals := Ls, stack := _ :: rest, locked := none }) _
  jvm_step X.here [X.here.top, hx, hd, hm', hret, hn]
  first | (intro acts; rw [hl _ acts rfl rfl rfl]) | rw [hl _ _ rfl rfl rfl]
  exact Steps.refl _
theorem retRef (X : Stand p l e R s m args below meth c T locs cells slots) (hx : p.tables.exec = Jvm.exec) {pc : Nat} {Ls : Array Slot} {v : Value} {rest : List Value} {ty : FieldType} (hret : meth.sig.returnType = some ty) (hty : ty.isReference = true) (hv : v.isRef = true) (hd : decode c.code pc = .ok (.areturn, 1)) {fs : List Frame}
    (hl : ∀ (f : JFrame) (acts : List Action), f.method = m → f.locked = none → f.entered = [] → (doReturn e (T.setTop f) acts (some v)).1 = T.setFrames fs) : Steps p.tables e below (T.setTop (mkF m pc Ls (v :: rest))) (T.setFrames fs) := by
  have hm' : T.vm.method? m = some meth := X.method'
  show Steps p.tables e below (T.setTop { method := m, pc := pc, locals := Ls, stack := _ :: rest, locked := none }) _
  jvm_step X.here [X.here.top, hx, hd, hm', hret, hty, hv]
  first | (intro acts; rw [hl _ acts rfl rfl rfl]) | rw [hl _ _ rfl rfl rfl]
  exact Steps.refl _
theorem retD (X : Stand p l e R s m args below meth c T locs cells slots) (hx : p.tables.exec = Jvm.exec) {pc : Nat} {Ls : Array Slot} {z : UInt64} {rest : List Value} (hret : meth.sig.returnType = some .double) (hd : decode c.code pc = .ok (.dreturn, 1)) {fs : List Frame}
    (hl : ∀ (f : JFrame) (acts : List Action), f.method = m → f.locked = none → f.entered = [] → (doReturn e (T.setTop f) acts (some (.double z))).1 = T.setFrames fs) : Steps p.tables e below (T.setTop (mkF m pc Ls (.double z :: rest))) (T.setFrames fs) := by
  have hm' : T.vm.method? m = some meth := X.method'
  have hn : narrow .double (.double z) = .double z := rfl
  show Steps p.tables e below (T.setTop { method := m, pc := pc, locals := Ls, stack := _ :: rest, locked := none }) _
  jvm_step X.here [X.here.top, hx, hd, hm', hret, hn]
  first | (intro acts; rw [hl _ acts rfl rfl rfl]) | rw [hl _ _ rfl rfl rfl]
  exact Steps.refl _
end New
end Jvm.RoadKit
namespace Jvm.Pilot.@@N@@
open Jvm Jvm.ClassFile Sem Op Lib Jvm.Free Jvm.Stand Jvm.LawKit Jvm.RoadKit Bundle Jvm.Pilot.@@N@@.Jvm.D
/-- from the state S the run comes to an end of which R speaks -/
abbrev Ends (tb : Tables) (e : Env) (below : List Frame) (S : State) (R : State → Outcome → Prop) : Prop := ∃ t o, Steps tb e below S t ∧ R t o
theorem Ends.st {tb : Tables} {e : Env} {below : List Frame} {S S' : State} {R : State → Outcome → Prop} (h : ∀ t, Steps tb e below S' t → Steps tb e below S t) (k : Ends tb e below S' R) : Ends tb e below S R := by
  obtain ⟨t, o, h1, h2⟩ := k
  exact ⟨t, o, h t h1, h2⟩
theorem pd_0 : parseMethodDescriptor "()V" = some ⟨[], none⟩ := by decide +kernel
theorem pd_1 : parseMethodDescriptor "(Ljava/lang/Object;Ljava/lang/String;)Ljava/lang/Object;" = some ⟨[(.object "java/lang/Object"), (.object "java/lang/String")], some (.object "java/lang/Object")⟩ := by decide +kernel
theorem pd_2 : parseMethodDescriptor "([I[I)V" = some ⟨[(.array .int), (.array .int)], none⟩ := by decide +kernel
theorem pd_3 : parseMethodDescriptor "()J" = some ⟨[], some .long⟩ := by decide +kernel
theorem own_char (p : Int32) : 0 ≤ (p.toUInt32.toUInt16.toUInt32.toInt32).toInt ∧ (p.toUInt32.toUInt16.toUInt32.toInt32).toInt < 65536 := by
  have h : p.toUInt32.toUInt16.toUInt32.toNat < 65536 := by
    rw [UInt16.toNat_toUInt32]; exact UInt16.toNat_lt _
  have e : (p.toUInt32.toUInt16.toUInt32.toInt32).toInt = (p.toUInt32.toUInt16.toUInt32.toNat : Int) := by
    show (p.toUInt32.toUInt16.toUInt32).toBitVec.toInt = _
    rw [BitVec.toInt_eq_toNat_of_lt]
    · rfl
    · show 2 * p.toUInt32.toUInt16.toUInt32.toNat < 2 ^ 32
      omega
  rw [e]; omega
theorem own_of_toInt {p : Int32} {n : Nat} (h : p.toInt = (n : Int)) (hn : n < 2 ^ 31) : p = Int32.ofNat n := by
  apply Int32.toInt_inj.mp
  rw [h, Int32.toInt_ofNat_of_lt hn]
/-- an array of ints: its length, and what each place holds -/
def IntA (Z : State) (h : Heap) (a : Addr) (n : Int32) (f : Int32 → Int32) : Prop := ∃ cl : Cell, Arr Z h a cl .int ∧ cl.slots.size = n.toNatClampNeg ∧ ¬ n < 0 ∧ ∀ i : Int32, ¬ i < 0 → i < n → cl.slots[i.toNatClampNeg]? = some (.int (f i))
theorem IntA.keep {Z : State} {h h' : Heap} {a : Addr} {n : Int32} {f : Int32 → Int32} (F : IntA Z h a n f) (K : Keep h h' []) : IntA Z h' a n f := by
  obtain ⟨cl, A, r⟩ := F
  exact ⟨cl, ⟨K.2.1 a cl A.1 nin0, A.2⟩, r⟩
theorem own_intA {Z : State} {h : Heap} {a : Addr} {k : ClassId} {n : Int32} {vs : List Value} {f : Int32 → Int32} (V : Arv Z h a k .int n vs (.int (0 : Int32))) (hf : ∀ i : Int32, ¬ i < 0 → i < n → vs.getD i.toNatClampNeg (.int (0 : Int32)) = .int (f i)) : IntA Z h a n f := by
  obtain ⟨cl, A, -, S, M, H, -⟩ := V
  refine ⟨cl, A, S, M, fun i h1 h2 => ?_⟩
  have hin := inb_of S ⟨h1, h2⟩
  exact H.at hin (hf i h1 h2)
def mlen (n : Int32) : Int32 := if n = 0 then 0 else if n = 1 then 1 else if n = 2 then 2 else 3
def mf (a b d i : Int32) : Int32 := if i = 0 then a else if i = 1 then b else d
theorem own_below (m : Nat) (hm : m ≤ 3) (i : Int32) (h1 : ¬ i < 0) (h2 : i < Int32.ofNat m) : ∃ u : Nat, u < m ∧ i = Int32.ofNat u := by
  rw [Int32.lt_iff_toInt_lt] at h1 h2
  have e0 : (0 : Int32).toInt = 0 := by decide
  rw [e0] at h1
  rw [Int32.toInt_ofNat_of_lt (by omega)] at h2
  exact ⟨i.toInt.toNat, by omega, own_of_toInt (by omega) (by omega)⟩
theorem own_vs1 (a b d : Int32) : ∀ i : Int32, ¬ i < 0 → i < 1 → [Value.int a].getD i.toNatClampNeg (.int (0 : Int32)) = .int (mf a b d i) := fun i h1 h2 => by
  obtain ⟨u, hu, rfl⟩ := own_below 1 (by decide) i h1 h2
  match u, hu with
  | 0, _ => rfl
theorem own_vs2 (a b d : Int32) : ∀ i : Int32, ¬ i < 0 → i < 2 → [Value.int a, Value.int b].getD i.toNatClampNeg (.int (0 : Int32)) = .int (mf a b d i) := fun i h1 h2 => by
  obtain ⟨u, hu, rfl⟩ := own_below 2 (by decide) i h1 h2
  match u, hu with
  | 0, _ => rfl
  | 1, _ => rfl
theorem own_vs3 (a b d : Int32) : ∀ i : Int32, ¬ i < 0 → i < 3 → [Value.int a, Value.int b, Value.int d].getD i.toNatClampNeg (.int (0 : Int32)) = .int (mf a b d i) := fun i h1 h2 => by
  obtain ⟨u, hu, rfl⟩ := own_below 3 (by decide) i h1 h2
  match u, hu with
  | 0, _ => rfl
  | 1, _ => rfl
  | 2, _ => rfl
theorem own_vs0 (a b d : Int32) : ∀ i : Int32, ¬ i < 0 → i < 0 → ([] : List Value).getD i.toNatClampNeg (.int (0 : Int32)) = .int (mf a b d i) := fun i h1 h2 => absurd h2 h1
def smf (f : Int32 → Int32) : Nat → Int32 → Int64 → Int64
  | 0, _, a => a
  | k + 1, i, a => smf f k (i + 1) (a + (f i).toInt64)
theorem IntA.keepW {Z : State} {h h' : Heap} {a : Addr} {n : Int32} {f : Int32 → Int32} {ws : List Addr} (F : IntA Z h a n f) (K : Keep h h' ws) (q : a ∉ ws) : IntA Z h' a n f := by
  obtain ⟨cl, A, r⟩ := F
  exact ⟨cl, ⟨K.2.1 a cl A.1 q, A.2⟩, r⟩
theorem IntA.lt {Z : State} {h : Heap} {a : Addr} {n : Int32} {f : Int32 → Int32} (F : IntA Z h a n f) : a < h.size := by
  obtain ⟨cl, A, -⟩ := F
  exact A.lt
theorem own_four (v : Int32) : (v &&& (3 : Int32)) = 0 ∨ (v &&& (3 : Int32)) = 1 ∨ (v &&& (3 : Int32)) = 2 ∨ (v &&& (3 : Int32)) = 3 := by
  have h := Jvm.Kit.i32_mask v 3 (k := 2) (by decide) (by decide)
  have inj : ∀ k : Int32, (v &&& (3 : Int32)).toInt = k.toInt → (v &&& (3 : Int32)) = k := fun k q => Int32.toInt_inj.mp q
  have k : (v &&& (3 : Int32)).toInt = 0 ∨ (v &&& (3 : Int32)).toInt = 1 ∨ (v &&& (3 : Int32)).toInt = 2 ∨ (v &&& (3 : Int32)).toInt = 3 := by omega
  rcases k with k | k | k | k
  · exact Or.inl (inj 0 (k.trans (by decide)))
  · exact Or.inr (Or.inl (inj 1 (k.trans (by decide))))
  · exact Or.inr (Or.inr (Or.inl (inj 2 (k.trans (by decide)))))
  · exact Or.inr (Or.inr (Or.inr (inj 3 (k.trans (by decide)))))
theorem own_turn {n i : Int32} {k : Nat} (h : n.toInt - i.toInt = ((k + 1 : Nat) : Int)) : i < n ∧ n.toInt - (i + 1).toInt = (k : Int) := by
  have e1 : (1 : Int32).toInt = 1 := by decide
  have b := n.toInt_lt
  have b2 := i.le_toInt
  rw [Int32.lt_iff_toInt_lt, Jvm.Kit.i32_add (by omega) (by omega), e1]
  omega
theorem own_done {n i : Int32} (h : n.toInt - i.toInt = ((0 : Nat) : Int)) : ¬ i < n := by
  rw [Int32.lt_iff_toInt_lt]; omega
theorem own_nn {i : Int32} (h : 0 ≤ i.toInt) : ¬ i < 0 := by
  rw [Int32.lt_iff_toInt_lt]
  have e0 : (0 : Int32).toInt = 0 := by decide
  omega
theorem own_up {n i : Int32} (h : 0 ≤ i.toInt) (h2 : i < n) : 0 ≤ (i + 1).toInt := by
  rw [Int32.lt_iff_toInt_lt] at h2
  have e1 : (1 : Int32).toInt = 1 := by decide
  have b := n.toInt_lt
  rw [Jvm.Kit.i32_add (by omega) (by omega), e1]; omega
theorem own_strs {Z : State} {a0 : Array Value} (hw : ∀ d ∈ tables_1, d.before a0 Z = true) : ∀ a ∈ Bundle.stringAtoms, a.before a0 Z = true := by
  intro a ha
  simp only [Bundle.stringAtoms, List.mem_cons, List.not_mem_nil, or_false] at ha
  rcases ha with rfl | rfl | rfl | rfl | rfl | rfl | rfl
  · exact hw _ (List.mem_of_getElem? (i := 17) rfl)
  · exact hw _ (List.mem_of_getElem? (i := 18) rfl)
  · exact hw _ (List.mem_of_getElem? (i := 19) rfl)
  · exact hw _ (List.mem_of_getElem? (i := 20) rfl)
  · exact hw _ (List.mem_of_getElem? (i := 21) rfl)
  · exact hw _ (List.mem_of_getElem? (i := 22) rfl)
  · exact hw _ (List.mem_of_getElem? (i := 23) rfl)
def Q1 (Z : State) (a d f : Addr) (h0 : Heap) (n0 : Nat) (v : Option Value) (h : Heap) (L : List Loc) : Prop := v = none ∧ Fr n0 L ∧ Keep h0 h [a] ∧ Fld Z h a "com/example/net_weight/netweight/core/index/Postings" "frequencies" "[I" (.ref f)
def Q2 (Z : State)  (h0 : Heap) (n0 : Nat) (v : Option Value) (h : Heap) (L : List Loc) : Prop := v = none ∧ Fr n0 L ∧ h = h0
def Q4 (Z : State) (a : Addr) (h0 : Heap) (n0 : Nat) (v : Option Value) (h : Heap) (L : List Loc) : Prop := v = some (.ref a) ∧ Fr n0 L ∧ h = h0
def Q5 (Z : State) (f : Int32 → Int32) (k : Nat) (h0 : Heap) (n0 : Nat) (v : Option Value) (h : Heap) (L : List Loc) : Prop := v = some (.long (smf f k 0 0)) ∧ Fr n0 L ∧ h = h0
def Q0 (Z : State)  (h0 : Heap) (n0 : Nat) (v : Option Value) (h : Heap) (L : List Loc) : Prop := v = some (.int 1) ∧ Fr n0 L
theorem d1_0 : decode prog_7_method_1_code 0 = .ok (.aload_n 0, 1) := by decide +kernel
theorem d1_1 : decode prog_7_method_1_code 1 = .ok (.invokespecial 1, 3) := by decide +kernel
theorem d1_4 : decode prog_7_method_1_code 4 = .ok (.aload_n 1, 1) := by decide +kernel
theorem d1_5 : decode prog_7_method_1_code 5 = .ok (.ldc 7, 2) := by decide +kernel
theorem d1_7 : decode prog_7_method_1_code 7 = .ok (.invokestatic 9, 3) := by decide +kernel
theorem d1_10 : decode prog_7_method_1_code 10 = .ok (.checkcast 15, 3) := by decide +kernel
theorem d1_13 : decode prog_7_method_1_code 13 = .ok (.arraylength, 1) := by decide +kernel
theorem d1_14 : decode prog_7_method_1_code 14 = .ok (.aload_n 2, 1) := by decide +kernel
theorem d1_15 : decode prog_7_method_1_code 15 = .ok (.ldc 17, 2) := by decide +kernel
theorem d1_17 : decode prog_7_method_1_code 17 = .ok (.invokestatic 9, 3) := by decide +kernel
theorem d1_20 : decode prog_7_method_1_code 20 = .ok (.checkcast 15, 3) := by decide +kernel
theorem d1_23 : decode prog_7_method_1_code 23 = .ok (.arraylength, 1) := by decide +kernel
theorem d1_24 : decode prog_7_method_1_code 24 = .ok (.if_icmp .eq 20, 3) := by decide +kernel
theorem d1_27 : decode prog_7_method_1_code 27 = .ok (.new 19, 3) := by decide +kernel
theorem d1_30 : decode prog_7_method_1_code 30 = .ok (.dup, 1) := by decide +kernel
theorem d1_31 : decode prog_7_method_1_code 31 = .ok (.aload_n 1, 1) := by decide +kernel
theorem d1_32 : decode prog_7_method_1_code 32 = .ok (.arraylength, 1) := by decide +kernel
theorem d1_33 : decode prog_7_method_1_code 33 = .ok (.aload_n 2, 1) := by decide +kernel
theorem d1_34 : decode prog_7_method_1_code 34 = .ok (.arraylength, 1) := by decide +kernel
theorem d1_35 : decode prog_7_method_1_code 35 = .ok (.invokedynamic 21, 5) := by decide +kernel
theorem d1_40 : decode prog_7_method_1_code 40 = .ok (.invokespecial 25, 3) := by decide +kernel
theorem d1_43 : decode prog_7_method_1_code 43 = .ok (.athrow, 1) := by decide +kernel
theorem d1_44 : decode prog_7_method_1_code 44 = .ok (.aload_n 0, 1) := by decide +kernel
theorem d1_45 : decode prog_7_method_1_code 45 = .ok (.aload_n 1, 1) := by decide +kernel
theorem d1_46 : decode prog_7_method_1_code 46 = .ok (.putfield 28, 3) := by decide +kernel
theorem d1_49 : decode prog_7_method_1_code 49 = .ok (.aload_n 0, 1) := by decide +kernel
theorem d1_50 : decode prog_7_method_1_code 50 = .ok (.aload_n 2, 1) := by decide +kernel
theorem d1_51 : decode prog_7_method_1_code 51 = .ok (.putfield 32, 3) := by decide +kernel
theorem d1_54 : decode prog_7_method_1_code 54 = .ok (.return_, 1) := by decide +kernel
theorem pn_1 : plainName "com/example/net_weight/netweight/core/index/Postings" = true := by first | (simp [plainName, overriddenIn]; done) | decide +kernel
theorem d2_0 : decode jdk_30_method_1_code 0 = .ok (.aload_n 0, 1) := by decide +kernel
theorem d2_1 : decode jdk_30_method_1_code 1 = .ok (.invokespecial 1, 3) := by decide +kernel
theorem d2_4 : decode jdk_30_method_1_code 4 = .ok (.return_, 1) := by decide +kernel
theorem pn_2 : plainName "java/lang/Record" = true := by first | (simp [plainName, overriddenIn]; done) | decide +kernel
theorem d4_0 : decode jdk_31_method_11_code 0 = .ok (.aload_n 0, 1) := by decide +kernel
theorem d4_1 : decode jdk_31_method_11_code 1 = .ok (.ifnonnull 12, 3) := by decide +kernel
theorem d4_4 : decode jdk_31_method_11_code 4 = .ok (.new 84, 3) := by decide +kernel
theorem d4_7 : decode jdk_31_method_11_code 7 = .ok (.dup, 1) := by decide +kernel
theorem d4_8 : decode jdk_31_method_11_code 8 = .ok (.aload_n 1, 1) := by decide +kernel
theorem d4_9 : decode jdk_31_method_11_code 9 = .ok (.invokespecial 87, 3) := by decide +kernel
theorem d4_12 : decode jdk_31_method_11_code 12 = .ok (.athrow, 1) := by decide +kernel
theorem d4_13 : decode jdk_31_method_11_code 13 = .ok (.aload_n 0, 1) := by decide +kernel
theorem d4_14 : decode jdk_31_method_11_code 14 = .ok (.areturn, 1) := by decide +kernel
theorem pn_4 : plainName "java/util/Objects" = true := by first | (simp [plainName, overriddenIn]; done) | decide +kernel
theorem d5_0 : decode prog_7_method_3_code 0 = .ok (.lconst 0, 1) := by decide +kernel
theorem d5_1 : decode prog_7_method_3_code 1 = .ok (.lstore_n 1, 1) := by decide +kernel
theorem d5_2 : decode prog_7_method_3_code 2 = .ok (.aload_n 0, 1) := by decide +kernel
theorem d5_3 : decode prog_7_method_3_code 3 = .ok (.getfield 32, 3) := by decide +kernel
theorem d5_6 : decode prog_7_method_3_code 6 = .ok (.astore_n 3, 1) := by decide +kernel
theorem d5_7 : decode prog_7_method_3_code 7 = .ok (.aload_n 3, 1) := by decide +kernel
theorem d5_8 : decode prog_7_method_3_code 8 = .ok (.arraylength, 1) := by decide +kernel
theorem d5_9 : decode prog_7_method_3_code 9 = .ok (.istore 4, 2) := by decide +kernel
theorem d5_11 : decode prog_7_method_3_code 11 = .ok (.iconst 0, 1) := by decide +kernel
theorem d5_12 : decode prog_7_method_3_code 12 = .ok (.istore 5, 2) := by decide +kernel
theorem d5_14 : decode prog_7_method_3_code 14 = .ok (.iload 5, 2) := by decide +kernel
theorem d5_16 : decode prog_7_method_3_code 16 = .ok (.iload 4, 2) := by decide +kernel
theorem d5_18 : decode prog_7_method_3_code 18 = .ok (.if_icmp .ge 21, 3) := by decide +kernel
theorem d5_21 : decode prog_7_method_3_code 21 = .ok (.aload_n 3, 1) := by decide +kernel
theorem d5_22 : decode prog_7_method_3_code 22 = .ok (.iload 5, 2) := by decide +kernel
theorem d5_24 : decode prog_7_method_3_code 24 = .ok (.iaload, 1) := by decide +kernel
theorem d5_25 : decode prog_7_method_3_code 25 = .ok (.istore 6, 2) := by decide +kernel
theorem d5_27 : decode prog_7_method_3_code 27 = .ok (.lload_n 1, 1) := by decide +kernel
theorem d5_28 : decode prog_7_method_3_code 28 = .ok (.iload 6, 2) := by decide +kernel
theorem d5_30 : decode prog_7_method_3_code 30 = .ok (.i2l, 1) := by decide +kernel
theorem d5_31 : decode prog_7_method_3_code 31 = .ok (.ladd, 1) := by decide +kernel
theorem d5_32 : decode prog_7_method_3_code 32 = .ok (.lstore_n 1, 1) := by decide +kernel
theorem d5_33 : decode prog_7_method_3_code 33 = .ok (.iinc 5 1, 3) := by decide +kernel
theorem d5_36 : decode prog_7_method_3_code 36 = .ok (.goto (-22), 3) := by decide +kernel
theorem d5_39 : decode prog_7_method_3_code 39 = .ok (.lload_n 1, 1) := by decide +kernel
theorem d5_40 : decode prog_7_method_3_code 40 = .ok (.lreturn, 1) := by decide +kernel
theorem pn_5 : plainName "com/example/net_weight/netweight/core/index/Postings" = true := by first | (simp [plainName, overriddenIn]; done) | decide +kernel
theorem pn_0 : plainName "com/example/net_weight/netweight/core/index/PostingsCollectionFrequencyPinLaw" = true := by first | (simp [plainName, overriddenIn]; done) | decide +kernel
theorem ef_rm2 (m : MethodId) (x0 : Addr)  : entryFrame m #[(.ref x0)] 1 = mkF m 0 #[.val (.ref x0)] [] := by first | (simp [entryFrame, mkF, argsToLocals, Value.category]; done) | rfl
set_option maxRecDepth 65536 in
set_option maxHeartbeats 40000000 in
theorem rm2 (l : Launch) (Z : State) (a0 : Array Value) (hw : ∀ d ∈ tables_1, d.before a0 Z = true) (ws : List Jvm.Cond) (a1 : Addr) (h0 : Heap) (n0 : Nat) (Z0 : n0 ≤ h0.size) :
    MetFree l (⟨"java/lang/Record", "<init>", "()V"⟩ : MethodName) (head1 (Jvm.Cond.code (⟨"java/lang/Record", "<init>", "()V"⟩ : MethodName) jdk_30_method_1_code 1 none :: ws) ({ frames := 1, cells := 0, slots := 0, locals := 12 } : Room)) (fun a U => a = #[(.ref a1)] ∧ Z.Warmed39 U.vm ∧ U.heap = h0) (fun _ _ _ _ _ => True) (fun _ U o U' => ∃ v L, o = .returned v ∧ Q2 Z  h0 n0 v U'.heap L ∧ FrameEnd U o U' L ({ frames := 1, cells := 0, slots := 0, locals := 12 } : Room).cells ({ frames := 1, cells := 0, slots := 0, locals := 12 } : Room).slots) := by
  refine MetFree.of_bodySF (plainFor_of_name pn_2) hisR ?_
  intro p e s m args below meth c s₁ Bd hml0 hP hK
  obtain ⟨rfl, hZ, hh⟩ := hP
  have hx := Bd.exec
  have hby := Bd.bytes
  have hml : c.maxLocals = 1 := hml0
  have hown : s.vm.findClass "java/lang/Record" = some m.cls := findClass_of_methodNamed Bd.named
  have hnm := (name_of_methodNamed Bd.named Bd.method).1
  have X0 : Stand p l e ({ frames := 1, cells := 0, slots := 0, locals := 12 } : Room) s m #[(.ref a1)] below meth c s₁ [] 0 0 := Stand.of_body Bd
  have e0 : s₁.heap = h0 := by rw [← hh, Bd.state]; rfl
  have N0 := Fr.nil n0
  refine Ends.st (tb := p.tables) (e := e) (below := below) (S' := s₁.setTop (mkF m 0 #[.val (.ref a1)] [])) (fun t k => castTop (ef_rm2 m a1) k) ?_
  refine Ends.st (S' := s₁.setTop (mkF m 1 #[.val (.ref a1)] [(.ref a1)])) (fun _ k => XS.aloadN X0.here hx rfl (hb hby d2_0) rfl rfl k) ?_
  obtain ⟨T1, X1, e1, st1⟩ := initO X0 hx hZ hown (hw _ (List.mem_of_getElem? (i := 13) rfl)) (hw _ (List.mem_of_getElem? (i := 14) rfl)) (hw _ (List.mem_of_getElem? (i := 15) rfl)) e0 (g := (mkF m 1 #[.val (.ref a1)] [(.ref a1)])) rfl (by rw [hml]; rfl) rfl (hb hby d2_1) (by decide) (W := 0) (by show 2 * 0 + _ ≤ _; exact Nat.le_of_eq rfl) (by decide)
  refine Ends.st (S' := T1.setTop (mkF m 4 #[.val (.ref a1)] [])) (fun _ k => st1 _ k) ?_
  obtain ⟨fs, hr, hrun, hended, hW, hsame⟩ := X1.leave (v := none) (fun _ => rfl)
  exact ⟨_, _, X1.returnOut hx Bd.returns (hb hby d2_4) hr, hrun, hended, _, _, rfl, (by show Q2 Z  h0 n0 _ T1.heap _; rw [e1]; exact ⟨rfl, N0, rfl⟩), ⟨_, rfl⟩, hW, hsame.mono (by decide) (by decide)⟩
theorem ef_rm4 (m : MethodId) (x0 : Addr) (x1 : Addr)  : entryFrame m #[(.ref x0), (.ref x1)] 2 = mkF m 0 #[.val (.ref x0), .val (.ref x1)] [] := by first | (simp [entryFrame, mkF, argsToLocals, Value.category]; done) | rfl
set_option maxRecDepth 65536 in
set_option maxHeartbeats 40000000 in
theorem rm4 (l : Launch) (Z : State) (a0 : Array Value) (hw : ∀ d ∈ tables_1, d.before a0 Z = true) (ws : List Jvm.Cond) (a1 : Addr) (a2 : Addr) (h0 : Heap) (n0 : Nat) (Z0 : n0 ≤ h0.size) :
    MetFree l (⟨"java/util/Objects", "requireNonNull", "(Ljava/lang/Object;Ljava/lang/String;)Ljava/lang/Object;"⟩ : MethodName) (head1 (Jvm.Cond.code (⟨"java/util/Objects", "requireNonNull", "(Ljava/lang/Object;Ljava/lang/String;)Ljava/lang/Object;"⟩ : MethodName) jdk_31_method_11_code 2 (some (.object "java/lang/Object")) :: ws) ({ frames := 0, cells := 0, slots := 0, locals := 0 } : Room)) (fun a U => a = #[(.ref a1), (.ref a2)] ∧ Z.Warmed39 U.vm ∧ U.heap = h0) (fun _ _ _ _ _ => True) (fun _ U o U' => ∃ v L, o = .returned v ∧ Q4 Z a1 h0 n0 v U'.heap L ∧ FrameEnd U o U' L ({ frames := 0, cells := 0, slots := 0, locals := 0 } : Room).cells ({ frames := 0, cells := 0, slots := 0, locals := 0 } : Room).slots) := by
  refine MetFree.of_bodySF (plainFor_of_name pn_4) hisR ?_
  intro p e s m args below meth c s₁ Bd hml0 hP hK
  obtain ⟨rfl, hZ, hh⟩ := hP
  have hx := Bd.exec
  have hby := Bd.bytes
  have hml : c.maxLocals = 2 := hml0
  have hown : s.vm.findClass "java/util/Objects" = some m.cls := findClass_of_methodNamed Bd.named
  have hnm := (name_of_methodNamed Bd.named Bd.method).1
  have X0 : Stand p l e ({ frames := 0, cells := 0, slots := 0, locals := 0 } : Room) s m #[(.ref a1), (.ref a2)] below meth c s₁ [] 0 0 := Stand.of_body Bd
  have e0 : s₁.heap = h0 := by rw [← hh, Bd.state]; rfl
  have N0 := Fr.nil n0
  refine Ends.st (tb := p.tables) (e := e) (below := below) (S' := s₁.setTop (mkF m 0 #[.val (.ref a1), .val (.ref a2)] [])) (fun t k => castTop (ef_rm4 m a1 a2) k) ?_
  refine Ends.st (S' := s₁.setTop (mkF m 1 #[.val (.ref a1), .val (.ref a2)] [(.ref a1)])) (fun _ k => XS.aloadN X0.here hx rfl (hb hby d4_0) rfl rfl k) ?_
  refine Ends.st (S' := s₁.setTop (mkF m 13 #[.val (.ref a1), .val (.ref a2)] [])) (fun _ k => XS.ifnonnullYes X0.here hx rfl (pc0 := 1) (pc' := 13) rfl (hb hby d4_1) rfl (by decide) (by decide) k) ?_
  refine Ends.st (S' := s₁.setTop (mkF m 14 #[.val (.ref a1), .val (.ref a2)] [(.ref a1)])) (fun _ k => XS.aloadN X0.here hx rfl (hb hby d4_13) rfl rfl k) ?_
  obtain ⟨fs, hr, hrun, hended, hW, hsame⟩ := X0.leave (v := some (.ref a1)) (fun h => by rw [Bd.returns] at h; cases h)
  exact ⟨_, _, retRef X0 hx Bd.returns rfl rfl (hb hby d4_14) hr, hrun, hended, _, _, rfl, (by show Q4 Z a1 h0 n0 _ s₁.heap _; rw [e0]; exact ⟨rfl, N0, rfl⟩), ⟨_, rfl⟩, hW, hsame.mono (by decide) (by decide)⟩
theorem os_6 {z0 z1 z3 z4 z5 : Value} {sl : Slot} {v : Int32} (h : One sl) : storeLocals #[.val z0, .val z1, .second, .val z3, .val z4, .val z5, sl] 6 (.int v) = some #[.val z0, .val z1, .second, .val z3, .val z4, .val z5, .val (.int v)] := by
  rcases h with rfl | ⟨w, rfl, hw⟩
  · rfl
  · cases w <;> first | rfl | (simp [Value.category] at hw)
theorem ef_rm5 (m : MethodId) (x0 : Addr)  : entryFrame m #[(.ref x0)] 7 = mkF m 0 #[.val (.ref x0), .unset, .unset, .unset, .unset, .unset, .unset] [] := by first | (simp [entryFrame, mkF, argsToLocals, Value.category]; done) | rfl
set_option maxRecDepth 65536 in
set_option maxHeartbeats 40000000 in
theorem rm5 (l : Launch) (Z : State) (a0 : Array Value) (hw : ∀ d ∈ tables_1, d.before a0 Z = true) (ws : List Jvm.Cond) (a1 : Addr) (fa : Addr) (n : Int32) (f : Int32 → Int32) (kk : Nat) (h0 : Heap) (n0 : Nat) (Z0 : n0 ≤ h0.size) (F1 : Fld Z h0 a1 "com/example/net_weight/netweight/core/index/Postings" "frequencies" "[I" (.ref fa)) (I1 : IntA Z h0 fa n f) (hn : n.toInt = kk) :
    MetFree l (⟨"com/example/net_weight/netweight/core/index/Postings", "collectionFrequency", "()J"⟩ : MethodName) (head1 (Jvm.Cond.code (⟨"com/example/net_weight/netweight/core/index/Postings", "collectionFrequency", "()J"⟩ : MethodName) prog_7_method_3_code 7 (some .long) :: ws) ({ frames := 0, cells := 0, slots := 0, locals := 0 } : Room)) (fun a U => a = #[(.ref a1)] ∧ Z.Warmed39 U.vm ∧ U.heap = h0) (fun _ _ _ _ _ => True) (fun _ U o U' => ∃ v L, o = .returned v ∧ Q5 Z f kk h0 n0 v U'.heap L ∧ FrameEnd U o U' L ({ frames := 0, cells := 0, slots := 0, locals := 0 } : Room).cells ({ frames := 0, cells := 0, slots := 0, locals := 0 } : Room).slots) := by
  refine MetFree.of_bodySF (plainFor_of_name pn_5) hisR ?_
  intro p e s m args below meth c s₁ Bd hml0 hP hK
  obtain ⟨rfl, hZ, hh⟩ := hP
  have hx := Bd.exec
  have hby := Bd.bytes
  have hml : c.maxLocals = 7 := hml0
  have hown : s.vm.findClass "com/example/net_weight/netweight/core/index/Postings" = some m.cls := findClass_of_methodNamed Bd.named
  have hnm := (name_of_methodNamed Bd.named Bd.method).1
  have X0 : Stand p l e ({ frames := 0, cells := 0, slots := 0, locals := 0 } : Room) s m #[(.ref a1)] below meth c s₁ [] 0 0 := Stand.of_body Bd
  have e0 : s₁.heap = h0 := by rw [← hh, Bd.state]; rfl
  have N0 := Fr.nil n0
  refine Ends.st (tb := p.tables) (e := e) (below := below) (S' := s₁.setTop (mkF m 0 #[.val (.ref a1), .unset, .unset, .unset, .unset, .unset, .unset] [])) (fun t k => castTop (ef_rm5 m a1) k) ?_
  obtain ⟨cl, Ar, S, M, H⟩ := I1
  refine Ends.st (S' := s₁.setTop (mkF m 1 #[.val (.ref a1), .unset, .unset, .unset, .unset, .unset, .unset] [(.long (0 : Int64))])) (fun _ k => XS.lconst X0.here hx rfl (hb hby d5_0) k) ?_
  refine Ends.st (S' := s₁.setTop (mkF m 2 #[.val (.ref a1), .val (.long (0 : Int64)), .second, .unset, .unset, .unset, .unset] [])) (fun _ k => XS.lstoreN X0.here hx rfl (hb hby d5_1) rfl (l' := #[.val (.ref a1), .val (.long (0 : Int64)), .second, .unset, .unset, .unset, .unset]) rfl k) ?_
  refine Ends.st (S' := s₁.setTop (mkF m 3 #[.val (.ref a1), .val (.long (0 : Int64)), .second, .unset, .unset, .unset, .unset] [(.ref a1)])) (fun _ k => XS.aloadN X0.here hx rfl (hb hby d5_2) rfl rfl k) ?_
  obtain ⟨T1, X1, e1, st1⟩ := getF X0 hx hZ hown (host := "") (Or.inl (hw _ (List.mem_of_getElem? (i := 33) rfl))) Via.refl e0 (F1) (g := (mkF m 3 #[.val (.ref a1), .val (.long (0 : Int64)), .second, .unset, .unset, .unset, .unset] [(.ref a1)])) rfl rfl (hb hby d5_3)
  refine Ends.st (S' := T1.setTop (mkF m 6 #[.val (.ref a1), .val (.long (0 : Int64)), .second, .unset, .unset, .unset, .unset] [(.ref fa)])) (fun _ k => st1 _ k) ?_
  refine Ends.st (S' := T1.setTop (mkF m 7 #[.val (.ref a1), .val (.long (0 : Int64)), .second, .val (.ref fa), .unset, .unset, .unset] [])) (fun _ k => XS.astoreN X1.here hx rfl (hb hby d5_6) rfl rfl (l' := #[.val (.ref a1), .val (.long (0 : Int64)), .second, .val (.ref fa), .unset, .unset, .unset]) rfl k) ?_
  refine Ends.st (S' := T1.setTop (mkF m 8 #[.val (.ref a1), .val (.long (0 : Int64)), .second, .val (.ref fa), .unset, .unset, .unset] [(.ref fa)])) (fun _ k => XS.aloadN X1.here hx rfl (hb hby d5_7) rfl rfl k) ?_
  refine Ends.st (S' := T1.setTop (mkF m 9 #[.val (.ref a1), .val (.long (0 : Int64)), .second, .val (.ref fa), .unset, .unset, .unset] [(.int n)])) (fun _ k => X1.arraylength hx (by rw [e1]; exact Ar.1) (State.isArrayOf_alike hZ.alike Ar.2.1) (g := (mkF m 8 #[.val (.ref a1), .val (.long (0 : Int64)), .second, .val (.ref fa), .unset, .unset, .unset] [(.ref fa)])) rfl rfl (hb hby d5_8) _ (by rw [len_of S M]; exact k)) ?_
  refine Ends.st (S' := T1.setTop (mkF m 11 #[.val (.ref a1), .val (.long (0 : Int64)), .second, .val (.ref fa), .val (.int n), .unset, .unset] [])) (fun _ k => XS.istore X1.here hx rfl (hb hby d5_9) rfl (l' := #[.val (.ref a1), .val (.long (0 : Int64)), .second, .val (.ref fa), .val (.int n), .unset, .unset]) rfl k) ?_
  refine Ends.st (S' := T1.setTop (mkF m 12 #[.val (.ref a1), .val (.long (0 : Int64)), .second, .val (.ref fa), .val (.int n), .unset, .unset] [(.int (0 : Int32))])) (fun _ k => XS.iconst X1.here hx rfl (hb hby d5_11) k) ?_
  refine Ends.st (S' := T1.setTop (mkF m 14 #[.val (.ref a1), .val (.long (0 : Int64)), .second, .val (.ref fa), .val (.int n), .val (.int (0 : Int32)), .unset] [])) (fun _ k => XS.istore X1.here hx rfl (hb hby d5_12) rfl (l' := #[.val (.ref a1), .val (.long (0 : Int64)), .second, .val (.ref fa), .val (.int n), .val (.int (0 : Int32)), .unset]) rfl k) ?_
  have loop : ∀ (k : Nat) (i : Int32) (acc : Int64) (sl : Slot), One sl → 0 ≤ i.toInt → n.toInt - i.toInt = (k : Int) → smf f k i acc = smf f kk 0 0 → Ends p.tables e below (T1.setTop (mkF m 14 #[.val (.ref a1), .val (.long acc), .second, .val (.ref fa), .val (.int n), .val (.int i), sl] [])) (fun (s₂ : State) (o : Outcome) => s₂.status = .running ∧ Ended s₂ below o ∧ ∃ v L, o = .returned v ∧ Q5 Z f kk h0 n0 v s₂.heap L ∧ FrameEnd s o s₂ L ({ frames := 0, cells := 0, slots := 0, locals := 0 } : Room).cells ({ frames := 0, cells := 0, slots := 0, locals := 0 } : Room).slots) := by
    intro k
    induction k with
    | zero =>
      intro i acc sl hsl hi0 hk hinv
      refine Ends.st (S' := T1.setTop (mkF m 16 #[.val (.ref a1), .val (.long acc), .second, .val (.ref fa), .val (.int n), .val (.int i), sl] [(.int i)])) (fun _ k => XS.iload X1.here hx rfl (hb hby d5_14) rfl k) ?_
      refine Ends.st (S' := T1.setTop (mkF m 18 #[.val (.ref a1), .val (.long acc), .second, .val (.ref fa), .val (.int n), .val (.int i), sl] [(.int n), (.int i)])) (fun _ k => XS.iload X1.here hx rfl (hb hby d5_16) rfl k) ?_
      have hb2 : ¬ (i < n) := own_done hk
      refine Ends.st (S' := T1.setTop (mkF m 39 #[.val (.ref a1), .val (.long acc), .second, .val (.ref fa), .val (.int n), .val (.int i), sl] [])) (fun _ k => XS.icmpYes X1.here hx rfl (pc0 := 18) (pc' := 39) rfl (hb hby d5_18) rfl (flt hb2).2.1 (by decide) (by decide) k) ?_
      refine Ends.st (S' := T1.setTop (mkF m 40 #[.val (.ref a1), .val (.long acc), .second, .val (.ref fa), .val (.int n), .val (.int i), sl] [(.long acc)])) (fun _ k => XS.lloadN X1.here hx rfl (hb hby d5_39) rfl k) ?_
      obtain ⟨fs, hr, hrun, hended, hW, hsame⟩ := X1.leave (v := some (.long acc)) (fun h => by rw [Bd.returns] at h; cases h)
      exact ⟨_, _, X1.lreturnOut hx Bd.returns (hb hby d5_40) hr, hrun, hended, _, _, rfl, (by show Q5 Z f kk h0 n0 _ T1.heap _; rw [e1]; exact ⟨(by rw [← hinv]; rfl), N0, rfl⟩), ⟨_, rfl⟩, hW, hsame.mono (by decide) (by decide)⟩
    | succ k ih =>
      intro i acc sl hsl hi0 hk hinv
      refine Ends.st (S' := T1.setTop (mkF m 16 #[.val (.ref a1), .val (.long acc), .second, .val (.ref fa), .val (.int n), .val (.int i), sl] [(.int i)])) (fun _ k => XS.iload X1.here hx rfl (hb hby d5_14) rfl k) ?_
      refine Ends.st (S' := T1.setTop (mkF m 18 #[.val (.ref a1), .val (.long acc), .second, .val (.ref fa), .val (.int n), .val (.int i), sl] [(.int n), (.int i)])) (fun _ k => XS.iload X1.here hx rfl (hb hby d5_16) rfl k) ?_
      have hb3 : i < n := (own_turn hk).1
      refine Ends.st (S' := T1.setTop (mkF m 21 #[.val (.ref a1), .val (.long acc), .second, .val (.ref fa), .val (.int n), .val (.int i), sl] [])) (fun _ k => XS.icmpNo X1.here hx rfl (hb hby d5_18) rfl (tlt hb3).2.1 k) ?_
      refine Ends.st (S' := T1.setTop (mkF m 22 #[.val (.ref a1), .val (.long acc), .second, .val (.ref fa), .val (.int n), .val (.int i), sl] [(.ref fa)])) (fun _ k => XS.aloadN X1.here hx rfl (hb hby d5_21) rfl rfl k) ?_
      refine Ends.st (S' := T1.setTop (mkF m 24 #[.val (.ref a1), .val (.long acc), .second, .val (.ref fa), .val (.int n), .val (.int i), sl] [(.int i), (.ref fa)])) (fun _ k => XS.iload X1.here hx rfl (hb hby d5_22) rfl k) ?_
      have hi : ¬ i < 0 ∧ i < n := ⟨own_nn hi0, (own_turn hk).1⟩
      refine Ends.st (S' := T1.setTop (mkF m 25 #[.val (.ref a1), .val (.long acc), .second, .val (.ref fa), .val (.int n), .val (.int i), sl] [(.int (f i))])) (fun _ k => X1.iaload hx (j := i) (v := (.int (f i))) (by rw [e1]; exact Ar.1) (State.isArrayOf_alike hZ.alike Ar.2.1) Ar.2.2 (inb_of S hi) (H _ hi.1 hi.2) (g := (mkF m 24 #[.val (.ref a1), .val (.long acc), .second, .val (.ref fa), .val (.int n), .val (.int i), sl] [(.int i), (.ref fa)])) rfl rfl (hb hby d5_24) _ k) ?_
      refine Ends.st (S' := T1.setTop (mkF m 27 #[.val (.ref a1), .val (.long acc), .second, .val (.ref fa), .val (.int n), .val (.int i), .val (.int (f i))] [])) (fun _ k => XS.istore X1.here hx rfl (hb hby d5_25) rfl (l' := #[.val (.ref a1), .val (.long acc), .second, .val (.ref fa), .val (.int n), .val (.int i), .val (.int (f i))]) (os_6 hsl) k) ?_
      refine Ends.st (S' := T1.setTop (mkF m 28 #[.val (.ref a1), .val (.long acc), .second, .val (.ref fa), .val (.int n), .val (.int i), .val (.int (f i))] [(.long acc)])) (fun _ k => XS.lloadN X1.here hx rfl (hb hby d5_27) rfl k) ?_
      refine Ends.st (S' := T1.setTop (mkF m 30 #[.val (.ref a1), .val (.long acc), .second, .val (.ref fa), .val (.int n), .val (.int i), .val (.int (f i))] [(.int (f i)), (.long acc)])) (fun _ k => XS.iload X1.here hx rfl (hb hby d5_28) rfl k) ?_
      refine Ends.st (S' := T1.setTop (mkF m 31 #[.val (.ref a1), .val (.long acc), .second, .val (.ref fa), .val (.int n), .val (.int i), .val (.int (f i))] [(.long ((f i).toInt64)), (.long acc)])) (fun _ k => XS.i2l X1.here hx rfl (hb hby d5_30) rfl k) ?_
      refine Ends.st (S' := T1.setTop (mkF m 32 #[.val (.ref a1), .val (.long acc), .second, .val (.ref fa), .val (.int n), .val (.int i), .val (.int (f i))] [(.long (acc + ((f i).toInt64)))])) (fun _ k => XS.ladd X1.here hx rfl (hb hby d5_31) rfl k) ?_
      refine Ends.st (S' := T1.setTop (mkF m 33 #[.val (.ref a1), .val (.long (acc + ((f i).toInt64))), .second, .val (.ref fa), .val (.int n), .val (.int i), .val (.int (f i))] [])) (fun _ k => XS.lstoreN X1.here hx rfl (hb hby d5_32) rfl (l' := #[.val (.ref a1), .val (.long (acc + ((f i).toInt64))), .second, .val (.ref fa), .val (.int n), .val (.int i), .val (.int (f i))]) rfl k) ?_
      refine Ends.st (S' := T1.setTop (mkF m 36 #[.val (.ref a1), .val (.long (acc + ((f i).toInt64))), .second, .val (.ref fa), .val (.int n), .val (.int (i + (1 : Int32))), .val (.int (f i))] [])) (fun _ k => XS.iinc X1.here hx rfl (hb hby d5_33) rfl (l' := #[.val (.ref a1), .val (.long (acc + ((f i).toInt64))), .second, .val (.ref fa), .val (.int n), .val (.int (i + (1 : Int32))), .val (.int (f i))]) rfl k) ?_
      refine Ends.st (S' := T1.setTop (mkF m 14 #[.val (.ref a1), .val (.long (acc + ((f i).toInt64))), .second, .val (.ref fa), .val (.int n), .val (.int (i + (1 : Int32))), .val (.int (f i))] [])) (fun _ k => XS.goto X1.here hx rfl (pc0 := 36) (pc' := 14) rfl (hb hby d5_36) (by decide) (by decide) k) ?_
      exact ih _ _ _ (One.val rfl) (own_up hi0 (own_turn hk).1) (own_turn hk).2 hinv
  exact loop kk _ _ _ One.u (by decide) (by rw [hn]; exact Int.sub_zero _) rfl
theorem ef_rm1 (m : MethodId) (x0 : Addr) (x1 : Addr) (x2 : Addr)  : entryFrame m #[(.ref x0), (.ref x1), (.ref x2)] 3 = mkF m 0 #[.val (.ref x0), .val (.ref x1), .val (.ref x2)] [] := by first | (simp [entryFrame, mkF, argsToLocals, Value.category]; done) | rfl
set_option maxRecDepth 65536 in
set_option maxHeartbeats 40000000 in
theorem rm1 (l : Launch) (Z : State) (a0 : Array Value) (hw : ∀ d ∈ tables_1, d.before a0 Z = true) (ws : List Jvm.Cond) (a1 : Addr) (d2 : Addr) (d3 : Addr) (n : Int32) (fd : Int32 → Int32) (ff : Int32 → Int32) (h0 : Heap) (n0 : Nat) (Z0 : n0 ≤ h0.size) (Ea : Exa Z h0 a1 "com/example/net_weight/netweight/core/index/Postings") (Fa : Fld Z h0 a1 "com/example/net_weight/netweight/core/index/Postings" "documents" "[I" .null) (Fb : Fld Z h0 a1 "com/example/net_weight/netweight/core/index/Postings" "frequencies" "[I" .null) (g1 : n0 ≤ a1) (Eb : Exa Z h0 d2 "[I") (Ec : Exa Z h0 d3 "[I") (I2 : IntA Z h0 d2 n fd) (I3 : IntA Z h0 d3 n ff) (ne2 : d2 ≠ a1) (ne3 : d3 ≠ a1) :
    MetFree l (⟨"com/example/net_weight/netweight/core/index/Postings", "<init>", "([I[I)V"⟩ : MethodName) (head1 (Jvm.Cond.code (⟨"com/example/net_weight/netweight/core/index/Postings", "<init>", "([I[I)V"⟩ : MethodName) prog_7_method_1_code 3 none :: ws) ({ frames := 2, cells := 4, slots := 88, locals := 24 } : Room)) (fun a U => a = #[(.ref a1), (.ref d2), (.ref d3)] ∧ Z.Warmed39 U.vm ∧ U.heap = h0) (fun _ _ _ _ _ => True) (fun _ U o U' => ∃ v L, o = .returned v ∧ Q1 Z a1 d2 d3 h0 n0 v U'.heap L ∧ ReturnedEndW U o U' L ({ frames := 2, cells := 4, slots := 88, locals := 24 } : Room).cells ({ frames := 2, cells := 4, slots := 88, locals := 24 } : Room).slots) := by
  refine MetFree.of_bodySF (plainFor_of_name pn_1) hisR ?_
  intro p e s m args below meth c s₁ Bd hml0 hP hK
  obtain ⟨rfl, hZ, hh⟩ := hP
  have hx := Bd.exec
  have hby := Bd.bytes
  have hml : c.maxLocals = 3 := hml0
  have hown : s.vm.findClass "com/example/net_weight/netweight/core/index/Postings" = some m.cls := findClass_of_methodNamed Bd.named
  have hnm := (name_of_methodNamed Bd.named Bd.method).1
  have X0 : Stand p l e ({ frames := 2, cells := 4, slots := 88, locals := 24 } : Room) s m #[(.ref a1), (.ref d2), (.ref d3)] below meth c s₁ [] 0 0 := Stand.of_body Bd
  have e0 : s₁.heap = h0 := by rw [← hh, Bd.state]; rfl
  have N0 := Fr.nil n0
  refine Ends.st (tb := p.tables) (e := e) (below := below) (S' := s₁.setTop (mkF m 0 #[.val (.ref a1), .val (.ref d2), .val (.ref d3)] [])) (fun t k => castTop (ef_rm1 m a1 d2 d3) k) ?_
  obtain ⟨cl2, Ar2, S2, M2, -⟩ := I2
  obtain ⟨cl3, Ar3, S3, M3, -⟩ := I3
  refine Ends.st (S' := s₁.setTop (mkF m 1 #[.val (.ref a1), .val (.ref d2), .val (.ref d3)] [(.ref a1)])) (fun _ k => XS.aloadN X0.here hx rfl (hb hby d1_0) rfl rfl k) ?_
  obtain ⟨_, _, ⟨T1, L1, k1, n1⟩, -, X1, ⟨Lc1, hQ1, l1, y1, z1⟩, st1⟩ := X0.specialBack hx (y := (⟨"java/lang/Record", "<init>", "()V"⟩ : MethodName)) rfl hown (mvT hZ (hw _ (List.mem_of_getElem? (i := 8) rfl))) (mvT hZ (hw _ (List.mem_of_getElem? (i := 9) rfl))) (mvT hZ (hw _ (List.mem_of_getElem? (i := 12) rfl))) (by decide) (backOf (W := 0) (rm2 l Z a0 hw [] a1 h0 n0 Z0) hZ (hw _ (List.mem_of_getElem? (i := 12) rfl)) (hw _ (List.mem_of_getElem? (i := 11) rfl)) (by decide) (by decide)) (g := (mkF m 1 #[.val (.ref a1), .val (.ref d2), .val (.ref d3)] [(.ref a1)])) rfl (by rw [hml]; rfl) (Steps.refl _) (a := a1) (argsL := []) (rest := []) (lenOf pd_0 rfl) rfl (by show 2 * 0 + _ ≤ _; exact Nat.le_of_eq rfl) (hb hby d1_1) (fun _ _ => ⟨rfl, e0, (by decide : 0 + 0 ≤ _), (by decide : 0 + 0 ≤ _)⟩)
  dsimp only [Pt.U, Pt.locs, Pt.cells, Pt.slots] at X1 l1 y1 z1 st1 hQ1
  subst l1 y1 z1
  obtain ⟨rfl, N1q, e1⟩ := hQ1
  have N1 := Fr.app N0 N1q
  refine Ends.st (S' := T1.setTop (mkF m 4 #[.val (.ref a1), .val (.ref d2), .val (.ref d3)] [])) (fun _ k => st1.trans k) ?_
  refine Ends.st (S' := T1.setTop (mkF m 5 #[.val (.ref a1), .val (.ref d2), .val (.ref d3)] [(.ref d2)])) (fun _ k => XS.aloadN X1.here hx rfl (hb hby d1_4) rfl rfl k) ?_
  obtain ⟨y2, T2, h2, k2, X2, e2, E2, hS2, hk2, hZ, hown, st2⟩ := ldcS (s := s) (vm0 := s.vm) X1 hx hZ hown (hw _ (List.mem_of_getElem? (i := 16) rfl)) (own_strs hw) e1 ((State.WarmedH.refl s).since 0) (Nat.zero_le _) (g := (mkF m 5 #[.val (.ref a1), .val (.ref d2), .val (.ref d3)] [(.ref d2)])) rfl (hb hby d1_5) (n := 36) (by decide) (by decide) (by decide) (by decide)
  have f3 := Ea.ext E2
  have f4 := Fa.ext E2
  have f5 := Fb.ext E2
  have f6 := Nat.le_trans Z0 E2.1
  have f7 := (Keep.refl h0 [a1]).ext E2
  have f8 := Eb.ext E2
  have f9 := Ec.ext E2
  have f10 := Ar2.ext E2
  have f11 := Ar3.ext E2
  refine Ends.st (S' := T2.setTop (mkF m 7 #[.val (.ref a1), .val (.ref d2), .val (.ref d3)] [(.ref y2), (.ref d2)])) (fun _ k => st2 _ k) ?_
  obtain ⟨_, _, ⟨T12, L12, k12, n12⟩, -, X12, ⟨Lc12, hQ12, l12, y12, z12⟩, st12⟩ := Jvm.LawKit.callS X2 hx (y := (⟨"java/util/Objects", "requireNonNull", "(Ljava/lang/Object;Ljava/lang/String;)Ljava/lang/Object;"⟩ : MethodName)) hown (mvT hZ (hw _ (List.mem_of_getElem? (i := 24) rfl))) (mvT hZ (hw _ (List.mem_of_getElem? (i := 25) rfl))) (mvT hZ (hw _ (List.mem_of_getElem? (i := 26) rfl))) (mvT hZ (hw _ (List.mem_of_getElem? (i := 27) rfl))) (by decide) (backOf (W := 0) (rm4 l Z a0 hw [] d2 y2 h2 n0 f6) hZ (hw _ (List.mem_of_getElem? (i := 27) rfl)) (hw _ (List.mem_of_getElem? (i := 26) rfl)) (by decide) (by decide)) (g := (mkF m 7 #[.val (.ref a1), .val (.ref d2), .val (.ref d3)] [(.ref y2), (.ref d2)])) rfl (by rw [hml]; rfl) (argsL := [(.ref d2), (.ref y2)]) (rest := []) (lenOf pd_1 rfl) rfl (by show 2 * 0 + _ ≤ _; exact Nat.le_of_eq rfl) (hb hby d1_7) (fun _ _ => ⟨rfl, e2, (by decide : 0 + 0 + 2 + 0 ≤ _), (by decide : 0 + 0 + (36 + 4) + 0 ≤ _)⟩)
  dsimp only [Pt.U, Pt.locs, Pt.cells, Pt.slots] at X12 l12 y12 z12 st12 hQ12
  subst l12 y12 z12
  obtain ⟨rfl, N12q, e12⟩ := hQ12
  have N12 := Fr.app N1 N12q
  refine Ends.st (S' := T12.setTop (mkF m 10 #[.val (.ref a1), .val (.ref d2), .val (.ref d3)] [(.ref d2)])) (fun _ k => st12 _ k) ?_
  obtain ⟨T13, X13, e13, st13⟩ := castY X12 hx hZ hown (hw _ (List.mem_of_getElem? (i := 28) rfl)) e12 (Ins.of_exa f8 (hw _ (List.mem_of_getElem? (i := 29) rfl))) (g := (mkF m 10 #[.val (.ref a1), .val (.ref d2), .val (.ref d3)] [(.ref d2)])) rfl rfl (hb hby d1_10)
  refine Ends.st (S' := T13.setTop (mkF m 13 #[.val (.ref a1), .val (.ref d2), .val (.ref d3)] [(.ref d2)])) (fun _ k => st13 _ k) ?_
  refine Ends.st (S' := T13.setTop (mkF m 14 #[.val (.ref a1), .val (.ref d2), .val (.ref d3)] [(.int n)])) (fun _ k => X13.arraylength hx (by rw [e13]; exact f10.1) (State.isArrayOf_alike hZ.alike f10.2.1) (g := (mkF m 13 #[.val (.ref a1), .val (.ref d2), .val (.ref d3)] [(.ref d2)])) rfl rfl (hb hby d1_13) _ (by rw [len_of S2 M2]; exact k)) ?_
  refine Ends.st (S' := T13.setTop (mkF m 15 #[.val (.ref a1), .val (.ref d2), .val (.ref d3)] [(.ref d3), (.int n)])) (fun _ k => XS.aloadN X13.here hx rfl (hb hby d1_14) rfl rfl k) ?_
  obtain ⟨y14, T14, h14, k14, X14, e14, E14, hS14, hk14, hZ, hown, st14⟩ := ldcS (s := s) (vm0 := T2.vm) X13 hx hZ hown (hw _ (List.mem_of_getElem? (i := 30) rfl)) (own_strs hw) e13 hS2 hk2 (g := (mkF m 15 #[.val (.ref a1), .val (.ref d2), .val (.ref d3)] [(.ref d3), (.int n)])) rfl (hb hby d1_15) (n := 44) (by decide) (by decide) (by decide) (by decide)
  have f15 := f3.ext E14
  have f16 := f4.ext E14
  have f17 := f5.ext E14
  have f18 := Nat.le_trans f6 E14.1
  have f19 := f7.ext E14
  have f20 := f8.ext E14
  have f21 := f9.ext E14
  have f22 := f10.ext E14
  have f23 := f11.ext E14
  refine Ends.st (S' := T14.setTop (mkF m 17 #[.val (.ref a1), .val (.ref d2), .val (.ref d3)] [(.ref y14), (.ref d3), (.int n)])) (fun _ k => st14 _ k) ?_
  obtain ⟨_, _, ⟨T24, L24, k24, n24⟩, -, X24, ⟨Lc24, hQ24, l24, y24, z24⟩, st24⟩ := Jvm.LawKit.callS X14 hx (y := (⟨"java/util/Objects", "requireNonNull", "(Ljava/lang/Object;Ljava/lang/String;)Ljava/lang/Object;"⟩ : MethodName)) hown (mvT hZ (hw _ (List.mem_of_getElem? (i := 24) rfl))) (mvT hZ (hw _ (List.mem_of_getElem? (i := 25) rfl))) (mvT hZ (hw _ (List.mem_of_getElem? (i := 26) rfl))) (mvT hZ (hw _ (List.mem_of_getElem? (i := 27) rfl))) (by decide) (backOf (W := 1) (rm4 l Z a0 hw [] d3 y14 h14 n0 f18) hZ (hw _ (List.mem_of_getElem? (i := 27) rfl)) (hw _ (List.mem_of_getElem? (i := 26) rfl)) (by decide) (by decide)) (g := (mkF m 17 #[.val (.ref a1), .val (.ref d2), .val (.ref d3)] [(.ref y14), (.ref d3), (.int n)])) rfl (by rw [hml]; rfl) (argsL := [(.ref d3), (.ref y14)]) (rest := [(.int n)]) (lenOf pd_1 rfl) rfl (by show 2 * 0 + _ ≤ _; exact Nat.le_of_eq rfl) (hb hby d1_17) (fun _ _ => ⟨rfl, e14, (by decide : 0 + 0 + 2 + 0 + 2 + 0 ≤ _), (by decide : 0 + 0 + (36 + 4) + 0 + (44 + 4) + 0 ≤ _)⟩)
  dsimp only [Pt.U, Pt.locs, Pt.cells, Pt.slots] at X24 l24 y24 z24 st24 hQ24
  subst l24 y24 z24
  obtain ⟨rfl, N24q, e24⟩ := hQ24
  have N24 := Fr.app N12 N24q
  refine Ends.st (S' := T24.setTop (mkF m 20 #[.val (.ref a1), .val (.ref d2), .val (.ref d3)] [(.ref d3), (.int n)])) (fun _ k => st24 _ k) ?_
  obtain ⟨T25, X25, e25, st25⟩ := castY X24 hx hZ hown (hw _ (List.mem_of_getElem? (i := 28) rfl)) e24 (Ins.of_exa f21 (hw _ (List.mem_of_getElem? (i := 29) rfl))) (g := (mkF m 20 #[.val (.ref a1), .val (.ref d2), .val (.ref d3)] [(.ref d3), (.int n)])) rfl rfl (hb hby d1_20)
  refine Ends.st (S' := T25.setTop (mkF m 23 #[.val (.ref a1), .val (.ref d2), .val (.ref d3)] [(.ref d3), (.int n)])) (fun _ k => st25 _ k) ?_
  refine Ends.st (S' := T25.setTop (mkF m 24 #[.val (.ref a1), .val (.ref d2), .val (.ref d3)] [(.int n), (.int n)])) (fun _ k => X25.arraylength hx (by rw [e25]; exact f23.1) (State.isArrayOf_alike hZ.alike f23.2.1) (g := (mkF m 23 #[.val (.ref a1), .val (.ref d2), .val (.ref d3)] [(.ref d3), (.int n)])) rfl rfl (hb hby d1_23) _ (by rw [len_of S3 M3]; exact k)) ?_
  refine Ends.st (S' := T25.setTop (mkF m 44 #[.val (.ref a1), .val (.ref d2), .val (.ref d3)] [])) (fun _ k => XS.icmpYes X25.here hx rfl (pc0 := 24) (pc' := 44) rfl (hb hby d1_24) rfl (teq (rfl : n = n)).1 (by decide) (by decide) k) ?_
  refine Ends.st (S' := T25.setTop (mkF m 45 #[.val (.ref a1), .val (.ref d2), .val (.ref d3)] [(.ref a1)])) (fun _ k => XS.aloadN X25.here hx rfl (hb hby d1_44) rfl rfl k) ?_
  refine Ends.st (S' := T25.setTop (mkF m 46 #[.val (.ref a1), .val (.ref d2), .val (.ref d3)] [(.ref d2), (.ref a1)])) (fun _ k => XS.aloadN X25.here hx rfl (hb hby d1_45) rfl rfl k) ?_
  obtain ⟨T26, h26, X26, e26, W26, st26⟩ := putF X25 hx hZ hown (host := "") (Or.inl (hw _ (List.mem_of_getElem? (i := 31) rfl))) Via.refl e25 f16 f15 (Or.inr ⟨(hw _ (List.mem_of_getElem? (i := 32) rfl)), rfl, hnm⟩) (hw _ (List.mem_of_getElem? (i := 3) rfl)) (ty := (.array .int)) (by decide) rfl rfl (g := (mkF m 46 #[.val (.ref a1), .val (.ref d2), .val (.ref d3)] [(.ref d2), (.ref a1)])) rfl rfl (hb hby d1_46)
  have f27 := f15.wr W26
  have f28 := f17.other W26 (Or.inr (slot_ne (Or.inr (hw _ (List.mem_of_getElem? (i := 34) rfl))) (Or.inr (hw _ (List.mem_of_getElem? (i := 32) rfl))) (by decide) (t := (.array .int)) (t' := (.array .int)) (by decide) (by decide)))
  have f29 := Nat.le_trans f18 (Keep.of_wr W26).1
  have f30 := f19.wr W26 (Or.inl (by simp))
  have f31 := f20.wr W26
  have f32 := f21.wr W26
  have f33 := f22.other W26 ne2
  have f34 := f23.other W26 ne3
  have f35 := Nat.le_trans hk14 (Keep.of_wr W26).1
  have Fw26 := f16.same W26
  have N26 := Fr.snoc X26 N24 g1
  refine Ends.st (S' := T26.setTop (mkF m 49 #[.val (.ref a1), .val (.ref d2), .val (.ref d3)] [])) (fun _ k => st26 _ k) ?_
  refine Ends.st (S' := T26.setTop (mkF m 50 #[.val (.ref a1), .val (.ref d2), .val (.ref d3)] [(.ref a1)])) (fun _ k => XS.aloadN X26.here hx rfl (hb hby d1_49) rfl rfl k) ?_
  refine Ends.st (S' := T26.setTop (mkF m 51 #[.val (.ref a1), .val (.ref d2), .val (.ref d3)] [(.ref d3), (.ref a1)])) (fun _ k => XS.aloadN X26.here hx rfl (hb hby d1_50) rfl rfl k) ?_
  obtain ⟨T36, h36, X36, e36, W36, st36⟩ := putF X26 hx hZ hown (host := "") (Or.inl (hw _ (List.mem_of_getElem? (i := 33) rfl))) Via.refl e26 f28 f27 (Or.inr ⟨(hw _ (List.mem_of_getElem? (i := 34) rfl)), rfl, hnm⟩) (hw _ (List.mem_of_getElem? (i := 3) rfl)) (ty := (.array .int)) (by decide) rfl rfl (g := (mkF m 51 #[.val (.ref a1), .val (.ref d2), .val (.ref d3)] [(.ref d3), (.ref a1)])) rfl rfl (hb hby d1_51)
  have f37 := f27.wr W36
  have f38 := Nat.le_trans f29 (Keep.of_wr W36).1
  have f39 := f30.wr W36 (Or.inl (by simp))
  have f40 := f31.wr W36
  have f41 := f32.wr W36
  have f42 := f33.other W36 ne2
  have f43 := f34.other W36 ne3
  have f44 := Nat.le_trans f35 (Keep.of_wr W36).1
  have f45 := Fw26.other W36 (Or.inr (slot_ne (Or.inr (hw _ (List.mem_of_getElem? (i := 32) rfl))) (Or.inr (hw _ (List.mem_of_getElem? (i := 34) rfl))) (by decide) (t := (.array .int)) (t' := (.array .int)) (by decide) (by decide)))
  have Fw36 := f28.same W36
  have N36 := Fr.snoc X36 N26 g1
  refine Ends.st (S' := T36.setTop (mkF m 54 #[.val (.ref a1), .val (.ref d2), .val (.ref d3)] [])) (fun _ k => st36 _ k) ?_
  obtain ⟨fs, hr, hrun, hended, hRW⟩ := X36.leaveW hS14 (by rw [e36]; exact f44) (v := none) (fun _ => rfl)
  exact ⟨_, _, X36.returnOut hx Bd.returns (hb hby d1_54) hr, hrun, hended, _, _, rfl, (by show Q1 Z a1 d2 d3 h0 n0 _ T36.heap _; rw [e36]; exact ⟨rfl, N36, f39, Fw36⟩), hRW.1, hRW.2.1, hRW.2.2.1, hRW.2.2.2.mono (by decide) (by decide)⟩
theorem ef_rm0 (m : MethodId) (x0 : Int32) (x1 : Int32) (x2 : Int32) (x3 : Int32) (x4 : Int32)  : entryFrame m #[(.int x0), (.int x1), (.int x2), (.int x3), (.int x4)] maxLocals = mkF m 0 #[.val (.int x0), .val (.int x1), .val (.int x2), .val (.int x3), .val (.int x4), .unset, .unset, .unset, .unset, .unset, .unset, .unset] [] := by first | (simp [entryFrame, mkF, argsToLocals, Value.category, maxLocals]; done) | rfl
set_option maxRecDepth 65536 in
set_option maxHeartbeats 40000000 in
theorem rm0 (l : Launch) (Z : State) (a0 : Array Value) (hw : ∀ d ∈ tables_1, d.before a0 Z = true) (ws : List Jvm.Cond) (v0 : Int32) (v1 : Int32) (v2 : Int32) (v3 : Int32) (v4 : Int32) (h0 : Heap) (n0 : Nat) (Z0 : n0 ≤ h0.size) :
    MetFree l x (head1 (Jvm.Cond.code x code maxLocals ret :: ws) room_1) (fun a U => a = #[(.int v0), (.int v1), (.int v2), (.int v3), (.int v4)] ∧ Z.Warmed39 U.vm ∧ U.heap = h0) (fun _ _ _ _ _ => True) (fun _ U o U' => ∃ v L, o = .returned v ∧ Q0 Z  h0 n0 v U'.heap L ∧ ReturnedEndW U o U' L room_1.cells room_1.slots) := by
  refine MetFree.of_bodySF (plainFor_of_name pn_0) hisR ?_
  intro p e s m args below meth c s₁ Bd hml0 hP hK
  obtain ⟨rfl, hZ, hh⟩ := hP
  have hx := Bd.exec
  have hby := Bd.bytes
  have hml : c.maxLocals = 12 := hml0
  have hown : s.vm.findClass "com/example/net_weight/netweight/core/index/PostingsCollectionFrequencyPinLaw" = some m.cls := findClass_of_methodNamed Bd.named
  have hnm := (name_of_methodNamed Bd.named Bd.method).1
  have X0 : Stand p l e room_1 s m #[(.int v0), (.int v1), (.int v2), (.int v3), (.int v4)] below meth c s₁ [] 0 0 := Stand.of_body Bd
  have e0 : s₁.heap = h0 := by rw [← hh, Bd.state]; rfl
  have N0 := Fr.nil n0
  refine Ends.st (tb := p.tables) (e := e) (below := below) (S' := s₁.setTop (mkF m 0 #[.val (.int v0), .val (.int v1), .val (.int v2), .val (.int v3), .val (.int v4), .unset, .unset, .unset, .unset, .unset, .unset, .unset] [])) (fun t k => castTop (ef_rm0 m v0 v1 v2 v3 v4) k) ?_
  refine Ends.st (S' := s₁.setTop (mkF m 1 #[.val (.int v0), .val (.int v1), .val (.int v2), .val (.int v3), .val (.int v4), .unset, .unset, .unset, .unset, .unset, .unset, .unset] [(.int v0)])) (fun _ k => XS.iloadN X0.here hx rfl (hb hby at_0) rfl k) ?_
  refine Ends.st (S' := s₁.setTop (mkF m 2 #[.val (.int v0), .val (.int v1), .val (.int v2), .val (.int v3), .val (.int v4), .unset, .unset, .unset, .unset, .unset, .unset, .unset] [(.int (3 : Int32)), (.int v0)])) (fun _ k => XS.iconst X0.here hx rfl (hb hby at_1) k) ?_
  refine Ends.st (S' := s₁.setTop (mkF m 3 #[.val (.int v0), .val (.int v1), .val (.int v2), .val (.int v3), .val (.int v4), .unset, .unset, .unset, .unset, .unset, .unset, .unset] [(.int (v0 &&& (3 : Int32)))])) (fun _ k => XS.iand X0.here hx rfl (hb hby at_2) rfl k) ?_
  refine Ends.st (S' := s₁.setTop (mkF m 5 #[.val (.int v0), .val (.int v1), .val (.int v2), .val (.int v3), .val (.int v4), .val (.int (v0 &&& (3 : Int32))), .unset, .unset, .unset, .unset, .unset, .unset] [])) (fun _ k => XS.istore X0.here hx rfl (hb hby at_3) rfl (l' := #[.val (.int v0), .val (.int v1), .val (.int v2), .val (.int v3), .val (.int v4), .val (.int (v0 &&& (3 : Int32))), .unset, .unset, .unset, .unset, .unset, .unset]) rfl k) ?_
  rcases own_four v0 with hn | hn | hn | hn
  · rw [hn]
    refine Ends.st (S' := s₁.setTop (mkF m 7 #[.val (.int v0), .val (.int v1), .val (.int v2), .val (.int v3), .val (.int v4), .val (.int (0 : Int32)), .unset, .unset, .unset, .unset, .unset, .unset] [(.int v4)])) (fun _ k => XS.iload X0.here hx rfl (hb hby at_5) rfl k) ?_
    refine Ends.st (S' := s₁.setTop (mkF m 9 #[.val (.int v0), .val (.int v1), .val (.int v2), .val (.int v3), .val (.int v4), .val (.int (0 : Int32)), .unset, .unset, .unset, .unset, .unset, .unset] [(.int (1073741823 : Int32)), (.int v4)])) (fun _ k => X0.ldcInt hx hown (mvT hZ (hw _ (List.mem_of_getElem? (i := 0) rfl))) (g := (mkF m 7 #[.val (.int v0), .val (.int v1), .val (.int v2), .val (.int v3), .val (.int v4), .val (.int (0 : Int32)), .unset, .unset, .unset, .unset, .unset, .unset] [(.int v4)])) rfl (hb hby at_7) _ k) ?_
    refine Ends.st (S' := s₁.setTop (mkF m 10 #[.val (.int v0), .val (.int v1), .val (.int v2), .val (.int v3), .val (.int v4), .val (.int (0 : Int32)), .unset, .unset, .unset, .unset, .unset, .unset] [(.int (v4 &&& (1073741823 : Int32)))])) (fun _ k => XS.iand X0.here hx rfl (hb hby at_9) rfl k) ?_
    refine Ends.st (S' := s₁.setTop (mkF m 12 #[.val (.int v0), .val (.int v1), .val (.int v2), .val (.int v3), .val (.int v4), .val (.int (0 : Int32)), .val (.int (v4 &&& (1073741823 : Int32))), .unset, .unset, .unset, .unset, .unset] [])) (fun _ k => XS.istore X0.here hx rfl (hb hby at_10) rfl (l' := #[.val (.int v0), .val (.int v1), .val (.int v2), .val (.int v3), .val (.int v4), .val (.int (0 : Int32)), .val (.int (v4 &&& (1073741823 : Int32))), .unset, .unset, .unset, .unset, .unset]) rfl k) ?_
    obtain ⟨ibase1, hibase1⟩ : ∃ z, z = (v4 &&& (1073741823 : Int32)) := ⟨_, rfl⟩
    rw [← hibase1]
    refine Ends.st (S' := s₁.setTop (mkF m 14 #[.val (.int v0), .val (.int v1), .val (.int v2), .val (.int v3), .val (.int v4), .val (.int (0 : Int32)), .val (.int ibase1), .unset, .unset, .unset, .unset, .unset] [(.int (0 : Int32))])) (fun _ k => XS.iload X0.here hx rfl (hb hby at_12) rfl k) ?_
    obtain ⟨T2, h2, k2, X2, e2, E2, A2, B2, st2⟩ := newPE X0 hx hZ (hw _ (List.mem_of_getElem? (i := 1) rfl)) e0 (g := (mkF m 14 #[.val (.int v0), .val (.int v1), .val (.int v2), .val (.int v3), .val (.int v4), .val (.int (0 : Int32)), .val (.int ibase1), .unset, .unset, .unset, .unset, .unset] [(.int (0 : Int32))])) rfl (hb hby at_14) rfl (by decide) (cap := 0) (by decide) (by decide) (by decide) (by decide) (ad := "[I") (by decide)
    obtain ⟨b2, g2⟩ : ∃ z, z = h0.size := ⟨_, rfl⟩
    rw [← g2] at A2 B2 st2
    have g_b2 : n0 ≤ b2 := Nat.le_trans Z0 (Nat.le_of_eq g2.symm)
    have f3 := Nat.le_trans Z0 E2.1
    have V2 : Arv Z h2 b2 k2 .int (0 : Int32) [] (.int (0 : Int32)) := Arv.new A2 (by decide)
    refine Ends.st (S' := T2.setTop (mkF m 16 #[.val (.int v0), .val (.int v1), .val (.int v2), .val (.int v3), .val (.int v4), .val (.int (0 : Int32)), .val (.int ibase1), .unset, .unset, .unset, .unset, .unset] [(.ref b2)])) (fun _ k => st2 _ k) ?_
    refine Ends.st (S' := T2.setTop (mkF m 18 #[.val (.int v0), .val (.int v1), .val (.int v2), .val (.int v3), .val (.int v4), .val (.int (0 : Int32)), .val (.int ibase1), .val (.ref b2), .unset, .unset, .unset, .unset] [])) (fun _ k => XS.astore X2.here hx rfl (hb hby at_16) rfl rfl (l' := #[.val (.int v0), .val (.int v1), .val (.int v2), .val (.int v3), .val (.int v4), .val (.int (0 : Int32)), .val (.int ibase1), .val (.ref b2), .unset, .unset, .unset, .unset]) rfl k) ?_
    refine Ends.st (S' := T2.setTop (mkF m 20 #[.val (.int v0), .val (.int v1), .val (.int v2), .val (.int v3), .val (.int v4), .val (.int (0 : Int32)), .val (.int ibase1), .val (.ref b2), .unset, .unset, .unset, .unset] [(.int (0 : Int32))])) (fun _ k => XS.iload X2.here hx rfl (hb hby at_18) rfl k) ?_
    obtain ⟨T4, h4, k4, X4, e4, E4, A4, B4, st4⟩ := newPE X2 hx hZ (hw _ (List.mem_of_getElem? (i := 1) rfl)) e2 (g := (mkF m 20 #[.val (.int v0), .val (.int v1), .val (.int v2), .val (.int v3), .val (.int v4), .val (.int (0 : Int32)), .val (.int ibase1), .val (.ref b2), .unset, .unset, .unset, .unset] [(.int (0 : Int32))])) rfl (hb hby at_20) rfl (by decide) (cap := 0) (by decide) (by decide) (by decide) (by decide) (ad := "[I") (by decide)
    obtain ⟨b4, g4⟩ : ∃ z, z = h2.size := ⟨_, rfl⟩
    rw [← g4] at A4 B4 st4
    have ne5 : b2 ≠ b4 := Nat.ne_of_lt (Nat.lt_of_lt_of_le V2.lt (Nat.le_of_eq g4.symm))
    have g_b4 : n0 ≤ b4 := Nat.le_trans f3 (Nat.le_of_eq g4.symm)
    have f6 := Nat.le_trans f3 E4.1
    have f7 := V2.ext E4
    have f8 := B2.ext E4
    have V4 : Arv Z h4 b4 k4 .int (0 : Int32) [] (.int (0 : Int32)) := Arv.new A4 (by decide)
    refine Ends.st (S' := T4.setTop (mkF m 22 #[.val (.int v0), .val (.int v1), .val (.int v2), .val (.int v3), .val (.int v4), .val (.int (0 : Int32)), .val (.int ibase1), .val (.ref b2), .unset, .unset, .unset, .unset] [(.ref b4)])) (fun _ k => st4 _ k) ?_
    refine Ends.st (S' := T4.setTop (mkF m 24 #[.val (.int v0), .val (.int v1), .val (.int v2), .val (.int v3), .val (.int v4), .val (.int (0 : Int32)), .val (.int ibase1), .val (.ref b2), .val (.ref b4), .unset, .unset, .unset] [])) (fun _ k => XS.astore X4.here hx rfl (hb hby at_22) rfl rfl (l' := #[.val (.int v0), .val (.int v1), .val (.int v2), .val (.int v3), .val (.int v4), .val (.int (0 : Int32)), .val (.int ibase1), .val (.ref b2), .val (.ref b4), .unset, .unset, .unset]) rfl k) ?_
    refine Ends.st (S' := T4.setTop (mkF m 25 #[.val (.int v0), .val (.int v1), .val (.int v2), .val (.int v3), .val (.int v4), .val (.int (0 : Int32)), .val (.int ibase1), .val (.ref b2), .val (.ref b4), .unset, .unset, .unset] [(.long (0 : Int64))])) (fun _ k => XS.lconst X4.here hx rfl (hb hby at_24) k) ?_
    refine Ends.st (S' := T4.setTop (mkF m 27 #[.val (.int v0), .val (.int v1), .val (.int v2), .val (.int v3), .val (.int v4), .val (.int (0 : Int32)), .val (.int ibase1), .val (.ref b2), .val (.ref b4), .val (.long (0 : Int64)), .second, .unset] [])) (fun _ k => XS.lstore X4.here hx rfl (hb hby at_25) rfl (l' := #[.val (.int v0), .val (.int v1), .val (.int v2), .val (.int v3), .val (.int v4), .val (.int (0 : Int32)), .val (.int ibase1), .val (.ref b2), .val (.ref b4), .val (.long (0 : Int64)), .second, .unset]) rfl k) ?_
    refine Ends.st (S' := T4.setTop (mkF m 29 #[.val (.int v0), .val (.int v1), .val (.int v2), .val (.int v3), .val (.int v4), .val (.int (0 : Int32)), .val (.int ibase1), .val (.ref b2), .val (.ref b4), .val (.long (0 : Int64)), .second, .unset] [(.int (0 : Int32))])) (fun _ k => XS.iload X4.here hx rfl (hb hby at_27) rfl k) ?_
    refine Ends.st (S' := T4.setTop (mkF m 30 #[.val (.int v0), .val (.int v1), .val (.int v2), .val (.int v3), .val (.int v4), .val (.int (0 : Int32)), .val (.int ibase1), .val (.ref b2), .val (.ref b4), .val (.long (0 : Int64)), .second, .unset] [(.int (1 : Int32)), (.int (0 : Int32))])) (fun _ k => XS.iconst X4.here hx rfl (hb hby at_29) k) ?_
    refine Ends.st (S' := T4.setTop (mkF m 51 #[.val (.int v0), .val (.int v1), .val (.int v2), .val (.int v3), .val (.int v4), .val (.int (0 : Int32)), .val (.int ibase1), .val (.ref b2), .val (.ref b4), .val (.long (0 : Int64)), .second, .unset] [])) (fun _ k => XS.icmpYes X4.here hx rfl (pc0 := 30) (pc' := 51) rfl (hb hby at_30) rfl (tlt (by decide : (0 : Int32) < (1 : Int32))).1 (by decide) (by decide) k) ?_
    refine Ends.st (S' := T4.setTop (mkF m 53 #[.val (.int v0), .val (.int v1), .val (.int v2), .val (.int v3), .val (.int v4), .val (.int (0 : Int32)), .val (.int ibase1), .val (.ref b2), .val (.ref b4), .val (.long (0 : Int64)), .second, .unset] [(.int (0 : Int32))])) (fun _ k => XS.iload X4.here hx rfl (hb hby at_51) rfl k) ?_
    refine Ends.st (S' := T4.setTop (mkF m 54 #[.val (.int v0), .val (.int v1), .val (.int v2), .val (.int v3), .val (.int v4), .val (.int (0 : Int32)), .val (.int ibase1), .val (.ref b2), .val (.ref b4), .val (.long (0 : Int64)), .second, .unset] [(.int (2 : Int32)), (.int (0 : Int32))])) (fun _ k => XS.iconst X4.here hx rfl (hb hby at_53) k) ?_
    refine Ends.st (S' := T4.setTop (mkF m 77 #[.val (.int v0), .val (.int v1), .val (.int v2), .val (.int v3), .val (.int v4), .val (.int (0 : Int32)), .val (.int ibase1), .val (.ref b2), .val (.ref b4), .val (.long (0 : Int64)), .second, .unset] [])) (fun _ k => XS.icmpYes X4.here hx rfl (pc0 := 54) (pc' := 77) rfl (hb hby at_54) rfl (tlt (by decide : (0 : Int32) < (2 : Int32))).1 (by decide) (by decide) k) ?_
    refine Ends.st (S' := T4.setTop (mkF m 79 #[.val (.int v0), .val (.int v1), .val (.int v2), .val (.int v3), .val (.int v4), .val (.int (0 : Int32)), .val (.int ibase1), .val (.ref b2), .val (.ref b4), .val (.long (0 : Int64)), .second, .unset] [(.int (0 : Int32))])) (fun _ k => XS.iload X4.here hx rfl (hb hby at_77) rfl k) ?_
    refine Ends.st (S' := T4.setTop (mkF m 80 #[.val (.int v0), .val (.int v1), .val (.int v2), .val (.int v3), .val (.int v4), .val (.int (0 : Int32)), .val (.int ibase1), .val (.ref b2), .val (.ref b4), .val (.long (0 : Int64)), .second, .unset] [(.int (3 : Int32)), (.int (0 : Int32))])) (fun _ k => XS.iconst X4.here hx rfl (hb hby at_79) k) ?_
    refine Ends.st (S' := T4.setTop (mkF m 103 #[.val (.int v0), .val (.int v1), .val (.int v2), .val (.int v3), .val (.int v4), .val (.int (0 : Int32)), .val (.int ibase1), .val (.ref b2), .val (.ref b4), .val (.long (0 : Int64)), .second, .unset] [])) (fun _ k => XS.icmpYes X4.here hx rfl (pc0 := 80) (pc' := 103) rfl (hb hby at_80) rfl (tlt (by decide : (0 : Int32) < (3 : Int32))).1 (by decide) (by decide) k) ?_
    obtain ⟨T9, h9, X9, e9, E9, A9, D9, -, st9⟩ := newO X4 hx hZ hown (hw _ (List.mem_of_getElem? (i := 2) rfl)) (hw _ (List.mem_of_getElem? (i := 3) rfl)) (hw _ (List.mem_of_getElem? (i := 4) rfl)) e4 (g := (mkF m 103 #[.val (.int v0), .val (.int v1), .val (.int v2), .val (.int v3), .val (.int v4), .val (.int (0 : Int32)), .val (.int ibase1), .val (.ref b2), .val (.ref b4), .val (.long (0 : Int64)), .second, .unset] [])) rfl (hb hby at_103) (by decide) (by decide)
    obtain ⟨b9, g9⟩ : ∃ z, z = h4.size := ⟨_, rfl⟩
    rw [← g9] at A9 D9 st9
    have ne10 : b2 ≠ b9 := Nat.ne_of_lt (Nat.lt_of_lt_of_le f7.lt (Nat.le_of_eq g9.symm))
    have ne11 : b4 ≠ b9 := Nat.ne_of_lt (Nat.lt_of_lt_of_le V4.lt (Nat.le_of_eq g9.symm))
    have g_b9 : n0 ≤ b9 := Nat.le_trans f6 (Nat.le_of_eq g9.symm)
    have f12 := Nat.le_trans f6 E9.1
    have f13 := f7.ext E9
    have f14 := f8.ext E9
    have f15 := V4.ext E9
    have f16 := B4.ext E9
    have F17 : Fld Z h9 b9 "com/example/net_weight/netweight/core/index/Postings" "documents" "[I" .null := D9 (Or.inr (hw _ (List.mem_of_getElem? (i := 32) rfl))) (ty := (.array .int)) (by decide)
    have F18 : Fld Z h9 b9 "com/example/net_weight/netweight/core/index/Postings" "frequencies" "[I" .null := D9 (Or.inr (hw _ (List.mem_of_getElem? (i := 34) rfl))) (ty := (.array .int)) (by decide)
    refine Ends.st (S' := T9.setTop (mkF m 106 #[.val (.int v0), .val (.int v1), .val (.int v2), .val (.int v3), .val (.int v4), .val (.int (0 : Int32)), .val (.int ibase1), .val (.ref b2), .val (.ref b4), .val (.long (0 : Int64)), .second, .unset] [(.ref b9)])) (fun _ k => st9 _ k) ?_
    refine Ends.st (S' := T9.setTop (mkF m 107 #[.val (.int v0), .val (.int v1), .val (.int v2), .val (.int v3), .val (.int v4), .val (.int (0 : Int32)), .val (.int ibase1), .val (.ref b2), .val (.ref b4), .val (.long (0 : Int64)), .second, .unset] [(.ref b9), (.ref b9)])) (fun _ k => XS.dup X9.here hx rfl (hb hby at_106) rfl rfl k) ?_
    refine Ends.st (S' := T9.setTop (mkF m 109 #[.val (.int v0), .val (.int v1), .val (.int v2), .val (.int v3), .val (.int v4), .val (.int (0 : Int32)), .val (.int ibase1), .val (.ref b2), .val (.ref b4), .val (.long (0 : Int64)), .second, .unset] [(.ref b2), (.ref b9), (.ref b9)])) (fun _ k => XS.aload X9.here hx rfl (hb hby at_107) rfl rfl k) ?_
    refine Ends.st (S' := T9.setTop (mkF m 111 #[.val (.int v0), .val (.int v1), .val (.int v2), .val (.int v3), .val (.int v4), .val (.int (0 : Int32)), .val (.int ibase1), .val (.ref b2), .val (.ref b4), .val (.long (0 : Int64)), .second, .unset] [(.ref b4), (.ref b2), (.ref b9), (.ref b9)])) (fun _ k => XS.aload X9.here hx rfl (hb hby at_109) rfl rfl k) ?_
    have Id := own_intA f13 (own_vs0 0 0 0)
    have If := own_intA f15 (own_vs0 v1 v2 v3)
    obtain ⟨_, _, ⟨T19, L19, k19, n19⟩, -, X19, hS19, hgr19, ⟨Lc19, hQ19, l19, y19, z19⟩, st19⟩ := X9.specialBackS hx (y := (⟨"com/example/net_weight/netweight/core/index/Postings", "<init>", "([I[I)V"⟩ : MethodName)) rfl hown (mvT hZ (hw _ (List.mem_of_getElem? (i := 5) rfl))) (mvT hZ (hw _ (List.mem_of_getElem? (i := 6) rfl))) (mvT hZ (hw _ (List.mem_of_getElem? (i := 7) rfl))) (by decide) (backOfS (W := 1) (rm1 l Z a0 hw [] b9 b2 b4 (0 : Int32) _ _ h9 n0 f12 A9 F17 F18 g_b9 f14 f16 Id If ne10 ne11) hZ (hw _ (List.mem_of_getElem? (i := 7) rfl)) (hw _ (List.mem_of_getElem? (i := 4) rfl)) (by decide) (by decide)) (g := (mkF m 111 #[.val (.int v0), .val (.int v1), .val (.int v2), .val (.int v3), .val (.int v4), .val (.int (0 : Int32)), .val (.int ibase1), .val (.ref b2), .val (.ref b4), .val (.long (0 : Int64)), .second, .unset] [(.ref b4), (.ref b2), (.ref b9), (.ref b9)])) rfl (by rw [hml]; rfl) (Steps.refl _) (a := b9) (argsL := [(.ref b2), (.ref b4)]) (rest := [(.ref b9)]) (lenOf pd_2 rfl) rfl (by show 2 * 0 + _ ≤ _; exact Nat.le_of_eq rfl) (hb hby at_111) (fun _ _ => ⟨rfl, e9, (by decide : 0 + 1 + 1 + 1 + 4 ≤ _), (by decide : 0 + 0 + 0 + 2 + 88 ≤ _)⟩)
    dsimp only [Pt.U, Pt.locs, Pt.cells, Pt.slots] at X19 hS19 hgr19 l19 y19 z19 st19 hQ19
    subst l19 y19 z19
    obtain ⟨rfl, N19q, K19, G19⟩ := hQ19
    have N19 := Fr.app N0 N19q
    have hown : (s.setVm T19.vm).vm.findClass "com/example/net_weight/netweight/core/index/PostingsCollectionFrequencyPinLaw" = some m.cls := by rw [show (s.setVm T19.vm).vm = T19.vm from rfl, hS19.1.alike.findClass]; exact hown
    have hZ : Z.Warmed39 (s.setVm T19.vm).vm := State.Warmed39.trans (t := s) hZ hS19.1
    have If' := If.keepW K19 (ninS ne11 nin0)
    have f20 := Nat.le_trans f12 K19.1
    have f21 := f13.keep K19 (ninS ne10 nin0)
    have f22 := f14.keep K19
    have f23 := f15.keep K19 (ninS ne11 nin0)
    have f24 := f16.keep K19
    have f25 := A9.keep K19
    refine Ends.st (S' := T19.setTop (mkF m 114 #[.val (.int v0), .val (.int v1), .val (.int v2), .val (.int v3), .val (.int v4), .val (.int (0 : Int32)), .val (.int ibase1), .val (.ref b2), .val (.ref b4), .val (.long (0 : Int64)), .second, .unset] [(.ref b9)])) (fun _ k => st19.trans k) ?_
    refine Ends.st (S' := T19.setTop (mkF m 116 #[.val (.int v0), .val (.int v1), .val (.int v2), .val (.int v3), .val (.int v4), .val (.int (0 : Int32)), .val (.int ibase1), .val (.ref b2), .val (.ref b4), .val (.long (0 : Int64)), .second, .val (.ref b9)] [])) (fun _ k => XS.astore X19.here hx rfl (hb hby at_114) rfl rfl (l' := #[.val (.int v0), .val (.int v1), .val (.int v2), .val (.int v3), .val (.int v4), .val (.int (0 : Int32)), .val (.int ibase1), .val (.ref b2), .val (.ref b4), .val (.long (0 : Int64)), .second, .val (.ref b9)]) rfl k) ?_
    refine Ends.st (S' := T19.setTop (mkF m 118 #[.val (.int v0), .val (.int v1), .val (.int v2), .val (.int v3), .val (.int v4), .val (.int (0 : Int32)), .val (.int ibase1), .val (.ref b2), .val (.ref b4), .val (.long (0 : Int64)), .second, .val (.ref b9)] [(.ref b9)])) (fun _ k => XS.aload X19.here hx rfl (hb hby at_116) rfl rfl k) ?_
    obtain ⟨cq26, kq26, q26a, q26b, q26c⟩ := isOf hZ rfl (f25)
    obtain ⟨_, _, ⟨T26, L26, k26, n26⟩, -, X26, ⟨Lc26, hQ26, l26, y26, z26⟩, st26⟩ := X19.virtualBack hx (y := (⟨"com/example/net_weight/netweight/core/index/Postings", "collectionFrequency", "()J"⟩ : MethodName)) (z := (⟨"com/example/net_weight/netweight/core/index/Postings", "collectionFrequency", "()J"⟩ : MethodName)) hown (mvT hZ (hw _ (List.mem_of_getElem? (i := 35) rfl))) (mvT hZ (hw _ (List.mem_of_getElem? (i := 36) rfl))) (notFace_of_selects (args := #[]) (mvT hZ (hw _ (List.mem_of_getElem? (i := 38) rfl)))) (mvT hZ (hw _ (List.mem_of_getElem? (i := 38) rfl))) (mvT hZ (hw _ (List.mem_of_getElem? (i := 37) rfl))) (by decide) (backOf (W := 0) (rm5 l Z a0 hw [] b9 b4 (0 : Int32) (mf v1 v2 v3) 0 T19.heap n0 f20 G19 If' (by decide)) hZ (hw _ (List.mem_of_getElem? (i := 39) rfl)) (hw _ (List.mem_of_getElem? (i := 4) rfl)) (by decide) (by decide)) q26a q26c (g := (mkF m 118 #[.val (.int v0), .val (.int v1), .val (.int v2), .val (.int v3), .val (.int v4), .val (.int (0 : Int32)), .val (.int ibase1), .val (.ref b2), .val (.ref b4), .val (.long (0 : Int64)), .second, .val (.ref b9)] [(.ref b9)])) rfl (by rw [hml]; rfl) (Steps.refl _) (argsL := []) (rest := []) (lenOf pd_3 rfl) rfl (by show 2 * 0 + _ ≤ _; exact Nat.le_of_eq rfl) (hb hby at_118) (fun _ _ => ⟨rfl, rfl, (by decide : 0 + 1 + 1 + 1 + 4 + 0 ≤ _), (by decide : 0 + 0 + 0 + 2 + 88 + 0 ≤ _)⟩)
    dsimp only [Pt.U, Pt.locs, Pt.cells, Pt.slots] at X26 l26 y26 z26 st26 hQ26
    subst l26 y26 z26
    obtain ⟨rfl, N26q, e26⟩ := hQ26
    have N26 := Fr.app N19 N26q
    refine Ends.st (S' := T26.setTop (mkF m 121 #[.val (.int v0), .val (.int v1), .val (.int v2), .val (.int v3), .val (.int v4), .val (.int (0 : Int32)), .val (.int ibase1), .val (.ref b2), .val (.ref b4), .val (.long (0 : Int64)), .second, .val (.ref b9)] [(.long (smf (mf v1 v2 v3) 0 0 0))])) (fun _ k => st26.trans k) ?_
    refine Ends.st (S' := T26.setTop (mkF m 123 #[.val (.int v0), .val (.int v1), .val (.int v2), .val (.int v3), .val (.int v4), .val (.int (0 : Int32)), .val (.int ibase1), .val (.ref b2), .val (.ref b4), .val (.long (0 : Int64)), .second, .val (.ref b9)] [(.long (0 : Int64)), (.long (smf (mf v1 v2 v3) 0 0 0))])) (fun _ k => XS.lload X26.here hx rfl (hb hby at_121) rfl k) ?_
    refine Ends.st (S' := T26.setTop (mkF m 124 #[.val (.int v0), .val (.int v1), .val (.int v2), .val (.int v3), .val (.int v4), .val (.int (0 : Int32)), .val (.int ibase1), .val (.ref b2), .val (.ref b4), .val (.long (0 : Int64)), .second, .val (.ref b9)] [(.int (lcmpW (smf (mf v1 v2 v3) 0 0 0) (0 : Int64)))])) (fun _ k => XS.lcmp X26.here hx rfl (hb hby at_123) rfl k) ?_
    have hb27 : (lcmpW (smf (mf v1 v2 v3) 0 0 0) (0 : Int64)) = (0 : Int32) := by rw [lw_eq]; simp [smf, mf]
    refine Ends.st (S' := T26.setTop (mkF m 127 #[.val (.int v0), .val (.int v1), .val (.int v2), .val (.int v3), .val (.int v4), .val (.int (0 : Int32)), .val (.int ibase1), .val (.ref b2), .val (.ref b4), .val (.long (0 : Int64)), .second, .val (.ref b9)] [])) (fun _ k => XS.ifNo X26.here hx rfl (hb hby at_124) rfl ((if0 _ _).trans (teq hb27).2) k) ?_
    refine Ends.st (S' := T26.setTop (mkF m 128 #[.val (.int v0), .val (.int v1), .val (.int v2), .val (.int v3), .val (.int v4), .val (.int (0 : Int32)), .val (.int ibase1), .val (.ref b2), .val (.ref b4), .val (.long (0 : Int64)), .second, .val (.ref b9)] [(.int (1 : Int32))])) (fun _ k => XS.iconst X26.here hx rfl (hb hby at_127) k) ?_
    refine Ends.st (S' := T26.setTop (mkF m 132 #[.val (.int v0), .val (.int v1), .val (.int v2), .val (.int v3), .val (.int v4), .val (.int (0 : Int32)), .val (.int ibase1), .val (.ref b2), .val (.ref b4), .val (.long (0 : Int64)), .second, .val (.ref b9)] [(.int (1 : Int32))])) (fun _ k => XS.goto X26.here hx rfl (pc0 := 128) (pc' := 132) rfl (hb hby at_128) (by decide) (by decide) k) ?_
    obtain ⟨fs, hr, hrun, hended, hRW⟩ := X26.leaveW hS19 (by rw [e26]; exact (Nat.le_refl _)) (v := some (.int (1 : Int32))) (fun h => by rw [Bd.returns] at h; cases h)
    exact ⟨_, _, retN X26 hx (t := .boolean) Bd.returns (by simp) (hb hby at_132) hr, hrun, hended, _, _, rfl, (by show Q0 Z  h0 n0 _ T26.heap _; rw [e26]; exact ⟨rfl, N26⟩), hRW.1, hRW.2.1, hRW.2.2.1, hRW.2.2.2.mono (by decide) (by decide)⟩
  · rw [hn]
    refine Ends.st (S' := s₁.setTop (mkF m 7 #[.val (.int v0), .val (.int v1), .val (.int v2), .val (.int v3), .val (.int v4), .val (.int (1 : Int32)), .unset, .unset, .unset, .unset, .unset, .unset] [(.int v4)])) (fun _ k => XS.iload X0.here hx rfl (hb hby at_5) rfl k) ?_
    refine Ends.st (S' := s₁.setTop (mkF m 9 #[.val (.int v0), .val (.int v1), .val (.int v2), .val (.int v3), .val (.int v4), .val (.int (1 : Int32)), .unset, .unset, .unset, .unset, .unset, .unset] [(.int (1073741823 : Int32)), (.int v4)])) (fun _ k => X0.ldcInt hx hown (mvT hZ (hw _ (List.mem_of_getElem? (i := 0) rfl))) (g := (mkF m 7 #[.val (.int v0), .val (.int v1), .val (.int v2), .val (.int v3), .val (.int v4), .val (.int (1 : Int32)), .unset, .unset, .unset, .unset, .unset, .unset] [(.int v4)])) rfl (hb hby at_7) _ k) ?_
    refine Ends.st (S' := s₁.setTop (mkF m 10 #[.val (.int v0), .val (.int v1), .val (.int v2), .val (.int v3), .val (.int v4), .val (.int (1 : Int32)), .unset, .unset, .unset, .unset, .unset, .unset] [(.int (v4 &&& (1073741823 : Int32)))])) (fun _ k => XS.iand X0.here hx rfl (hb hby at_9) rfl k) ?_
    refine Ends.st (S' := s₁.setTop (mkF m 12 #[.val (.int v0), .val (.int v1), .val (.int v2), .val (.int v3), .val (.int v4), .val (.int (1 : Int32)), .val (.int (v4 &&& (1073741823 : Int32))), .unset, .unset, .unset, .unset, .unset] [])) (fun _ k => XS.istore X0.here hx rfl (hb hby at_10) rfl (l' := #[.val (.int v0), .val (.int v1), .val (.int v2), .val (.int v3), .val (.int v4), .val (.int (1 : Int32)), .val (.int (v4 &&& (1073741823 : Int32))), .unset, .unset, .unset, .unset, .unset]) rfl k) ?_
    obtain ⟨ibase28, hibase28⟩ : ∃ z, z = (v4 &&& (1073741823 : Int32)) := ⟨_, rfl⟩
    rw [← hibase28]
    refine Ends.st (S' := s₁.setTop (mkF m 14 #[.val (.int v0), .val (.int v1), .val (.int v2), .val (.int v3), .val (.int v4), .val (.int (1 : Int32)), .val (.int ibase28), .unset, .unset, .unset, .unset, .unset] [(.int (1 : Int32))])) (fun _ k => XS.iload X0.here hx rfl (hb hby at_12) rfl k) ?_
    obtain ⟨T29, h29, k29, X29, e29, E29, A29, B29, st29⟩ := newPE X0 hx hZ (hw _ (List.mem_of_getElem? (i := 1) rfl)) e0 (g := (mkF m 14 #[.val (.int v0), .val (.int v1), .val (.int v2), .val (.int v3), .val (.int v4), .val (.int (1 : Int32)), .val (.int ibase28), .unset, .unset, .unset, .unset, .unset] [(.int (1 : Int32))])) rfl (hb hby at_14) rfl (by decide) (cap := 1) (by decide) (by decide) (by decide) (by decide) (ad := "[I") (by decide)
    obtain ⟨b29, g29⟩ : ∃ z, z = h0.size := ⟨_, rfl⟩
    rw [← g29] at A29 B29 st29
    have g_b29 : n0 ≤ b29 := Nat.le_trans Z0 (Nat.le_of_eq g29.symm)
    have f30 := Nat.le_trans Z0 E29.1
    have V29 : Arv Z h29 b29 k29 .int (1 : Int32) [] (.int (0 : Int32)) := Arv.new A29 (by decide)
    refine Ends.st (S' := T29.setTop (mkF m 16 #[.val (.int v0), .val (.int v1), .val (.int v2), .val (.int v3), .val (.int v4), .val (.int (1 : Int32)), .val (.int ibase28), .unset, .unset, .unset, .unset, .unset] [(.ref b29)])) (fun _ k => st29 _ k) ?_
    refine Ends.st (S' := T29.setTop (mkF m 18 #[.val (.int v0), .val (.int v1), .val (.int v2), .val (.int v3), .val (.int v4), .val (.int (1 : Int32)), .val (.int ibase28), .val (.ref b29), .unset, .unset, .unset, .unset] [])) (fun _ k => XS.astore X29.here hx rfl (hb hby at_16) rfl rfl (l' := #[.val (.int v0), .val (.int v1), .val (.int v2), .val (.int v3), .val (.int v4), .val (.int (1 : Int32)), .val (.int ibase28), .val (.ref b29), .unset, .unset, .unset, .unset]) rfl k) ?_
    refine Ends.st (S' := T29.setTop (mkF m 20 #[.val (.int v0), .val (.int v1), .val (.int v2), .val (.int v3), .val (.int v4), .val (.int (1 : Int32)), .val (.int ibase28), .val (.ref b29), .unset, .unset, .unset, .unset] [(.int (1 : Int32))])) (fun _ k => XS.iload X29.here hx rfl (hb hby at_18) rfl k) ?_
    obtain ⟨T31, h31, k31, X31, e31, E31, A31, B31, st31⟩ := newPE X29 hx hZ (hw _ (List.mem_of_getElem? (i := 1) rfl)) e29 (g := (mkF m 20 #[.val (.int v0), .val (.int v1), .val (.int v2), .val (.int v3), .val (.int v4), .val (.int (1 : Int32)), .val (.int ibase28), .val (.ref b29), .unset, .unset, .unset, .unset] [(.int (1 : Int32))])) rfl (hb hby at_20) rfl (by decide) (cap := 1) (by decide) (by decide) (by decide) (by decide) (ad := "[I") (by decide)
    obtain ⟨b31, g31⟩ : ∃ z, z = h29.size := ⟨_, rfl⟩
    rw [← g31] at A31 B31 st31
    have ne32 : b29 ≠ b31 := Nat.ne_of_lt (Nat.lt_of_lt_of_le V29.lt (Nat.le_of_eq g31.symm))
    have g_b31 : n0 ≤ b31 := Nat.le_trans f30 (Nat.le_of_eq g31.symm)
    have f33 := Nat.le_trans f30 E31.1
    have f34 := V29.ext E31
    have f35 := B29.ext E31
    have V31 : Arv Z h31 b31 k31 .int (1 : Int32) [] (.int (0 : Int32)) := Arv.new A31 (by decide)
    refine Ends.st (S' := T31.setTop (mkF m 22 #[.val (.int v0), .val (.int v1), .val (.int v2), .val (.int v3), .val (.int v4), .val (.int (1 : Int32)), .val (.int ibase28), .val (.ref b29), .unset, .unset, .unset, .unset] [(.ref b31)])) (fun _ k => st31 _ k) ?_
    refine Ends.st (S' := T31.setTop (mkF m 24 #[.val (.int v0), .val (.int v1), .val (.int v2), .val (.int v3), .val (.int v4), .val (.int (1 : Int32)), .val (.int ibase28), .val (.ref b29), .val (.ref b31), .unset, .unset, .unset] [])) (fun _ k => XS.astore X31.here hx rfl (hb hby at_22) rfl rfl (l' := #[.val (.int v0), .val (.int v1), .val (.int v2), .val (.int v3), .val (.int v4), .val (.int (1 : Int32)), .val (.int ibase28), .val (.ref b29), .val (.ref b31), .unset, .unset, .unset]) rfl k) ?_
    refine Ends.st (S' := T31.setTop (mkF m 25 #[.val (.int v0), .val (.int v1), .val (.int v2), .val (.int v3), .val (.int v4), .val (.int (1 : Int32)), .val (.int ibase28), .val (.ref b29), .val (.ref b31), .unset, .unset, .unset] [(.long (0 : Int64))])) (fun _ k => XS.lconst X31.here hx rfl (hb hby at_24) k) ?_
    refine Ends.st (S' := T31.setTop (mkF m 27 #[.val (.int v0), .val (.int v1), .val (.int v2), .val (.int v3), .val (.int v4), .val (.int (1 : Int32)), .val (.int ibase28), .val (.ref b29), .val (.ref b31), .val (.long (0 : Int64)), .second, .unset] [])) (fun _ k => XS.lstore X31.here hx rfl (hb hby at_25) rfl (l' := #[.val (.int v0), .val (.int v1), .val (.int v2), .val (.int v3), .val (.int v4), .val (.int (1 : Int32)), .val (.int ibase28), .val (.ref b29), .val (.ref b31), .val (.long (0 : Int64)), .second, .unset]) rfl k) ?_
    refine Ends.st (S' := T31.setTop (mkF m 29 #[.val (.int v0), .val (.int v1), .val (.int v2), .val (.int v3), .val (.int v4), .val (.int (1 : Int32)), .val (.int ibase28), .val (.ref b29), .val (.ref b31), .val (.long (0 : Int64)), .second, .unset] [(.int (1 : Int32))])) (fun _ k => XS.iload X31.here hx rfl (hb hby at_27) rfl k) ?_
    refine Ends.st (S' := T31.setTop (mkF m 30 #[.val (.int v0), .val (.int v1), .val (.int v2), .val (.int v3), .val (.int v4), .val (.int (1 : Int32)), .val (.int ibase28), .val (.ref b29), .val (.ref b31), .val (.long (0 : Int64)), .second, .unset] [(.int (1 : Int32)), (.int (1 : Int32))])) (fun _ k => XS.iconst X31.here hx rfl (hb hby at_29) k) ?_
    refine Ends.st (S' := T31.setTop (mkF m 33 #[.val (.int v0), .val (.int v1), .val (.int v2), .val (.int v3), .val (.int v4), .val (.int (1 : Int32)), .val (.int ibase28), .val (.ref b29), .val (.ref b31), .val (.long (0 : Int64)), .second, .unset] [])) (fun _ k => XS.icmpNo X31.here hx rfl (hb hby at_30) rfl (flt (by decide : ¬ ((1 : Int32) < (1 : Int32)))).1 k) ?_
    refine Ends.st (S' := T31.setTop (mkF m 35 #[.val (.int v0), .val (.int v1), .val (.int v2), .val (.int v3), .val (.int v4), .val (.int (1 : Int32)), .val (.int ibase28), .val (.ref b29), .val (.ref b31), .val (.long (0 : Int64)), .second, .unset] [(.ref b29)])) (fun _ k => XS.aload X31.here hx rfl (hb hby at_33) rfl rfl k) ?_
    refine Ends.st (S' := T31.setTop (mkF m 36 #[.val (.int v0), .val (.int v1), .val (.int v2), .val (.int v3), .val (.int v4), .val (.int (1 : Int32)), .val (.int ibase28), .val (.ref b29), .val (.ref b31), .val (.long (0 : Int64)), .second, .unset] [(.int (0 : Int32)), (.ref b29)])) (fun _ k => XS.iconst X31.here hx rfl (hb hby at_35) k) ?_
    refine Ends.st (S' := T31.setTop (mkF m 38 #[.val (.int v0), .val (.int v1), .val (.int v2), .val (.int v3), .val (.int v4), .val (.int (1 : Int32)), .val (.int ibase28), .val (.ref b29), .val (.ref b31), .val (.long (0 : Int64)), .second, .unset] [(.int ibase28), (.int (0 : Int32)), (.ref b29)])) (fun _ k => XS.iload X31.here hx rfl (hb hby at_36) rfl k) ?_
    have Vp36 : Arv Z h31 b29 k29 .int (1 : Int32) [(.int (0 : Int32))] (.int (0 : Int32)) := (f34).pad (pad_rep [] (.int (0 : Int32)) 1)
    obtain ⟨cl36, Ar36, q36, S36, M36, H36, G36⟩ := Vp36
    have hin36 : ¬ ((0 : Int32) < 0 ∨ cl36.slots.size ≤ ((0 : Int32)).toNatClampNeg) := inb_of S36 ⟨by decide, by decide⟩
    obtain ⟨T36, h36, X36, e36, W36, st36⟩ := stI X31 hx hZ e31 Ar36 (j := (0 : Int32)) hin36 (g := (mkF m 38 #[.val (.int v0), .val (.int v1), .val (.int v2), .val (.int v3), .val (.int v4), .val (.int (1 : Int32)), .val (.int ibase28), .val (.ref b29), .val (.ref b31), .val (.long (0 : Int64)), .second, .unset] [(.int ibase28), (.int (0 : Int32)), (.ref b29)])) rfl rfl (hb hby at_38)
    have f37 := Nat.le_trans f33 (Keep.of_wr W36).1
    have f38 := f35.wr W36
    have f39 := V31.other W36 (Ne.symm ne32)
    have f40 := B31.wr W36
    have V36 : Arv Z h36 b29 k29 .int (1 : Int32) [(.int ibase28)] (.int (0 : Int32)) := Arv.set Ar36 q36 S36 M36 H36 G36 rfl W36 0 rfl (Nat.le_of_ble_eq_true rfl)
    have N36 := Fr.snoc X36 N0 g_b29
    refine Ends.st (S' := T36.setTop (mkF m 39 #[.val (.int v0), .val (.int v1), .val (.int v2), .val (.int v3), .val (.int v4), .val (.int (1 : Int32)), .val (.int ibase28), .val (.ref b29), .val (.ref b31), .val (.long (0 : Int64)), .second, .unset] [])) (fun _ k => st36 _ k) ?_
    refine Ends.st (S' := T36.setTop (mkF m 41 #[.val (.int v0), .val (.int v1), .val (.int v2), .val (.int v3), .val (.int v4), .val (.int (1 : Int32)), .val (.int ibase28), .val (.ref b29), .val (.ref b31), .val (.long (0 : Int64)), .second, .unset] [(.ref b31)])) (fun _ k => XS.aload X36.here hx rfl (hb hby at_39) rfl rfl k) ?_
    refine Ends.st (S' := T36.setTop (mkF m 42 #[.val (.int v0), .val (.int v1), .val (.int v2), .val (.int v3), .val (.int v4), .val (.int (1 : Int32)), .val (.int ibase28), .val (.ref b29), .val (.ref b31), .val (.long (0 : Int64)), .second, .unset] [(.int (0 : Int32)), (.ref b31)])) (fun _ k => XS.iconst X36.here hx rfl (hb hby at_41) k) ?_
    refine Ends.st (S' := T36.setTop (mkF m 43 #[.val (.int v0), .val (.int v1), .val (.int v2), .val (.int v3), .val (.int v4), .val (.int (1 : Int32)), .val (.int ibase28), .val (.ref b29), .val (.ref b31), .val (.long (0 : Int64)), .second, .unset] [(.int v1), (.int (0 : Int32)), (.ref b31)])) (fun _ k => XS.iloadN X36.here hx rfl (hb hby at_42) rfl k) ?_
    have Vp41 : Arv Z h36 b31 k31 .int (1 : Int32) [(.int (0 : Int32))] (.int (0 : Int32)) := (f39).pad (pad_rep [] (.int (0 : Int32)) 1)
    obtain ⟨cl41, Ar41, q41, S41, M41, H41, G41⟩ := Vp41
    have hin41 : ¬ ((0 : Int32) < 0 ∨ cl41.slots.size ≤ ((0 : Int32)).toNatClampNeg) := inb_of S41 ⟨by decide, by decide⟩
    obtain ⟨T41, h41, X41, e41, W41, st41⟩ := stI X36 hx hZ e36 Ar41 (j := (0 : Int32)) hin41 (g := (mkF m 43 #[.val (.int v0), .val (.int v1), .val (.int v2), .val (.int v3), .val (.int v4), .val (.int (1 : Int32)), .val (.int ibase28), .val (.ref b29), .val (.ref b31), .val (.long (0 : Int64)), .second, .unset] [(.int v1), (.int (0 : Int32)), (.ref b31)])) rfl rfl (hb hby at_43)
    have f42 := Nat.le_trans f37 (Keep.of_wr W41).1
    have f43 := f38.wr W41
    have f44 := f40.wr W41
    have f45 := V36.other W41 ne32
    have V41 : Arv Z h41 b31 k31 .int (1 : Int32) [(.int v1)] (.int (0 : Int32)) := Arv.set Ar41 q41 S41 M41 H41 G41 rfl W41 0 rfl (Nat.le_of_ble_eq_true rfl)
    have N41 := Fr.snoc X41 N36 g_b31
    refine Ends.st (S' := T41.setTop (mkF m 44 #[.val (.int v0), .val (.int v1), .val (.int v2), .val (.int v3), .val (.int v4), .val (.int (1 : Int32)), .val (.int ibase28), .val (.ref b29), .val (.ref b31), .val (.long (0 : Int64)), .second, .unset] [])) (fun _ k => st41 _ k) ?_
    refine Ends.st (S' := T41.setTop (mkF m 46 #[.val (.int v0), .val (.int v1), .val (.int v2), .val (.int v3), .val (.int v4), .val (.int (1 : Int32)), .val (.int ibase28), .val (.ref b29), .val (.ref b31), .val (.long (0 : Int64)), .second, .unset] [(.long (0 : Int64))])) (fun _ k => XS.lload X41.here hx rfl (hb hby at_44) rfl k) ?_
    refine Ends.st (S' := T41.setTop (mkF m 47 #[.val (.int v0), .val (.int v1), .val (.int v2), .val (.int v3), .val (.int v4), .val (.int (1 : Int32)), .val (.int ibase28), .val (.ref b29), .val (.ref b31), .val (.long (0 : Int64)), .second, .unset] [(.int v1), (.long (0 : Int64))])) (fun _ k => XS.iloadN X41.here hx rfl (hb hby at_46) rfl k) ?_
    refine Ends.st (S' := T41.setTop (mkF m 48 #[.val (.int v0), .val (.int v1), .val (.int v2), .val (.int v3), .val (.int v4), .val (.int (1 : Int32)), .val (.int ibase28), .val (.ref b29), .val (.ref b31), .val (.long (0 : Int64)), .second, .unset] [(.long (v1.toInt64)), (.long (0 : Int64))])) (fun _ k => XS.i2l X41.here hx rfl (hb hby at_47) rfl k) ?_
    refine Ends.st (S' := T41.setTop (mkF m 49 #[.val (.int v0), .val (.int v1), .val (.int v2), .val (.int v3), .val (.int v4), .val (.int (1 : Int32)), .val (.int ibase28), .val (.ref b29), .val (.ref b31), .val (.long (0 : Int64)), .second, .unset] [(.long ((0 : Int64) + (v1.toInt64)))])) (fun _ k => XS.ladd X41.here hx rfl (hb hby at_48) rfl k) ?_
    refine Ends.st (S' := T41.setTop (mkF m 51 #[.val (.int v0), .val (.int v1), .val (.int v2), .val (.int v3), .val (.int v4), .val (.int (1 : Int32)), .val (.int ibase28), .val (.ref b29), .val (.ref b31), .val (.long ((0 : Int64) + (v1.toInt64))), .second, .unset] [])) (fun _ k => XS.lstore X41.here hx rfl (hb hby at_49) rfl (l' := #[.val (.int v0), .val (.int v1), .val (.int v2), .val (.int v3), .val (.int v4), .val (.int (1 : Int32)), .val (.int ibase28), .val (.ref b29), .val (.ref b31), .val (.long ((0 : Int64) + (v1.toInt64))), .second, .unset]) rfl k) ?_
    refine Ends.st (S' := T41.setTop (mkF m 53 #[.val (.int v0), .val (.int v1), .val (.int v2), .val (.int v3), .val (.int v4), .val (.int (1 : Int32)), .val (.int ibase28), .val (.ref b29), .val (.ref b31), .val (.long ((0 : Int64) + (v1.toInt64))), .second, .unset] [(.int (1 : Int32))])) (fun _ k => XS.iload X41.here hx rfl (hb hby at_51) rfl k) ?_
    refine Ends.st (S' := T41.setTop (mkF m 54 #[.val (.int v0), .val (.int v1), .val (.int v2), .val (.int v3), .val (.int v4), .val (.int (1 : Int32)), .val (.int ibase28), .val (.ref b29), .val (.ref b31), .val (.long ((0 : Int64) + (v1.toInt64))), .second, .unset] [(.int (2 : Int32)), (.int (1 : Int32))])) (fun _ k => XS.iconst X41.here hx rfl (hb hby at_53) k) ?_
    refine Ends.st (S' := T41.setTop (mkF m 77 #[.val (.int v0), .val (.int v1), .val (.int v2), .val (.int v3), .val (.int v4), .val (.int (1 : Int32)), .val (.int ibase28), .val (.ref b29), .val (.ref b31), .val (.long ((0 : Int64) + (v1.toInt64))), .second, .unset] [])) (fun _ k => XS.icmpYes X41.here hx rfl (pc0 := 54) (pc' := 77) rfl (hb hby at_54) rfl (tlt (by decide : (1 : Int32) < (2 : Int32))).1 (by decide) (by decide) k) ?_
    refine Ends.st (S' := T41.setTop (mkF m 79 #[.val (.int v0), .val (.int v1), .val (.int v2), .val (.int v3), .val (.int v4), .val (.int (1 : Int32)), .val (.int ibase28), .val (.ref b29), .val (.ref b31), .val (.long ((0 : Int64) + (v1.toInt64))), .second, .unset] [(.int (1 : Int32))])) (fun _ k => XS.iload X41.here hx rfl (hb hby at_77) rfl k) ?_
    refine Ends.st (S' := T41.setTop (mkF m 80 #[.val (.int v0), .val (.int v1), .val (.int v2), .val (.int v3), .val (.int v4), .val (.int (1 : Int32)), .val (.int ibase28), .val (.ref b29), .val (.ref b31), .val (.long ((0 : Int64) + (v1.toInt64))), .second, .unset] [(.int (3 : Int32)), (.int (1 : Int32))])) (fun _ k => XS.iconst X41.here hx rfl (hb hby at_79) k) ?_
    refine Ends.st (S' := T41.setTop (mkF m 103 #[.val (.int v0), .val (.int v1), .val (.int v2), .val (.int v3), .val (.int v4), .val (.int (1 : Int32)), .val (.int ibase28), .val (.ref b29), .val (.ref b31), .val (.long ((0 : Int64) + (v1.toInt64))), .second, .unset] [])) (fun _ k => XS.icmpYes X41.here hx rfl (pc0 := 80) (pc' := 103) rfl (hb hby at_80) rfl (tlt (by decide : (1 : Int32) < (3 : Int32))).1 (by decide) (by decide) k) ?_
    obtain ⟨T46, h46, X46, e46, E46, A46, D46, -, st46⟩ := newO X41 hx hZ hown (hw _ (List.mem_of_getElem? (i := 2) rfl)) (hw _ (List.mem_of_getElem? (i := 3) rfl)) (hw _ (List.mem_of_getElem? (i := 4) rfl)) e41 (g := (mkF m 103 #[.val (.int v0), .val (.int v1), .val (.int v2), .val (.int v3), .val (.int v4), .val (.int (1 : Int32)), .val (.int ibase28), .val (.ref b29), .val (.ref b31), .val (.long ((0 : Int64) + (v1.toInt64))), .second, .unset] [])) rfl (hb hby at_103) (by decide) (by decide)
    obtain ⟨b46, g46⟩ : ∃ z, z = h41.size := ⟨_, rfl⟩
    rw [← g46] at A46 D46 st46
    have ne47 : b29 ≠ b46 := Nat.ne_of_lt (Nat.lt_of_lt_of_le f43.lt (Nat.le_of_eq g46.symm))
    have ne48 : b31 ≠ b46 := Nat.ne_of_lt (Nat.lt_of_lt_of_le f44.lt (Nat.le_of_eq g46.symm))
    have g_b46 : n0 ≤ b46 := Nat.le_trans f42 (Nat.le_of_eq g46.symm)
    have f49 := Nat.le_trans f42 E46.1
    have f50 := f43.ext E46
    have f51 := f44.ext E46
    have f52 := f45.ext E46
    have f53 := V41.ext E46
    have F54 : Fld Z h46 b46 "com/example/net_weight/netweight/core/index/Postings" "documents" "[I" .null := D46 (Or.inr (hw _ (List.mem_of_getElem? (i := 32) rfl))) (ty := (.array .int)) (by decide)
    have F55 : Fld Z h46 b46 "com/example/net_weight/netweight/core/index/Postings" "frequencies" "[I" .null := D46 (Or.inr (hw _ (List.mem_of_getElem? (i := 34) rfl))) (ty := (.array .int)) (by decide)
    refine Ends.st (S' := T46.setTop (mkF m 106 #[.val (.int v0), .val (.int v1), .val (.int v2), .val (.int v3), .val (.int v4), .val (.int (1 : Int32)), .val (.int ibase28), .val (.ref b29), .val (.ref b31), .val (.long ((0 : Int64) + (v1.toInt64))), .second, .unset] [(.ref b46)])) (fun _ k => st46 _ k) ?_
    refine Ends.st (S' := T46.setTop (mkF m 107 #[.val (.int v0), .val (.int v1), .val (.int v2), .val (.int v3), .val (.int v4), .val (.int (1 : Int32)), .val (.int ibase28), .val (.ref b29), .val (.ref b31), .val (.long ((0 : Int64) + (v1.toInt64))), .second, .unset] [(.ref b46), (.ref b46)])) (fun _ k => XS.dup X46.here hx rfl (hb hby at_106) rfl rfl k) ?_
    refine Ends.st (S' := T46.setTop (mkF m 109 #[.val (.int v0), .val (.int v1), .val (.int v2), .val (.int v3), .val (.int v4), .val (.int (1 : Int32)), .val (.int ibase28), .val (.ref b29), .val (.ref b31), .val (.long ((0 : Int64) + (v1.toInt64))), .second, .unset] [(.ref b29), (.ref b46), (.ref b46)])) (fun _ k => XS.aload X46.here hx rfl (hb hby at_107) rfl rfl k) ?_
    refine Ends.st (S' := T46.setTop (mkF m 111 #[.val (.int v0), .val (.int v1), .val (.int v2), .val (.int v3), .val (.int v4), .val (.int (1 : Int32)), .val (.int ibase28), .val (.ref b29), .val (.ref b31), .val (.long ((0 : Int64) + (v1.toInt64))), .second, .unset] [(.ref b31), (.ref b29), (.ref b46), (.ref b46)])) (fun _ k => XS.aload X46.here hx rfl (hb hby at_109) rfl rfl k) ?_
    have Id := own_intA f52 (own_vs1 ibase28 0 0)
    have If := own_intA f53 (own_vs1 v1 v2 v3)
    obtain ⟨_, _, ⟨T56, L56, k56, n56⟩, -, X56, hS56, hgr56, ⟨Lc56, hQ56, l56, y56, z56⟩, st56⟩ := X46.specialBackS hx (y := (⟨"com/example/net_weight/netweight/core/index/Postings", "<init>", "([I[I)V"⟩ : MethodName)) rfl hown (mvT hZ (hw _ (List.mem_of_getElem? (i := 5) rfl))) (mvT hZ (hw _ (List.mem_of_getElem? (i := 6) rfl))) (mvT hZ (hw _ (List.mem_of_getElem? (i := 7) rfl))) (by decide) (backOfS (W := 1) (rm1 l Z a0 hw [] b46 b29 b31 (1 : Int32) _ _ h46 n0 f49 A46 F54 F55 g_b46 f50 f51 Id If ne47 ne48) hZ (hw _ (List.mem_of_getElem? (i := 7) rfl)) (hw _ (List.mem_of_getElem? (i := 4) rfl)) (by decide) (by decide)) (g := (mkF m 111 #[.val (.int v0), .val (.int v1), .val (.int v2), .val (.int v3), .val (.int v4), .val (.int (1 : Int32)), .val (.int ibase28), .val (.ref b29), .val (.ref b31), .val (.long ((0 : Int64) + (v1.toInt64))), .second, .unset] [(.ref b31), (.ref b29), (.ref b46), (.ref b46)])) rfl (by rw [hml]; rfl) (Steps.refl _) (a := b46) (argsL := [(.ref b29), (.ref b31)]) (rest := [(.ref b46)]) (lenOf pd_2 rfl) rfl (by show 2 * 0 + _ ≤ _; exact Nat.le_of_eq rfl) (hb hby at_111) (fun _ _ => ⟨rfl, e46, (by decide : 0 + 1 + 1 + 1 + 4 ≤ _), (by decide : 0 + 1 + 1 + 2 + 88 ≤ _)⟩)
    dsimp only [Pt.U, Pt.locs, Pt.cells, Pt.slots] at X56 hS56 hgr56 l56 y56 z56 st56 hQ56
    subst l56 y56 z56
    obtain ⟨rfl, N56q, K56, G56⟩ := hQ56
    have N56 := Fr.app N41 N56q
    have hown : (s.setVm T56.vm).vm.findClass "com/example/net_weight/netweight/core/index/PostingsCollectionFrequencyPinLaw" = some m.cls := by rw [show (s.setVm T56.vm).vm = T56.vm from rfl, hS56.1.alike.findClass]; exact hown
    have hZ : Z.Warmed39 (s.setVm T56.vm).vm := State.Warmed39.trans (t := s) hZ hS56.1
    have If' := If.keepW K56 (ninS ne48 nin0)
    have f57 := Nat.le_trans f49 K56.1
    have f58 := f50.keep K56
    have f59 := f51.keep K56
    have f60 := f52.keep K56 (ninS ne47 nin0)
    have f61 := f53.keep K56 (ninS ne48 nin0)
    have f62 := A46.keep K56
    refine Ends.st (S' := T56.setTop (mkF m 114 #[.val (.int v0), .val (.int v1), .val (.int v2), .val (.int v3), .val (.int v4), .val (.int (1 : Int32)), .val (.int ibase28), .val (.ref b29), .val (.ref b31), .val (.long ((0 : Int64) + (v1.toInt64))), .second, .unset] [(.ref b46)])) (fun _ k => st56.trans k) ?_
    refine Ends.st (S' := T56.setTop (mkF m 116 #[.val (.int v0), .val (.int v1), .val (.int v2), .val (.int v3), .val (.int v4), .val (.int (1 : Int32)), .val (.int ibase28), .val (.ref b29), .val (.ref b31), .val (.long ((0 : Int64) + (v1.toInt64))), .second, .val (.ref b46)] [])) (fun _ k => XS.astore X56.here hx rfl (hb hby at_114) rfl rfl (l' := #[.val (.int v0), .val (.int v1), .val (.int v2), .val (.int v3), .val (.int v4), .val (.int (1 : Int32)), .val (.int ibase28), .val (.ref b29), .val (.ref b31), .val (.long ((0 : Int64) + (v1.toInt64))), .second, .val (.ref b46)]) rfl k) ?_
    refine Ends.st (S' := T56.setTop (mkF m 118 #[.val (.int v0), .val (.int v1), .val (.int v2), .val (.int v3), .val (.int v4), .val (.int (1 : Int32)), .val (.int ibase28), .val (.ref b29), .val (.ref b31), .val (.long ((0 : Int64) + (v1.toInt64))), .second, .val (.ref b46)] [(.ref b46)])) (fun _ k => XS.aload X56.here hx rfl (hb hby at_116) rfl rfl k) ?_
    obtain ⟨cq63, kq63, q63a, q63b, q63c⟩ := isOf hZ rfl (f62)
    obtain ⟨_, _, ⟨T63, L63, k63, n63⟩, -, X63, ⟨Lc63, hQ63, l63, y63, z63⟩, st63⟩ := X56.virtualBack hx (y := (⟨"com/example/net_weight/netweight/core/index/Postings", "collectionFrequency", "()J"⟩ : MethodName)) (z := (⟨"com/example/net_weight/netweight/core/index/Postings", "collectionFrequency", "()J"⟩ : MethodName)) hown (mvT hZ (hw _ (List.mem_of_getElem? (i := 35) rfl))) (mvT hZ (hw _ (List.mem_of_getElem? (i := 36) rfl))) (notFace_of_selects (args := #[]) (mvT hZ (hw _ (List.mem_of_getElem? (i := 38) rfl)))) (mvT hZ (hw _ (List.mem_of_getElem? (i := 38) rfl))) (mvT hZ (hw _ (List.mem_of_getElem? (i := 37) rfl))) (by decide) (backOf (W := 0) (rm5 l Z a0 hw [] b46 b31 (1 : Int32) (mf v1 v2 v3) 1 T56.heap n0 f57 G56 If' (by decide)) hZ (hw _ (List.mem_of_getElem? (i := 39) rfl)) (hw _ (List.mem_of_getElem? (i := 4) rfl)) (by decide) (by decide)) q63a q63c (g := (mkF m 118 #[.val (.int v0), .val (.int v1), .val (.int v2), .val (.int v3), .val (.int v4), .val (.int (1 : Int32)), .val (.int ibase28), .val (.ref b29), .val (.ref b31), .val (.long ((0 : Int64) + (v1.toInt64))), .second, .val (.ref b46)] [(.ref b46)])) rfl (by rw [hml]; rfl) (Steps.refl _) (argsL := []) (rest := []) (lenOf pd_3 rfl) rfl (by show 2 * 0 + _ ≤ _; exact Nat.le_of_eq rfl) (hb hby at_118) (fun _ _ => ⟨rfl, rfl, (by decide : 0 + 1 + 1 + 1 + 4 + 0 ≤ _), (by decide : 0 + 1 + 1 + 2 + 88 + 0 ≤ _)⟩)
    dsimp only [Pt.U, Pt.locs, Pt.cells, Pt.slots] at X63 l63 y63 z63 st63 hQ63
    subst l63 y63 z63
    obtain ⟨rfl, N63q, e63⟩ := hQ63
    have N63 := Fr.app N56 N63q
    refine Ends.st (S' := T63.setTop (mkF m 121 #[.val (.int v0), .val (.int v1), .val (.int v2), .val (.int v3), .val (.int v4), .val (.int (1 : Int32)), .val (.int ibase28), .val (.ref b29), .val (.ref b31), .val (.long ((0 : Int64) + (v1.toInt64))), .second, .val (.ref b46)] [(.long (smf (mf v1 v2 v3) 1 0 0))])) (fun _ k => st63.trans k) ?_
    refine Ends.st (S' := T63.setTop (mkF m 123 #[.val (.int v0), .val (.int v1), .val (.int v2), .val (.int v3), .val (.int v4), .val (.int (1 : Int32)), .val (.int ibase28), .val (.ref b29), .val (.ref b31), .val (.long ((0 : Int64) + (v1.toInt64))), .second, .val (.ref b46)] [(.long ((0 : Int64) + (v1.toInt64))), (.long (smf (mf v1 v2 v3) 1 0 0))])) (fun _ k => XS.lload X63.here hx rfl (hb hby at_121) rfl k) ?_
    refine Ends.st (S' := T63.setTop (mkF m 124 #[.val (.int v0), .val (.int v1), .val (.int v2), .val (.int v3), .val (.int v4), .val (.int (1 : Int32)), .val (.int ibase28), .val (.ref b29), .val (.ref b31), .val (.long ((0 : Int64) + (v1.toInt64))), .second, .val (.ref b46)] [(.int (lcmpW (smf (mf v1 v2 v3) 1 0 0) ((0 : Int64) + (v1.toInt64))))])) (fun _ k => XS.lcmp X63.here hx rfl (hb hby at_123) rfl k) ?_
    have hb64 : (lcmpW (smf (mf v1 v2 v3) 1 0 0) ((0 : Int64) + (v1.toInt64))) = (0 : Int32) := by rw [lw_eq]; simp [smf, mf]
    refine Ends.st (S' := T63.setTop (mkF m 127 #[.val (.int v0), .val (.int v1), .val (.int v2), .val (.int v3), .val (.int v4), .val (.int (1 : Int32)), .val (.int ibase28), .val (.ref b29), .val (.ref b31), .val (.long ((0 : Int64) + (v1.toInt64))), .second, .val (.ref b46)] [])) (fun _ k => XS.ifNo X63.here hx rfl (hb hby at_124) rfl ((if0 _ _).trans (teq hb64).2) k) ?_
    refine Ends.st (S' := T63.setTop (mkF m 128 #[.val (.int v0), .val (.int v1), .val (.int v2), .val (.int v3), .val (.int v4), .val (.int (1 : Int32)), .val (.int ibase28), .val (.ref b29), .val (.ref b31), .val (.long ((0 : Int64) + (v1.toInt64))), .second, .val (.ref b46)] [(.int (1 : Int32))])) (fun _ k => XS.iconst X63.here hx rfl (hb hby at_127) k) ?_
    refine Ends.st (S' := T63.setTop (mkF m 132 #[.val (.int v0), .val (.int v1), .val (.int v2), .val (.int v3), .val (.int v4), .val (.int (1 : Int32)), .val (.int ibase28), .val (.ref b29), .val (.ref b31), .val (.long ((0 : Int64) + (v1.toInt64))), .second, .val (.ref b46)] [(.int (1 : Int32))])) (fun _ k => XS.goto X63.here hx rfl (pc0 := 128) (pc' := 132) rfl (hb hby at_128) (by decide) (by decide) k) ?_
    obtain ⟨fs, hr, hrun, hended, hRW⟩ := X63.leaveW hS56 (by rw [e63]; exact (Nat.le_refl _)) (v := some (.int (1 : Int32))) (fun h => by rw [Bd.returns] at h; cases h)
    exact ⟨_, _, retN X63 hx (t := .boolean) Bd.returns (by simp) (hb hby at_132) hr, hrun, hended, _, _, rfl, (by show Q0 Z  h0 n0 _ T63.heap _; rw [e63]; exact ⟨rfl, N63⟩), hRW.1, hRW.2.1, hRW.2.2.1, hRW.2.2.2.mono (by decide) (by decide)⟩
  · rw [hn]
    refine Ends.st (S' := s₁.setTop (mkF m 7 #[.val (.int v0), .val (.int v1), .val (.int v2), .val (.int v3), .val (.int v4), .val (.int (2 : Int32)), .unset, .unset, .unset, .unset, .unset, .unset] [(.int v4)])) (fun _ k => XS.iload X0.here hx rfl (hb hby at_5) rfl k) ?_
    refine Ends.st (S' := s₁.setTop (mkF m 9 #[.val (.int v0), .val (.int v1), .val (.int v2), .val (.int v3), .val (.int v4), .val (.int (2 : Int32)), .unset, .unset, .unset, .unset, .unset, .unset] [(.int (1073741823 : Int32)), (.int v4)])) (fun _ k => X0.ldcInt hx hown (mvT hZ (hw _ (List.mem_of_getElem? (i := 0) rfl))) (g := (mkF m 7 #[.val (.int v0), .val (.int v1), .val (.int v2), .val (.int v3), .val (.int v4), .val (.int (2 : Int32)), .unset, .unset, .unset, .unset, .unset, .unset] [(.int v4)])) rfl (hb hby at_7) _ k) ?_
    refine Ends.st (S' := s₁.setTop (mkF m 10 #[.val (.int v0), .val (.int v1), .val (.int v2), .val (.int v3), .val (.int v4), .val (.int (2 : Int32)), .unset, .unset, .unset, .unset, .unset, .unset] [(.int (v4 &&& (1073741823 : Int32)))])) (fun _ k => XS.iand X0.here hx rfl (hb hby at_9) rfl k) ?_
    refine Ends.st (S' := s₁.setTop (mkF m 12 #[.val (.int v0), .val (.int v1), .val (.int v2), .val (.int v3), .val (.int v4), .val (.int (2 : Int32)), .val (.int (v4 &&& (1073741823 : Int32))), .unset, .unset, .unset, .unset, .unset] [])) (fun _ k => XS.istore X0.here hx rfl (hb hby at_10) rfl (l' := #[.val (.int v0), .val (.int v1), .val (.int v2), .val (.int v3), .val (.int v4), .val (.int (2 : Int32)), .val (.int (v4 &&& (1073741823 : Int32))), .unset, .unset, .unset, .unset, .unset]) rfl k) ?_
    obtain ⟨ibase65, hibase65⟩ : ∃ z, z = (v4 &&& (1073741823 : Int32)) := ⟨_, rfl⟩
    rw [← hibase65]
    refine Ends.st (S' := s₁.setTop (mkF m 14 #[.val (.int v0), .val (.int v1), .val (.int v2), .val (.int v3), .val (.int v4), .val (.int (2 : Int32)), .val (.int ibase65), .unset, .unset, .unset, .unset, .unset] [(.int (2 : Int32))])) (fun _ k => XS.iload X0.here hx rfl (hb hby at_12) rfl k) ?_
    obtain ⟨T66, h66, k66, X66, e66, E66, A66, B66, st66⟩ := newPE X0 hx hZ (hw _ (List.mem_of_getElem? (i := 1) rfl)) e0 (g := (mkF m 14 #[.val (.int v0), .val (.int v1), .val (.int v2), .val (.int v3), .val (.int v4), .val (.int (2 : Int32)), .val (.int ibase65), .unset, .unset, .unset, .unset, .unset] [(.int (2 : Int32))])) rfl (hb hby at_14) rfl (by decide) (cap := 2) (by decide) (by decide) (by decide) (by decide) (ad := "[I") (by decide)
    obtain ⟨b66, g66⟩ : ∃ z, z = h0.size := ⟨_, rfl⟩
    rw [← g66] at A66 B66 st66
    have g_b66 : n0 ≤ b66 := Nat.le_trans Z0 (Nat.le_of_eq g66.symm)
    have f67 := Nat.le_trans Z0 E66.1
    have V66 : Arv Z h66 b66 k66 .int (2 : Int32) [] (.int (0 : Int32)) := Arv.new A66 (by decide)
    refine Ends.st (S' := T66.setTop (mkF m 16 #[.val (.int v0), .val (.int v1), .val (.int v2), .val (.int v3), .val (.int v4), .val (.int (2 : Int32)), .val (.int ibase65), .unset, .unset, .unset, .unset, .unset] [(.ref b66)])) (fun _ k => st66 _ k) ?_
    refine Ends.st (S' := T66.setTop (mkF m 18 #[.val (.int v0), .val (.int v1), .val (.int v2), .val (.int v3), .val (.int v4), .val (.int (2 : Int32)), .val (.int ibase65), .val (.ref b66), .unset, .unset, .unset, .unset] [])) (fun _ k => XS.astore X66.here hx rfl (hb hby at_16) rfl rfl (l' := #[.val (.int v0), .val (.int v1), .val (.int v2), .val (.int v3), .val (.int v4), .val (.int (2 : Int32)), .val (.int ibase65), .val (.ref b66), .unset, .unset, .unset, .unset]) rfl k) ?_
    refine Ends.st (S' := T66.setTop (mkF m 20 #[.val (.int v0), .val (.int v1), .val (.int v2), .val (.int v3), .val (.int v4), .val (.int (2 : Int32)), .val (.int ibase65), .val (.ref b66), .unset, .unset, .unset, .unset] [(.int (2 : Int32))])) (fun _ k => XS.iload X66.here hx rfl (hb hby at_18) rfl k) ?_
    obtain ⟨T68, h68, k68, X68, e68, E68, A68, B68, st68⟩ := newPE X66 hx hZ (hw _ (List.mem_of_getElem? (i := 1) rfl)) e66 (g := (mkF m 20 #[.val (.int v0), .val (.int v1), .val (.int v2), .val (.int v3), .val (.int v4), .val (.int (2 : Int32)), .val (.int ibase65), .val (.ref b66), .unset, .unset, .unset, .unset] [(.int (2 : Int32))])) rfl (hb hby at_20) rfl (by decide) (cap := 2) (by decide) (by decide) (by decide) (by decide) (ad := "[I") (by decide)
    obtain ⟨b68, g68⟩ : ∃ z, z = h66.size := ⟨_, rfl⟩
    rw [← g68] at A68 B68 st68
    have ne69 : b66 ≠ b68 := Nat.ne_of_lt (Nat.lt_of_lt_of_le V66.lt (Nat.le_of_eq g68.symm))
    have g_b68 : n0 ≤ b68 := Nat.le_trans f67 (Nat.le_of_eq g68.symm)
    have f70 := Nat.le_trans f67 E68.1
    have f71 := V66.ext E68
    have f72 := B66.ext E68
    have V68 : Arv Z h68 b68 k68 .int (2 : Int32) [] (.int (0 : Int32)) := Arv.new A68 (by decide)
    refine Ends.st (S' := T68.setTop (mkF m 22 #[.val (.int v0), .val (.int v1), .val (.int v2), .val (.int v3), .val (.int v4), .val (.int (2 : Int32)), .val (.int ibase65), .val (.ref b66), .unset, .unset, .unset, .unset] [(.ref b68)])) (fun _ k => st68 _ k) ?_
    refine Ends.st (S' := T68.setTop (mkF m 24 #[.val (.int v0), .val (.int v1), .val (.int v2), .val (.int v3), .val (.int v4), .val (.int (2 : Int32)), .val (.int ibase65), .val (.ref b66), .val (.ref b68), .unset, .unset, .unset] [])) (fun _ k => XS.astore X68.here hx rfl (hb hby at_22) rfl rfl (l' := #[.val (.int v0), .val (.int v1), .val (.int v2), .val (.int v3), .val (.int v4), .val (.int (2 : Int32)), .val (.int ibase65), .val (.ref b66), .val (.ref b68), .unset, .unset, .unset]) rfl k) ?_
    refine Ends.st (S' := T68.setTop (mkF m 25 #[.val (.int v0), .val (.int v1), .val (.int v2), .val (.int v3), .val (.int v4), .val (.int (2 : Int32)), .val (.int ibase65), .val (.ref b66), .val (.ref b68), .unset, .unset, .unset] [(.long (0 : Int64))])) (fun _ k => XS.lconst X68.here hx rfl (hb hby at_24) k) ?_
    refine Ends.st (S' := T68.setTop (mkF m 27 #[.val (.int v0), .val (.int v1), .val (.int v2), .val (.int v3), .val (.int v4), .val (.int (2 : Int32)), .val (.int ibase65), .val (.ref b66), .val (.ref b68), .val (.long (0 : Int64)), .second, .unset] [])) (fun _ k => XS.lstore X68.here hx rfl (hb hby at_25) rfl (l' := #[.val (.int v0), .val (.int v1), .val (.int v2), .val (.int v3), .val (.int v4), .val (.int (2 : Int32)), .val (.int ibase65), .val (.ref b66), .val (.ref b68), .val (.long (0 : Int64)), .second, .unset]) rfl k) ?_
    refine Ends.st (S' := T68.setTop (mkF m 29 #[.val (.int v0), .val (.int v1), .val (.int v2), .val (.int v3), .val (.int v4), .val (.int (2 : Int32)), .val (.int ibase65), .val (.ref b66), .val (.ref b68), .val (.long (0 : Int64)), .second, .unset] [(.int (2 : Int32))])) (fun _ k => XS.iload X68.here hx rfl (hb hby at_27) rfl k) ?_
    refine Ends.st (S' := T68.setTop (mkF m 30 #[.val (.int v0), .val (.int v1), .val (.int v2), .val (.int v3), .val (.int v4), .val (.int (2 : Int32)), .val (.int ibase65), .val (.ref b66), .val (.ref b68), .val (.long (0 : Int64)), .second, .unset] [(.int (1 : Int32)), (.int (2 : Int32))])) (fun _ k => XS.iconst X68.here hx rfl (hb hby at_29) k) ?_
    refine Ends.st (S' := T68.setTop (mkF m 33 #[.val (.int v0), .val (.int v1), .val (.int v2), .val (.int v3), .val (.int v4), .val (.int (2 : Int32)), .val (.int ibase65), .val (.ref b66), .val (.ref b68), .val (.long (0 : Int64)), .second, .unset] [])) (fun _ k => XS.icmpNo X68.here hx rfl (hb hby at_30) rfl (flt (by decide : ¬ ((2 : Int32) < (1 : Int32)))).1 k) ?_
    refine Ends.st (S' := T68.setTop (mkF m 35 #[.val (.int v0), .val (.int v1), .val (.int v2), .val (.int v3), .val (.int v4), .val (.int (2 : Int32)), .val (.int ibase65), .val (.ref b66), .val (.ref b68), .val (.long (0 : Int64)), .second, .unset] [(.ref b66)])) (fun _ k => XS.aload X68.here hx rfl (hb hby at_33) rfl rfl k) ?_
    refine Ends.st (S' := T68.setTop (mkF m 36 #[.val (.int v0), .val (.int v1), .val (.int v2), .val (.int v3), .val (.int v4), .val (.int (2 : Int32)), .val (.int ibase65), .val (.ref b66), .val (.ref b68), .val (.long (0 : Int64)), .second, .unset] [(.int (0 : Int32)), (.ref b66)])) (fun _ k => XS.iconst X68.here hx rfl (hb hby at_35) k) ?_
    refine Ends.st (S' := T68.setTop (mkF m 38 #[.val (.int v0), .val (.int v1), .val (.int v2), .val (.int v3), .val (.int v4), .val (.int (2 : Int32)), .val (.int ibase65), .val (.ref b66), .val (.ref b68), .val (.long (0 : Int64)), .second, .unset] [(.int ibase65), (.int (0 : Int32)), (.ref b66)])) (fun _ k => XS.iload X68.here hx rfl (hb hby at_36) rfl k) ?_
    have Vp73 : Arv Z h68 b66 k66 .int (2 : Int32) [(.int (0 : Int32)), (.int (0 : Int32))] (.int (0 : Int32)) := (f71).pad (pad_rep [] (.int (0 : Int32)) 2)
    obtain ⟨cl73, Ar73, q73, S73, M73, H73, G73⟩ := Vp73
    have hin73 : ¬ ((0 : Int32) < 0 ∨ cl73.slots.size ≤ ((0 : Int32)).toNatClampNeg) := inb_of S73 ⟨by decide, by decide⟩
    obtain ⟨T73, h73, X73, e73, W73, st73⟩ := stI X68 hx hZ e68 Ar73 (j := (0 : Int32)) hin73 (g := (mkF m 38 #[.val (.int v0), .val (.int v1), .val (.int v2), .val (.int v3), .val (.int v4), .val (.int (2 : Int32)), .val (.int ibase65), .val (.ref b66), .val (.ref b68), .val (.long (0 : Int64)), .second, .unset] [(.int ibase65), (.int (0 : Int32)), (.ref b66)])) rfl rfl (hb hby at_38)
    have f74 := Nat.le_trans f70 (Keep.of_wr W73).1
    have f75 := f72.wr W73
    have f76 := V68.other W73 (Ne.symm ne69)
    have f77 := B68.wr W73
    have V73 : Arv Z h73 b66 k66 .int (2 : Int32) [(.int ibase65), (.int (0 : Int32))] (.int (0 : Int32)) := Arv.set Ar73 q73 S73 M73 H73 G73 rfl W73 0 rfl (Nat.le_of_ble_eq_true rfl)
    have N73 := Fr.snoc X73 N0 g_b66
    refine Ends.st (S' := T73.setTop (mkF m 39 #[.val (.int v0), .val (.int v1), .val (.int v2), .val (.int v3), .val (.int v4), .val (.int (2 : Int32)), .val (.int ibase65), .val (.ref b66), .val (.ref b68), .val (.long (0 : Int64)), .second, .unset] [])) (fun _ k => st73 _ k) ?_
    refine Ends.st (S' := T73.setTop (mkF m 41 #[.val (.int v0), .val (.int v1), .val (.int v2), .val (.int v3), .val (.int v4), .val (.int (2 : Int32)), .val (.int ibase65), .val (.ref b66), .val (.ref b68), .val (.long (0 : Int64)), .second, .unset] [(.ref b68)])) (fun _ k => XS.aload X73.here hx rfl (hb hby at_39) rfl rfl k) ?_
    refine Ends.st (S' := T73.setTop (mkF m 42 #[.val (.int v0), .val (.int v1), .val (.int v2), .val (.int v3), .val (.int v4), .val (.int (2 : Int32)), .val (.int ibase65), .val (.ref b66), .val (.ref b68), .val (.long (0 : Int64)), .second, .unset] [(.int (0 : Int32)), (.ref b68)])) (fun _ k => XS.iconst X73.here hx rfl (hb hby at_41) k) ?_
    refine Ends.st (S' := T73.setTop (mkF m 43 #[.val (.int v0), .val (.int v1), .val (.int v2), .val (.int v3), .val (.int v4), .val (.int (2 : Int32)), .val (.int ibase65), .val (.ref b66), .val (.ref b68), .val (.long (0 : Int64)), .second, .unset] [(.int v1), (.int (0 : Int32)), (.ref b68)])) (fun _ k => XS.iloadN X73.here hx rfl (hb hby at_42) rfl k) ?_
    have Vp78 : Arv Z h73 b68 k68 .int (2 : Int32) [(.int (0 : Int32)), (.int (0 : Int32))] (.int (0 : Int32)) := (f76).pad (pad_rep [] (.int (0 : Int32)) 2)
    obtain ⟨cl78, Ar78, q78, S78, M78, H78, G78⟩ := Vp78
    have hin78 : ¬ ((0 : Int32) < 0 ∨ cl78.slots.size ≤ ((0 : Int32)).toNatClampNeg) := inb_of S78 ⟨by decide, by decide⟩
    obtain ⟨T78, h78, X78, e78, W78, st78⟩ := stI X73 hx hZ e73 Ar78 (j := (0 : Int32)) hin78 (g := (mkF m 43 #[.val (.int v0), .val (.int v1), .val (.int v2), .val (.int v3), .val (.int v4), .val (.int (2 : Int32)), .val (.int ibase65), .val (.ref b66), .val (.ref b68), .val (.long (0 : Int64)), .second, .unset] [(.int v1), (.int (0 : Int32)), (.ref b68)])) rfl rfl (hb hby at_43)
    have f79 := Nat.le_trans f74 (Keep.of_wr W78).1
    have f80 := f75.wr W78
    have f81 := f77.wr W78
    have f82 := V73.other W78 ne69
    have V78 : Arv Z h78 b68 k68 .int (2 : Int32) [(.int v1), (.int (0 : Int32))] (.int (0 : Int32)) := Arv.set Ar78 q78 S78 M78 H78 G78 rfl W78 0 rfl (Nat.le_of_ble_eq_true rfl)
    have N78 := Fr.snoc X78 N73 g_b68
    refine Ends.st (S' := T78.setTop (mkF m 44 #[.val (.int v0), .val (.int v1), .val (.int v2), .val (.int v3), .val (.int v4), .val (.int (2 : Int32)), .val (.int ibase65), .val (.ref b66), .val (.ref b68), .val (.long (0 : Int64)), .second, .unset] [])) (fun _ k => st78 _ k) ?_
    refine Ends.st (S' := T78.setTop (mkF m 46 #[.val (.int v0), .val (.int v1), .val (.int v2), .val (.int v3), .val (.int v4), .val (.int (2 : Int32)), .val (.int ibase65), .val (.ref b66), .val (.ref b68), .val (.long (0 : Int64)), .second, .unset] [(.long (0 : Int64))])) (fun _ k => XS.lload X78.here hx rfl (hb hby at_44) rfl k) ?_
    refine Ends.st (S' := T78.setTop (mkF m 47 #[.val (.int v0), .val (.int v1), .val (.int v2), .val (.int v3), .val (.int v4), .val (.int (2 : Int32)), .val (.int ibase65), .val (.ref b66), .val (.ref b68), .val (.long (0 : Int64)), .second, .unset] [(.int v1), (.long (0 : Int64))])) (fun _ k => XS.iloadN X78.here hx rfl (hb hby at_46) rfl k) ?_
    refine Ends.st (S' := T78.setTop (mkF m 48 #[.val (.int v0), .val (.int v1), .val (.int v2), .val (.int v3), .val (.int v4), .val (.int (2 : Int32)), .val (.int ibase65), .val (.ref b66), .val (.ref b68), .val (.long (0 : Int64)), .second, .unset] [(.long (v1.toInt64)), (.long (0 : Int64))])) (fun _ k => XS.i2l X78.here hx rfl (hb hby at_47) rfl k) ?_
    refine Ends.st (S' := T78.setTop (mkF m 49 #[.val (.int v0), .val (.int v1), .val (.int v2), .val (.int v3), .val (.int v4), .val (.int (2 : Int32)), .val (.int ibase65), .val (.ref b66), .val (.ref b68), .val (.long (0 : Int64)), .second, .unset] [(.long ((0 : Int64) + (v1.toInt64)))])) (fun _ k => XS.ladd X78.here hx rfl (hb hby at_48) rfl k) ?_
    refine Ends.st (S' := T78.setTop (mkF m 51 #[.val (.int v0), .val (.int v1), .val (.int v2), .val (.int v3), .val (.int v4), .val (.int (2 : Int32)), .val (.int ibase65), .val (.ref b66), .val (.ref b68), .val (.long ((0 : Int64) + (v1.toInt64))), .second, .unset] [])) (fun _ k => XS.lstore X78.here hx rfl (hb hby at_49) rfl (l' := #[.val (.int v0), .val (.int v1), .val (.int v2), .val (.int v3), .val (.int v4), .val (.int (2 : Int32)), .val (.int ibase65), .val (.ref b66), .val (.ref b68), .val (.long ((0 : Int64) + (v1.toInt64))), .second, .unset]) rfl k) ?_
    refine Ends.st (S' := T78.setTop (mkF m 53 #[.val (.int v0), .val (.int v1), .val (.int v2), .val (.int v3), .val (.int v4), .val (.int (2 : Int32)), .val (.int ibase65), .val (.ref b66), .val (.ref b68), .val (.long ((0 : Int64) + (v1.toInt64))), .second, .unset] [(.int (2 : Int32))])) (fun _ k => XS.iload X78.here hx rfl (hb hby at_51) rfl k) ?_
    refine Ends.st (S' := T78.setTop (mkF m 54 #[.val (.int v0), .val (.int v1), .val (.int v2), .val (.int v3), .val (.int v4), .val (.int (2 : Int32)), .val (.int ibase65), .val (.ref b66), .val (.ref b68), .val (.long ((0 : Int64) + (v1.toInt64))), .second, .unset] [(.int (2 : Int32)), (.int (2 : Int32))])) (fun _ k => XS.iconst X78.here hx rfl (hb hby at_53) k) ?_
    refine Ends.st (S' := T78.setTop (mkF m 57 #[.val (.int v0), .val (.int v1), .val (.int v2), .val (.int v3), .val (.int v4), .val (.int (2 : Int32)), .val (.int ibase65), .val (.ref b66), .val (.ref b68), .val (.long ((0 : Int64) + (v1.toInt64))), .second, .unset] [])) (fun _ k => XS.icmpNo X78.here hx rfl (hb hby at_54) rfl (flt (by decide : ¬ ((2 : Int32) < (2 : Int32)))).1 k) ?_
    refine Ends.st (S' := T78.setTop (mkF m 59 #[.val (.int v0), .val (.int v1), .val (.int v2), .val (.int v3), .val (.int v4), .val (.int (2 : Int32)), .val (.int ibase65), .val (.ref b66), .val (.ref b68), .val (.long ((0 : Int64) + (v1.toInt64))), .second, .unset] [(.ref b66)])) (fun _ k => XS.aload X78.here hx rfl (hb hby at_57) rfl rfl k) ?_
    refine Ends.st (S' := T78.setTop (mkF m 60 #[.val (.int v0), .val (.int v1), .val (.int v2), .val (.int v3), .val (.int v4), .val (.int (2 : Int32)), .val (.int ibase65), .val (.ref b66), .val (.ref b68), .val (.long ((0 : Int64) + (v1.toInt64))), .second, .unset] [(.int (1 : Int32)), (.ref b66)])) (fun _ k => XS.iconst X78.here hx rfl (hb hby at_59) k) ?_
    refine Ends.st (S' := T78.setTop (mkF m 62 #[.val (.int v0), .val (.int v1), .val (.int v2), .val (.int v3), .val (.int v4), .val (.int (2 : Int32)), .val (.int ibase65), .val (.ref b66), .val (.ref b68), .val (.long ((0 : Int64) + (v1.toInt64))), .second, .unset] [(.int ibase65), (.int (1 : Int32)), (.ref b66)])) (fun _ k => XS.iload X78.here hx rfl (hb hby at_60) rfl k) ?_
    refine Ends.st (S' := T78.setTop (mkF m 63 #[.val (.int v0), .val (.int v1), .val (.int v2), .val (.int v3), .val (.int v4), .val (.int (2 : Int32)), .val (.int ibase65), .val (.ref b66), .val (.ref b68), .val (.long ((0 : Int64) + (v1.toInt64))), .second, .unset] [(.int (1 : Int32)), (.int ibase65), (.int (1 : Int32)), (.ref b66)])) (fun _ k => XS.iconst X78.here hx rfl (hb hby at_62) k) ?_
    refine Ends.st (S' := T78.setTop (mkF m 64 #[.val (.int v0), .val (.int v1), .val (.int v2), .val (.int v3), .val (.int v4), .val (.int (2 : Int32)), .val (.int ibase65), .val (.ref b66), .val (.ref b68), .val (.long ((0 : Int64) + (v1.toInt64))), .second, .unset] [(.int (ibase65 + (1 : Int32))), (.int (1 : Int32)), (.ref b66)])) (fun _ k => XS.iadd X78.here hx rfl (hb hby at_63) rfl k) ?_
    obtain ⟨cl83, Ar83, q83, S83, M83, H83, G83⟩ := f82
    have hin83 : ¬ ((1 : Int32) < 0 ∨ cl83.slots.size ≤ ((1 : Int32)).toNatClampNeg) := inb_of S83 ⟨by decide, by decide⟩
    obtain ⟨T83, h83, X83, e83, W83, st83⟩ := stI X78 hx hZ e78 Ar83 (j := (1 : Int32)) hin83 (g := (mkF m 64 #[.val (.int v0), .val (.int v1), .val (.int v2), .val (.int v3), .val (.int v4), .val (.int (2 : Int32)), .val (.int ibase65), .val (.ref b66), .val (.ref b68), .val (.long ((0 : Int64) + (v1.toInt64))), .second, .unset] [(.int (ibase65 + (1 : Int32))), (.int (1 : Int32)), (.ref b66)])) rfl rfl (hb hby at_64)
    have f84 := Nat.le_trans f79 (Keep.of_wr W83).1
    have f85 := f80.wr W83
    have f86 := f81.wr W83
    have f87 := V78.other W83 (Ne.symm ne69)
    have V83 : Arv Z h83 b66 k66 .int (2 : Int32) [(.int ibase65), (.int (ibase65 + (1 : Int32)))] (.int (0 : Int32)) := Arv.set Ar83 q83 S83 M83 H83 G83 rfl W83 1 rfl (Nat.le_of_ble_eq_true rfl)
    have N83 := Fr.snoc X83 N78 g_b66
    refine Ends.st (S' := T83.setTop (mkF m 65 #[.val (.int v0), .val (.int v1), .val (.int v2), .val (.int v3), .val (.int v4), .val (.int (2 : Int32)), .val (.int ibase65), .val (.ref b66), .val (.ref b68), .val (.long ((0 : Int64) + (v1.toInt64))), .second, .unset] [])) (fun _ k => st83 _ k) ?_
    refine Ends.st (S' := T83.setTop (mkF m 67 #[.val (.int v0), .val (.int v1), .val (.int v2), .val (.int v3), .val (.int v4), .val (.int (2 : Int32)), .val (.int ibase65), .val (.ref b66), .val (.ref b68), .val (.long ((0 : Int64) + (v1.toInt64))), .second, .unset] [(.ref b68)])) (fun _ k => XS.aload X83.here hx rfl (hb hby at_65) rfl rfl k) ?_
    refine Ends.st (S' := T83.setTop (mkF m 68 #[.val (.int v0), .val (.int v1), .val (.int v2), .val (.int v3), .val (.int v4), .val (.int (2 : Int32)), .val (.int ibase65), .val (.ref b66), .val (.ref b68), .val (.long ((0 : Int64) + (v1.toInt64))), .second, .unset] [(.int (1 : Int32)), (.ref b68)])) (fun _ k => XS.iconst X83.here hx rfl (hb hby at_67) k) ?_
    refine Ends.st (S' := T83.setTop (mkF m 69 #[.val (.int v0), .val (.int v1), .val (.int v2), .val (.int v3), .val (.int v4), .val (.int (2 : Int32)), .val (.int ibase65), .val (.ref b66), .val (.ref b68), .val (.long ((0 : Int64) + (v1.toInt64))), .second, .unset] [(.int v2), (.int (1 : Int32)), (.ref b68)])) (fun _ k => XS.iloadN X83.here hx rfl (hb hby at_68) rfl k) ?_
    obtain ⟨cl88, Ar88, q88, S88, M88, H88, G88⟩ := f87
    have hin88 : ¬ ((1 : Int32) < 0 ∨ cl88.slots.size ≤ ((1 : Int32)).toNatClampNeg) := inb_of S88 ⟨by decide, by decide⟩
    obtain ⟨T88, h88, X88, e88, W88, st88⟩ := stI X83 hx hZ e83 Ar88 (j := (1 : Int32)) hin88 (g := (mkF m 69 #[.val (.int v0), .val (.int v1), .val (.int v2), .val (.int v3), .val (.int v4), .val (.int (2 : Int32)), .val (.int ibase65), .val (.ref b66), .val (.ref b68), .val (.long ((0 : Int64) + (v1.toInt64))), .second, .unset] [(.int v2), (.int (1 : Int32)), (.ref b68)])) rfl rfl (hb hby at_69)
    have f89 := Nat.le_trans f84 (Keep.of_wr W88).1
    have f90 := f85.wr W88
    have f91 := f86.wr W88
    have f92 := V83.other W88 ne69
    have V88 : Arv Z h88 b68 k68 .int (2 : Int32) [(.int v1), (.int v2)] (.int (0 : Int32)) := Arv.set Ar88 q88 S88 M88 H88 G88 rfl W88 1 rfl (Nat.le_of_ble_eq_true rfl)
    have N88 := Fr.snoc X88 N83 g_b68
    refine Ends.st (S' := T88.setTop (mkF m 70 #[.val (.int v0), .val (.int v1), .val (.int v2), .val (.int v3), .val (.int v4), .val (.int (2 : Int32)), .val (.int ibase65), .val (.ref b66), .val (.ref b68), .val (.long ((0 : Int64) + (v1.toInt64))), .second, .unset] [])) (fun _ k => st88 _ k) ?_
    refine Ends.st (S' := T88.setTop (mkF m 72 #[.val (.int v0), .val (.int v1), .val (.int v2), .val (.int v3), .val (.int v4), .val (.int (2 : Int32)), .val (.int ibase65), .val (.ref b66), .val (.ref b68), .val (.long ((0 : Int64) + (v1.toInt64))), .second, .unset] [(.long ((0 : Int64) + (v1.toInt64)))])) (fun _ k => XS.lload X88.here hx rfl (hb hby at_70) rfl k) ?_
    refine Ends.st (S' := T88.setTop (mkF m 73 #[.val (.int v0), .val (.int v1), .val (.int v2), .val (.int v3), .val (.int v4), .val (.int (2 : Int32)), .val (.int ibase65), .val (.ref b66), .val (.ref b68), .val (.long ((0 : Int64) + (v1.toInt64))), .second, .unset] [(.int v2), (.long ((0 : Int64) + (v1.toInt64)))])) (fun _ k => XS.iloadN X88.here hx rfl (hb hby at_72) rfl k) ?_
    refine Ends.st (S' := T88.setTop (mkF m 74 #[.val (.int v0), .val (.int v1), .val (.int v2), .val (.int v3), .val (.int v4), .val (.int (2 : Int32)), .val (.int ibase65), .val (.ref b66), .val (.ref b68), .val (.long ((0 : Int64) + (v1.toInt64))), .second, .unset] [(.long (v2.toInt64)), (.long ((0 : Int64) + (v1.toInt64)))])) (fun _ k => XS.i2l X88.here hx rfl (hb hby at_73) rfl k) ?_
    refine Ends.st (S' := T88.setTop (mkF m 75 #[.val (.int v0), .val (.int v1), .val (.int v2), .val (.int v3), .val (.int v4), .val (.int (2 : Int32)), .val (.int ibase65), .val (.ref b66), .val (.ref b68), .val (.long ((0 : Int64) + (v1.toInt64))), .second, .unset] [(.long (((0 : Int64) + (v1.toInt64)) + (v2.toInt64)))])) (fun _ k => XS.ladd X88.here hx rfl (hb hby at_74) rfl k) ?_
    refine Ends.st (S' := T88.setTop (mkF m 77 #[.val (.int v0), .val (.int v1), .val (.int v2), .val (.int v3), .val (.int v4), .val (.int (2 : Int32)), .val (.int ibase65), .val (.ref b66), .val (.ref b68), .val (.long (((0 : Int64) + (v1.toInt64)) + (v2.toInt64))), .second, .unset] [])) (fun _ k => XS.lstore X88.here hx rfl (hb hby at_75) rfl (l' := #[.val (.int v0), .val (.int v1), .val (.int v2), .val (.int v3), .val (.int v4), .val (.int (2 : Int32)), .val (.int ibase65), .val (.ref b66), .val (.ref b68), .val (.long (((0 : Int64) + (v1.toInt64)) + (v2.toInt64))), .second, .unset]) rfl k) ?_
    refine Ends.st (S' := T88.setTop (mkF m 79 #[.val (.int v0), .val (.int v1), .val (.int v2), .val (.int v3), .val (.int v4), .val (.int (2 : Int32)), .val (.int ibase65), .val (.ref b66), .val (.ref b68), .val (.long (((0 : Int64) + (v1.toInt64)) + (v2.toInt64))), .second, .unset] [(.int (2 : Int32))])) (fun _ k => XS.iload X88.here hx rfl (hb hby at_77) rfl k) ?_
    refine Ends.st (S' := T88.setTop (mkF m 80 #[.val (.int v0), .val (.int v1), .val (.int v2), .val (.int v3), .val (.int v4), .val (.int (2 : Int32)), .val (.int ibase65), .val (.ref b66), .val (.ref b68), .val (.long (((0 : Int64) + (v1.toInt64)) + (v2.toInt64))), .second, .unset] [(.int (3 : Int32)), (.int (2 : Int32))])) (fun _ k => XS.iconst X88.here hx rfl (hb hby at_79) k) ?_
    refine Ends.st (S' := T88.setTop (mkF m 103 #[.val (.int v0), .val (.int v1), .val (.int v2), .val (.int v3), .val (.int v4), .val (.int (2 : Int32)), .val (.int ibase65), .val (.ref b66), .val (.ref b68), .val (.long (((0 : Int64) + (v1.toInt64)) + (v2.toInt64))), .second, .unset] [])) (fun _ k => XS.icmpYes X88.here hx rfl (pc0 := 80) (pc' := 103) rfl (hb hby at_80) rfl (tlt (by decide : (2 : Int32) < (3 : Int32))).1 (by decide) (by decide) k) ?_
    obtain ⟨T93, h93, X93, e93, E93, A93, D93, -, st93⟩ := newO X88 hx hZ hown (hw _ (List.mem_of_getElem? (i := 2) rfl)) (hw _ (List.mem_of_getElem? (i := 3) rfl)) (hw _ (List.mem_of_getElem? (i := 4) rfl)) e88 (g := (mkF m 103 #[.val (.int v0), .val (.int v1), .val (.int v2), .val (.int v3), .val (.int v4), .val (.int (2 : Int32)), .val (.int ibase65), .val (.ref b66), .val (.ref b68), .val (.long (((0 : Int64) + (v1.toInt64)) + (v2.toInt64))), .second, .unset] [])) rfl (hb hby at_103) (by decide) (by decide)
    obtain ⟨b93, g93⟩ : ∃ z, z = h88.size := ⟨_, rfl⟩
    rw [← g93] at A93 D93 st93
    have ne94 : b66 ≠ b93 := Nat.ne_of_lt (Nat.lt_of_lt_of_le f90.lt (Nat.le_of_eq g93.symm))
    have ne95 : b68 ≠ b93 := Nat.ne_of_lt (Nat.lt_of_lt_of_le f91.lt (Nat.le_of_eq g93.symm))
    have g_b93 : n0 ≤ b93 := Nat.le_trans f89 (Nat.le_of_eq g93.symm)
    have f96 := Nat.le_trans f89 E93.1
    have f97 := f90.ext E93
    have f98 := f91.ext E93
    have f99 := f92.ext E93
    have f100 := V88.ext E93
    have F101 : Fld Z h93 b93 "com/example/net_weight/netweight/core/index/Postings" "documents" "[I" .null := D93 (Or.inr (hw _ (List.mem_of_getElem? (i := 32) rfl))) (ty := (.array .int)) (by decide)
    have F102 : Fld Z h93 b93 "com/example/net_weight/netweight/core/index/Postings" "frequencies" "[I" .null := D93 (Or.inr (hw _ (List.mem_of_getElem? (i := 34) rfl))) (ty := (.array .int)) (by decide)
    refine Ends.st (S' := T93.setTop (mkF m 106 #[.val (.int v0), .val (.int v1), .val (.int v2), .val (.int v3), .val (.int v4), .val (.int (2 : Int32)), .val (.int ibase65), .val (.ref b66), .val (.ref b68), .val (.long (((0 : Int64) + (v1.toInt64)) + (v2.toInt64))), .second, .unset] [(.ref b93)])) (fun _ k => st93 _ k) ?_
    refine Ends.st (S' := T93.setTop (mkF m 107 #[.val (.int v0), .val (.int v1), .val (.int v2), .val (.int v3), .val (.int v4), .val (.int (2 : Int32)), .val (.int ibase65), .val (.ref b66), .val (.ref b68), .val (.long (((0 : Int64) + (v1.toInt64)) + (v2.toInt64))), .second, .unset] [(.ref b93), (.ref b93)])) (fun _ k => XS.dup X93.here hx rfl (hb hby at_106) rfl rfl k) ?_
    refine Ends.st (S' := T93.setTop (mkF m 109 #[.val (.int v0), .val (.int v1), .val (.int v2), .val (.int v3), .val (.int v4), .val (.int (2 : Int32)), .val (.int ibase65), .val (.ref b66), .val (.ref b68), .val (.long (((0 : Int64) + (v1.toInt64)) + (v2.toInt64))), .second, .unset] [(.ref b66), (.ref b93), (.ref b93)])) (fun _ k => XS.aload X93.here hx rfl (hb hby at_107) rfl rfl k) ?_
    refine Ends.st (S' := T93.setTop (mkF m 111 #[.val (.int v0), .val (.int v1), .val (.int v2), .val (.int v3), .val (.int v4), .val (.int (2 : Int32)), .val (.int ibase65), .val (.ref b66), .val (.ref b68), .val (.long (((0 : Int64) + (v1.toInt64)) + (v2.toInt64))), .second, .unset] [(.ref b68), (.ref b66), (.ref b93), (.ref b93)])) (fun _ k => XS.aload X93.here hx rfl (hb hby at_109) rfl rfl k) ?_
    have Id := own_intA f99 (own_vs2 ibase65 (ibase65 + (1 : Int32)) 0)
    have If := own_intA f100 (own_vs2 v1 v2 v3)
    obtain ⟨_, _, ⟨T103, L103, k103, n103⟩, -, X103, hS103, hgr103, ⟨Lc103, hQ103, l103, y103, z103⟩, st103⟩ := X93.specialBackS hx (y := (⟨"com/example/net_weight/netweight/core/index/Postings", "<init>", "([I[I)V"⟩ : MethodName)) rfl hown (mvT hZ (hw _ (List.mem_of_getElem? (i := 5) rfl))) (mvT hZ (hw _ (List.mem_of_getElem? (i := 6) rfl))) (mvT hZ (hw _ (List.mem_of_getElem? (i := 7) rfl))) (by decide) (backOfS (W := 1) (rm1 l Z a0 hw [] b93 b66 b68 (2 : Int32) _ _ h93 n0 f96 A93 F101 F102 g_b93 f97 f98 Id If ne94 ne95) hZ (hw _ (List.mem_of_getElem? (i := 7) rfl)) (hw _ (List.mem_of_getElem? (i := 4) rfl)) (by decide) (by decide)) (g := (mkF m 111 #[.val (.int v0), .val (.int v1), .val (.int v2), .val (.int v3), .val (.int v4), .val (.int (2 : Int32)), .val (.int ibase65), .val (.ref b66), .val (.ref b68), .val (.long (((0 : Int64) + (v1.toInt64)) + (v2.toInt64))), .second, .unset] [(.ref b68), (.ref b66), (.ref b93), (.ref b93)])) rfl (by rw [hml]; rfl) (Steps.refl _) (a := b93) (argsL := [(.ref b66), (.ref b68)]) (rest := [(.ref b93)]) (lenOf pd_2 rfl) rfl (by show 2 * 0 + _ ≤ _; exact Nat.le_of_eq rfl) (hb hby at_111) (fun _ _ => ⟨rfl, e93, (by decide : 0 + 1 + 1 + 1 + 4 ≤ _), (by decide : 0 + 2 + 2 + 2 + 88 ≤ _)⟩)
    dsimp only [Pt.U, Pt.locs, Pt.cells, Pt.slots] at X103 hS103 hgr103 l103 y103 z103 st103 hQ103
    subst l103 y103 z103
    obtain ⟨rfl, N103q, K103, G103⟩ := hQ103
    have N103 := Fr.app N88 N103q
    have hown : (s.setVm T103.vm).vm.findClass "com/example/net_weight/netweight/core/index/PostingsCollectionFrequencyPinLaw" = some m.cls := by rw [show (s.setVm T103.vm).vm = T103.vm from rfl, hS103.1.alike.findClass]; exact hown
    have hZ : Z.Warmed39 (s.setVm T103.vm).vm := State.Warmed39.trans (t := s) hZ hS103.1
    have If' := If.keepW K103 (ninS ne95 nin0)
    have f104 := Nat.le_trans f96 K103.1
    have f105 := f97.keep K103
    have f106 := f98.keep K103
    have f107 := f99.keep K103 (ninS ne94 nin0)
    have f108 := f100.keep K103 (ninS ne95 nin0)
    have f109 := A93.keep K103
    refine Ends.st (S' := T103.setTop (mkF m 114 #[.val (.int v0), .val (.int v1), .val (.int v2), .val (.int v3), .val (.int v4), .val (.int (2 : Int32)), .val (.int ibase65), .val (.ref b66), .val (.ref b68), .val (.long (((0 : Int64) + (v1.toInt64)) + (v2.toInt64))), .second, .unset] [(.ref b93)])) (fun _ k => st103.trans k) ?_
    refine Ends.st (S' := T103.setTop (mkF m 116 #[.val (.int v0), .val (.int v1), .val (.int v2), .val (.int v3), .val (.int v4), .val (.int (2 : Int32)), .val (.int ibase65), .val (.ref b66), .val (.ref b68), .val (.long (((0 : Int64) + (v1.toInt64)) + (v2.toInt64))), .second, .val (.ref b93)] [])) (fun _ k => XS.astore X103.here hx rfl (hb hby at_114) rfl rfl (l' := #[.val (.int v0), .val (.int v1), .val (.int v2), .val (.int v3), .val (.int v4), .val (.int (2 : Int32)), .val (.int ibase65), .val (.ref b66), .val (.ref b68), .val (.long (((0 : Int64) + (v1.toInt64)) + (v2.toInt64))), .second, .val (.ref b93)]) rfl k) ?_
    refine Ends.st (S' := T103.setTop (mkF m 118 #[.val (.int v0), .val (.int v1), .val (.int v2), .val (.int v3), .val (.int v4), .val (.int (2 : Int32)), .val (.int ibase65), .val (.ref b66), .val (.ref b68), .val (.long (((0 : Int64) + (v1.toInt64)) + (v2.toInt64))), .second, .val (.ref b93)] [(.ref b93)])) (fun _ k => XS.aload X103.here hx rfl (hb hby at_116) rfl rfl k) ?_
    obtain ⟨cq110, kq110, q110a, q110b, q110c⟩ := isOf hZ rfl (f109)
    obtain ⟨_, _, ⟨T110, L110, k110, n110⟩, -, X110, ⟨Lc110, hQ110, l110, y110, z110⟩, st110⟩ := X103.virtualBack hx (y := (⟨"com/example/net_weight/netweight/core/index/Postings", "collectionFrequency", "()J"⟩ : MethodName)) (z := (⟨"com/example/net_weight/netweight/core/index/Postings", "collectionFrequency", "()J"⟩ : MethodName)) hown (mvT hZ (hw _ (List.mem_of_getElem? (i := 35) rfl))) (mvT hZ (hw _ (List.mem_of_getElem? (i := 36) rfl))) (notFace_of_selects (args := #[]) (mvT hZ (hw _ (List.mem_of_getElem? (i := 38) rfl)))) (mvT hZ (hw _ (List.mem_of_getElem? (i := 38) rfl))) (mvT hZ (hw _ (List.mem_of_getElem? (i := 37) rfl))) (by decide) (backOf (W := 0) (rm5 l Z a0 hw [] b93 b68 (2 : Int32) (mf v1 v2 v3) 2 T103.heap n0 f104 G103 If' (by decide)) hZ (hw _ (List.mem_of_getElem? (i := 39) rfl)) (hw _ (List.mem_of_getElem? (i := 4) rfl)) (by decide) (by decide)) q110a q110c (g := (mkF m 118 #[.val (.int v0), .val (.int v1), .val (.int v2), .val (.int v3), .val (.int v4), .val (.int (2 : Int32)), .val (.int ibase65), .val (.ref b66), .val (.ref b68), .val (.long (((0 : Int64) + (v1.toInt64)) + (v2.toInt64))), .second, .val (.ref b93)] [(.ref b93)])) rfl (by rw [hml]; rfl) (Steps.refl _) (argsL := []) (rest := []) (lenOf pd_3 rfl) rfl (by show 2 * 0 + _ ≤ _; exact Nat.le_of_eq rfl) (hb hby at_118) (fun _ _ => ⟨rfl, rfl, (by decide : 0 + 1 + 1 + 1 + 4 + 0 ≤ _), (by decide : 0 + 2 + 2 + 2 + 88 + 0 ≤ _)⟩)
    dsimp only [Pt.U, Pt.locs, Pt.cells, Pt.slots] at X110 l110 y110 z110 st110 hQ110
    subst l110 y110 z110
    obtain ⟨rfl, N110q, e110⟩ := hQ110
    have N110 := Fr.app N103 N110q
    refine Ends.st (S' := T110.setTop (mkF m 121 #[.val (.int v0), .val (.int v1), .val (.int v2), .val (.int v3), .val (.int v4), .val (.int (2 : Int32)), .val (.int ibase65), .val (.ref b66), .val (.ref b68), .val (.long (((0 : Int64) + (v1.toInt64)) + (v2.toInt64))), .second, .val (.ref b93)] [(.long (smf (mf v1 v2 v3) 2 0 0))])) (fun _ k => st110.trans k) ?_
    refine Ends.st (S' := T110.setTop (mkF m 123 #[.val (.int v0), .val (.int v1), .val (.int v2), .val (.int v3), .val (.int v4), .val (.int (2 : Int32)), .val (.int ibase65), .val (.ref b66), .val (.ref b68), .val (.long (((0 : Int64) + (v1.toInt64)) + (v2.toInt64))), .second, .val (.ref b93)] [(.long (((0 : Int64) + (v1.toInt64)) + (v2.toInt64))), (.long (smf (mf v1 v2 v3) 2 0 0))])) (fun _ k => XS.lload X110.here hx rfl (hb hby at_121) rfl k) ?_
    refine Ends.st (S' := T110.setTop (mkF m 124 #[.val (.int v0), .val (.int v1), .val (.int v2), .val (.int v3), .val (.int v4), .val (.int (2 : Int32)), .val (.int ibase65), .val (.ref b66), .val (.ref b68), .val (.long (((0 : Int64) + (v1.toInt64)) + (v2.toInt64))), .second, .val (.ref b93)] [(.int (lcmpW (smf (mf v1 v2 v3) 2 0 0) (((0 : Int64) + (v1.toInt64)) + (v2.toInt64))))])) (fun _ k => XS.lcmp X110.here hx rfl (hb hby at_123) rfl k) ?_
    have hb111 : (lcmpW (smf (mf v1 v2 v3) 2 0 0) (((0 : Int64) + (v1.toInt64)) + (v2.toInt64))) = (0 : Int32) := by rw [lw_eq]; simp [smf, mf]
    refine Ends.st (S' := T110.setTop (mkF m 127 #[.val (.int v0), .val (.int v1), .val (.int v2), .val (.int v3), .val (.int v4), .val (.int (2 : Int32)), .val (.int ibase65), .val (.ref b66), .val (.ref b68), .val (.long (((0 : Int64) + (v1.toInt64)) + (v2.toInt64))), .second, .val (.ref b93)] [])) (fun _ k => XS.ifNo X110.here hx rfl (hb hby at_124) rfl ((if0 _ _).trans (teq hb111).2) k) ?_
    refine Ends.st (S' := T110.setTop (mkF m 128 #[.val (.int v0), .val (.int v1), .val (.int v2), .val (.int v3), .val (.int v4), .val (.int (2 : Int32)), .val (.int ibase65), .val (.ref b66), .val (.ref b68), .val (.long (((0 : Int64) + (v1.toInt64)) + (v2.toInt64))), .second, .val (.ref b93)] [(.int (1 : Int32))])) (fun _ k => XS.iconst X110.here hx rfl (hb hby at_127) k) ?_
    refine Ends.st (S' := T110.setTop (mkF m 132 #[.val (.int v0), .val (.int v1), .val (.int v2), .val (.int v3), .val (.int v4), .val (.int (2 : Int32)), .val (.int ibase65), .val (.ref b66), .val (.ref b68), .val (.long (((0 : Int64) + (v1.toInt64)) + (v2.toInt64))), .second, .val (.ref b93)] [(.int (1 : Int32))])) (fun _ k => XS.goto X110.here hx rfl (pc0 := 128) (pc' := 132) rfl (hb hby at_128) (by decide) (by decide) k) ?_
    obtain ⟨fs, hr, hrun, hended, hRW⟩ := X110.leaveW hS103 (by rw [e110]; exact (Nat.le_refl _)) (v := some (.int (1 : Int32))) (fun h => by rw [Bd.returns] at h; cases h)
    exact ⟨_, _, retN X110 hx (t := .boolean) Bd.returns (by simp) (hb hby at_132) hr, hrun, hended, _, _, rfl, (by show Q0 Z  h0 n0 _ T110.heap _; rw [e110]; exact ⟨rfl, N110⟩), hRW.1, hRW.2.1, hRW.2.2.1, hRW.2.2.2.mono (by decide) (by decide)⟩
  · rw [hn]
    refine Ends.st (S' := s₁.setTop (mkF m 7 #[.val (.int v0), .val (.int v1), .val (.int v2), .val (.int v3), .val (.int v4), .val (.int (3 : Int32)), .unset, .unset, .unset, .unset, .unset, .unset] [(.int v4)])) (fun _ k => XS.iload X0.here hx rfl (hb hby at_5) rfl k) ?_
    refine Ends.st (S' := s₁.setTop (mkF m 9 #[.val (.int v0), .val (.int v1), .val (.int v2), .val (.int v3), .val (.int v4), .val (.int (3 : Int32)), .unset, .unset, .unset, .unset, .unset, .unset] [(.int (1073741823 : Int32)), (.int v4)])) (fun _ k => X0.ldcInt hx hown (mvT hZ (hw _ (List.mem_of_getElem? (i := 0) rfl))) (g := (mkF m 7 #[.val (.int v0), .val (.int v1), .val (.int v2), .val (.int v3), .val (.int v4), .val (.int (3 : Int32)), .unset, .unset, .unset, .unset, .unset, .unset] [(.int v4)])) rfl (hb hby at_7) _ k) ?_
    refine Ends.st (S' := s₁.setTop (mkF m 10 #[.val (.int v0), .val (.int v1), .val (.int v2), .val (.int v3), .val (.int v4), .val (.int (3 : Int32)), .unset, .unset, .unset, .unset, .unset, .unset] [(.int (v4 &&& (1073741823 : Int32)))])) (fun _ k => XS.iand X0.here hx rfl (hb hby at_9) rfl k) ?_
    refine Ends.st (S' := s₁.setTop (mkF m 12 #[.val (.int v0), .val (.int v1), .val (.int v2), .val (.int v3), .val (.int v4), .val (.int (3 : Int32)), .val (.int (v4 &&& (1073741823 : Int32))), .unset, .unset, .unset, .unset, .unset] [])) (fun _ k => XS.istore X0.here hx rfl (hb hby at_10) rfl (l' := #[.val (.int v0), .val (.int v1), .val (.int v2), .val (.int v3), .val (.int v4), .val (.int (3 : Int32)), .val (.int (v4 &&& (1073741823 : Int32))), .unset, .unset, .unset, .unset, .unset]) rfl k) ?_
    obtain ⟨ibase112, hibase112⟩ : ∃ z, z = (v4 &&& (1073741823 : Int32)) := ⟨_, rfl⟩
    rw [← hibase112]
    refine Ends.st (S' := s₁.setTop (mkF m 14 #[.val (.int v0), .val (.int v1), .val (.int v2), .val (.int v3), .val (.int v4), .val (.int (3 : Int32)), .val (.int ibase112), .unset, .unset, .unset, .unset, .unset] [(.int (3 : Int32))])) (fun _ k => XS.iload X0.here hx rfl (hb hby at_12) rfl k) ?_
    obtain ⟨T113, h113, k113, X113, e113, E113, A113, B113, st113⟩ := newPE X0 hx hZ (hw _ (List.mem_of_getElem? (i := 1) rfl)) e0 (g := (mkF m 14 #[.val (.int v0), .val (.int v1), .val (.int v2), .val (.int v3), .val (.int v4), .val (.int (3 : Int32)), .val (.int ibase112), .unset, .unset, .unset, .unset, .unset] [(.int (3 : Int32))])) rfl (hb hby at_14) rfl (by decide) (cap := 3) (by decide) (by decide) (by decide) (by decide) (ad := "[I") (by decide)
    obtain ⟨b113, g113⟩ : ∃ z, z = h0.size := ⟨_, rfl⟩
    rw [← g113] at A113 B113 st113
    have g_b113 : n0 ≤ b113 := Nat.le_trans Z0 (Nat.le_of_eq g113.symm)
    have f114 := Nat.le_trans Z0 E113.1
    have V113 : Arv Z h113 b113 k113 .int (3 : Int32) [] (.int (0 : Int32)) := Arv.new A113 (by decide)
    refine Ends.st (S' := T113.setTop (mkF m 16 #[.val (.int v0), .val (.int v1), .val (.int v2), .val (.int v3), .val (.int v4), .val (.int (3 : Int32)), .val (.int ibase112), .unset, .unset, .unset, .unset, .unset] [(.ref b113)])) (fun _ k => st113 _ k) ?_
    refine Ends.st (S' := T113.setTop (mkF m 18 #[.val (.int v0), .val (.int v1), .val (.int v2), .val (.int v3), .val (.int v4), .val (.int (3 : Int32)), .val (.int ibase112), .val (.ref b113), .unset, .unset, .unset, .unset] [])) (fun _ k => XS.astore X113.here hx rfl (hb hby at_16) rfl rfl (l' := #[.val (.int v0), .val (.int v1), .val (.int v2), .val (.int v3), .val (.int v4), .val (.int (3 : Int32)), .val (.int ibase112), .val (.ref b113), .unset, .unset, .unset, .unset]) rfl k) ?_
    refine Ends.st (S' := T113.setTop (mkF m 20 #[.val (.int v0), .val (.int v1), .val (.int v2), .val (.int v3), .val (.int v4), .val (.int (3 : Int32)), .val (.int ibase112), .val (.ref b113), .unset, .unset, .unset, .unset] [(.int (3 : Int32))])) (fun _ k => XS.iload X113.here hx rfl (hb hby at_18) rfl k) ?_
    obtain ⟨T115, h115, k115, X115, e115, E115, A115, B115, st115⟩ := newPE X113 hx hZ (hw _ (List.mem_of_getElem? (i := 1) rfl)) e113 (g := (mkF m 20 #[.val (.int v0), .val (.int v1), .val (.int v2), .val (.int v3), .val (.int v4), .val (.int (3 : Int32)), .val (.int ibase112), .val (.ref b113), .unset, .unset, .unset, .unset] [(.int (3 : Int32))])) rfl (hb hby at_20) rfl (by decide) (cap := 3) (by decide) (by decide) (by decide) (by decide) (ad := "[I") (by decide)
    obtain ⟨b115, g115⟩ : ∃ z, z = h113.size := ⟨_, rfl⟩
    rw [← g115] at A115 B115 st115
    have ne116 : b113 ≠ b115 := Nat.ne_of_lt (Nat.lt_of_lt_of_le V113.lt (Nat.le_of_eq g115.symm))
    have g_b115 : n0 ≤ b115 := Nat.le_trans f114 (Nat.le_of_eq g115.symm)
    have f117 := Nat.le_trans f114 E115.1
    have f118 := V113.ext E115
    have f119 := B113.ext E115
    have V115 : Arv Z h115 b115 k115 .int (3 : Int32) [] (.int (0 : Int32)) := Arv.new A115 (by decide)
    refine Ends.st (S' := T115.setTop (mkF m 22 #[.val (.int v0), .val (.int v1), .val (.int v2), .val (.int v3), .val (.int v4), .val (.int (3 : Int32)), .val (.int ibase112), .val (.ref b113), .unset, .unset, .unset, .unset] [(.ref b115)])) (fun _ k => st115 _ k) ?_
    refine Ends.st (S' := T115.setTop (mkF m 24 #[.val (.int v0), .val (.int v1), .val (.int v2), .val (.int v3), .val (.int v4), .val (.int (3 : Int32)), .val (.int ibase112), .val (.ref b113), .val (.ref b115), .unset, .unset, .unset] [])) (fun _ k => XS.astore X115.here hx rfl (hb hby at_22) rfl rfl (l' := #[.val (.int v0), .val (.int v1), .val (.int v2), .val (.int v3), .val (.int v4), .val (.int (3 : Int32)), .val (.int ibase112), .val (.ref b113), .val (.ref b115), .unset, .unset, .unset]) rfl k) ?_
    refine Ends.st (S' := T115.setTop (mkF m 25 #[.val (.int v0), .val (.int v1), .val (.int v2), .val (.int v3), .val (.int v4), .val (.int (3 : Int32)), .val (.int ibase112), .val (.ref b113), .val (.ref b115), .unset, .unset, .unset] [(.long (0 : Int64))])) (fun _ k => XS.lconst X115.here hx rfl (hb hby at_24) k) ?_
    refine Ends.st (S' := T115.setTop (mkF m 27 #[.val (.int v0), .val (.int v1), .val (.int v2), .val (.int v3), .val (.int v4), .val (.int (3 : Int32)), .val (.int ibase112), .val (.ref b113), .val (.ref b115), .val (.long (0 : Int64)), .second, .unset] [])) (fun _ k => XS.lstore X115.here hx rfl (hb hby at_25) rfl (l' := #[.val (.int v0), .val (.int v1), .val (.int v2), .val (.int v3), .val (.int v4), .val (.int (3 : Int32)), .val (.int ibase112), .val (.ref b113), .val (.ref b115), .val (.long (0 : Int64)), .second, .unset]) rfl k) ?_
    refine Ends.st (S' := T115.setTop (mkF m 29 #[.val (.int v0), .val (.int v1), .val (.int v2), .val (.int v3), .val (.int v4), .val (.int (3 : Int32)), .val (.int ibase112), .val (.ref b113), .val (.ref b115), .val (.long (0 : Int64)), .second, .unset] [(.int (3 : Int32))])) (fun _ k => XS.iload X115.here hx rfl (hb hby at_27) rfl k) ?_
    refine Ends.st (S' := T115.setTop (mkF m 30 #[.val (.int v0), .val (.int v1), .val (.int v2), .val (.int v3), .val (.int v4), .val (.int (3 : Int32)), .val (.int ibase112), .val (.ref b113), .val (.ref b115), .val (.long (0 : Int64)), .second, .unset] [(.int (1 : Int32)), (.int (3 : Int32))])) (fun _ k => XS.iconst X115.here hx rfl (hb hby at_29) k) ?_
    refine Ends.st (S' := T115.setTop (mkF m 33 #[.val (.int v0), .val (.int v1), .val (.int v2), .val (.int v3), .val (.int v4), .val (.int (3 : Int32)), .val (.int ibase112), .val (.ref b113), .val (.ref b115), .val (.long (0 : Int64)), .second, .unset] [])) (fun _ k => XS.icmpNo X115.here hx rfl (hb hby at_30) rfl (flt (by decide : ¬ ((3 : Int32) < (1 : Int32)))).1 k) ?_
    refine Ends.st (S' := T115.setTop (mkF m 35 #[.val (.int v0), .val (.int v1), .val (.int v2), .val (.int v3), .val (.int v4), .val (.int (3 : Int32)), .val (.int ibase112), .val (.ref b113), .val (.ref b115), .val (.long (0 : Int64)), .second, .unset] [(.ref b113)])) (fun _ k => XS.aload X115.here hx rfl (hb hby at_33) rfl rfl k) ?_
    refine Ends.st (S' := T115.setTop (mkF m 36 #[.val (.int v0), .val (.int v1), .val (.int v2), .val (.int v3), .val (.int v4), .val (.int (3 : Int32)), .val (.int ibase112), .val (.ref b113), .val (.ref b115), .val (.long (0 : Int64)), .second, .unset] [(.int (0 : Int32)), (.ref b113)])) (fun _ k => XS.iconst X115.here hx rfl (hb hby at_35) k) ?_
    refine Ends.st (S' := T115.setTop (mkF m 38 #[.val (.int v0), .val (.int v1), .val (.int v2), .val (.int v3), .val (.int v4), .val (.int (3 : Int32)), .val (.int ibase112), .val (.ref b113), .val (.ref b115), .val (.long (0 : Int64)), .second, .unset] [(.int ibase112), (.int (0 : Int32)), (.ref b113)])) (fun _ k => XS.iload X115.here hx rfl (hb hby at_36) rfl k) ?_
    have Vp120 : Arv Z h115 b113 k113 .int (3 : Int32) [(.int (0 : Int32)), (.int (0 : Int32)), (.int (0 : Int32))] (.int (0 : Int32)) := (f118).pad (pad_rep [] (.int (0 : Int32)) 3)
    obtain ⟨cl120, Ar120, q120, S120, M120, H120, G120⟩ := Vp120
    have hin120 : ¬ ((0 : Int32) < 0 ∨ cl120.slots.size ≤ ((0 : Int32)).toNatClampNeg) := inb_of S120 ⟨by decide, by decide⟩
    obtain ⟨T120, h120, X120, e120, W120, st120⟩ := stI X115 hx hZ e115 Ar120 (j := (0 : Int32)) hin120 (g := (mkF m 38 #[.val (.int v0), .val (.int v1), .val (.int v2), .val (.int v3), .val (.int v4), .val (.int (3 : Int32)), .val (.int ibase112), .val (.ref b113), .val (.ref b115), .val (.long (0 : Int64)), .second, .unset] [(.int ibase112), (.int (0 : Int32)), (.ref b113)])) rfl rfl (hb hby at_38)
    have f121 := Nat.le_trans f117 (Keep.of_wr W120).1
    have f122 := f119.wr W120
    have f123 := V115.other W120 (Ne.symm ne116)
    have f124 := B115.wr W120
    have V120 : Arv Z h120 b113 k113 .int (3 : Int32) [(.int ibase112), (.int (0 : Int32)), (.int (0 : Int32))] (.int (0 : Int32)) := Arv.set Ar120 q120 S120 M120 H120 G120 rfl W120 0 rfl (Nat.le_of_ble_eq_true rfl)
    have N120 := Fr.snoc X120 N0 g_b113
    refine Ends.st (S' := T120.setTop (mkF m 39 #[.val (.int v0), .val (.int v1), .val (.int v2), .val (.int v3), .val (.int v4), .val (.int (3 : Int32)), .val (.int ibase112), .val (.ref b113), .val (.ref b115), .val (.long (0 : Int64)), .second, .unset] [])) (fun _ k => st120 _ k) ?_
    refine Ends.st (S' := T120.setTop (mkF m 41 #[.val (.int v0), .val (.int v1), .val (.int v2), .val (.int v3), .val (.int v4), .val (.int (3 : Int32)), .val (.int ibase112), .val (.ref b113), .val (.ref b115), .val (.long (0 : Int64)), .second, .unset] [(.ref b115)])) (fun _ k => XS.aload X120.here hx rfl (hb hby at_39) rfl rfl k) ?_
    refine Ends.st (S' := T120.setTop (mkF m 42 #[.val (.int v0), .val (.int v1), .val (.int v2), .val (.int v3), .val (.int v4), .val (.int (3 : Int32)), .val (.int ibase112), .val (.ref b113), .val (.ref b115), .val (.long (0 : Int64)), .second, .unset] [(.int (0 : Int32)), (.ref b115)])) (fun _ k => XS.iconst X120.here hx rfl (hb hby at_41) k) ?_
    refine Ends.st (S' := T120.setTop (mkF m 43 #[.val (.int v0), .val (.int v1), .val (.int v2), .val (.int v3), .val (.int v4), .val (.int (3 : Int32)), .val (.int ibase112), .val (.ref b113), .val (.ref b115), .val (.long (0 : Int64)), .second, .unset] [(.int v1), (.int (0 : Int32)), (.ref b115)])) (fun _ k => XS.iloadN X120.here hx rfl (hb hby at_42) rfl k) ?_
    have Vp125 : Arv Z h120 b115 k115 .int (3 : Int32) [(.int (0 : Int32)), (.int (0 : Int32)), (.int (0 : Int32))] (.int (0 : Int32)) := (f123).pad (pad_rep [] (.int (0 : Int32)) 3)
    obtain ⟨cl125, Ar125, q125, S125, M125, H125, G125⟩ := Vp125
    have hin125 : ¬ ((0 : Int32) < 0 ∨ cl125.slots.size ≤ ((0 : Int32)).toNatClampNeg) := inb_of S125 ⟨by decide, by decide⟩
    obtain ⟨T125, h125, X125, e125, W125, st125⟩ := stI X120 hx hZ e120 Ar125 (j := (0 : Int32)) hin125 (g := (mkF m 43 #[.val (.int v0), .val (.int v1), .val (.int v2), .val (.int v3), .val (.int v4), .val (.int (3 : Int32)), .val (.int ibase112), .val (.ref b113), .val (.ref b115), .val (.long (0 : Int64)), .second, .unset] [(.int v1), (.int (0 : Int32)), (.ref b115)])) rfl rfl (hb hby at_43)
    have f126 := Nat.le_trans f121 (Keep.of_wr W125).1
    have f127 := f122.wr W125
    have f128 := f124.wr W125
    have f129 := V120.other W125 ne116
    have V125 : Arv Z h125 b115 k115 .int (3 : Int32) [(.int v1), (.int (0 : Int32)), (.int (0 : Int32))] (.int (0 : Int32)) := Arv.set Ar125 q125 S125 M125 H125 G125 rfl W125 0 rfl (Nat.le_of_ble_eq_true rfl)
    have N125 := Fr.snoc X125 N120 g_b115
    refine Ends.st (S' := T125.setTop (mkF m 44 #[.val (.int v0), .val (.int v1), .val (.int v2), .val (.int v3), .val (.int v4), .val (.int (3 : Int32)), .val (.int ibase112), .val (.ref b113), .val (.ref b115), .val (.long (0 : Int64)), .second, .unset] [])) (fun _ k => st125 _ k) ?_
    refine Ends.st (S' := T125.setTop (mkF m 46 #[.val (.int v0), .val (.int v1), .val (.int v2), .val (.int v3), .val (.int v4), .val (.int (3 : Int32)), .val (.int ibase112), .val (.ref b113), .val (.ref b115), .val (.long (0 : Int64)), .second, .unset] [(.long (0 : Int64))])) (fun _ k => XS.lload X125.here hx rfl (hb hby at_44) rfl k) ?_
    refine Ends.st (S' := T125.setTop (mkF m 47 #[.val (.int v0), .val (.int v1), .val (.int v2), .val (.int v3), .val (.int v4), .val (.int (3 : Int32)), .val (.int ibase112), .val (.ref b113), .val (.ref b115), .val (.long (0 : Int64)), .second, .unset] [(.int v1), (.long (0 : Int64))])) (fun _ k => XS.iloadN X125.here hx rfl (hb hby at_46) rfl k) ?_
    refine Ends.st (S' := T125.setTop (mkF m 48 #[.val (.int v0), .val (.int v1), .val (.int v2), .val (.int v3), .val (.int v4), .val (.int (3 : Int32)), .val (.int ibase112), .val (.ref b113), .val (.ref b115), .val (.long (0 : Int64)), .second, .unset] [(.long (v1.toInt64)), (.long (0 : Int64))])) (fun _ k => XS.i2l X125.here hx rfl (hb hby at_47) rfl k) ?_
    refine Ends.st (S' := T125.setTop (mkF m 49 #[.val (.int v0), .val (.int v1), .val (.int v2), .val (.int v3), .val (.int v4), .val (.int (3 : Int32)), .val (.int ibase112), .val (.ref b113), .val (.ref b115), .val (.long (0 : Int64)), .second, .unset] [(.long ((0 : Int64) + (v1.toInt64)))])) (fun _ k => XS.ladd X125.here hx rfl (hb hby at_48) rfl k) ?_
    refine Ends.st (S' := T125.setTop (mkF m 51 #[.val (.int v0), .val (.int v1), .val (.int v2), .val (.int v3), .val (.int v4), .val (.int (3 : Int32)), .val (.int ibase112), .val (.ref b113), .val (.ref b115), .val (.long ((0 : Int64) + (v1.toInt64))), .second, .unset] [])) (fun _ k => XS.lstore X125.here hx rfl (hb hby at_49) rfl (l' := #[.val (.int v0), .val (.int v1), .val (.int v2), .val (.int v3), .val (.int v4), .val (.int (3 : Int32)), .val (.int ibase112), .val (.ref b113), .val (.ref b115), .val (.long ((0 : Int64) + (v1.toInt64))), .second, .unset]) rfl k) ?_
    refine Ends.st (S' := T125.setTop (mkF m 53 #[.val (.int v0), .val (.int v1), .val (.int v2), .val (.int v3), .val (.int v4), .val (.int (3 : Int32)), .val (.int ibase112), .val (.ref b113), .val (.ref b115), .val (.long ((0 : Int64) + (v1.toInt64))), .second, .unset] [(.int (3 : Int32))])) (fun _ k => XS.iload X125.here hx rfl (hb hby at_51) rfl k) ?_
    refine Ends.st (S' := T125.setTop (mkF m 54 #[.val (.int v0), .val (.int v1), .val (.int v2), .val (.int v3), .val (.int v4), .val (.int (3 : Int32)), .val (.int ibase112), .val (.ref b113), .val (.ref b115), .val (.long ((0 : Int64) + (v1.toInt64))), .second, .unset] [(.int (2 : Int32)), (.int (3 : Int32))])) (fun _ k => XS.iconst X125.here hx rfl (hb hby at_53) k) ?_
    refine Ends.st (S' := T125.setTop (mkF m 57 #[.val (.int v0), .val (.int v1), .val (.int v2), .val (.int v3), .val (.int v4), .val (.int (3 : Int32)), .val (.int ibase112), .val (.ref b113), .val (.ref b115), .val (.long ((0 : Int64) + (v1.toInt64))), .second, .unset] [])) (fun _ k => XS.icmpNo X125.here hx rfl (hb hby at_54) rfl (flt (by decide : ¬ ((3 : Int32) < (2 : Int32)))).1 k) ?_
    refine Ends.st (S' := T125.setTop (mkF m 59 #[.val (.int v0), .val (.int v1), .val (.int v2), .val (.int v3), .val (.int v4), .val (.int (3 : Int32)), .val (.int ibase112), .val (.ref b113), .val (.ref b115), .val (.long ((0 : Int64) + (v1.toInt64))), .second, .unset] [(.ref b113)])) (fun _ k => XS.aload X125.here hx rfl (hb hby at_57) rfl rfl k) ?_
    refine Ends.st (S' := T125.setTop (mkF m 60 #[.val (.int v0), .val (.int v1), .val (.int v2), .val (.int v3), .val (.int v4), .val (.int (3 : Int32)), .val (.int ibase112), .val (.ref b113), .val (.ref b115), .val (.long ((0 : Int64) + (v1.toInt64))), .second, .unset] [(.int (1 : Int32)), (.ref b113)])) (fun _ k => XS.iconst X125.here hx rfl (hb hby at_59) k) ?_
    refine Ends.st (S' := T125.setTop (mkF m 62 #[.val (.int v0), .val (.int v1), .val (.int v2), .val (.int v3), .val (.int v4), .val (.int (3 : Int32)), .val (.int ibase112), .val (.ref b113), .val (.ref b115), .val (.long ((0 : Int64) + (v1.toInt64))), .second, .unset] [(.int ibase112), (.int (1 : Int32)), (.ref b113)])) (fun _ k => XS.iload X125.here hx rfl (hb hby at_60) rfl k) ?_
    refine Ends.st (S' := T125.setTop (mkF m 63 #[.val (.int v0), .val (.int v1), .val (.int v2), .val (.int v3), .val (.int v4), .val (.int (3 : Int32)), .val (.int ibase112), .val (.ref b113), .val (.ref b115), .val (.long ((0 : Int64) + (v1.toInt64))), .second, .unset] [(.int (1 : Int32)), (.int ibase112), (.int (1 : Int32)), (.ref b113)])) (fun _ k => XS.iconst X125.here hx rfl (hb hby at_62) k) ?_
    refine Ends.st (S' := T125.setTop (mkF m 64 #[.val (.int v0), .val (.int v1), .val (.int v2), .val (.int v3), .val (.int v4), .val (.int (3 : Int32)), .val (.int ibase112), .val (.ref b113), .val (.ref b115), .val (.long ((0 : Int64) + (v1.toInt64))), .second, .unset] [(.int (ibase112 + (1 : Int32))), (.int (1 : Int32)), (.ref b113)])) (fun _ k => XS.iadd X125.here hx rfl (hb hby at_63) rfl k) ?_
    obtain ⟨cl130, Ar130, q130, S130, M130, H130, G130⟩ := f129
    have hin130 : ¬ ((1 : Int32) < 0 ∨ cl130.slots.size ≤ ((1 : Int32)).toNatClampNeg) := inb_of S130 ⟨by decide, by decide⟩
    obtain ⟨T130, h130, X130, e130, W130, st130⟩ := stI X125 hx hZ e125 Ar130 (j := (1 : Int32)) hin130 (g := (mkF m 64 #[.val (.int v0), .val (.int v1), .val (.int v2), .val (.int v3), .val (.int v4), .val (.int (3 : Int32)), .val (.int ibase112), .val (.ref b113), .val (.ref b115), .val (.long ((0 : Int64) + (v1.toInt64))), .second, .unset] [(.int (ibase112 + (1 : Int32))), (.int (1 : Int32)), (.ref b113)])) rfl rfl (hb hby at_64)
    have f131 := Nat.le_trans f126 (Keep.of_wr W130).1
    have f132 := f127.wr W130
    have f133 := f128.wr W130
    have f134 := V125.other W130 (Ne.symm ne116)
    have V130 : Arv Z h130 b113 k113 .int (3 : Int32) [(.int ibase112), (.int (ibase112 + (1 : Int32))), (.int (0 : Int32))] (.int (0 : Int32)) := Arv.set Ar130 q130 S130 M130 H130 G130 rfl W130 1 rfl (Nat.le_of_ble_eq_true rfl)
    have N130 := Fr.snoc X130 N125 g_b113
    refine Ends.st (S' := T130.setTop (mkF m 65 #[.val (.int v0), .val (.int v1), .val (.int v2), .val (.int v3), .val (.int v4), .val (.int (3 : Int32)), .val (.int ibase112), .val (.ref b113), .val (.ref b115), .val (.long ((0 : Int64) + (v1.toInt64))), .second, .unset] [])) (fun _ k => st130 _ k) ?_
    refine Ends.st (S' := T130.setTop (mkF m 67 #[.val (.int v0), .val (.int v1), .val (.int v2), .val (.int v3), .val (.int v4), .val (.int (3 : Int32)), .val (.int ibase112), .val (.ref b113), .val (.ref b115), .val (.long ((0 : Int64) + (v1.toInt64))), .second, .unset] [(.ref b115)])) (fun _ k => XS.aload X130.here hx rfl (hb hby at_65) rfl rfl k) ?_
    refine Ends.st (S' := T130.setTop (mkF m 68 #[.val (.int v0), .val (.int v1), .val (.int v2), .val (.int v3), .val (.int v4), .val (.int (3 : Int32)), .val (.int ibase112), .val (.ref b113), .val (.ref b115), .val (.long ((0 : Int64) + (v1.toInt64))), .second, .unset] [(.int (1 : Int32)), (.ref b115)])) (fun _ k => XS.iconst X130.here hx rfl (hb hby at_67) k) ?_
    refine Ends.st (S' := T130.setTop (mkF m 69 #[.val (.int v0), .val (.int v1), .val (.int v2), .val (.int v3), .val (.int v4), .val (.int (3 : Int32)), .val (.int ibase112), .val (.ref b113), .val (.ref b115), .val (.long ((0 : Int64) + (v1.toInt64))), .second, .unset] [(.int v2), (.int (1 : Int32)), (.ref b115)])) (fun _ k => XS.iloadN X130.here hx rfl (hb hby at_68) rfl k) ?_
    obtain ⟨cl135, Ar135, q135, S135, M135, H135, G135⟩ := f134
    have hin135 : ¬ ((1 : Int32) < 0 ∨ cl135.slots.size ≤ ((1 : Int32)).toNatClampNeg) := inb_of S135 ⟨by decide, by decide⟩
    obtain ⟨T135, h135, X135, e135, W135, st135⟩ := stI X130 hx hZ e130 Ar135 (j := (1 : Int32)) hin135 (g := (mkF m 69 #[.val (.int v0), .val (.int v1), .val (.int v2), .val (.int v3), .val (.int v4), .val (.int (3 : Int32)), .val (.int ibase112), .val (.ref b113), .val (.ref b115), .val (.long ((0 : Int64) + (v1.toInt64))), .second, .unset] [(.int v2), (.int (1 : Int32)), (.ref b115)])) rfl rfl (hb hby at_69)
    have f136 := Nat.le_trans f131 (Keep.of_wr W135).1
    have f137 := f132.wr W135
    have f138 := f133.wr W135
    have f139 := V130.other W135 ne116
    have V135 : Arv Z h135 b115 k115 .int (3 : Int32) [(.int v1), (.int v2), (.int (0 : Int32))] (.int (0 : Int32)) := Arv.set Ar135 q135 S135 M135 H135 G135 rfl W135 1 rfl (Nat.le_of_ble_eq_true rfl)
    have N135 := Fr.snoc X135 N130 g_b115
    refine Ends.st (S' := T135.setTop (mkF m 70 #[.val (.int v0), .val (.int v1), .val (.int v2), .val (.int v3), .val (.int v4), .val (.int (3 : Int32)), .val (.int ibase112), .val (.ref b113), .val (.ref b115), .val (.long ((0 : Int64) + (v1.toInt64))), .second, .unset] [])) (fun _ k => st135 _ k) ?_
    refine Ends.st (S' := T135.setTop (mkF m 72 #[.val (.int v0), .val (.int v1), .val (.int v2), .val (.int v3), .val (.int v4), .val (.int (3 : Int32)), .val (.int ibase112), .val (.ref b113), .val (.ref b115), .val (.long ((0 : Int64) + (v1.toInt64))), .second, .unset] [(.long ((0 : Int64) + (v1.toInt64)))])) (fun _ k => XS.lload X135.here hx rfl (hb hby at_70) rfl k) ?_
    refine Ends.st (S' := T135.setTop (mkF m 73 #[.val (.int v0), .val (.int v1), .val (.int v2), .val (.int v3), .val (.int v4), .val (.int (3 : Int32)), .val (.int ibase112), .val (.ref b113), .val (.ref b115), .val (.long ((0 : Int64) + (v1.toInt64))), .second, .unset] [(.int v2), (.long ((0 : Int64) + (v1.toInt64)))])) (fun _ k => XS.iloadN X135.here hx rfl (hb hby at_72) rfl k) ?_
    refine Ends.st (S' := T135.setTop (mkF m 74 #[.val (.int v0), .val (.int v1), .val (.int v2), .val (.int v3), .val (.int v4), .val (.int (3 : Int32)), .val (.int ibase112), .val (.ref b113), .val (.ref b115), .val (.long ((0 : Int64) + (v1.toInt64))), .second, .unset] [(.long (v2.toInt64)), (.long ((0 : Int64) + (v1.toInt64)))])) (fun _ k => XS.i2l X135.here hx rfl (hb hby at_73) rfl k) ?_
    refine Ends.st (S' := T135.setTop (mkF m 75 #[.val (.int v0), .val (.int v1), .val (.int v2), .val (.int v3), .val (.int v4), .val (.int (3 : Int32)), .val (.int ibase112), .val (.ref b113), .val (.ref b115), .val (.long ((0 : Int64) + (v1.toInt64))), .second, .unset] [(.long (((0 : Int64) + (v1.toInt64)) + (v2.toInt64)))])) (fun _ k => XS.ladd X135.here hx rfl (hb hby at_74) rfl k) ?_
    refine Ends.st (S' := T135.setTop (mkF m 77 #[.val (.int v0), .val (.int v1), .val (.int v2), .val (.int v3), .val (.int v4), .val (.int (3 : Int32)), .val (.int ibase112), .val (.ref b113), .val (.ref b115), .val (.long (((0 : Int64) + (v1.toInt64)) + (v2.toInt64))), .second, .unset] [])) (fun _ k => XS.lstore X135.here hx rfl (hb hby at_75) rfl (l' := #[.val (.int v0), .val (.int v1), .val (.int v2), .val (.int v3), .val (.int v4), .val (.int (3 : Int32)), .val (.int ibase112), .val (.ref b113), .val (.ref b115), .val (.long (((0 : Int64) + (v1.toInt64)) + (v2.toInt64))), .second, .unset]) rfl k) ?_
    refine Ends.st (S' := T135.setTop (mkF m 79 #[.val (.int v0), .val (.int v1), .val (.int v2), .val (.int v3), .val (.int v4), .val (.int (3 : Int32)), .val (.int ibase112), .val (.ref b113), .val (.ref b115), .val (.long (((0 : Int64) + (v1.toInt64)) + (v2.toInt64))), .second, .unset] [(.int (3 : Int32))])) (fun _ k => XS.iload X135.here hx rfl (hb hby at_77) rfl k) ?_
    refine Ends.st (S' := T135.setTop (mkF m 80 #[.val (.int v0), .val (.int v1), .val (.int v2), .val (.int v3), .val (.int v4), .val (.int (3 : Int32)), .val (.int ibase112), .val (.ref b113), .val (.ref b115), .val (.long (((0 : Int64) + (v1.toInt64)) + (v2.toInt64))), .second, .unset] [(.int (3 : Int32)), (.int (3 : Int32))])) (fun _ k => XS.iconst X135.here hx rfl (hb hby at_79) k) ?_
    refine Ends.st (S' := T135.setTop (mkF m 83 #[.val (.int v0), .val (.int v1), .val (.int v2), .val (.int v3), .val (.int v4), .val (.int (3 : Int32)), .val (.int ibase112), .val (.ref b113), .val (.ref b115), .val (.long (((0 : Int64) + (v1.toInt64)) + (v2.toInt64))), .second, .unset] [])) (fun _ k => XS.icmpNo X135.here hx rfl (hb hby at_80) rfl (flt (by decide : ¬ ((3 : Int32) < (3 : Int32)))).1 k) ?_
    refine Ends.st (S' := T135.setTop (mkF m 85 #[.val (.int v0), .val (.int v1), .val (.int v2), .val (.int v3), .val (.int v4), .val (.int (3 : Int32)), .val (.int ibase112), .val (.ref b113), .val (.ref b115), .val (.long (((0 : Int64) + (v1.toInt64)) + (v2.toInt64))), .second, .unset] [(.ref b113)])) (fun _ k => XS.aload X135.here hx rfl (hb hby at_83) rfl rfl k) ?_
    refine Ends.st (S' := T135.setTop (mkF m 86 #[.val (.int v0), .val (.int v1), .val (.int v2), .val (.int v3), .val (.int v4), .val (.int (3 : Int32)), .val (.int ibase112), .val (.ref b113), .val (.ref b115), .val (.long (((0 : Int64) + (v1.toInt64)) + (v2.toInt64))), .second, .unset] [(.int (2 : Int32)), (.ref b113)])) (fun _ k => XS.iconst X135.here hx rfl (hb hby at_85) k) ?_
    refine Ends.st (S' := T135.setTop (mkF m 88 #[.val (.int v0), .val (.int v1), .val (.int v2), .val (.int v3), .val (.int v4), .val (.int (3 : Int32)), .val (.int ibase112), .val (.ref b113), .val (.ref b115), .val (.long (((0 : Int64) + (v1.toInt64)) + (v2.toInt64))), .second, .unset] [(.int ibase112), (.int (2 : Int32)), (.ref b113)])) (fun _ k => XS.iload X135.here hx rfl (hb hby at_86) rfl k) ?_
    refine Ends.st (S' := T135.setTop (mkF m 89 #[.val (.int v0), .val (.int v1), .val (.int v2), .val (.int v3), .val (.int v4), .val (.int (3 : Int32)), .val (.int ibase112), .val (.ref b113), .val (.ref b115), .val (.long (((0 : Int64) + (v1.toInt64)) + (v2.toInt64))), .second, .unset] [(.int (2 : Int32)), (.int ibase112), (.int (2 : Int32)), (.ref b113)])) (fun _ k => XS.iconst X135.here hx rfl (hb hby at_88) k) ?_
    refine Ends.st (S' := T135.setTop (mkF m 90 #[.val (.int v0), .val (.int v1), .val (.int v2), .val (.int v3), .val (.int v4), .val (.int (3 : Int32)), .val (.int ibase112), .val (.ref b113), .val (.ref b115), .val (.long (((0 : Int64) + (v1.toInt64)) + (v2.toInt64))), .second, .unset] [(.int (ibase112 + (2 : Int32))), (.int (2 : Int32)), (.ref b113)])) (fun _ k => XS.iadd X135.here hx rfl (hb hby at_89) rfl k) ?_
    obtain ⟨cl140, Ar140, q140, S140, M140, H140, G140⟩ := f139
    have hin140 : ¬ ((2 : Int32) < 0 ∨ cl140.slots.size ≤ ((2 : Int32)).toNatClampNeg) := inb_of S140 ⟨by decide, by decide⟩
    obtain ⟨T140, h140, X140, e140, W140, st140⟩ := stI X135 hx hZ e135 Ar140 (j := (2 : Int32)) hin140 (g := (mkF m 90 #[.val (.int v0), .val (.int v1), .val (.int v2), .val (.int v3), .val (.int v4), .val (.int (3 : Int32)), .val (.int ibase112), .val (.ref b113), .val (.ref b115), .val (.long (((0 : Int64) + (v1.toInt64)) + (v2.toInt64))), .second, .unset] [(.int (ibase112 + (2 : Int32))), (.int (2 : Int32)), (.ref b113)])) rfl rfl (hb hby at_90)
    have f141 := Nat.le_trans f136 (Keep.of_wr W140).1
    have f142 := f137.wr W140
    have f143 := f138.wr W140
    have f144 := V135.other W140 (Ne.symm ne116)
    have V140 : Arv Z h140 b113 k113 .int (3 : Int32) [(.int ibase112), (.int (ibase112 + (1 : Int32))), (.int (ibase112 + (2 : Int32)))] (.int (0 : Int32)) := Arv.set Ar140 q140 S140 M140 H140 G140 rfl W140 2 rfl (Nat.le_of_ble_eq_true rfl)
    have N140 := Fr.snoc X140 N135 g_b113
    refine Ends.st (S' := T140.setTop (mkF m 91 #[.val (.int v0), .val (.int v1), .val (.int v2), .val (.int v3), .val (.int v4), .val (.int (3 : Int32)), .val (.int ibase112), .val (.ref b113), .val (.ref b115), .val (.long (((0 : Int64) + (v1.toInt64)) + (v2.toInt64))), .second, .unset] [])) (fun _ k => st140 _ k) ?_
    refine Ends.st (S' := T140.setTop (mkF m 93 #[.val (.int v0), .val (.int v1), .val (.int v2), .val (.int v3), .val (.int v4), .val (.int (3 : Int32)), .val (.int ibase112), .val (.ref b113), .val (.ref b115), .val (.long (((0 : Int64) + (v1.toInt64)) + (v2.toInt64))), .second, .unset] [(.ref b115)])) (fun _ k => XS.aload X140.here hx rfl (hb hby at_91) rfl rfl k) ?_
    refine Ends.st (S' := T140.setTop (mkF m 94 #[.val (.int v0), .val (.int v1), .val (.int v2), .val (.int v3), .val (.int v4), .val (.int (3 : Int32)), .val (.int ibase112), .val (.ref b113), .val (.ref b115), .val (.long (((0 : Int64) + (v1.toInt64)) + (v2.toInt64))), .second, .unset] [(.int (2 : Int32)), (.ref b115)])) (fun _ k => XS.iconst X140.here hx rfl (hb hby at_93) k) ?_
    refine Ends.st (S' := T140.setTop (mkF m 95 #[.val (.int v0), .val (.int v1), .val (.int v2), .val (.int v3), .val (.int v4), .val (.int (3 : Int32)), .val (.int ibase112), .val (.ref b113), .val (.ref b115), .val (.long (((0 : Int64) + (v1.toInt64)) + (v2.toInt64))), .second, .unset] [(.int v3), (.int (2 : Int32)), (.ref b115)])) (fun _ k => XS.iloadN X140.here hx rfl (hb hby at_94) rfl k) ?_
    obtain ⟨cl145, Ar145, q145, S145, M145, H145, G145⟩ := f144
    have hin145 : ¬ ((2 : Int32) < 0 ∨ cl145.slots.size ≤ ((2 : Int32)).toNatClampNeg) := inb_of S145 ⟨by decide, by decide⟩
    obtain ⟨T145, h145, X145, e145, W145, st145⟩ := stI X140 hx hZ e140 Ar145 (j := (2 : Int32)) hin145 (g := (mkF m 95 #[.val (.int v0), .val (.int v1), .val (.int v2), .val (.int v3), .val (.int v4), .val (.int (3 : Int32)), .val (.int ibase112), .val (.ref b113), .val (.ref b115), .val (.long (((0 : Int64) + (v1.toInt64)) + (v2.toInt64))), .second, .unset] [(.int v3), (.int (2 : Int32)), (.ref b115)])) rfl rfl (hb hby at_95)
    have f146 := Nat.le_trans f141 (Keep.of_wr W145).1
    have f147 := f142.wr W145
    have f148 := f143.wr W145
    have f149 := V140.other W145 ne116
    have V145 : Arv Z h145 b115 k115 .int (3 : Int32) [(.int v1), (.int v2), (.int v3)] (.int (0 : Int32)) := Arv.set Ar145 q145 S145 M145 H145 G145 rfl W145 2 rfl (Nat.le_of_ble_eq_true rfl)
    have N145 := Fr.snoc X145 N140 g_b115
    refine Ends.st (S' := T145.setTop (mkF m 96 #[.val (.int v0), .val (.int v1), .val (.int v2), .val (.int v3), .val (.int v4), .val (.int (3 : Int32)), .val (.int ibase112), .val (.ref b113), .val (.ref b115), .val (.long (((0 : Int64) + (v1.toInt64)) + (v2.toInt64))), .second, .unset] [])) (fun _ k => st145 _ k) ?_
    refine Ends.st (S' := T145.setTop (mkF m 98 #[.val (.int v0), .val (.int v1), .val (.int v2), .val (.int v3), .val (.int v4), .val (.int (3 : Int32)), .val (.int ibase112), .val (.ref b113), .val (.ref b115), .val (.long (((0 : Int64) + (v1.toInt64)) + (v2.toInt64))), .second, .unset] [(.long (((0 : Int64) + (v1.toInt64)) + (v2.toInt64)))])) (fun _ k => XS.lload X145.here hx rfl (hb hby at_96) rfl k) ?_
    refine Ends.st (S' := T145.setTop (mkF m 99 #[.val (.int v0), .val (.int v1), .val (.int v2), .val (.int v3), .val (.int v4), .val (.int (3 : Int32)), .val (.int ibase112), .val (.ref b113), .val (.ref b115), .val (.long (((0 : Int64) + (v1.toInt64)) + (v2.toInt64))), .second, .unset] [(.int v3), (.long (((0 : Int64) + (v1.toInt64)) + (v2.toInt64)))])) (fun _ k => XS.iloadN X145.here hx rfl (hb hby at_98) rfl k) ?_
    refine Ends.st (S' := T145.setTop (mkF m 100 #[.val (.int v0), .val (.int v1), .val (.int v2), .val (.int v3), .val (.int v4), .val (.int (3 : Int32)), .val (.int ibase112), .val (.ref b113), .val (.ref b115), .val (.long (((0 : Int64) + (v1.toInt64)) + (v2.toInt64))), .second, .unset] [(.long (v3.toInt64)), (.long (((0 : Int64) + (v1.toInt64)) + (v2.toInt64)))])) (fun _ k => XS.i2l X145.here hx rfl (hb hby at_99) rfl k) ?_
    refine Ends.st (S' := T145.setTop (mkF m 101 #[.val (.int v0), .val (.int v1), .val (.int v2), .val (.int v3), .val (.int v4), .val (.int (3 : Int32)), .val (.int ibase112), .val (.ref b113), .val (.ref b115), .val (.long (((0 : Int64) + (v1.toInt64)) + (v2.toInt64))), .second, .unset] [(.long ((((0 : Int64) + (v1.toInt64)) + (v2.toInt64)) + (v3.toInt64)))])) (fun _ k => XS.ladd X145.here hx rfl (hb hby at_100) rfl k) ?_
    refine Ends.st (S' := T145.setTop (mkF m 103 #[.val (.int v0), .val (.int v1), .val (.int v2), .val (.int v3), .val (.int v4), .val (.int (3 : Int32)), .val (.int ibase112), .val (.ref b113), .val (.ref b115), .val (.long ((((0 : Int64) + (v1.toInt64)) + (v2.toInt64)) + (v3.toInt64))), .second, .unset] [])) (fun _ k => XS.lstore X145.here hx rfl (hb hby at_101) rfl (l' := #[.val (.int v0), .val (.int v1), .val (.int v2), .val (.int v3), .val (.int v4), .val (.int (3 : Int32)), .val (.int ibase112), .val (.ref b113), .val (.ref b115), .val (.long ((((0 : Int64) + (v1.toInt64)) + (v2.toInt64)) + (v3.toInt64))), .second, .unset]) rfl k) ?_
    obtain ⟨T150, h150, X150, e150, E150, A150, D150, -, st150⟩ := newO X145 hx hZ hown (hw _ (List.mem_of_getElem? (i := 2) rfl)) (hw _ (List.mem_of_getElem? (i := 3) rfl)) (hw _ (List.mem_of_getElem? (i := 4) rfl)) e145 (g := (mkF m 103 #[.val (.int v0), .val (.int v1), .val (.int v2), .val (.int v3), .val (.int v4), .val (.int (3 : Int32)), .val (.int ibase112), .val (.ref b113), .val (.ref b115), .val (.long ((((0 : Int64) + (v1.toInt64)) + (v2.toInt64)) + (v3.toInt64))), .second, .unset] [])) rfl (hb hby at_103) (by decide) (by decide)
    obtain ⟨b150, g150⟩ : ∃ z, z = h145.size := ⟨_, rfl⟩
    rw [← g150] at A150 D150 st150
    have ne151 : b113 ≠ b150 := Nat.ne_of_lt (Nat.lt_of_lt_of_le f147.lt (Nat.le_of_eq g150.symm))
    have ne152 : b115 ≠ b150 := Nat.ne_of_lt (Nat.lt_of_lt_of_le f148.lt (Nat.le_of_eq g150.symm))
    have g_b150 : n0 ≤ b150 := Nat.le_trans f146 (Nat.le_of_eq g150.symm)
    have f153 := Nat.le_trans f146 E150.1
    have f154 := f147.ext E150
    have f155 := f148.ext E150
    have f156 := f149.ext E150
    have f157 := V145.ext E150
    have F158 : Fld Z h150 b150 "com/example/net_weight/netweight/core/index/Postings" "documents" "[I" .null := D150 (Or.inr (hw _ (List.mem_of_getElem? (i := 32) rfl))) (ty := (.array .int)) (by decide)
    have F159 : Fld Z h150 b150 "com/example/net_weight/netweight/core/index/Postings" "frequencies" "[I" .null := D150 (Or.inr (hw _ (List.mem_of_getElem? (i := 34) rfl))) (ty := (.array .int)) (by decide)
    refine Ends.st (S' := T150.setTop (mkF m 106 #[.val (.int v0), .val (.int v1), .val (.int v2), .val (.int v3), .val (.int v4), .val (.int (3 : Int32)), .val (.int ibase112), .val (.ref b113), .val (.ref b115), .val (.long ((((0 : Int64) + (v1.toInt64)) + (v2.toInt64)) + (v3.toInt64))), .second, .unset] [(.ref b150)])) (fun _ k => st150 _ k) ?_
    refine Ends.st (S' := T150.setTop (mkF m 107 #[.val (.int v0), .val (.int v1), .val (.int v2), .val (.int v3), .val (.int v4), .val (.int (3 : Int32)), .val (.int ibase112), .val (.ref b113), .val (.ref b115), .val (.long ((((0 : Int64) + (v1.toInt64)) + (v2.toInt64)) + (v3.toInt64))), .second, .unset] [(.ref b150), (.ref b150)])) (fun _ k => XS.dup X150.here hx rfl (hb hby at_106) rfl rfl k) ?_
    refine Ends.st (S' := T150.setTop (mkF m 109 #[.val (.int v0), .val (.int v1), .val (.int v2), .val (.int v3), .val (.int v4), .val (.int (3 : Int32)), .val (.int ibase112), .val (.ref b113), .val (.ref b115), .val (.long ((((0 : Int64) + (v1.toInt64)) + (v2.toInt64)) + (v3.toInt64))), .second, .unset] [(.ref b113), (.ref b150), (.ref b150)])) (fun _ k => XS.aload X150.here hx rfl (hb hby at_107) rfl rfl k) ?_
    refine Ends.st (S' := T150.setTop (mkF m 111 #[.val (.int v0), .val (.int v1), .val (.int v2), .val (.int v3), .val (.int v4), .val (.int (3 : Int32)), .val (.int ibase112), .val (.ref b113), .val (.ref b115), .val (.long ((((0 : Int64) + (v1.toInt64)) + (v2.toInt64)) + (v3.toInt64))), .second, .unset] [(.ref b115), (.ref b113), (.ref b150), (.ref b150)])) (fun _ k => XS.aload X150.here hx rfl (hb hby at_109) rfl rfl k) ?_
    have Id := own_intA f156 (own_vs3 ibase112 (ibase112 + (1 : Int32)) (ibase112 + (2 : Int32)))
    have If := own_intA f157 (own_vs3 v1 v2 v3)
    obtain ⟨_, _, ⟨T160, L160, k160, n160⟩, -, X160, hS160, hgr160, ⟨Lc160, hQ160, l160, y160, z160⟩, st160⟩ := X150.specialBackS hx (y := (⟨"com/example/net_weight/netweight/core/index/Postings", "<init>", "([I[I)V"⟩ : MethodName)) rfl hown (mvT hZ (hw _ (List.mem_of_getElem? (i := 5) rfl))) (mvT hZ (hw _ (List.mem_of_getElem? (i := 6) rfl))) (mvT hZ (hw _ (List.mem_of_getElem? (i := 7) rfl))) (by decide) (backOfS (W := 1) (rm1 l Z a0 hw [] b150 b113 b115 (3 : Int32) _ _ h150 n0 f153 A150 F158 F159 g_b150 f154 f155 Id If ne151 ne152) hZ (hw _ (List.mem_of_getElem? (i := 7) rfl)) (hw _ (List.mem_of_getElem? (i := 4) rfl)) (by decide) (by decide)) (g := (mkF m 111 #[.val (.int v0), .val (.int v1), .val (.int v2), .val (.int v3), .val (.int v4), .val (.int (3 : Int32)), .val (.int ibase112), .val (.ref b113), .val (.ref b115), .val (.long ((((0 : Int64) + (v1.toInt64)) + (v2.toInt64)) + (v3.toInt64))), .second, .unset] [(.ref b115), (.ref b113), (.ref b150), (.ref b150)])) rfl (by rw [hml]; rfl) (Steps.refl _) (a := b150) (argsL := [(.ref b113), (.ref b115)]) (rest := [(.ref b150)]) (lenOf pd_2 rfl) rfl (by show 2 * 0 + _ ≤ _; exact Nat.le_of_eq rfl) (hb hby at_111) (fun _ _ => ⟨rfl, e150, (by decide : 0 + 1 + 1 + 1 + 4 ≤ _), (by decide : 0 + 3 + 3 + 2 + 88 ≤ _)⟩)
    dsimp only [Pt.U, Pt.locs, Pt.cells, Pt.slots] at X160 hS160 hgr160 l160 y160 z160 st160 hQ160
    subst l160 y160 z160
    obtain ⟨rfl, N160q, K160, G160⟩ := hQ160
    have N160 := Fr.app N145 N160q
    have hown : (s.setVm T160.vm).vm.findClass "com/example/net_weight/netweight/core/index/PostingsCollectionFrequencyPinLaw" = some m.cls := by rw [show (s.setVm T160.vm).vm = T160.vm from rfl, hS160.1.alike.findClass]; exact hown
    have hZ : Z.Warmed39 (s.setVm T160.vm).vm := State.Warmed39.trans (t := s) hZ hS160.1
    have If' := If.keepW K160 (ninS ne152 nin0)
    have f161 := Nat.le_trans f153 K160.1
    have f162 := f154.keep K160
    have f163 := f155.keep K160
    have f164 := f156.keep K160 (ninS ne151 nin0)
    have f165 := f157.keep K160 (ninS ne152 nin0)
    have f166 := A150.keep K160
    refine Ends.st (S' := T160.setTop (mkF m 114 #[.val (.int v0), .val (.int v1), .val (.int v2), .val (.int v3), .val (.int v4), .val (.int (3 : Int32)), .val (.int ibase112), .val (.ref b113), .val (.ref b115), .val (.long ((((0 : Int64) + (v1.toInt64)) + (v2.toInt64)) + (v3.toInt64))), .second, .unset] [(.ref b150)])) (fun _ k => st160.trans k) ?_
    refine Ends.st (S' := T160.setTop (mkF m 116 #[.val (.int v0), .val (.int v1), .val (.int v2), .val (.int v3), .val (.int v4), .val (.int (3 : Int32)), .val (.int ibase112), .val (.ref b113), .val (.ref b115), .val (.long ((((0 : Int64) + (v1.toInt64)) + (v2.toInt64)) + (v3.toInt64))), .second, .val (.ref b150)] [])) (fun _ k => XS.astore X160.here hx rfl (hb hby at_114) rfl rfl (l' := #[.val (.int v0), .val (.int v1), .val (.int v2), .val (.int v3), .val (.int v4), .val (.int (3 : Int32)), .val (.int ibase112), .val (.ref b113), .val (.ref b115), .val (.long ((((0 : Int64) + (v1.toInt64)) + (v2.toInt64)) + (v3.toInt64))), .second, .val (.ref b150)]) rfl k) ?_
    refine Ends.st (S' := T160.setTop (mkF m 118 #[.val (.int v0), .val (.int v1), .val (.int v2), .val (.int v3), .val (.int v4), .val (.int (3 : Int32)), .val (.int ibase112), .val (.ref b113), .val (.ref b115), .val (.long ((((0 : Int64) + (v1.toInt64)) + (v2.toInt64)) + (v3.toInt64))), .second, .val (.ref b150)] [(.ref b150)])) (fun _ k => XS.aload X160.here hx rfl (hb hby at_116) rfl rfl k) ?_
    obtain ⟨cq167, kq167, q167a, q167b, q167c⟩ := isOf hZ rfl (f166)
    obtain ⟨_, _, ⟨T167, L167, k167, n167⟩, -, X167, ⟨Lc167, hQ167, l167, y167, z167⟩, st167⟩ := X160.virtualBack hx (y := (⟨"com/example/net_weight/netweight/core/index/Postings", "collectionFrequency", "()J"⟩ : MethodName)) (z := (⟨"com/example/net_weight/netweight/core/index/Postings", "collectionFrequency", "()J"⟩ : MethodName)) hown (mvT hZ (hw _ (List.mem_of_getElem? (i := 35) rfl))) (mvT hZ (hw _ (List.mem_of_getElem? (i := 36) rfl))) (notFace_of_selects (args := #[]) (mvT hZ (hw _ (List.mem_of_getElem? (i := 38) rfl)))) (mvT hZ (hw _ (List.mem_of_getElem? (i := 38) rfl))) (mvT hZ (hw _ (List.mem_of_getElem? (i := 37) rfl))) (by decide) (backOf (W := 0) (rm5 l Z a0 hw [] b150 b115 (3 : Int32) (mf v1 v2 v3) 3 T160.heap n0 f161 G160 If' (by decide)) hZ (hw _ (List.mem_of_getElem? (i := 39) rfl)) (hw _ (List.mem_of_getElem? (i := 4) rfl)) (by decide) (by decide)) q167a q167c (g := (mkF m 118 #[.val (.int v0), .val (.int v1), .val (.int v2), .val (.int v3), .val (.int v4), .val (.int (3 : Int32)), .val (.int ibase112), .val (.ref b113), .val (.ref b115), .val (.long ((((0 : Int64) + (v1.toInt64)) + (v2.toInt64)) + (v3.toInt64))), .second, .val (.ref b150)] [(.ref b150)])) rfl (by rw [hml]; rfl) (Steps.refl _) (argsL := []) (rest := []) (lenOf pd_3 rfl) rfl (by show 2 * 0 + _ ≤ _; exact Nat.le_of_eq rfl) (hb hby at_118) (fun _ _ => ⟨rfl, rfl, (by decide : 0 + 1 + 1 + 1 + 4 + 0 ≤ _), (by decide : 0 + 3 + 3 + 2 + 88 + 0 ≤ _)⟩)
    dsimp only [Pt.U, Pt.locs, Pt.cells, Pt.slots] at X167 l167 y167 z167 st167 hQ167
    subst l167 y167 z167
    obtain ⟨rfl, N167q, e167⟩ := hQ167
    have N167 := Fr.app N160 N167q
    refine Ends.st (S' := T167.setTop (mkF m 121 #[.val (.int v0), .val (.int v1), .val (.int v2), .val (.int v3), .val (.int v4), .val (.int (3 : Int32)), .val (.int ibase112), .val (.ref b113), .val (.ref b115), .val (.long ((((0 : Int64) + (v1.toInt64)) + (v2.toInt64)) + (v3.toInt64))), .second, .val (.ref b150)] [(.long (smf (mf v1 v2 v3) 3 0 0))])) (fun _ k => st167.trans k) ?_
    refine Ends.st (S' := T167.setTop (mkF m 123 #[.val (.int v0), .val (.int v1), .val (.int v2), .val (.int v3), .val (.int v4), .val (.int (3 : Int32)), .val (.int ibase112), .val (.ref b113), .val (.ref b115), .val (.long ((((0 : Int64) + (v1.toInt64)) + (v2.toInt64)) + (v3.toInt64))), .second, .val (.ref b150)] [(.long ((((0 : Int64) + (v1.toInt64)) + (v2.toInt64)) + (v3.toInt64))), (.long (smf (mf v1 v2 v3) 3 0 0))])) (fun _ k => XS.lload X167.here hx rfl (hb hby at_121) rfl k) ?_
    refine Ends.st (S' := T167.setTop (mkF m 124 #[.val (.int v0), .val (.int v1), .val (.int v2), .val (.int v3), .val (.int v4), .val (.int (3 : Int32)), .val (.int ibase112), .val (.ref b113), .val (.ref b115), .val (.long ((((0 : Int64) + (v1.toInt64)) + (v2.toInt64)) + (v3.toInt64))), .second, .val (.ref b150)] [(.int (lcmpW (smf (mf v1 v2 v3) 3 0 0) ((((0 : Int64) + (v1.toInt64)) + (v2.toInt64)) + (v3.toInt64))))])) (fun _ k => XS.lcmp X167.here hx rfl (hb hby at_123) rfl k) ?_
    have hb168 : (lcmpW (smf (mf v1 v2 v3) 3 0 0) ((((0 : Int64) + (v1.toInt64)) + (v2.toInt64)) + (v3.toInt64))) = (0 : Int32) := by rw [lw_eq]; simp [smf, mf]
    refine Ends.st (S' := T167.setTop (mkF m 127 #[.val (.int v0), .val (.int v1), .val (.int v2), .val (.int v3), .val (.int v4), .val (.int (3 : Int32)), .val (.int ibase112), .val (.ref b113), .val (.ref b115), .val (.long ((((0 : Int64) + (v1.toInt64)) + (v2.toInt64)) + (v3.toInt64))), .second, .val (.ref b150)] [])) (fun _ k => XS.ifNo X167.here hx rfl (hb hby at_124) rfl ((if0 _ _).trans (teq hb168).2) k) ?_
    refine Ends.st (S' := T167.setTop (mkF m 128 #[.val (.int v0), .val (.int v1), .val (.int v2), .val (.int v3), .val (.int v4), .val (.int (3 : Int32)), .val (.int ibase112), .val (.ref b113), .val (.ref b115), .val (.long ((((0 : Int64) + (v1.toInt64)) + (v2.toInt64)) + (v3.toInt64))), .second, .val (.ref b150)] [(.int (1 : Int32))])) (fun _ k => XS.iconst X167.here hx rfl (hb hby at_127) k) ?_
    refine Ends.st (S' := T167.setTop (mkF m 132 #[.val (.int v0), .val (.int v1), .val (.int v2), .val (.int v3), .val (.int v4), .val (.int (3 : Int32)), .val (.int ibase112), .val (.ref b113), .val (.ref b115), .val (.long ((((0 : Int64) + (v1.toInt64)) + (v2.toInt64)) + (v3.toInt64))), .second, .val (.ref b150)] [(.int (1 : Int32))])) (fun _ k => XS.goto X167.here hx rfl (pc0 := 128) (pc' := 132) rfl (hb hby at_128) (by decide) (by decide) k) ?_
    obtain ⟨fs, hr, hrun, hended, hRW⟩ := X167.leaveW hS160 (by rw [e167]; exact (Nat.le_refl _)) (v := some (.int (1 : Int32))) (fun h => by rw [Bd.returns] at h; cases h)
    exact ⟨_, _, retN X167 hx (t := .boolean) Bd.returns (by simp) (hb hby at_132) hr, hrun, hended, _, _, rfl, (by show Q0 Z  h0 n0 _ T167.heap _; rw [e167]; exact ⟨rfl, N167⟩), hRW.1, hRW.2.1, hRW.2.2.1, hRW.2.2.2.mono (by decide) (by decide)⟩
set_option maxRecDepth 65536 in
set_option maxHeartbeats 40000000 in
theorem comes_1 {Post : Tables → Env → Array Value → State → Outcome → State → Prop} (hpost : ∀ tb e args s v u, (limb_1_1.after args s (.returned v) u = true ∧ limb_1_2.after args s (.returned v) u = true ∧ True) → ReturnedEndW s (.returned v) u (Jvm.fieldLocs frame_1_writes args s ++ Jvm.arrayLocs frame_1_arrays args s ++ Jvm.staticLocs frame_1_statics s) 24 2176 → Post tb e args s (.returned v) u) :
    ArmFor flags0 classFile x code maxLocals ret World_1 tables_1 room_1 Calls_1 rest_1 Pre_1 Post := by
  intro l hfl _ _ p e ha hc hk s m args below hf hA hF happ hP
  obtain ⟨hcalls, hrest, hpre⟩ := hP
  obtain ⟨-, -, -, hnamed, -, -, -, hat⟩ := (Spec.applies_iff hf).mp happ
  obtain ⟨hg, hn⟩ := and_e (Cond.before_iff.mp (show (Jvm.Cond.and given_1 narrow_1).before args s = true from hpre))
  obtain ⟨gc, gr0⟩ := and_e hg
  obtain ⟨ga0, gr1⟩ := and_e gr0
  obtain ⟨ga1, gr2⟩ := and_e gr1
  obtain ⟨ga2, gr3⟩ := and_e gr2
  obtain ⟨ga3, gr4⟩ := and_e gr3
  obtain ⟨w0, w1, w2, w3, w4, rfl⟩ : ∃ w0 w1 w2 w3 w4 : Value, args = #[w0, w1, w2, w3, w4] := by
    have hs : args.size = 5 := by simpa [Cond.value, given_1] using gc
    obtain ⟨L⟩ := args
    match L, hs with
    | [w0, w1, w2, w3, w4], _ => exact ⟨w0, w1, w2, w3, w4, rfl⟩
  have hw := fun d (hd : d ∈ tables_1) => atoms_spec (ws := Jvm.Cond.code x code maxLocals ret :: tables_1) hat d (List.mem_cons_of_mem _ hd)
  have hfit : Fit s := fun {y c} hc i hi => by
    obtain ⟨ha, rfl⟩ := Array.getElem?_eq_some_iff.mp hc
    have q := List.all_eq_true.mp ((Array.all_eq_true_iff_forall_mem.mp hF) _ (Array.getElem_mem ha)) i (List.mem_range.mpr hi)
    simpa [Array.getElem?_eq_getElem hi] using q
  obtain ⟨i0, ei0⟩ := is_v ga0
  obtain rfl : w0 = (.int i0) := Option.some.inj ei0
  obtain ⟨i1, ei1⟩ := is_v ga1
  obtain rfl : w1 = (.int i1) := Option.some.inj ei1
  obtain ⟨i2, ei2⟩ := is_v ga2
  obtain rfl : w2 = (.int i2) := Option.some.inj ei2
  obtain ⟨i3, ei3⟩ := is_v ga3
  obtain rfl : w3 = (.int i3) := Option.some.inj ei3
  obtain ⟨i4, ei4⟩ := is_v gr4
  obtain rfl : w4 = (.int i4) := Option.some.inj ei4
  obtain ⟨n, o, h1, h2, h3, _, L, rfl, ⟨rfl, N⟩, hq⟩ := rm0 l s _ hw tables_1 i0 i1 i2 i3 i4 s.heap s.heap.size (Nat.le_refl _)  p e ha hc hk s m _ below hf ((Spec.applies_iff_loose hf).mp happ).1 ⟨rfl, State.Warmed39.refl s, rfl⟩ trivial
  refine ⟨n, _, h1, h2, h3, hpost _ _ _ _ _ _ ⟨Cond.after_iff.mpr rfl, Cond.after_iff.mpr (eq_i res_at (Term.int_eval (1)) rfl), trivial⟩ ⟨hq.1, hq.2.1, hq.2.2.1, (hq.2.2.2.sift fun y hy => Or.inr (N y hy)).mono (by decide) (by decide)⟩⟩
theorem main_1_1 : Claimed_1_1 := comes_1 fun _ _ _ _ _ _ h hF => ⟨h.1, hF⟩
theorem main_1_2 : Claimed_1_2 := comes_1 fun _ _ _ _ _ _ h hF => ⟨h.2.1, hF⟩
end Jvm.Pilot.@@N@@
namespace Jvm.Pilot.@@N@@
open Jvm Jvm.ClassFile Sem Op Lib Jvm.Free Jvm.Stand Jvm.Pilot.@@N@@.Jvm.D
/-! MADE BY PROGRAM (witnessworld.py) out of the Statement's table words and the real class files: 16 classes; the members and pool entries that the words name. The judged class is class 1, her method 1. -/
namespace start1
open Jvm.ClassFile
def u (s : String) : CpInfo := .utf8 (stringToUtf16 s)
/-- a pool by its gaps: so many unusable entries, then the entry; so many at the end -/
def gap : Nat → List CpInfo → List CpInfo
  | 0, r => r
  | n + 1, r => .unusable :: gap n r
def poolList (es : List (Nat × CpInfo)) (last : Nat) : List CpInfo := es.foldr (fun e r => gap e.1 (e.2 :: r)) (gap last [])
def pool (es : List (Nat × CpInfo)) (last : Nat) : Array CpInfo := ⟨poolList es last⟩
def fileOf (pool : Array CpInfo) (this : Nat) (attrs : Array Attribute := #[]) (ms : Array MethodInfo := #[]) (fl : Nat := 33) (sup : Nat := 0) (ifs : Array Nat := #[]) (fds : Array FieldInfo := #[]) : ClassFile where
  minorVersion := 0
  majorVersion := 65
  constantPool := pool
  accessFlags := fl
  thisClass := this
  superClass := sup
  interfaces := ifs
  fields := fds
  methods := ms
  attributes := attrs
def plain (name : String) (sup : Option ClassId) : Class where
  name := name
  kind := .ordinary
  loader := none
  accessFlags := 33
  super := sup
  interfaces := #[]
  cf := none
  fields := #[]
  methods := #[]
  instanceTypes := #[]
  staticTypes := #[]
  resolved := #[]
  callSites := []
  init := .initialized
  statics := none
  mirror := none

def pool0 : Array CpInfo := pool [(5, u "<init>"), (0, u "()V"), (1, .class_ 10), (1, u "java/lang/Object")] 113

def k0c0 : Code := { maxStack := 0, maxLocals := 1, code := object_method_1_code, exceptionTable := #[], attributes := #[] }
def k0m0 : Method := { name := "<init>", desc := "()V", sig := { parameters := [], returnType := none }, accessFlags := 1, code := some k0c0 }
/-- java/lang/Object -/
def k0 : Class := { plain "java/lang/Object" none with
  accessFlags := 33
  interfaces := #[]
  cf := some (fileOf pool0 8 #[] #[{ accessFlags := 1, nameIndex := 5, descriptorIndex := 6, attributes := #[] }] 33 0 #[] #[])
  fields := #[]
  methods := #[k0m0]
  instanceTypes := #[]
  staticTypes := #[]
  resolved := Array.replicate 124 none
  statics := none }

def pool1 : Array CpInfo := pool [(2, .class_ 4), (1, u "java/lang/Object"), (0, u "<init>"), (0, u "()V"), (0, .integer 1073741823), (0, .class_ 9), (0, u "com/example/net_weight/netweight/core/index/Postings"), (0, .methodref 8 11), (0, .nameAndType 5 12), (0, u "([I[I)V"), (0, .methodref 8 14), (0, .nameAndType 15 16), (0, u "collectionFrequency"), (0, u "()J"), (0, .class_ 18), (0, u "com/example/net_weight/netweight/core/index/PostingsCollectionFrequencyPinLaw"), (2, u "law"), (0, u "(IIIII)Z")] 5

def k1m0 : Method := { name := "<init>", desc := "()V", sig := { parameters := [], returnType := none }, accessFlags := 1, code := none }
def k1c1 : Code := { maxStack := 4, maxLocals := 12, code := code, exceptionTable := #[], attributes := #[] }
def k1m1 : Method := { name := "law", desc := "(IIIII)Z", sig := { parameters := [.int, .int, .int, .int, .int], returnType := some .boolean }, accessFlags := 9, code := some k1c1 }
/-- com/example/net_weight/netweight/core/index/PostingsCollectionFrequencyPinLaw -/
def k1 : Class := { plain "com/example/net_weight/netweight/core/index/PostingsCollectionFrequencyPinLaw" (some 0) with
  accessFlags := 49
  interfaces := #[]
  cf := some (fileOf pool1 17 #[] #[{ accessFlags := 1, nameIndex := 5, descriptorIndex := 6, attributes := #[] }, { accessFlags := 9, nameIndex := 21, descriptorIndex := 22, attributes := #[] }] 49 2 #[] #[])
  fields := #[]
  methods := #[k1m0, k1m1]
  instanceTypes := #[]
  staticTypes := #[]
  resolved := Array.replicate 28 none
  statics := none }

def pool2 : Array CpInfo := pool [(1, .methodref 2 3), (0, .class_ 4), (0, .nameAndType 5 6), (0, u "java/lang/Object"), (0, u "<init>"), (0, u "()V"), (0, .class_ 8), (0, u "java/lang/Record")] 13

def k2c0 : Code := { maxStack := 1, maxLocals := 1, code := jdk_30_method_1_code, exceptionTable := #[], attributes := #[] }
def k2m0 : Method := { name := "<init>", desc := "()V", sig := { parameters := [], returnType := none }, accessFlags := 4, code := some k2c0 }
/-- java/lang/Record -/
def k2 : Class := { plain "java/lang/Record" (some 0) with
  accessFlags := 1057
  interfaces := #[]
  cf := some (fileOf pool2 7 #[] #[{ accessFlags := 4, nameIndex := 5, descriptorIndex := 6, attributes := #[] }] 1057 2 #[] #[])
  fields := #[]
  methods := #[k2m0]
  instanceTypes := #[]
  staticTypes := #[]
  resolved := Array.replicate 22 none
  statics := none }

def pool3 : Array CpInfo := pool [(1, .methodref 2 3), (0, .class_ 4), (0, .nameAndType 5 6), (0, u "java/lang/Record"), (0, u "<init>"), (0, u "()V"), (0, .string 8), (0, u "documents"), (0, .methodref 10 11), (0, .class_ 12), (0, .nameAndType 13 14), (0, u "java/util/Objects"), (0, u "requireNonNull"), (0, u "(Ljava/lang/Object;Ljava/lang/String;)Ljava/lang/Object;"), (0, .class_ 16), (0, u "[I"), (0, .string 18), (0, u "frequencies"), (9, .fieldref 29 30), (0, .class_ 31), (0, .nameAndType 8 16), (0, u "com/example/net_weight/netweight/core/index/Postings"), (0, .fieldref 29 33), (0, .nameAndType 18 16), (14, u "([I[I)V"), (2, u "NONE"), (0, u "Lcom/example/net_weight/netweight/core/index/Postings;"), (6, u "collectionFrequency"), (0, u "()J")] 33

def k3c0 : Code := { maxStack := 4, maxLocals := 3, code := prog_7_method_1_code, exceptionTable := #[], attributes := #[] }
def k3m0 : Method := { name := "<init>", desc := "([I[I)V", sig := { parameters := [(.array .int), (.array .int)], returnType := none }, accessFlags := 1, code := some k3c0 }
def k3c1 : Code := { maxStack := 4, maxLocals := 7, code := prog_7_method_3_code, exceptionTable := #[], attributes := #[] }
def k3m1 : Method := { name := "collectionFrequency", desc := "()J", sig := { parameters := [], returnType := some .long }, accessFlags := 1, code := some k3c1 }
/-- com/example/net_weight/netweight/core/index/Postings -/
def k3 : Class := { plain "com/example/net_weight/netweight/core/index/Postings" (some 2) with
  accessFlags := 49
  interfaces := #[]
  cf := some (fileOf pool3 29 #[] #[{ accessFlags := 1, nameIndex := 5, descriptorIndex := 48, attributes := #[] }, { accessFlags := 1, nameIndex := 59, descriptorIndex := 60, attributes := #[] }] 49 2 #[] #[{ accessFlags := 18, nameIndex := 8, descriptorIndex := 16, attributes := #[] }, { accessFlags := 18, nameIndex := 18, descriptorIndex := 16, attributes := #[] }, { accessFlags := 25, nameIndex := 51, descriptorIndex := 52, attributes := #[] }])
  fields := #[{ name := "documents", type := (.array .int), accessFlags := 18, slot := 0, constantValue := 0 }, { name := "frequencies", type := (.array .int), accessFlags := 18, slot := 1, constantValue := 0 }, { name := "NONE", type := (.object "com/example/net_weight/netweight/core/index/Postings"), accessFlags := 25, slot := 0, constantValue := 0 }]
  methods := #[k3m0, k3m1]
  instanceTypes := #[(.array .int), (.array .int)]
  staticTypes := #[(.object "com/example/net_weight/netweight/core/index/Postings")]
  resolved := Array.replicate 94 none
  statics := none }

def pool4 : Array CpInfo := pool [(1, .class_ 2), (0, u "java/io/Serializable"), (0, .class_ 4), (0, u "java/lang/Object")] 2

/-- java/io/Serializable -/
def k4 : Class := { plain "java/io/Serializable" (some 0) with
  accessFlags := 1537
  interfaces := #[]
  cf := some (fileOf pool4 1 #[] #[] 1537 3 #[] #[])
  fields := #[]
  methods := #[]
  instanceTypes := #[]
  staticTypes := #[]
  resolved := Array.replicate 7 none
  statics := none }

def pool5 : Array CpInfo := pool [(1, .class_ 2), (0, u "java/lang/Comparable"), (0, .class_ 4), (0, u "java/lang/Object")] 7

/-- java/lang/Comparable -/
def k5 : Class := { plain "java/lang/Comparable" (some 0) with
  accessFlags := 1537
  interfaces := #[]
  cf := some (fileOf pool5 1 #[] #[] 1537 3 #[] #[])
  fields := #[]
  methods := #[]
  instanceTypes := #[]
  staticTypes := #[]
  resolved := Array.replicate 12 none
  statics := none }

def pool6 : Array CpInfo := pool [(2, .class_ 4), (1, u "java/lang/CharSequence"), (42, .class_ 48), (0, u "java/lang/CharSequence$1CodePointIterator"), (10, .class_ 60), (0, u "java/lang/CharSequence$1CharIterator"), (5, .class_ 67), (0, u "java/lang/Object")] 63

/-- java/lang/CharSequence -/
def k6 : Class := { plain "java/lang/CharSequence" (some 0) with
  accessFlags := 1537
  interfaces := #[]
  cf := some (fileOf pool6 2 #[.nestMembers #[47, 59]] #[] 1537 66 #[] #[])
  fields := #[]
  methods := #[]
  instanceTypes := #[]
  staticTypes := #[]
  resolved := Array.replicate 131 none
  statics := none }

def pool7 : Array CpInfo := pool [(1, .class_ 2), (0, u "java/lang/constant/Constable"), (0, .class_ 4), (0, u "java/lang/Object")] 6

/-- java/lang/constant/Constable -/
def k7 : Class := { plain "java/lang/constant/Constable" (some 0) with
  accessFlags := 1537
  interfaces := #[]
  cf := some (fileOf pool7 1 #[] #[] 1537 3 #[] #[])
  fields := #[]
  methods := #[]
  instanceTypes := #[]
  staticTypes := #[]
  resolved := Array.replicate 11 none
  statics := none }

def pool8 : Array CpInfo := pool [(1, .class_ 2), (0, u "java/lang/constant/ConstantDesc"), (0, .class_ 4), (0, u "java/lang/Object")] 32

/-- java/lang/constant/ConstantDesc -/
def k8 : Class := { plain "java/lang/constant/ConstantDesc" (some 0) with
  accessFlags := 1537
  interfaces := #[]
  cf := some (fileOf pool8 1 #[] #[] 1537 3 #[] #[])
  fields := #[]
  methods := #[]
  instanceTypes := #[]
  staticTypes := #[]
  resolved := Array.replicate 37 none
  statics := none }

def pool9 : Array CpInfo := pool [(2, .class_ 4), (1, u "java/lang/Object"), (0, u "<init>"), (0, u "()V"), (3, .class_ 12), (1, u "java/lang/String"), (0, u "value"), (0, u "[B"), (2, u "coder"), (0, u "B"), (2, u "hash"), (0, u "I"), (2, u "hashIsZero"), (0, u "Z"), (13, u "COMPACT_STRINGS"), (534, .class_ 576), (0, u "java/lang/CharSequence"), (22, u "CASE_INSENSITIVE_ORDER"), (0, u "Ljava/util/Comparator;"), (500, u "serialPersistentFields"), (0, u "[Ljava/io/ObjectStreamField;"), (0, .class_ 1104), (0, u "java/lang/String$CaseInsensitiveComparator"), (1, .class_ 1107), (0, u "java/io/Serializable"), (0, .class_ 1109), (0, u "java/lang/Comparable"), (0, .class_ 1111), (0, u "java/lang/constant/Constable"), (0, .class_ 1113), (0, u "java/lang/constant/ConstantDesc"), (2, u "serialVersionUID"), (0, u "J"), (3, u "REPL"), (0, u "C"), (2, u "LATIN1"), (1, u "UTF16")] 323

def k9m0 : Method := { name := "<init>", desc := "()V", sig := { parameters := [], returnType := none }, accessFlags := 1, code := none }
/-- java/lang/String -/
def k9 : Class := { plain "java/lang/String" (some 0) with
  accessFlags := 49
  interfaces := #[4, 5, 6, 7, 8]
  cf := some (fileOf pool9 10 #[.nestMembers #[1103]] #[{ accessFlags := 1, nameIndex := 5, descriptorIndex := 6, attributes := #[] }] 49 2 #[1106, 1108, 575, 1110, 1112] #[{ accessFlags := 18, nameIndex := 13, descriptorIndex := 14, attributes := #[] }, { accessFlags := 18, nameIndex := 17, descriptorIndex := 18, attributes := #[] }, { accessFlags := 2, nameIndex := 21, descriptorIndex := 22, attributes := #[] }, { accessFlags := 2, nameIndex := 25, descriptorIndex := 26, attributes := #[] }, { accessFlags := 26, nameIndex := 1116, descriptorIndex := 1117, attributes := #[] }, { accessFlags := 24, nameIndex := 40, descriptorIndex := 26, attributes := #[] }, { accessFlags := 26, nameIndex := 1101, descriptorIndex := 1102, attributes := #[] }, { accessFlags := 26, nameIndex := 1121, descriptorIndex := 1122, attributes := #[] }, { accessFlags := 25, nameIndex := 599, descriptorIndex := 600, attributes := #[] }, { accessFlags := 24, nameIndex := 1125, descriptorIndex := 18, attributes := #[] }, { accessFlags := 24, nameIndex := 1127, descriptorIndex := 18, attributes := #[] }])
  fields := #[{ name := "value", type := (.array .byte), accessFlags := 18, slot := 0, constantValue := 0 }, { name := "coder", type := .byte, accessFlags := 18, slot := 1, constantValue := 0 }, { name := "hash", type := .int, accessFlags := 2, slot := 2, constantValue := 0 }, { name := "hashIsZero", type := .boolean, accessFlags := 2, slot := 3, constantValue := 0 }, { name := "serialVersionUID", type := .long, accessFlags := 26, slot := 0, constantValue := 0 }, { name := "COMPACT_STRINGS", type := .boolean, accessFlags := 24, slot := 1, constantValue := 0 }, { name := "serialPersistentFields", type := (.array (.object "java/io/ObjectStreamField")), accessFlags := 26, slot := 2, constantValue := 0 }, { name := "REPL", type := .char, accessFlags := 26, slot := 3, constantValue := 0 }, { name := "CASE_INSENSITIVE_ORDER", type := (.object "java/util/Comparator"), accessFlags := 25, slot := 4, constantValue := 0 }, { name := "LATIN1", type := .byte, accessFlags := 24, slot := 5, constantValue := 0 }, { name := "UTF16", type := .byte, accessFlags := 24, slot := 6, constantValue := 0 }]
  methods := #[k9m0]
  instanceTypes := #[(.array .byte), .byte, .int, .boolean]
  staticTypes := #[.long, .boolean, (.array (.object "java/io/ObjectStreamField")), .char, (.object "java/util/Comparator"), .byte, .byte]
  resolved := Array.replicate 1451 none
  statics := none }

def pool10 : Array CpInfo := pool [(2, .class_ 4), (1, u "java/lang/Object"), (0, u "<init>"), (0, u "()V"), (35, .class_ 44), (1, u "java/util/Objects"), (0, u "requireNonNull"), (48, u "(Ljava/lang/Object;Ljava/lang/String;)Ljava/lang/Object;")] 89

def k10m0 : Method := { name := "<init>", desc := "()V", sig := { parameters := [], returnType := none }, accessFlags := 2, code := none }
def k10c1 : Code := { maxStack := 3, maxLocals := 2, code := jdk_31_method_11_code, exceptionTable := #[], attributes := #[] }
def k10m1 : Method := { name := "requireNonNull", desc := "(Ljava/lang/Object;Ljava/lang/String;)Ljava/lang/Object;", sig := { parameters := [(.object "java/lang/Object"), (.object "java/lang/String")], returnType := some (.object "java/lang/Object") }, accessFlags := 9, code := some k10c1 }
/-- java/util/Objects -/
def k10 : Class := { plain "java/util/Objects" (some 0) with
  accessFlags := 49
  interfaces := #[]
  cf := some (fileOf pool10 42 #[] #[{ accessFlags := 2, nameIndex := 5, descriptorIndex := 6, attributes := #[] }, { accessFlags := 9, nameIndex := 45, descriptorIndex := 94, attributes := #[] }] 49 2 #[] #[])
  fields := #[]
  methods := #[k10m0, k10m1]
  instanceTypes := #[]
  staticTypes := #[]
  resolved := Array.replicate 184 none
  statics := none }

def pool11 : Array CpInfo := pool [(1, u "java/lang/Cloneable"), (0, .class_ 1), (0, u "java/lang/Object"), (0, .class_ 3)] 3

/-- java/lang/Cloneable -/
def k11 : Class := { plain "java/lang/Cloneable" (some 0) with
  accessFlags := 1537
  interfaces := #[]
  cf := some (fileOf pool11 2 #[] #[] 1537 4 #[] #[])
  fields := #[]
  methods := #[]
  instanceTypes := #[]
  staticTypes := #[]
  resolved := Array.replicate 8 none
  statics := none }

/-- the primitive byte -/
def k12 : Class := { plain "byte" none with kind := .primitive 'B', accessFlags := 0x411 }
/-- [B -/
def k13 : Class := { plain "[B" (some 0) with kind := .array 12 .byte, interfaces := #[11, 4], accessFlags := 1041 }

/-- the primitive int -/
def k14 : Class := { plain "int" none with kind := .primitive 'I', accessFlags := 0x411 }
/-- [I -/
def k15 : Class := { plain "[I" (some 0) with kind := .array 14 .int, interfaces := #[11, 4], accessFlags := 1041 }

def heap : Heap := #[]
def classes : Array Class := #[k0, k1, k2, k3, k4, k5, k6, k7, k8, k9, k10, k11, k12, k13, k14, k15]
def interned : List (Array UInt16 × Addr) := []
def slotsUsed : Nat := 0
def theMethod : MethodId := ⟨1, 1⟩
def args0 : Array Value := #[.int 3, .int 5, .int 1, .int 2, .int 3]
def aboutOver (below : List Frame) : State where
  vm := { classes := classes, interned := interned.toArray }
  heap := heap
  slotsUsed := slotsUsed
  threads := #[{ frames := .invoking theMethod args0 :: below }]
def below0 : List Frame := [.native { method := ⟨0, 0⟩, args := #[] }]
def about1 : State := aboutOver below0
def p0 : Program := .bare "" "" ""
def e0 : Env := launch0.env 0 0 0
theorem w_frames : about1.frames = Frame.invoking theMethod args0 :: below0 := rfl
set_option maxRecDepth 65536 in
theorem w_args : argsFit about1.vm theMethod args0 = true := by decide +kernel
set_option maxRecDepth 65536 in
theorem w_heap : heapFits about1 = true := by decide +kernel
set_option maxRecDepth 65536 in
theorem w_runnable : about1.curStatus? = some .runnable := by decide +kernel
set_option maxRecDepth 65536 in
theorem w_alone : about1.alone = true := by decide +kernel
set_option maxRecDepth 65536 in
theorem w_named : about1.methodNamed? x = some theMethod := by decide +kernel
set_option maxRecDepth 65536 in
theorem w_hears : about1.hears theMethod below0 = true := by decide +kernel
set_option maxRecDepth 65536 in
theorem w_ripe : about1.ripe theMethod args0 below0 = true := by decide +kernel
theorem w_running : about1.status = .running := rfl
set_option maxRecDepth 65536 in
theorem w_room : about1.hasRoom e0.platform room_1 = true :=
  launch0.hasRoom_least _ room_1 (by decide +kernel) (by decide +kernel) (by decide +kernel) (by decide +kernel) (by decide +kernel) (by decide +kernel)
theorem allAtoms_all (ts : List Jvm.Cond) (a : Array Jvm.Value) (st : Jvm.State) : (allAtoms ts).before a st = ts.all (fun c => c.before a st) := by
  induction ts with
  | nil => rfl
  | cons c t ih =>
    show (Jvm.Cond.and c (allAtoms t)).before a st = _
    rw [Jvm.Cond.before_and, ih, List.all_cons]
def words1 : List Jvm.Cond := Jvm.Cond.code x code maxLocals ret :: tables_1
/-- a 'code' word, met by the world's own term for the bytes: nothing is compared byte by byte -/
theorem code_word {y : MethodName} {bytes : ByteArray} {mx : Nat} {rt : Option FieldType} {a : Array Value} {s : State} {m : MethodId} {meth : Method} {c : Code} (h1 : s.methodNamed? y = some m) (h2 : s.vm.method? m = some meth) (h3 : meth.code = some c) (h4 : c.code = bytes)
    (h5 : (c.maxLocals == mx && c.exceptionTable.isEmpty && decide (c.maxStack ≤ mostOperands) && decide (meth.sig.returnType = rt) && !meth.locks && decide (parseMethodDescriptor y.desc = some meth.sig)) = true) : (Jvm.Cond.code y bytes mx rt).before a s = true := by
  simp only [Bool.and_eq_true, beq_iff_eq, Bool.not_eq_true', decide_eq_true_eq] at h5
  obtain ⟨⟨⟨⟨⟨g1, g2⟩, g3⟩, g4⟩, g5⟩, g6⟩ := h5
  simp [Cond.before, Cond.holds, Cond.value, h1, h2, h3, h4, g1, g2, g3, g4, g5, g6]
def isCode : Jvm.Cond → Bool
  | .code _ _ _ _ => true
  | _ => false
theorem all_split {L : List Jvm.Cond} {P : Jvm.Cond → Bool} (h1 : L.all (fun c => isCode c || P c) = true) (h2 : ∀ c ∈ L.filter isCode, P c = true) : L.all P = true := by
  refine List.all_eq_true.mpr fun c hc => ?_
  have h := List.all_eq_true.mp h1 c hc
  rcases Bool.eq_false_or_eq_true (isCode c) with hi | hi
  · exact h2 c (List.mem_filter.mpr ⟨hc, hi⟩)
  · simpa [hi] using h
set_option maxRecDepth 65536 in
theorem w_c0 : (Jvm.Cond.code x code maxLocals ret).before args0 about1 = true := code_word (m := ⟨1, 1⟩) (meth := k1m1) (c := k1c1) (by decide +kernel) rfl rfl rfl (by decide +kernel)
set_option maxRecDepth 65536 in
theorem w_c1 : (Jvm.Cond.code ({ cls := "com/example/net_weight/netweight/core/index/Postings", name := "<init>", desc := "([I[I)V" } : Jvm.MethodName) prog_7_method_1_code (3 : Nat) (Option.none : Option Jvm.ClassFile.FieldType)).before args0 about1 = true := code_word (m := ⟨3, 0⟩) (meth := k3m0) (c := k3c0) (by decide +kernel) rfl rfl rfl (by decide +kernel)
set_option maxRecDepth 65536 in
theorem w_c2 : (Jvm.Cond.code ({ cls := "java/lang/Record", name := "<init>", desc := "()V" } : Jvm.MethodName) jdk_30_method_1_code (1 : Nat) (Option.none : Option Jvm.ClassFile.FieldType)).before args0 about1 = true := code_word (m := ⟨2, 0⟩) (meth := k2m0) (c := k2c0) (by decide +kernel) rfl rfl rfl (by decide +kernel)
set_option maxRecDepth 65536 in
theorem w_c3 : (Jvm.Cond.code ({ cls := "java/lang/Object", name := "<init>", desc := "()V" } : Jvm.MethodName) object_method_1_code (1 : Nat) (Option.none : Option Jvm.ClassFile.FieldType)).before args0 about1 = true := code_word (m := ⟨0, 0⟩) (meth := k0m0) (c := k0c0) (by decide +kernel) rfl rfl rfl (by decide +kernel)
set_option maxRecDepth 65536 in
theorem w_c4 : (Jvm.Cond.code ({ cls := "java/util/Objects", name := "requireNonNull", desc := "(Ljava/lang/Object;Ljava/lang/String;)Ljava/lang/Object;" } : Jvm.MethodName) jdk_31_method_11_code (2 : Nat) (Option.some (Jvm.ClassFile.FieldType.object "java/lang/Object"))).before args0 about1 = true := code_word (m := ⟨10, 1⟩) (meth := k10m1) (c := k10c1) (by decide +kernel) rfl rfl rfl (by decide +kernel)
set_option maxRecDepth 65536 in
theorem w_c5 : (Jvm.Cond.code ({ cls := "com/example/net_weight/netweight/core/index/Postings", name := "collectionFrequency", desc := "()J" } : Jvm.MethodName) prog_7_method_3_code (7 : Nat) (Option.some Jvm.ClassFile.FieldType.long)).before args0 about1 = true := code_word (m := ⟨3, 1⟩) (meth := k3m1) (c := k3c1) (by decide +kernel) rfl rfl rfl (by decide +kernel)
def codes1 : List Jvm.Cond := [Jvm.Cond.code x code maxLocals ret, Jvm.Cond.code ({ cls := "com/example/net_weight/netweight/core/index/Postings", name := "<init>", desc := "([I[I)V" } : Jvm.MethodName) prog_7_method_1_code (3 : Nat) (Option.none : Option Jvm.ClassFile.FieldType), Jvm.Cond.code ({ cls := "java/lang/Record", name := "<init>", desc := "()V" } : Jvm.MethodName) jdk_30_method_1_code (1 : Nat) (Option.none : Option Jvm.ClassFile.FieldType), Jvm.Cond.code ({ cls := "java/lang/Object", name := "<init>", desc := "()V" } : Jvm.MethodName) object_method_1_code (1 : Nat) (Option.none : Option Jvm.ClassFile.FieldType), Jvm.Cond.code ({ cls := "java/util/Objects", name := "requireNonNull", desc := "(Ljava/lang/Object;Ljava/lang/String;)Ljava/lang/Object;" } : Jvm.MethodName) jdk_31_method_11_code (2 : Nat) (Option.some (Jvm.ClassFile.FieldType.object "java/lang/Object")), Jvm.Cond.code ({ cls := "com/example/net_weight/netweight/core/index/Postings", name := "collectionFrequency", desc := "()J" } : Jvm.MethodName) prog_7_method_3_code (7 : Nat) (Option.some Jvm.ClassFile.FieldType.long)]
set_option maxRecDepth 65536 in
theorem codes_eq : words1.filter isCode = codes1 := rfl
theorem w_codes : ∀ c ∈ words1.filter isCode, c.before args0 about1 = true := by
  rw [codes_eq]
  intro c hc
  simp only [codes1, List.mem_cons, List.not_mem_nil, or_false] at hc
  rcases hc with rfl | rfl | rfl | rfl | rfl | rfl
  · exact w_c0
  · exact w_c1
  · exact w_c2
  · exact w_c3
  · exact w_c4
  · exact w_c5
set_option maxRecDepth 65536 in
theorem w_t1 : (words1.take 24).all (fun c => isCode c || c.before args0 about1) = true := by decide +kernel
set_option maxRecDepth 65536 in
theorem w_t2 : (words1.drop 24).all (fun c => isCode c || c.before args0 about1) = true := by decide +kernel
theorem w_tables : (allAtoms (Jvm.Cond.code x code maxLocals ret :: tables_1)).before args0 about1 = true := by
  rw [allAtoms_all]
  show words1.all (fun c => c.before args0 about1) = true
  refine all_split ?_ w_codes
  rw [← List.take_append_drop 24 words1, List.all_append, w_t1, w_t2]
  rfl
set_option maxRecDepth 65536 in
theorem w_case : (Jvm.Cond.and given_1 narrow_1).before args0 about1 = true := by decide +kernel
theorem w_applies : (headSpec (Jvm.Cond.code x code maxLocals ret :: tables_1) room_1).applies x e0.platform about1 = true :=
  (Spec.applies_iff w_frames).mpr ⟨w_running, w_runnable, w_alone, w_named, w_hears, w_ripe, w_room, w_tables⟩
theorem atStart : AtStart classFile x code maxLocals ret World_1 tables_1 room_1 Calls_1 rest_1 Pre_1 launch0 p0 e0 about1 theMethod args0 below0 :=
  ⟨lists_1, trivial, launch0.admits_env _ _ _, launch0.least_env, fairChoices_fair.cas, fairChoices_fair.clock, w_frames, w_args, w_heap, w_applies, trivial, trivial, w_case⟩
end start1
theorem witness_1 : WitnessClaimed_1 := ⟨start1.p0, start1.e0, start1.about1, start1.theMethod, start1.args0, start1.below0, start1.atStart⟩
end Jvm.Pilot.@@N@@
