import JvmDerived
import JvmDerived.Pilot.@@N@@Statement
import JvmDerived.Pilot.@@N@@Code
set_option linter.unusedVariables false
set_option linter.unusedSimpArgs false
@@BLOCK:NumsL.lean.txt@@
namespace Jvm.RoadKit
open Sem ClassFile Op Lib Jvm.Stand Jvm.Free Jvm.LawKit
section New
variable {p : Program} {l : Launch} {e : Env} {R : Room} {s : State} {m : MethodId} {args : Array Value} {below : List Frame} {meth : Method} {c : Code} {T : State} {locs : List Loc} {cells slots : Nat}
theorem retI (X : Stand p l e R s m args below meth c T locs cells slots) (hx : p.tables.exec = Jvm.exec) {pc : Nat} {Ls : Array Slot} {z : Int32} {rest : List Value} (hret : meth.sig.returnType = some .int) (hd : decode c.code pc = .ok (.ireturn, 1)) {fs : List Frame}
    (hl : ∀ (f : JFrame) (acts : List Action), f.method = m → f.locked = none → f.entered = [] → (doReturn e (T.setTop f) acts (some (.int z))).1 = T.setFrames fs) : Steps p.tables e below (T.setTop (mkF m pc Ls (.int z :: rest))) (T.setFrames fs) := by
  have hm' : T.vm.method? m = some meth := X.method'
  have hn : narrow .int (.int z) = .int z := rfl
  show Steps p.tables e below (T.setTop { method := m, pc := pc, locals := Ls, stack := _ :: rest, locked := none }) _
  jvm_step X.here [X.here.top, hx, hd, hm', hret, hn]
  first | (intro acts; rw [hl _ acts rfl rfl rfl]) | rw [hl _ _ rfl rfl rfl]
  exact Steps.refl _
theorem retRef (X : Stand p l e R s m args below meth c T locs cells slots) (hx : p.tables.exec = Jvm.exec) {pc : Nat} {Ls : Array Slot} {v : Value} {rest : List Value} {ty : FieldType} (hret : meth.sig.returnType = some ty) (hty : ty.isReference = true) (hv : v.isRef = true) (hd : decode c.code pc = .ok (.areturn, 1)) {fs : List Frame}
    (hl : ∀ (f : JFrame) (acts : List Action), f.method = m → f.locked = none → f.entered = [] → (doReturn e (T.setTop f) acts (some v)).1 = T.setFrames fs) : Steps p.tables e below (T.setTop (mkF m pc Ls (v :: rest))) (T.setFrames fs) := by
  have hm' : T.vm.method? m = some meth := X.method'
  show Steps p.tables e below (T.setTop { method := m, pc := pc, locals := Ls, stack := _ :: rest, locked := none }) _
  jvm_step X.here [X.here.top, hx, hd, hm', hret, hty, hv]
  first | (intro acts; rw [hl _ acts rfl rfl rfl]) | rw [hl _ _ rfl rfl rfl]
  exact Steps.refl _
theorem retD (X : Stand p l e R s m args below meth c T locs cells slots) (hx : p.tables.exec = Jvm.exec) {pc : Nat} {Ls : Array Slot} {z : UInt64} {rest : List Value} (hret : meth.sig.returnType = some .double) (hd : decode c.code pc = .ok (.dreturn, 1)) {fs : List Frame}
    (hl : ∀ (f : JFrame) (acts : List Action), f.method = m → f.locked = none → f.entered = [] → (doReturn e (T.setTop f) acts (some (.double z))).1 = T.setFrames fs) : Steps p.tables e below (T.setTop (mkF m pc Ls (.double z :: rest))) (T.setFrames fs) := by
  have hm' : T.vm.method? m = some meth := X.method'
  have hn : narrow .double (.double z) = .double z := rfl
  show Steps p.tables e below (T.setTop { method := m, pc := pc, locals := Ls, stack := _ :: rest, locked := none }) _
  jvm_step X.here [X.here.top, hx, hd, hm', hret, hn]
  first | (intro acts; rw [hl _ acts rfl rfl rfl]) | rw [hl _ _ rfl rfl rfl]
  exact Steps.refl _
end New
end Jvm.RoadKit
/- laws to paste: Road.backV, Road.eqW, Road.codOf (cut by pick.py; bodies as the Statement names them) -/
namespace Jvm.Pilot.@@N@@
namespace StrChars
open Jvm Sem ClassFile Op Lib Jvm.Stand Jvm.Free.XT Jvm.Free.ALB Jvm.Free.JM Jvm.Free
open Jvm.Lib.Cold (StaticIs)
/-- a char array whose places are chars -/
def Ch (a : Addr) (A : Cell) (U : State) : Prop := Arr .char a A U ∧ Typed .char A
theorem Ch.mv {a : Addr} {A : Cell} {U U' : State} (h : Ch a A U) (hal : U.vm.Alike U'.vm) (hh : U'.heap = U.heap) : Ch a A U' := ⟨h.1.mv hal hh, h.2⟩
theorem Ch.keep {a : Addr} {A : Cell} {U U' : State} (h : Ch a A U) (hal : U.vm.Alike U'.vm) (hk : U'.heap[a]? = some A) : Ch a A U' := ⟨h.1.keep hal hk, h.2⟩
/-- what place i of a char[]'s cell holds -/
def cv (A : Cell) (i : Nat) : Int32 := match A.slots[i]? with | some (.int x) => x | _ => 0
theorem Ch.get {a : Addr} {A : Cell} {U : State} (h : Ch a A U) {i : Nat} (hi : i < A.slots.size) : A.slots[i]? = some (.int (cv A i)) := by
  have e := Array.getElem?_eq_getElem hi
  have f := h.2 i _ e
  unfold cv; rw [e]
  generalize A.slots[i] = v at f
  cases v <;> simp [fits] at f ⊢
/-- the byte that i2b leaves of a char -/
def lo8 (x : Int32) : Int32 := x.toInt8.toInt32
theorem fits_lo8 (y : Int32) : fits .byte (.int (lo8 y)) = true := by
  have h1 := y.toInt8.le_toInt
  have h2 := y.toInt8.toInt_lt
  simp only [lo8, fits, Bool.and_eq_true, decide_eq_true_eq, Int32.le_iff_toInt_le, Int8.toInt_toInt32, show (-128 : Int32).toInt = -128 from by decide, show (127 : Int32).toInt = 127 from by decide]
  omega
/-- A' is A but that each place j of lo .. hi - 1 holds f j -/
def Laid (A A' : Cell) (lo hi : Nat) (f : Nat → Value) : Prop := A'.cls = A.cls ∧ A'.vm = A.vm ∧ A'.slots.size = A.slots.size ∧ ∀ i, A'.slots[i]? = if lo ≤ i ∧ i < hi then some (f i) else A.slots[i]?
theorem Laid.zero (A : Cell) (lo : Nat) (f : Nat → Value) : Laid A A lo (lo + 0) f := ⟨rfl, rfl, rfl, fun i => by rw [if_neg (by omega)]⟩
theorem Laid.step {A Ak : Cell} {lo k : Nat} {f : Nat → Value} {v : Value} (h : Laid A Ak lo k f) (hlo : lo ≤ k) (hk : k < Ak.slots.size) (hv : v = f k) : Laid A (Ak.setSlot k v) lo (k + 1) f := by
  refine ⟨h.1, h.2.1, by simpa [Cell.setSlot] using h.2.2.1, fun i => ?_⟩
  by_cases e : k = i
  · subst e; rw [Cell.slots_setSlot_self v hk, if_pos (by omega), hv]
  · rw [Cell.slots_setSlot_ne v e, h.2.2.2 i]
    by_cases q : lo ≤ i ∧ i < k
    · rw [if_pos q, if_pos (by omega)]
    · rw [if_neg q, if_neg (by omega)]
def U16 : String := "java/lang/StringUTF16"
namespace Cmp5
def yN : MethodName := ⟨"java/lang/StringUTF16", "compress", "([CI[BII)I"⟩
abbrev yB : ByteArray := jdk_52_method_21_code
theorem d0 : decode yB 0 = .ok (.iconst 0, 1) := by decide +kernel
theorem d1 : decode yB 1 = .ok (.istore 5, 2) := by decide +kernel
theorem d3 : decode yB 3 = .ok (.iload 5, 2) := by decide +kernel
theorem d5 : decode yB 5 = .ok (.iload 4, 2) := by decide +kernel
theorem d7 : decode yB 7 = .ok (.if_icmp (.ge) 37, 3) := by decide +kernel
theorem d10 : decode yB 10 = .ok (.aload_n 0, 1) := by decide +kernel
theorem d11 : decode yB 11 = .ok (.iload_n 1, 1) := by decide +kernel
theorem d12 : decode yB 12 = .ok (.caload, 1) := by decide +kernel
theorem d13 : decode yB 13 = .ok (.istore 6, 2) := by decide +kernel
theorem d15 : decode yB 15 = .ok (.iload 6, 2) := by decide +kernel
theorem d17 : decode yB 17 = .ok (.sipush 255, 3) := by decide +kernel
theorem d20 : decode yB 20 = .ok (.if_icmp (.le) 6, 3) := by decide +kernel
theorem d26 : decode yB 26 = .ok (.aload_n 2, 1) := by decide +kernel
theorem d27 : decode yB 27 = .ok (.iload_n 3, 1) := by decide +kernel
theorem d28 : decode yB 28 = .ok (.iload 6, 2) := by decide +kernel
theorem d30 : decode yB 30 = .ok (.i2b, 1) := by decide +kernel
theorem d31 : decode yB 31 = .ok (.bastore, 1) := by decide +kernel
theorem d32 : decode yB 32 = .ok (.iinc 1 1, 3) := by decide +kernel
theorem d35 : decode yB 35 = .ok (.iinc 3 1, 3) := by decide +kernel
theorem d38 : decode yB 38 = .ok (.iinc 5 1, 3) := by decide +kernel
theorem d41 : decode yB 41 = .ok (.goto (-38), 3) := by decide +kernel
theorem d44 : decode yB 44 = .ok (.iload 4, 2) := by decide +kernel
theorem d46 : decode yB 46 = .ok (.ireturn, 1) := by decide +kernel
def site : List Cond := []
def tab : Cond := tabOf yN yB 7 (some .int) site
def P (b : Addr) (A : Cell) (d : Addr) (B : Cell) (o q len : Nat) (args : Array Value) (s : State) : Prop := args = #[.ref b, .int (Int32.ofNat o), .ref d, .int (Int32.ofNat q), .int (Int32.ofNat len)] ∧ Ch b A s ∧ Arr .byte d B s ∧ b ≠ d ∧ o + len ≤ A.slots.size ∧ q + len ≤ B.slots.size ∧ ∀ i, i < len → ¬ 255 < cv A (o + i)
def E (b : Addr) (A : Cell) (d : Addr) (B : Cell) (o q len : Nat) (r : Option Value) (s u : State) : Prop := r = some (.int (Int32.ofNat len)) ∧ ∃ B', Put d B' s u ∧ Laid B B' q (q + len) (fun j => Value.int (lo8 (cv A (o + (j - q)))))
/-- no char of the range above 255: len; the places written hold each char's low byte -/
theorem law (l : Launch) (b : Addr) (A : Cell) (d : Addr) (B : Cell) (o q len : Nat) : Law l yN 5 5 0 0 yB 7 (some .int) site (P b A d B o q len) (E b A d B o q len) (copyLocs d q len) 0 0 := by
  refine Law.of_walk (plainFor_of_name (by decide +kernel)) (by decide +kernel) (by decide +kernel) (by decide) (fun _ _ h => by rw [h.1]; rfl) (fun _ U U' hal hh h => ⟨h.1, h.2.1.mv hal hh, h.2.2.1.mv hal hh, h.2.2.2⟩) (fun r U U' V V' h1 hal h2 h => ⟨h.1, h.2.elim fun B' q => ⟨B', q.1.mv h1 h2, q.2⟩⟩) ?_
  intro p e s m args below meth c s₁ X0 hexec hbytes hml hret hlk hnm hown hh0 W hP
  obtain ⟨rfl, hA, hB, hne, l1, l2, hp⟩ := hP
  have c1 : Steps p.tables e below (s₁.setTop (entryFrame m #[.ref b, .int (Int32.ofNat o), .ref d, .int (Int32.ofNat q), .int (Int32.ofNat len)] 7)) (s₁.setTop (mkF m 0 #[.val (.ref b), .val (.int (Int32.ofNat o)), .val (.ref d), .val (.int (Int32.ofNat q)), .val (.int (Int32.ofNat len)), .unset, .unset] [])) := entry rfl
  have hA0 := hA.1.mv X0.warmed.alike hh0
  have hB0 := hB.mv X0.warmed.alike hh0
  have a31 := hA.1.2.2.2
  have c2 : Steps p.tables e below (s₁.setTop (entryFrame m #[.ref b, .int (Int32.ofNat o), .ref d, .int (Int32.ofNat q), .int (Int32.ofNat len)] 7)) (s₁.setTop (mkF m 3 #[.val (.ref b), .val (.int (Int32.ofNat o)), .val (.ref d), .val (.int (Int32.ofNat q)), .val (.int (Int32.ofNat len)), .val (.int 0), .unset] [])) := c1.trans (by
    refine iconstV X0.here hexec rfl 0 (hb hbytes d0) (by decide) ?_
    refine XS.istore X0.here hexec rfl (hb hbytes d1) rfl rfl ?_
    exact Steps.refl _)
  have loop : ∀ (r i : Nat), i + r = len → ∀ (z : Slot), (z = .unset ∨ ∃ w, z = .val w ∧ w.category = 1) → ∀ (Tl : State) (Bk : Cell), Stand p l e { frames := 0, locals := 0, cells := 0, slots := 0 } s m #[.ref b, .int (Int32.ofNat o), .ref d, .int (Int32.ofNat q), .int (Int32.ofNat len)] below meth c Tl ([] ++ copyLocs d q i) 0 0 → Put d Bk s₁ Tl → Laid B Bk q (q + i) (fun j => Value.int (lo8 (cv A (o + (j - q))))) →
      Steps p.tables e below (s₁.setTop (entryFrame m #[.ref b, .int (Int32.ofNat o), .ref d, .int (Int32.ofNat q), .int (Int32.ofNat len)] 7)) (Tl.setTop (mkF m 3 #[.val (.ref b), .val (.int (Int32.ofNat (o + i))), .val (.ref d), .val (.int (Int32.ofNat (q + i))), .val (.int (Int32.ofNat len)), .val (.int (Int32.ofNat i)), z] [])) → ∃ (T' : State) (B' : Cell) (z' : Slot), Stand p l e { frames := 0, locals := 0, cells := 0, slots := 0 } s m #[.ref b, .int (Int32.ofNat o), .ref d, .int (Int32.ofNat q), .int (Int32.ofNat len)] below meth c T' ([] ++ copyLocs d q len) 0 0 ∧ Put d B' s₁ T' ∧ Laid B B' q (q + len) (fun j => Value.int (lo8 (cv A (o + (j - q))))) ∧
      Steps p.tables e below (s₁.setTop (entryFrame m #[.ref b, .int (Int32.ofNat o), .ref d, .int (Int32.ofNat q), .int (Int32.ofNat len)] 7)) (T'.setTop (mkF m 3 #[.val (.ref b), .val (.int (Int32.ofNat (o + len))), .val (.ref d), .val (.int (Int32.ofNat (q + len))), .val (.int (Int32.ofNat len)), .val (.int (Int32.ofNat len)), z'] [])) := by
    intro r
    induction r with
    | zero =>
      intro i hi z hz Tl Bk Xl pl fl cl
      have hil : i = len := by omega
      rw [hil] at Xl fl cl
      exact ⟨Tl, Bk, z, Xl, pl, fl, cl⟩
    | succ r ih =>
      intro i hi z hz Tl Bk Xl pl fl cl
      have all := X0.warmed.alike.symm.trans Xl.warmed.alike
      have hAl := hA0.keep all (pl.other hne hA0.1)
      have hBk := hB0.like all pl.1 fl.1 fl.2.1 fl.2.2.1
      have hlt : q + i < Bk.slots.size := by rw [fl.2.2.1]; omega
      have c3 : Steps p.tables e below (s₁.setTop (entryFrame m #[.ref b, .int (Int32.ofNat o), .ref d, .int (Int32.ofNat q), .int (Int32.ofNat len)] 7)) (Tl.setTop (mkF m 12 #[.val (.ref b), .val (.int (Int32.ofNat (o + i))), .val (.ref d), .val (.int (Int32.ofNat (q + i))), .val (.int (Int32.ofNat len)), .val (.int (Int32.ofNat i)), z] [.int (Int32.ofNat (o + i)), .ref b])) := cl.trans (by
        refine XS.iload Xl.here hexec rfl (hb hbytes d3) rfl ?_
        refine XS.iload Xl.here hexec rfl (hb hbytes d5) rfl ?_
        refine XS.icmpNo Xl.here hexec rfl (hb hbytes d7) rfl (ii_ge_f (lt32 (by omega) (by omega))) ?_
        refine XS.aloadN Xl.here hexec rfl (hb hbytes d10) rfl rfl ?_
        refine XS.iloadN Xl.here hexec rfl (hb hbytes d11) rfl ?_
        exact Steps.refl _)
      have c4 : Steps p.tables e below (s₁.setTop (entryFrame m #[.ref b, .int (Int32.ofNat o), .ref d, .int (Int32.ofNat q), .int (Int32.ofNat len)] 7)) (Tl.setTop (mkF m 13 #[.val (.ref b), .val (.int (Int32.ofNat (o + i))), .val (.ref d), .val (.int (Int32.ofNat (q + i))), .val (.int (Int32.ofNat len)), .val (.int (Int32.ofNat i)), z] [.int (cv A (o + i))])) := c3.trans (by
        refine Xl.aget hexec hAl rfl (hA.get (i := o + i) (by omega)) rfl rfl (hb hbytes d12) ?_
        exact Steps.refl _)
      have c5 : Steps p.tables e below (s₁.setTop (entryFrame m #[.ref b, .int (Int32.ofNat o), .ref d, .int (Int32.ofNat q), .int (Int32.ofNat len)] 7)) (Tl.setTop (mkF m 15 #[.val (.ref b), .val (.int (Int32.ofNat (o + i))), .val (.ref d), .val (.int (Int32.ofNat (q + i))), .val (.int (Int32.ofNat len)), .val (.int (Int32.ofNat i)), .val (.int (cv A (o + i)))] [])) := c4.trans (by
        refine XS.istoreS Xl.here hexec rfl (hb hbytes d13) rfl rfl hz ?_
        exact Steps.refl _)
      have c6 : Steps p.tables e below (s₁.setTop (entryFrame m #[.ref b, .int (Int32.ofNat o), .ref d, .int (Int32.ofNat q), .int (Int32.ofNat len)] 7)) (Tl.setTop (mkF m 31 #[.val (.ref b), .val (.int (Int32.ofNat (o + i))), .val (.ref d), .val (.int (Int32.ofNat (q + i))), .val (.int (Int32.ofNat len)), .val (.int (Int32.ofNat i)), .val (.int (cv A (o + i)))] [.int (lo8 (cv A (o + i))), .int (Int32.ofNat (q + i)), .ref d])) := c5.trans (by
        refine XS.iload Xl.here hexec rfl (hb hbytes d15) rfl ?_
        refine sipushV Xl.here hexec rfl 255 (hb hbytes d17) (by decide) ?_
        refine XS.icmpYes Xl.here hexec rfl (pc0 := 20) rfl (hb hbytes d20) rfl (ii_le_t (hp i (by omega))) (by decide) rfl ?_
        refine XS.aloadN Xl.here hexec rfl (hb hbytes d26) rfl rfl ?_
        refine XS.iloadN Xl.here hexec rfl (hb hbytes d27) rfl ?_
        refine XS.iload Xl.here hexec rfl (hb hbytes d28) rfl ?_
        refine i2b Xl.here hexec rfl (hb hbytes d30) rfl ?_
        exact Steps.refl _)
      obtain ⟨T7, X7, p7, st7⟩ := Xl.aput hexec hBk rfl hlt rfl (fits_lo8 (cv A (o + i))) (g := (mkF m 31 #[.val (.ref b), .val (.int (Int32.ofNat (o + i))), .val (.ref d), .val (.int (Int32.ofNat (q + i))), .val (.int (Int32.ofNat len)), .val (.int (Int32.ofNat i)), .val (.int (cv A (o + i)))] [.int (lo8 (cv A (o + i))), .int (Int32.ofNat (q + i)), .ref d])) rfl (rest := []) rfl (hb hbytes d31)
      have c8 : Steps p.tables e below (s₁.setTop (entryFrame m #[.ref b, .int (Int32.ofNat o), .ref d, .int (Int32.ofNat q), .int (Int32.ofNat len)] 7)) (T7.setTop (mkF m 32 #[.val (.ref b), .val (.int (Int32.ofNat (o + i))), .val (.ref d), .val (.int (Int32.ofNat (q + i))), .val (.int (Int32.ofNat len)), .val (.int (Int32.ofNat i)), .val (.int (cv A (o + i)))] [])) := c6.trans (st7 _ (Steps.refl _))
      have c9 : Steps p.tables e below (s₁.setTop (entryFrame m #[.ref b, .int (Int32.ofNat o), .ref d, .int (Int32.ofNat q), .int (Int32.ofNat len)] 7)) (T7.setTop (mkF m 3 #[.val (.ref b), .val (.int (Int32.ofNat (o + i) + 1)), .val (.ref d), .val (.int (Int32.ofNat (q + i) + 1)), .val (.int (Int32.ofNat len)), .val (.int (Int32.ofNat i + 1)), .val (.int (cv A (o + i)))] [])) := c8.trans (by
        refine iincV X7.here hexec rfl 1 (hb hbytes d32) (by decide) rfl rfl ?_
        refine iincV X7.here hexec rfl 1 (hb hbytes d35) (by decide) rfl rfl ?_
        refine iincV X7.here hexec rfl 1 (hb hbytes d38) (by decide) rfl rfl ?_
        refine XS.goto X7.here hexec rfl (pc0 := 41) rfl (hb hbytes d41) (by decide) rfl ?_
        exact Steps.refl _)
      have c10 : Steps p.tables e below (s₁.setTop (entryFrame m #[.ref b, .int (Int32.ofNat o), .ref d, .int (Int32.ofNat q), .int (Int32.ofNat len)] 7)) (T7.setTop (mkF m 3 #[.val (.ref b), .val (.int (Int32.ofNat (o + (i + 1)))), .val (.ref d), .val (.int (Int32.ofNat (q + (i + 1)))), .val (.int (Int32.ofNat len)), .val (.int (Int32.ofNat (i + 1))), .val (.int (cv A (o + i)))] [])) := by
        have := c9
        rw [succ32, succ32, succ32] at this
        exact this
      exact ih (i + 1) (by omega) _ (Or.inr ⟨_, rfl, rfl⟩) T7 _ (by rw [copyLocs_step, ← List.append_assoc]; exact X7) (pl.trans p7) (fl.step (by omega) hlt (by simp)) c10
  obtain ⟨T9, B9, z9, X9, p9, f9, g9⟩ := loop len 0 (by omega) .unset (Or.inl rfl) s₁ B (by simpa [copyLocs] using X0) ⟨hB0.1, fun _ _ => rfl, rfl⟩ (Laid.zero _ _ _) c2
  have c11 : Steps p.tables e below (s₁.setTop (entryFrame m #[.ref b, .int (Int32.ofNat o), .ref d, .int (Int32.ofNat q), .int (Int32.ofNat len)] 7)) (T9.setTop (mkF m 46 #[.val (.ref b), .val (.int (Int32.ofNat (o + len))), .val (.ref d), .val (.int (Int32.ofNat (q + len))), .val (.int (Int32.ofNat len)), .val (.int (Int32.ofNat len)), z9] [.int (Int32.ofNat len)])) := g9.trans (by
    refine XS.iload X9.here hexec rfl (hb hbytes d3) rfl ?_
    refine XS.iload X9.here hexec rfl (hb hbytes d5) rfl ?_
    refine XS.icmpYes X9.here hexec rfl (pc0 := 7) rfl (hb hbytes d7) rfl (ii_ge_t (nlt32 (by omega) (Nat.le_refl _))) (by decide) rfl ?_
    refine XS.iload X9.here hexec rfl (hb hbytes d44) rfl ?_
    exact Steps.refl _)
  exact ⟨T9, some (.int (Int32.ofNat len)), _, _, _, X9, by simp, rfl, rfl, (fun h => by cases h), ⟨rfl, B9, p9.from hh0, f9⟩, fun fs hl => c11.trans (X9.ireturnOut hexec hret rfl (Or.inl rfl) (hb hbytes d46) hl)⟩
end Cmp5
namespace Cmp3
def yN : MethodName := ⟨"java/lang/StringUTF16", "compress", "([CII)[B"⟩
abbrev yB : ByteArray := jdk_52_method_16_code
theorem d0 : decode yB 0 = .ok (.iload_n 2, 1) := by decide +kernel
theorem d1 : decode yB 1 = .ok (.newarray .byte, 2) := by decide +kernel
theorem d3 : decode yB 3 = .ok (.astore_n 3, 1) := by decide +kernel
theorem d4 : decode yB 4 = .ok (.aload_n 0, 1) := by decide +kernel
theorem d5 : decode yB 5 = .ok (.iload_n 1, 1) := by decide +kernel
theorem d6 : decode yB 6 = .ok (.aload_n 3, 1) := by decide +kernel
theorem d7 : decode yB 7 = .ok (.iconst 0, 1) := by decide +kernel
theorem d8 : decode yB 8 = .ok (.iload_n 2, 1) := by decide +kernel
theorem d9 : decode yB 9 = .ok (.invokestatic 115, 3) := by decide +kernel
theorem d12 : decode yB 12 = .ok (.istore 4, 2) := by decide +kernel
theorem d14 : decode yB 14 = .ok (.iload 4, 2) := by decide +kernel
theorem d16 : decode yB 16 = .ok (.iload_n 2, 1) := by decide +kernel
theorem d17 : decode yB 17 = .ok (.if_icmp (.eq) 40, 3) := by decide +kernel
theorem d57 : decode yB 57 = .ok (.aload_n 3, 1) := by decide +kernel
theorem d58 : decode yB 58 = .ok (.areturn, 1) := by decide +kernel
def site : List Cond := [.arrayClass .byte, Cmp5.tab] ++ staticW U16 115 Cmp5.yN
def tab : Cond := tabOf yN yB 6 (some (.array .byte)) site
def P (b : Addr) (A : Cell) (o len : Nat) (args : Array Value) (s : State) : Prop := args = #[.ref b, .int (Int32.ofNat o), .int (Int32.ofNat len)] ∧ Ch b A s ∧ o + len ≤ A.slots.size ∧ len ≤ 536870912 ∧ ∀ i, i < len → ¬ 255 < cv A (o + i)
def E (b : Addr) (A : Cell) (o len : Nat) (r : Option Value) (s u : State) : Prop := NewArr .byte "[B" len (fun j => .int (lo8 (cv A (o + j)))) r s u ∧ u.heap.size = s.heap.size + 1
/-- no char of the range above 255: a new byte[] of their low bytes -/
theorem law (l : Launch) (b : Addr) (A : Cell) (o len : Nat) : Law l yN 3 3 1 18 yB 6 (some (.array .byte)) site (P b A o len) (E b A o len) [] 1 len := by
  refine Law.of_walk (plainFor_of_name (by decide +kernel)) (by decide +kernel) (by decide +kernel) (by decide) (fun _ _ h => by rw [h.1]; rfl) (fun _ U U' hal hh h => ⟨h.1, h.2.1.mv hal hh, h.2.2⟩) (fun r U U' V V' h1 hal h2 h => ⟨NewArr.mv r U U' V V' h1 hal h2 h.1, by rw [h1, h2]; exact h.2⟩) ?_
  intro p e s m args below meth c s₁ X0 hexec hbytes hml hret hlk hnm hown hh0 W hP
  obtain ⟨rfl, hA, l1, l2, hp⟩ := hP
  have a31 := hA.1.2.2.2
  have c1 : Steps p.tables e below (s₁.setTop (entryFrame m #[.ref b, .int (Int32.ofNat o), .int (Int32.ofNat len)] 6)) (s₁.setTop (mkF m 0 #[.val (.ref b), .val (.int (Int32.ofNat o)), .val (.int (Int32.ofNat len)), .unset, .unset, .unset] [])) := entry rfl
  have c2 : Steps p.tables e below (s₁.setTop (entryFrame m #[.ref b, .int (Int32.ofNat o), .int (Int32.ofNat len)] 6)) (s₁.setTop (mkF m 1 #[.val (.ref b), .val (.int (Int32.ofNat o)), .val (.int (Int32.ofNat len)), .unset, .unset, .unset] [.int (Int32.ofNat len)])) := c1.trans (by
    refine XS.iloadN X0.here hexec rfl (hb hbytes d0) rfl ?_
    exact Steps.refl _)
  obtain ⟨T3, B3, X3, ba3, bs3, bv3, bh3, bf3, st3⟩ := X0.anew hexec (atype := .byte) (wk W (.arrayClass .byte)) rfl (by show len * 1 ≤ _; omega) (by omega) (g := (mkF m 1 #[.val (.ref b), .val (.int (Int32.ofNat o)), .val (.int (Int32.ofNat len)), .unset, .unset, .unset] [.int (Int32.ofNat len)])) rfl (hb hbytes d1) (rest := []) rfl (Nat.le_refl _) (by show 0 + len ≤ len; omega)
  rw [hh0] at ba3 st3
  have kp3 : XT.Kept s T3 := (XT.Kept.of_eq hh0).push bh3
  have hA3 := hA.keep X3.warmed.alike (kp3 _ _ hA.1.1)
  have hne : b ≠ s.heap.size := hA.1.ne
  have c4 : Steps p.tables e below (s₁.setTop (entryFrame m #[.ref b, .int (Int32.ofNat o), .int (Int32.ofNat len)] 6)) (T3.setTop (mkF m 3 #[.val (.ref b), .val (.int (Int32.ofNat o)), .val (.int (Int32.ofNat len)), .unset, .unset, .unset] [.ref s.heap.size])) := c2.trans (st3 _ (Steps.refl _))
  have c5 : Steps p.tables e below (s₁.setTop (entryFrame m #[.ref b, .int (Int32.ofNat o), .int (Int32.ofNat len)] 6)) (T3.setTop (mkF m 9 #[.val (.ref b), .val (.int (Int32.ofNat o)), .val (.int (Int32.ofNat len)), .val (.ref s.heap.size), .unset, .unset] [.int (Int32.ofNat len), .int 0, .ref s.heap.size, .int (Int32.ofNat o), .ref b])) := c4.trans (by
    refine XS.astoreN X3.here hexec rfl (hb hbytes d3) rfl rfl rfl ?_
    refine XS.aloadN X3.here hexec rfl (hb hbytes d4) rfl rfl ?_
    refine XS.iloadN X3.here hexec rfl (hb hbytes d5) rfl ?_
    refine XS.aloadN X3.here hexec rfl (hb hbytes d6) rfl rfl ?_
    refine iconstV X3.here hexec rfl 0 (hb hbytes d7) (by decide) ?_
    refine XS.iloadN X3.here hexec rfl (hb hbytes d8) rfl ?_
    exact Steps.refl _)
  obtain ⟨v6, T6, X6, E6, g6⟩ := X3.callS hexec (Cmp5.law l b A s.heap.size B3 o 0 len) hown (wks W (staticW U16 115 Cmp5.yN)) (wk W Cmp5.tab) (W := 0) (Nat.le_of_ble_eq_true rfl) (Nat.le_of_ble_eq_true rfl) (Nat.le_refl _) (by show 0 + len + 0 ≤ len; omega) (g := (mkF m 9 #[.val (.ref b), .val (.int (Int32.ofNat o)), .val (.int (Int32.ofNat len)), .val (.ref s.heap.size), .unset, .unset] [.int (Int32.ofNat len), .int (Int32.ofNat 0), .ref s.heap.size, .int (Int32.ofNat o), .ref b])) rfl (by rw [hml]; rfl) c5 (argsL := [.ref b, .int (Int32.ofNat o), .ref s.heap.size, .int (Int32.ofNat 0), .int (Int32.ofNat len)]) (rest := []) rfl rfl (by show 2 * 0 + 0 ≤ _; decide) (hb hbytes d9) (⟨rfl, hA3, ba3, hne, l1, by rw [bs3]; simp, hp⟩)
  obtain ⟨rfl, B6, p6, f6⟩ := E6
  have c7 : Steps p.tables e below (s₁.setTop (entryFrame m #[.ref b, .int (Int32.ofNat o), .int (Int32.ofNat len)] 6)) (T6.setTop (mkF m 12 #[.val (.ref b), .val (.int (Int32.ofNat o)), .val (.int (Int32.ofNat len)), .val (.ref s.heap.size), .unset, .unset] [.int (Int32.ofNat len)])) := g6
  have c8 : Steps p.tables e below (s₁.setTop (entryFrame m #[.ref b, .int (Int32.ofNat o), .int (Int32.ofNat len)] 6)) (T6.setTop (mkF m 58 #[.val (.ref b), .val (.int (Int32.ofNat o)), .val (.int (Int32.ofNat len)), .val (.ref s.heap.size), .val (.int (Int32.ofNat len)), .unset] [.ref s.heap.size])) := c7.trans (by
    refine XS.istore X6.here hexec rfl (hb hbytes d12) rfl rfl ?_
    refine XS.iload X6.here hexec rfl (hb hbytes d14) rfl ?_
    refine XS.iloadN X6.here hexec rfl (hb hbytes d16) rfl ?_
    refine XS.icmpYes X6.here hexec rfl (pc0 := 17) rfl (hb hbytes d17) rfl (ii_eq_t rfl) (by decide) rfl ?_
    refine XS.aloadN X6.here hexec rfl (hb hbytes d57) rfl rfl ?_
    exact Steps.refl _)
  have X8 := X6.wide (L' := []) (cells' := 1) (slots' := len) (fun x hx hlt => by
    simp only [List.nil_append, copyLocs, List.mem_map, List.mem_range] at hx
    obtain ⟨i, -, rfl⟩ := hx
    exact absurd hlt (Nat.lt_irrefl _)) (Nat.le_refl _) (by omega)
  exact ⟨T6, some (.ref s.heap.size), _, _, _, X8, rfl, rfl, rfl, (fun h => by cases h), ⟨⟨rfl, B6, ba3.like (X3.warmed.alike.symm.trans X6.warmed.alike) p6.1 f6.1 f6.2.1 f6.2.2.1, f6.2.1.trans bv3, by rw [X6.warmed.alike.findClass, f6.1]; exact bf3, by rw [f6.2.2.1, bs3]; simp, fun j hj => by rw [f6.2.2.2 j, if_pos (by omega)]; rfl, kp3.put p6 (Nat.le_refl _)⟩, by rw [p6.2.2, bh3, hh0]; simp⟩, fun fs hl => c8.trans (X8.areturnOut hexec rfl hret rfl (hb hbytes d58) hl)⟩
end Cmp3
namespace CodL
def yN : MethodName := ⟨"java/lang/StringUTF16", "coderFromArrayLen", "([BI)B"⟩
abbrev yB : ByteArray := jdk_52_method_15_code
theorem d0 : decode yB 0 = .ok (.iload_n 1, 1) := by decide +kernel
theorem d1 : decode yB 1 = .ok (.aload_n 0, 1) := by decide +kernel
theorem d2 : decode yB 2 = .ok (.arraylength, 1) := by decide +kernel
theorem d3 : decode yB 3 = .ok (.isub, 1) := by decide +kernel
theorem d4 : decode yB 4 = .ok (.bipush 31, 2) := by decide +kernel
theorem d6 : decode yB 6 = .ok (.iushr, 1) := by decide +kernel
theorem d7 : decode yB 7 = .ok (.i2b, 1) := by decide +kernel
theorem d8 : decode yB 8 = .ok (.ireturn, 1) := by decide +kernel
def site : List Cond := []
def tab : Cond := tabOf yN yB 2 (some .byte) site
def P (d : Addr) (B : Cell) (args : Array Value) (s : State) : Prop := args = #[.ref d, .int (Int32.ofNat B.slots.size)] ∧ Arr .byte d B s
def E (r : Option Value) (s u : State) : Prop := XT.PureE (some (.int 0)) r s u
/-- an array as long as the number of chars: LATIN1 -/
theorem law (l : Launch) (d : Addr) (B : Cell) : Law l yN 2 2 0 0 yB 2 (some .byte) site (P d B) E [] 0 0 := by
  refine Law.of_walk (plainFor_of_name (by decide +kernel)) (by decide +kernel) (by decide +kernel) (by decide) (fun _ _ h => by rw [h.1]; rfl) (fun _ U U' hal hh h => ⟨h.1, h.2.mv hal hh⟩) (fun r U U' V V' h1 hal h2 h => XT.PureE.mv r U U' V V' h1 hal h2 h) ?_
  intro p e s m args below meth c s₁ X0 hexec hbytes hml hret hlk hnm hown hh0 W hP
  obtain ⟨rfl, hB⟩ := hP
  have hB0 := hB.mv X0.warmed.alike hh0
  have c1 : Steps p.tables e below (s₁.setTop (entryFrame m #[.ref d, .int (Int32.ofNat B.slots.size)] 2)) (s₁.setTop (mkF m 0 #[.val (.ref d), .val (.int (Int32.ofNat B.slots.size))] [])) := entry rfl
  have c2 : Steps p.tables e below (s₁.setTop (entryFrame m #[.ref d, .int (Int32.ofNat B.slots.size)] 2)) (s₁.setTop (mkF m 2 #[.val (.ref d), .val (.int (Int32.ofNat B.slots.size))] [.ref d, .int (Int32.ofNat B.slots.size)])) := c1.trans (by
    refine XS.iloadN X0.here hexec rfl (hb hbytes d0) rfl ?_
    refine XS.aloadN X0.here hexec rfl (hb hbytes d1) rfl rfl ?_
    exact Steps.refl _)
  have c3 : Steps p.tables e below (s₁.setTop (entryFrame m #[.ref d, .int (Int32.ofNat B.slots.size)] 2)) (s₁.setTop (mkF m 8 #[.val (.ref d), .val (.int (Int32.ofNat B.slots.size))] [.int (lo8 (ushr (Int32.ofNat B.slots.size - Int32.ofNat B.slots.size) 31))])) := c2.trans (by
    refine X0.alen hexec hB0 rfl rfl (hb hbytes d2) ?_
    refine XS.isub X0.here hexec rfl (hb hbytes d3) rfl ?_
    refine bipushV X0.here hexec rfl 31 (hb hbytes d4) (by decide) ?_
    refine iushr X0.here hexec rfl (hb hbytes d6) rfl ?_
    refine i2b X0.here hexec rfl (hb hbytes d7) rfl ?_
    exact Steps.refl _)
  have e0 : lo8 (ushr (Int32.ofNat B.slots.size - Int32.ofNat B.slots.size) 31) = 0 := by rw [Int32.sub_self]; decide
  rw [e0] at c3
  exact ⟨s₁, some (.int 0), _, _, _, X0, rfl, rfl, rfl, (fun h => by cases h), ⟨rfl, hh0⟩, fun fs hl => c3.trans (X0.ireturnOut hexec hret rfl (Or.inr (Or.inr (Or.inl rfl))) (hb hbytes d8) hl)⟩
end CodL
/-- the String at a is Latin-1 over a new byte[] (the heap's one new cell): the low bytes of the len chars of A from o on; every cell but a is kept -/
def Got (a : Addr) (D : Cell) (fV fC : Field) (A : Cell) (o len : Nat) (r : Option Value) (s u : State) : Prop := r = none ∧ ∃ D' V : Cell, Blank "java/lang/String" a D' u ∧ Same D D' [fV.slot, fC.slot] ∧ D'.slots[fV.slot]? = some (.ref s.heap.size) ∧ D'.slots[fC.slot]? = some (.int 0) ∧ Arr .byte s.heap.size V u ∧ V.vm = .none ∧ u.vm.findClass "[B" = some V.cls ∧ V.slots.size = len ∧ (∀ j, j < len → V.slots[j]? = some (.int (lo8 (cv A (o + j))))) ∧ (∀ (y : Addr) (c : Cell), y ≠ a → s.heap[y]? = some c → u.heap[y]? = some c) ∧ u.heap.size = s.heap.size + 1
theorem Got.mv {a : Addr} {D A : Cell} {fV fC : Field} {o len : Nat} : ∀ r (U U' V V' : State), U'.heap = U.heap → V.vm.Alike V'.vm → V'.heap = V.heap → Got a D fV fC A o len r U V → Got a D fV fC A o len r U' V' :=
  fun r U U' V V' h1 hal h2 ⟨e0, D', X, a1, a2, a3, a4, a5, a6, a7, a8, a9, a10, a11⟩ => ⟨e0, D', X, a1.mv hal h2, a2, by rw [h1]; exact a3, a4, by rw [h1]; exact a5.mv hal h2, a6, by rw [hal.findClass]; exact a7, a8, a9, by rw [h1, h2]; exact a10, by rw [h1, h2]; exact a11⟩
namespace New4
def yN : MethodName := ⟨"java/lang/String", "<init>", "([CIILjava/lang/Void;)V"⟩
abbrev yB : ByteArray := jdk_42_method_149_code
theorem d0 : decode yB 0 = .ok (.aload_n 0, 1) := by decide +kernel
theorem d1 : decode yB 1 = .ok (.invokespecial 1, 3) := by decide +kernel
theorem d4 : decode yB 4 = .ok (.iload_n 3, 1) := by decide +kernel
theorem d5 : decode yB 5 = .ok (.ifCond (.ne) 22, 3) := by decide +kernel
theorem d27 : decode yB 27 = .ok (.getstatic 38, 3) := by decide +kernel
theorem d30 : decode yB 30 = .ok (.ifCond (.eq) 28, 3) := by decide +kernel
theorem d33 : decode yB 33 = .ok (.aload_n 1, 1) := by decide +kernel
theorem d34 : decode yB 34 = .ok (.iload_n 2, 1) := by decide +kernel
theorem d35 : decode yB 35 = .ok (.iload_n 3, 1) := by decide +kernel
theorem d36 : decode yB 36 = .ok (.invokestatic 177, 3) := by decide +kernel
theorem d39 : decode yB 39 = .ok (.astore 5, 2) := by decide +kernel
theorem d41 : decode yB 41 = .ok (.aload_n 0, 1) := by decide +kernel
theorem d42 : decode yB 42 = .ok (.aload 5, 2) := by decide +kernel
theorem d44 : decode yB 44 = .ok (.iload_n 3, 1) := by decide +kernel
theorem d45 : decode yB 45 = .ok (.invokestatic 47, 3) := by decide +kernel
theorem d48 : decode yB 48 = .ok (.putfield 15, 3) := by decide +kernel
theorem d51 : decode yB 51 = .ok (.aload_n 0, 1) := by decide +kernel
theorem d52 : decode yB 52 = .ok (.aload 5, 2) := by decide +kernel
theorem d54 : decode yB 54 = .ok (.putfield 9, 3) := by decide +kernel
theorem d57 : decode yB 57 = .ok (.return_, 1) := by decide +kernel
def site : List Cond := [.fieldLink "java/lang/String" 38 "java/lang/String" "COMPACT_STRINGS" "Z", Cmp3.tab, CodL.tab, .laysFinal "java/lang/String" "java/lang/String" "value" "[B", .fieldLink "java/lang/String" 9 "java/lang/String" "value" "[B", .laysFinal "java/lang/String" "java/lang/String" "coder" "B", .fieldLink "java/lang/String" 15 "java/lang/String" "coder" "B"] ++ objW "java/lang/String" 1 ++ staticW "java/lang/String" 177 Cmp3.yN ++ staticW "java/lang/String" 47 CodL.yN
def tab : Cond := tabOf yN yB 6 none site
def P (a : Addr) (D : Cell) (fV fC : Field) (b : Addr) (A : Cell) (z : Int32) (o len : Nat) (args : Array Value) (s : State) : Prop := args = #[.ref a, .ref b, .int (Int32.ofNat o), .int (Int32.ofNat len), .null] ∧ Blank "java/lang/String" a D s ∧ Found "java/lang/String" "value" "[B" fV s ∧ Found "java/lang/String" "coder" "B" fC s ∧ Ch b A s ∧ StaticIs s "java/lang/String" "COMPACT_STRINGS" "Z" (.int z) ∧ ¬ z = 0 ∧ 0 < len ∧ o + len ≤ A.slots.size ∧ len ≤ 536870912 ∧ ∀ i, i < len → ¬ 255 < cv A (o + i)
def E (a : Addr) (D : Cell) (fV fC : Field) (A : Cell) (o len : Nat) (r : Option Value) (s u : State) : Prop := Got a D fV fC A o len r s u
/-- len > 0, no char of the range above 255: a Latin-1 String of their low bytes -/
theorem law (l : Launch) (a : Addr) (D : Cell) (fV fC : Field) (b : Addr) (A : Cell) (z : Int32) (o len : Nat) : Law l yN 5 4 2 35 yB 6 none site (P a D fV fC b A z o len) (E a D fV fC A o len) [⟨a, fC.slot⟩, ⟨a, fV.slot⟩] 1 len := by
  refine Law.of_walk (plainFor_of_name (by decide +kernel)) (by decide +kernel) (by decide +kernel) (by decide) (fun _ _ h => by rw [h.1]; rfl) (fun _ U U' hal hh h => ⟨h.1, h.2.1.mv hal hh, h.2.2.1.al hal, h.2.2.2.1.al hal, h.2.2.2.2.1.mv hal hh, h.2.2.2.2.2.1.there hal hh, h.2.2.2.2.2.2⟩) (fun r U U' V V' h1 hal h2 h => Got.mv r U U' V V' h1 hal h2 h) ?_
  intro p e s m args below meth c s₁ X0 hexec hbytes hml hret hlk hnm hown hh0 W hP
  obtain ⟨rfl, hB, f1, f2, hA, s1, hz, l0, l1, l2, hp⟩ := hP
  have a31 := hA.1.2.2.2
  have c1 : Steps p.tables e below (s₁.setTop (entryFrame m #[.ref a, .ref b, .int (Int32.ofNat o), .int (Int32.ofNat len), .null] 6)) (s₁.setTop (mkF m 0 #[.val (.ref a), .val (.ref b), .val (.int (Int32.ofNat o)), .val (.int (Int32.ofNat len)), .val .null, .unset] [])) := entry rfl
  have c2 : Steps p.tables e below (s₁.setTop (entryFrame m #[.ref a, .ref b, .int (Int32.ofNat o), .int (Int32.ofNat len), .null] 6)) (s₁.setTop (mkF m 1 #[.val (.ref a), .val (.ref b), .val (.int (Int32.ofNat o)), .val (.int (Int32.ofNat len)), .val .null, .unset] [.ref a])) := c1.trans (by
    refine XS.aloadN X0.here hexec rfl (hb hbytes d0) rfl rfl ?_
    exact Steps.refl _)
  obtain ⟨T3, X3, q3, st3⟩ := X0.oinit hexec hown (wks W (objW "java/lang/String" 1)) (g := (mkF m 1 #[.val (.ref a), .val (.ref b), .val (.int (Int32.ofNat o)), .val (.int (Int32.ofNat len)), .val .null, .unset] [.ref a])) rfl (by rw [hml]; rfl) (rest := []) rfl (hb hbytes d1) (W := 0) (by show 2 * 0 + 0 ≤ _; decide) (Nat.le_of_ble_eq_true rfl) (Nat.le_of_ble_eq_true rfl)
  have hh3 := q3.trans hh0
  have c4 : Steps p.tables e below (s₁.setTop (entryFrame m #[.ref a, .ref b, .int (Int32.ofNat o), .int (Int32.ofNat len), .null] 6)) (T3.setTop (mkF m 27 #[.val (.ref a), .val (.ref b), .val (.int (Int32.ofNat o)), .val (.int (Int32.ofNat len)), .val .null, .unset] [])) := (c2.trans (st3 _ (Steps.refl _))).trans (by
    refine XS.iloadN X3.here hexec rfl (hb hbytes d4) rfl ?_
    refine XS.ifYes X3.here hexec rfl (pc0 := 5) rfl (hb hbytes d5) rfl (i0_ne_t (nz32 (by omega) l0)) (by decide) rfl ?_
    exact Steps.refl _)
  obtain ⟨T5, X5, q5, st5⟩ := X3.sget hexec hown (wk W (.fieldLink "java/lang/String" 38 "java/lang/String" "COMPACT_STRINGS" "Z")) s1 (fun _ _ h => by rw [hh3]; exact h) (g := (mkF m 27 #[.val (.ref a), .val (.ref b), .val (.int (Int32.ofNat o)), .val (.int (Int32.ofNat len)), .val .null, .unset] [])) rfl (hb hbytes d27)
  have hh5 := q5.trans hh3
  have c6 : Steps p.tables e below (s₁.setTop (entryFrame m #[.ref a, .ref b, .int (Int32.ofNat o), .int (Int32.ofNat len), .null] 6)) (T5.setTop (mkF m 30 #[.val (.ref a), .val (.ref b), .val (.int (Int32.ofNat o)), .val (.int (Int32.ofNat len)), .val .null, .unset] [.int z])) := c4.trans (st5 _ (Steps.refl _))
  have c7 : Steps p.tables e below (s₁.setTop (entryFrame m #[.ref a, .ref b, .int (Int32.ofNat o), .int (Int32.ofNat len), .null] 6)) (T5.setTop (mkF m 36 #[.val (.ref a), .val (.ref b), .val (.int (Int32.ofNat o)), .val (.int (Int32.ofNat len)), .val .null, .unset] [.int (Int32.ofNat len), .int (Int32.ofNat o), .ref b])) := c6.trans (by
    refine XS.ifNo X5.here hexec rfl (hb hbytes d30) rfl (i0_eq_f hz) ?_
    refine XS.aloadN X5.here hexec rfl (hb hbytes d33) rfl rfl ?_
    refine XS.iloadN X5.here hexec rfl (hb hbytes d34) rfl ?_
    refine XS.iloadN X5.here hexec rfl (hb hbytes d35) rfl ?_
    exact Steps.refl _)
  obtain ⟨v8, T8, X8, E8, g8⟩ := X5.callS hexec (Cmp3.law l b A o len) hown (wks W (staticW "java/lang/String" 177 Cmp3.yN)) (wk W Cmp3.tab) (W := 0) (Nat.le_of_ble_eq_true rfl) (Nat.le_of_ble_eq_true rfl) (Nat.le_refl _) (by show 0 + len ≤ len; omega) (g := (mkF m 36 #[.val (.ref a), .val (.ref b), .val (.int (Int32.ofNat o)), .val (.int (Int32.ofNat len)), .val .null, .unset] [.int (Int32.ofNat len), .int (Int32.ofNat o), .ref b])) rfl (by rw [hml]; rfl) c7 (argsL := [.ref b, .int (Int32.ofNat o), .int (Int32.ofNat len)]) (rest := []) rfl rfl (by show 2 * 0 + 0 ≤ _; decide) (hb hbytes d36) (⟨rfl, hA.mv X5.warmed.alike hh5, l1, l2, hp⟩)
  obtain ⟨e8, z8⟩ := E8
  obtain ⟨rfl, N, n1, n2, n3, n4, n5, n6⟩ := NewArr.mv _ T5 s _ _ hh5.symm (Vm.Alike.refl _) rfl e8
  rw [hh5] at z8
  have hB1 := hB.keep X8.warmed.alike (n6 _ _ hB.1)
  have hne : s.heap.size ≠ a := (Nat.ne_of_lt (Array.getElem?_eq_some_iff.mp hB.1).1).symm
  have c9 : Steps p.tables e below (s₁.setTop (entryFrame m #[.ref a, .ref b, .int (Int32.ofNat o), .int (Int32.ofNat len), .null] 6)) (T8.setTop (mkF m 39 #[.val (.ref a), .val (.ref b), .val (.int (Int32.ofNat o)), .val (.int (Int32.ofNat len)), .val .null, .unset] [.ref s.heap.size])) := g8
  have c10 : Steps p.tables e below (s₁.setTop (entryFrame m #[.ref a, .ref b, .int (Int32.ofNat o), .int (Int32.ofNat len), .null] 6)) (T8.setTop (mkF m 45 #[.val (.ref a), .val (.ref b), .val (.int (Int32.ofNat o)), .val (.int (Int32.ofNat len)), .val .null, .val (.ref s.heap.size)] [.int (Int32.ofNat N.slots.size), .ref s.heap.size, .ref a])) := by
    have hc : Steps p.tables e below (s₁.setTop (entryFrame m #[.ref a, .ref b, .int (Int32.ofNat o), .int (Int32.ofNat len), .null] 6)) (T8.setTop (mkF m 45 #[.val (.ref a), .val (.ref b), .val (.int (Int32.ofNat o)), .val (.int (Int32.ofNat len)), .val .null, .val (.ref s.heap.size)] [.int (Int32.ofNat len), .ref s.heap.size, .ref a])) := c9.trans (by
      refine XS.astore X8.here hexec rfl (hb hbytes d39) rfl rfl rfl ?_
      refine XS.aloadN X8.here hexec rfl (hb hbytes d41) rfl rfl ?_
      refine XS.aload X8.here hexec rfl (hb hbytes d42) rfl rfl ?_
      refine XS.iloadN X8.here hexec rfl (hb hbytes d44) rfl ?_
      exact Steps.refl _)
    rw [n4]; exact hc
  obtain ⟨v11, T11, X11, E11, g11⟩ := X8.callS hexec (CodL.law l s.heap.size N) hown (wks W (staticW "java/lang/String" 47 CodL.yN)) (wk W CodL.tab) (W := 1) (Nat.le_of_ble_eq_true rfl) (Nat.le_of_ble_eq_true rfl) (Nat.le_refl _) (by show 0 + len + 0 ≤ len; omega) (g := (mkF m 45 #[.val (.ref a), .val (.ref b), .val (.int (Int32.ofNat o)), .val (.int (Int32.ofNat len)), .val .null, .val (.ref s.heap.size)] [.int (Int32.ofNat N.slots.size), .ref s.heap.size, .ref a])) rfl (by rw [hml]; rfl) c10 (argsL := [.ref s.heap.size, .int (Int32.ofNat N.slots.size)]) (rest := [.ref a]) rfl rfl (by show 2 * 0 + (1 + 0) ≤ _; decide) (hb hbytes d45) (⟨rfl, n1⟩)
  obtain ⟨rfl, q11⟩ := E11
  have hB11 := hB1.mv (X8.warmed.alike.symm.trans X11.warmed.alike) q11
  have c12 : Steps p.tables e below (s₁.setTop (entryFrame m #[.ref a, .ref b, .int (Int32.ofNat o), .int (Int32.ofNat len), .null] 6)) (T11.setTop (mkF m 48 #[.val (.ref a), .val (.ref b), .val (.int (Int32.ofNat o)), .val (.int (Int32.ofNat len)), .val .null, .val (.ref s.heap.size)] [.int 0, .ref a])) := g11
  obtain ⟨T13, X13, p13, bl13, sl13, st13⟩ := X11.finit hexec hown (wk W (.fieldLink "java/lang/String" 15 "java/lang/String" "coder" "B")) (Or.inr ⟨_, (wk W (.laysFinal "java/lang/String" "java/lang/String" "coder" "B"))⟩) (Or.inl ⟨rfl, hnm⟩) f2 (Or.inl rfl) hB11 (t := .byte) (by decide +kernel) rfl (g := (mkF m 48 #[.val (.ref a), .val (.ref b), .val (.int (Int32.ofNat o)), .val (.int (Int32.ofNat len)), .val .null, .val (.ref s.heap.size)] [.int 0, .ref a])) rfl (rest := []) rfl (hb hbytes d48)
  have c14 : Steps p.tables e below (s₁.setTop (entryFrame m #[.ref a, .ref b, .int (Int32.ofNat o), .int (Int32.ofNat len), .null] 6)) (T13.setTop (mkF m 54 #[.val (.ref a), .val (.ref b), .val (.int (Int32.ofNat o)), .val (.int (Int32.ofNat len)), .val .null, .val (.ref s.heap.size)] [.ref s.heap.size, .ref a])) := (c12.trans (st13 _ (Steps.refl _))).trans (by
    refine XS.aloadN X13.here hexec rfl (hb hbytes d51) rfl rfl ?_
    refine XS.aload X13.here hexec rfl (hb hbytes d52) rfl rfl ?_
    exact Steps.refl _)
  obtain ⟨T15, X15, p15, bl15, sl15, st15⟩ := X13.finit hexec hown (wk W (.fieldLink "java/lang/String" 9 "java/lang/String" "value" "[B")) (Or.inr ⟨_, (wk W (.laysFinal "java/lang/String" "java/lang/String" "value" "[B"))⟩) (Or.inl ⟨rfl, hnm⟩) f1 (Or.inl rfl) bl13 (t := (.array .byte)) (by decide +kernel) rfl (g := (mkF m 54 #[.val (.ref a), .val (.ref b), .val (.int (Int32.ofNat o)), .val (.int (Int32.ofNat len)), .val .null, .val (.ref s.heap.size)] [.ref s.heap.size, .ref a])) rfl (rest := []) rfl (hb hbytes d54)
  have c16 : Steps p.tables e below (s₁.setTop (entryFrame m #[.ref a, .ref b, .int (Int32.ofNat o), .int (Int32.ofNat len), .null] 6)) (T15.setTop (mkF m 57 #[.val (.ref a), .val (.ref b), .val (.int (Int32.ofNat o)), .val (.int (Int32.ofNat len)), .val .null, .val (.ref s.heap.size)] [])) := c14.trans (st15 _ (Steps.refl _))
  have ap := apart (Or.inr ⟨_, (wk W (.laysFinal "java/lang/String" "java/lang/String" "value" "[B"))⟩) (Or.inr ⟨_, (wk W (.laysFinal "java/lang/String" "java/lang/String" "coder" "B"))⟩) f1 f2 (t₁ := .array .byte) (t₂ := .byte) (by decide +kernel) (by decide +kernel) (by decide)
  have al := X8.warmed.alike.symm.trans X15.warmed.alike
  have n7 : T11.heap[s.heap.size]? = some N := by rw [q11]; exact n1.1
  exact ⟨T15, none, _, _, _, X15, by simp, rfl, by omega, (fun _ => rfl), ⟨rfl, _, N, bl15, ((Same.refl D _).set _ (by simp)).set _ (by simp), sl15, (Cell.slots_setSlot_ne _ ap).trans sl13, n1.keep al (p15.other hne (p13.other hne n7)), n2, by rw [al.findClass]; exact n3, n4, n5, fun y c h1 h2 => p15.other h1 (p13.other h1 (by rw [q11]; exact n6 y c h2)), by rw [p15.2.2, p13.2.2, q11]; exact z8⟩, fun fs hl => c16.trans (X15.returnOut hexec hret (hb hbytes d57) hl)⟩
end New4
namespace New1
def yN : MethodName := ⟨"java/lang/String", "<init>", "([C)V"⟩
abbrev yB : ByteArray := jdk_42_method_3_code
theorem d0 : decode yB 0 = .ok (.aload_n 0, 1) := by decide +kernel
theorem d1 : decode yB 1 = .ok (.aload_n 1, 1) := by decide +kernel
theorem d2 : decode yB 2 = .ok (.iconst 0, 1) := by decide +kernel
theorem d3 : decode yB 3 = .ok (.aload_n 1, 1) := by decide +kernel
theorem d4 : decode yB 4 = .ok (.arraylength, 1) := by decide +kernel
theorem d5 : decode yB 5 = .ok (.aconst_null, 1) := by decide +kernel
theorem d6 : decode yB 6 = .ok (.invokespecial 27, 3) := by decide +kernel
theorem d9 : decode yB 9 = .ok (.return_, 1) := by decide +kernel
def site : List Cond := [New4.tab] ++ initW "java/lang/String" 27 New4.yN
def tab : Cond := tabOf yN yB 2 none site
def P (a : Addr) (D : Cell) (fV fC : Field) (b : Addr) (A : Cell) (z : Int32) (args : Array Value) (s : State) : Prop := args = #[.ref a, .ref b] ∧ Blank "java/lang/String" a D s ∧ Found "java/lang/String" "value" "[B" fV s ∧ Found "java/lang/String" "coder" "B" fC s ∧ Ch b A s ∧ StaticIs s "java/lang/String" "COMPACT_STRINGS" "Z" (.int z) ∧ ¬ z = 0 ∧ 0 < A.slots.size ∧ A.slots.size ≤ 536870912 ∧ ∀ i, i < A.slots.size → ¬ 255 < cv A i
def E (a : Addr) (D : Cell) (fV fC : Field) (A : Cell) (r : Option Value) (s u : State) : Prop := Got a D fV fC A 0 A.slots.size r s u
/-- new String(chars), not empty, no char above 255: a Latin-1 String of their low bytes -/
theorem law (l : Launch) (a : Addr) (D : Cell) (fV fC : Field) (b : Addr) (A : Cell) (z : Int32) : Law l yN 2 1 3 52 yB 2 none site (P a D fV fC b A z) (E a D fV fC A) [⟨a, fC.slot⟩, ⟨a, fV.slot⟩] 1 A.slots.size := by
  refine Law.of_walk (plainFor_of_name (by decide +kernel)) (by decide +kernel) (by decide +kernel) (by decide) (fun _ _ h => by rw [h.1]; rfl) (fun _ U U' hal hh h => ⟨h.1, h.2.1.mv hal hh, h.2.2.1.al hal, h.2.2.2.1.al hal, h.2.2.2.2.1.mv hal hh, h.2.2.2.2.2.1.there hal hh, h.2.2.2.2.2.2⟩) (fun r U U' V V' h1 hal h2 h => Got.mv r U U' V V' h1 hal h2 h) ?_
  intro p e s m args below meth c s₁ X0 hexec hbytes hml hret hlk hnm hown hh0 W hP
  obtain ⟨rfl, hB, f1, f2, hA, s1, hz, l0, l2, hp⟩ := hP
  have c1 : Steps p.tables e below (s₁.setTop (entryFrame m #[.ref a, .ref b] 2)) (s₁.setTop (mkF m 0 #[.val (.ref a), .val (.ref b)] [])) := entry rfl
  have c2 : Steps p.tables e below (s₁.setTop (entryFrame m #[.ref a, .ref b] 2)) (s₁.setTop (mkF m 6 #[.val (.ref a), .val (.ref b)] [.null, .int (Int32.ofNat A.slots.size), .int 0, .ref b, .ref a])) := c1.trans (by
    refine XS.aloadN X0.here hexec rfl (hb hbytes d0) rfl rfl ?_
    refine XS.aloadN X0.here hexec rfl (hb hbytes d1) rfl rfl ?_
    refine iconstV X0.here hexec rfl 0 (hb hbytes d2) (by decide) ?_
    refine XS.aloadN X0.here hexec rfl (hb hbytes d3) rfl rfl ?_
    refine X0.alen hexec (hA.1.mv X0.warmed.alike hh0) rfl rfl (hb hbytes d4) ?_
    refine XS.aconstNull X0.here hexec rfl (hb hbytes d5) ?_
    exact Steps.refl _)
  obtain ⟨v3, T3, X3, E3, g3⟩ := X0.callN hexec (New4.law l a D fV fC b A z 0 A.slots.size) rfl hown (wks W (initW "java/lang/String" 27 New4.yN)) (W New4.tab (by simp only [site, List.mem_cons, List.mem_append, true_or, or_true])) (W := 0) (Nat.le_of_ble_eq_true rfl) (Nat.le_of_ble_eq_true rfl) (Nat.le_refl _) (by show 0 + A.slots.size ≤ A.slots.size; omega) (g := (mkF m 6 #[.val (.ref a), .val (.ref b)] [.null, .int (Int32.ofNat A.slots.size), .int (Int32.ofNat 0), .ref b, .ref a])) rfl (by rw [hml]; rfl) c2 (argsL := [.ref b, .int (Int32.ofNat 0), .int (Int32.ofNat A.slots.size), .null]) (rest := []) rfl rfl (by show 2 * 0 + 0 ≤ _; decide) (hb hbytes d6) (⟨rfl, hB.mv X0.warmed.alike hh0, f1.al X0.warmed.alike, f2.al X0.warmed.alike, hA.mv X0.warmed.alike hh0, s1.there X0.warmed.alike hh0, hz, l0, by omega, l2, fun i hi => by rw [Nat.zero_add]; exact hp i hi⟩)
  have e0 := Got.mv _ s₁ s _ _ hh0.symm (Vm.Alike.refl _) rfl E3
  obtain rfl := e0.1
  have c4 : Steps p.tables e below (s₁.setTop (entryFrame m #[.ref a, .ref b] 2)) (T3.setTop (mkF m 9 #[.val (.ref a), .val (.ref b)] [])) := g3
  exact ⟨T3, none, _, _, _, X3, by simp, rfl, by omega, (fun _ => rfl), e0, fun fs hl => c4.trans (X3.returnOut hexec hret (hb hbytes d9) hl)⟩
theorem pays {l : Launch} {R : Room} {p : Program} {e : Env} {below : List Frame} {s : State} {sargs : Array Value} {len W : Nat} (a : Addr) (D : Cell) (fV fC : Field) (b : Addr) (A : Cell) (z : Int32) (htab : tab.before sargs s = true) (hfr : 4 ≤ R.frames) (hlo : W + 65 ≤ R.locals) :
    Back l R p e below s sargs yN len W (fun A₁ a₁ => A₁.cells + 1 ≤ R.cells ∧ A₁.slots + A.slots.size ≤ R.slots ∧ P a D fV fC b A z a₁ A₁.U) (fun A₁ _ v₁ B₁ => E a D fV fC A v₁ A₁.U B₁.U ∧ B₁.locs = A₁.locs ++ [⟨a, fC.slot⟩, ⟨a, fV.slot⟩] ∧ B₁.cells = A₁.cells + 1 ∧ B₁.slots = A₁.slots + A.slots.size) :=
  (law l a D fV fC b A z).pays htab hfr (by omega)
end New1
/-- the byte, read back as charAt reads it, is the char -/
theorem lo8_mask {x : Int32} (h0 : ¬ x < 0) (h1 : ¬ 255 < x) : lo8 x &&& 255 = x := by
  have t : ∀ k : Fin 256, lo8 (Int32.ofNat k.val) &&& 255 = Int32.ofNat k.val := by decide +kernel
  rw [Int32.lt_iff_toInt_lt] at h0 h1
  have e0 : (0 : Int32).toInt = 0 := rfl
  have e1 : (255 : Int32).toInt = 255 := rfl
  obtain ⟨k, hk⟩ : ∃ k : Nat, x.toInt = k := ⟨x.toInt.toNat, by omega⟩
  have hx : x = Int32.ofNat k := Int32.toInt_inj.mp (by rw [hk, Int32.toInt_ofNat_small (by omega)])
  rw [hx]
  exact t ⟨k, by omega⟩
end StrChars
namespace StrChars.Road
open Jvm Sem ClassFile Op Lib Jvm.Stand Jvm.Free Jvm.Free.XT
open Jvm.Lib.Cold (StaticIs)
abbrev ST : String := "java/lang/String"
/-- every table word that New1's law asks, flat -/
abbrev words : List Jvm.Cond := [.code New1.yN New1.yB 2 none, .initialized ST, .methodLink ST 27 New4.yN, .instanceMethod New4.yN,
  .code New4.yN New4.yB 6 none, .fieldLink ST 38 ST "COMPACT_STRINGS" "Z", .laysFinal ST ST "value" "[B", .fieldLink ST 9 ST "value" "[B", .laysFinal ST ST "coder" "B", .fieldLink ST 15 ST "coder" "B",
  .methodLink ST 1 Lib.objectInit, .instanceMethod Lib.objectInit, .code Lib.objectInit ⟨#[0xb1]⟩ 1 none, .methodLink ST 177 Cmp3.yN, .static Cmp3.yN, .methodLink ST 47 CodL.yN, .static CodL.yN,
  .code Cmp3.yN Cmp3.yB 6 (some (.array .byte)), .initialized U16, .arrayClass .byte, .methodLink U16 115 Cmp5.yN, .static Cmp5.yN, .code Cmp5.yN Cmp5.yB 7 (some .int), .code CodL.yN CodL.yB 2 (some .byte)]
theorem tab_of {a : Array Value} {s : State} (h : ∀ w ∈ words, w.before a s = true) : New1.tab.before a s = true := by
  have h5 : Cmp5.tab.before a s = true := unparts (wk h (.code Cmp5.yN Cmp5.yB 7 (some .int))) (wks h (.initialized Cmp5.yN.cls :: Cmp5.site))
  have hc : CodL.tab.before a s = true := unparts (wk h (.code CodL.yN CodL.yB 2 (some .byte))) (wks h (.initialized CodL.yN.cls :: CodL.site))
  have q5 : ∀ w ∈ Cmp5.tab :: words, w.before a s = true := fun w hw => (List.mem_cons.mp hw).elim (fun e => e ▸ h5) (h w)
  have h3 : Cmp3.tab.before a s = true := unparts (wk q5 (.code Cmp3.yN Cmp3.yB 6 (some (.array .byte)))) (wks q5 (.initialized Cmp3.yN.cls :: Cmp3.site))
  have q3 : ∀ w ∈ Cmp3.tab :: CodL.tab :: words, w.before a s = true := fun w hw => (List.mem_cons.mp hw).elim (fun e => e ▸ h3) fun hw => (List.mem_cons.mp hw).elim (fun e => e ▸ hc) (h w)
  have h4 : New4.tab.before a s = true := unparts (wk q3 (.code New4.yN New4.yB 6 none)) (wks q3 (.initialized New4.yN.cls :: New4.site))
  have q4 : ∀ w ∈ New4.tab :: words, w.before a s = true := fun w hw => (List.mem_cons.mp hw).elim (fun e => e ▸ h4) (h w)
  exact unparts (wk q4 (.code New1.yN New1.yB 2 none)) (wks q4 (.initialized New1.yN.cls :: New1.site))
/-- the words ride from the start Z to the walk's own state -/
theorem moved {Z s : State} {a0 args : Array Value} (hZ : Z.Warmed39 s.vm) (hw : ∀ d ∈ words, d.before a0 Z = true) : ∀ d ∈ words, d.before args s = true := fun d hd => by
  have q := hw d hd
  have t : ∀ d ∈ words, d = .arrayClass .byte ∨ (d.onTables && d.keepsFace) = true := by decide +kernel
  rcases t d hd with rfl | t
  · exact RoadKit.mvA hZ q
  · exact RoadKit.mv hZ q t
/-- WHAT COMES BACK, over the tables of the start Z: h the heap at the call, h' behind it -/
def Q (Z : State) (x : Addr) (A : Cell) (h : Heap) (v : Option Value) (h' : Heap) (L : List Loc) : Prop := v = none ∧ (∀ y ∈ L, y.base = x) ∧ RoadKit.Keep h h' [x] ∧ h'.size = h.size + 1 ∧ RoadKit.Exa Z h' x ST ∧ RoadKit.Fld Z h' x ST "value" "[B" (.ref h.size) ∧ RoadKit.Fld Z h' x ST "coder" "B" (.int 0) ∧
  (∃ V : Cell, RoadKit.Arr Z h' h.size V .byte ∧ V.vm = .none ∧ Z.vm.findClass "[B" = some V.cls ∧ V.slots.size = A.slots.size ∧ ∀ j, j < A.slots.size → V.slots[j]? = some (.int (lo8 (cv A j)))) ∧
  ∀ (O n d : String) (w : Value), RoadKit.Fld Z h x O n d w → RoadKit.slotOf Z O n d ≠ RoadKit.slotOf Z ST "value" "[B" → RoadKit.slotOf Z O n d ≠ RoadKit.slotOf Z ST "coder" "B" → RoadKit.Fld Z h' x O n d w
/-- **new String(chars) AT A CALL, IN THE ROAD'S FORM**: for specialBack behind newO: x the fresh String, b the char[] with the cell A -/
theorem back {p : Program} {l : Launch} {e : Env} {R : Room} {s : State} {args : Array Value} {below : List Frame} {len W : Nat} {Z : State} {a0 : Array Value} {h : Heap} (hZ : Z.Warmed39 s.vm) (hw : ∀ d ∈ words, d.before a0 Z = true) {kI : Nat} (wi : (Jvm.Cond.instantiable ST kI).before a0 Z = true)
    {x b : Addr} {A : Cell} {z : Int32} {v0 c0 : Value} (E : RoadKit.Exa Z h x ST) (V : RoadKit.Fld Z h x ST "value" "[B" v0) (C : RoadKit.Fld Z h x ST "coder" "B" c0) (K : RoadKit.Arr Z h b A .char) (hty : Typed .char A) (S : RoadKit.Sta Z h ST "COMPACT_STRINGS" "Z" (.int z)) (hz : ¬ z = 0)
    (l0 : 0 < A.slots.size) (l2 : A.slots.size ≤ 536870912) (hp : ∀ i, i < A.slots.size → ¬ 255 < cv A i) (hfr : 4 ≤ R.frames) (hlo : W + 65 ≤ R.locals) :
    Back l R p e below s args New1.yN len W (fun P a => a = #[.ref x, .ref b] ∧ P.U.heap = h ∧ P.cells + 1 ≤ R.cells ∧ P.slots + A.slots.size ≤ R.slots)
      (fun P _ v B => ∃ L, Q Z x A h v B.U.heap L ∧ B.locs = P.locs ++ L ∧ B.cells = P.cells + 1 ∧ B.slots = P.slots + A.slots.size) := by
  intro m meth c P g ig mk a X hg hsize hdg hW hn hp'
  obtain ⟨rfl, rfl, r1, r2⟩ := hp'
  have al : Z.vm.Alike P.U.vm := hZ.alike.trans X.warmed.alike
  obtain ⟨D, cfV, kV, iV, fV, hD, gV, stV, knV, obV, asV, slV⟩ := id V
  obtain ⟨D', cfC, kC, iC, fC, hD', gC, stC, -, -, asC, slC⟩ := id C
  cases hD.symm.trans hD'
  obtain ⟨D2, kD, e1, e2, e3, e4, e5⟩ := id E
  cases hD.symm.trans e1
  obtain ⟨c2, k2, i1, i2, i3, -⟩ := Cond.instantiable_spec wi
  cases e2.symm.trans i1
  cases e3.symm.trans i2
  obtain ⟨kU, u1, u2⟩ := al.2.2 _ _ e3
  have hB : Blank ST x D P.U := ⟨hD, ⟨knV, fun q hq => by rw [hq] at obV; cases obV⟩, by rw [al.findClass]; exact e2, kU, u1, by rw [u2]; exact i3, by rw [u2]; exact e5 i3⟩
  have F1 : Found ST "value" "[B" fV P.U := ⟨SBG.found_only al ⟨cfV, kV, iV, gV⟩, stV⟩
  have F2 : Found ST "coder" "B" fC P.U := ⟨SBG.found_only al ⟨cfC, kC, iC, gC⟩, stC⟩
  have hA : Ch b A P.U := ⟨⟨K.1, State.isArrayOf_alike al K.2.1, K.2.2, by omega⟩, hty⟩
  have hS : StaticIs P.U ST "COMPACT_STRINGS" "Z" (.int z) := by
    obtain ⟨cfS, iS, kS, fS, st, cS, t1, t2, t3, t4, t5, t6, t7⟩ := S
    exact StaticIs.there (s := { Z with heap := P.U.heap }) ⟨cfS, iS, kS, fS, st, cS, t1, t2, t3, t4, t5, (fun q => by rw [q] at t6; cases t6), t7⟩ al rfl
  obtain ⟨v, B, X', ⟨⟨hv, E', V', q1, q2, q3, q4, q5, q6, q7, q8, q9, q10, q11⟩, hl, hc, hs⟩, st⟩ := New1.pays x D fV fC b A z (tab_of (moved hZ hw)) hfr hlo m meth c P g ig mk _ X hg hsize hdg hW hn ⟨r1, r2, rfl, hB, F1, F2, hA, hS, hz, l0, l2, hp⟩
  have al' : Z.vm.Alike B.U.vm := hZ.alike.trans X'.warmed.alike
  have hsz : E'.slots.size = D.slots.size := by
    obtain ⟨-, -, -, kB, w1, w2, w3⟩ := q1
    obtain ⟨kB', y1, y2⟩ := al'.2.2 _ _ e3
    rw [q2.2.1] at w1
    cases w1.symm.trans y1
    rw [w3, e5 i3, y2]
  refine ⟨v, B, X', ⟨_, ⟨hv, ?_, ⟨by omega, fun y cy hy hn' => q10 y cy (by simpa using hn') hy, fun y cy hy => ?_⟩, q11, ⟨E', _, q1.1, by rw [q2.2.1]; exact e2, by rw [q2.2.1]; exact e3, by rw [q2.1]; exact obV, fun _ => by rw [hsz]; exact e5 i3⟩,
    ⟨E', cfV, kV, iV, fV, q1.1, gV, stV, by rw [q2.1]; exact knV, by rw [q2.1]; exact obV, by rw [q2.2.1]; exact asV, q3⟩, ⟨E', cfC, kC, iC, fC, q1.1, gC, stC, by rw [q2.1]; exact knV, by rw [q2.1]; exact obV, by rw [q2.2.1]; exact asC, q4⟩,
    ⟨V', ⟨q5.1, State.isArrayOf_alike al'.symm q5.2.1, q5.2.2.1⟩, q6, by rw [← al'.findClass]; exact q7, q8, fun j hj => by have := q9 j hj; rwa [Nat.zero_add] at this⟩, fun O n d w F n1 n2 => ?_⟩, hl, hc, hs⟩, st⟩
  · intro y hy
    simp only [List.mem_cons, List.not_mem_nil, or_false] at hy
    rcases hy with rfl | rfl <;> rfl
  · by_cases q : y = x
    · subst q
      cases hD.symm.trans hy
      exact ⟨E', q1.1, q2.2.1, q2.1, hsz⟩
    · exact ⟨cy, q10 y cy q hy, rfl, rfl, rfl⟩
  · obtain ⟨D3, cf, k, i, f, g1, g2, g3, g4, g5, g6, g7⟩ := F
    cases hD.symm.trans g1
    simp only [RoadKit.slotOf, g2, gV, gC, Option.map_some, Option.getD_some] at n1 n2
    exact ⟨E', cf, k, i, f, q1.1, g2, g3, by rw [q2.1]; exact g4, by rw [q2.1]; exact g5, by rw [q2.2.1]; exact g6, by rw [q2.2.2 f.slot (by simp [n1, n2])]; exact g7⟩
end StrChars.Road
namespace StrChars.Road
open Jvm Sem ClassFile Op Lib Jvm.Stand Jvm.Free Jvm.Free.XT
/-- WHAT COMES BACK, the byte[] as a list of values -/
def QA (Z : State) (x : Addr) (zn : Int32) (cs : List Int32) (h : Heap) (v : Option Value) (h' : Heap) (L : List Loc) : Prop := v = none ∧ (∀ y ∈ L, y.base = x) ∧ RoadKit.Keep h h' [x] ∧ h'.size = h.size + 1 ∧ RoadKit.Exa Z h' x ST ∧ RoadKit.Fld Z h' x ST "value" "[B" (.ref h.size) ∧ RoadKit.Fld Z h' x ST "coder" "B" (.int 0) ∧
  (∃ kb, Z.vm.findClass "[B" = some kb ∧ RoadKit.Arv Z h' h.size kb .byte zn (cs.map fun c => .int (lo8 c)) (.int 0)) ∧
  ∀ (O n d : String) (w : Value), RoadKit.Fld Z h x O n d w → RoadKit.slotOf Z O n d ≠ RoadKit.slotOf Z ST "value" "[B" → RoadKit.slotOf Z O n d ≠ RoadKit.slotOf Z ST "coder" "B" → RoadKit.Fld Z h' x O n d w
/-- **new String(chars) AT A CALL, THE ARRAYS AS LISTS**: the char[] at b holds cs, not empty, no char above 255 -/
theorem backArv {p : Program} {l : Launch} {e : Env} {R : Room} {s : State} {args : Array Value} {below : List Frame} {len W : Nat} {Z : State} {a0 : Array Value} {h : Heap} (hZ : Z.Warmed39 s.vm) (hw : ∀ d ∈ words, d.before a0 Z = true) {kI : Nat} (wi : (Jvm.Cond.instantiable ST kI).before a0 Z = true)
    {x b : Addr} {k : ClassId} {zn z : Int32} {cs : List Int32} {dv v0 c0 : Value} (E : RoadKit.Exa Z h x ST) (V : RoadKit.Fld Z h x ST "value" "[B" v0) (C : RoadKit.Fld Z h x ST "coder" "B" c0) (K : RoadKit.Arv Z h b k .char zn (cs.map Value.int) dv) (S : RoadKit.Sta Z h ST "COMPACT_STRINGS" "Z" (.int z)) (hz : ¬ z = 0)
    (hlen : zn.toNatClampNeg = cs.length) (h0 : 0 < cs.length) (hbig : cs.length ≤ 536870912) (hall : ∀ c ∈ cs, ¬ 255 < c) (hfr : 4 ≤ R.frames) (hlo : W + 65 ≤ R.locals) :
    Back l R p e below s args New1.yN len W (fun P a => a = #[.ref x, .ref b] ∧ P.U.heap = h ∧ P.cells + 1 ≤ R.cells ∧ P.slots + cs.length ≤ R.slots)
      (fun P _ v B => ∃ L, QA Z x zn cs h v B.U.heap L ∧ B.locs = P.locs ++ L ∧ B.cells = P.cells + 1 ∧ B.slots = P.slots + cs.length) := by
  obtain ⟨A, K1, K2, K3, K4, K5, K6⟩ := K
  have e : A.slots.size = cs.length := K3.trans hlen
  have hat : ∀ (i : Nat) (hi : i < cs.length), A.slots[i]? = some (.int cs[i]) := fun i hi => by rw [K5 i (by omega)]; simp [List.getD_eq_getElem?_getD, hi]
  have hcv : ∀ (i : Nat) (hi : i < cs.length), cv A i = cs[i] := fun i hi => by unfold cv; rw [hat i hi]
  have hty : Typed .char A := fun i v hv => by
    have hi : i < A.slots.size := (Array.getElem?_eq_some_iff.mp hv).1
    have q := K5 i hi
    rw [hv] at q
    rw [Option.some.inj q]
    exact K6 i hi
  refine Back.mono (back hZ hw wi E V C K1 hty S hz (by omega) (by omega) (fun i hi => by rw [hcv i (by omega)]; exact hall _ (List.getElem_mem _)) hfr hlo) (fun P a hp => ⟨hp.1, hp.2.1, hp.2.2.1, by rw [e]; exact hp.2.2.2⟩) (fun P a v B hp hq => ?_)
  obtain ⟨L, ⟨q1, q2, q3, q4, q5, q6, q7, ⟨V', v1, v2, v3, v4, v5⟩, q9⟩, hl, hc, hs⟩ := hq
  refine ⟨L, ⟨q1, q2, q3, q4, q5, q6, q7, ⟨V'.cls, v3, V', v1, rfl, by rw [v4, e, hlen], K4, fun i hi => ?_, fun i hi => ?_⟩, q9⟩, hl, hc, by rw [hs, e]⟩
  · have hi' : i < cs.length := by omega
    rw [v5 i (by omega), hcv i hi']; simp [List.getD_eq_getElem?_getD, hi']
  · have hi' : i < cs.length := by omega
    simp only [List.getD_eq_getElem?_getD, List.getElem?_map, List.getElem?_eq_getElem hi', Option.map_some, Option.getD_some]
    exact fits_lo8 _
end StrChars.Road
namespace StrChars.Road
open Jvm Sem ClassFile Op Lib Jvm.Stand Jvm.Free Jvm.Free.XT
/-- WHAT COMES BACK, in the writer's own shape -/
def QV (Z : State) (x : Addr) (N : Int32) (bs : List Int32) (h : Heap) (n0 : Nat) (v : Option Value) (h' : Heap) (L : List Loc) : Prop := v = none ∧ RoadKit.Fr n0 L ∧ RoadKit.Keep h h' [x] ∧ RoadKit.Exa Z h' x ST ∧ RoadKit.Fld Z h' x ST "coder" "B" (.int 0) ∧
  ∃ (t : Addr) (kb : ClassId), n0 ≤ t ∧ h.size ≤ t ∧ ¬ t = x ∧ RoadKit.Fld Z h' x ST "value" "[B" (.ref t) ∧ RoadKit.Arv Z h' t kb .byte N (bs.map Value.int) (.int 0)
/-- **new String(chars) AT A CALL, FOR THE WRITER**: a char[] of n known ints, each 0 to 255 -/
theorem backV {p : Program} {l : Launch} {e : Env} {R : Room} {s : State} {args : Array Value} {below : List Frame} {len W : Nat} {Z : State} {a0 : Array Value} {h : Heap} (hZ : Z.Warmed39 s.vm) (hw : ∀ d ∈ words, d.before a0 Z = true) {kI : Nat} (wi : (Jvm.Cond.instantiable ST kI).before a0 Z = true)
    {x b : Addr} {kC : ClassId} {cs bs : List Int32} {d v0 c0 : Value} {z N : Int32} {n n0 : Nat} (hx0 : n0 ≤ x) (hh0 : n0 ≤ h.size) (E : RoadKit.Exa Z h x ST) (V : RoadKit.Fld Z h x ST "value" "[B" v0) (C : RoadKit.Fld Z h x ST "coder" "B" c0) (K : RoadKit.Arv Z h b kC .char N (cs.map Value.int) d) (S : RoadKit.Sta Z h ST "COMPACT_STRINGS" "Z" (.int z)) (hz : ¬ z = 0)
    (hn : cs.length = n) (hN : N = Int32.ofNat n) (l0 : 0 < n) (l2 : n ≤ 4000) (hp : ∀ c ∈ cs, ¬ c < 0 ∧ ¬ (255 : Int32) < c) (hb : bs = cs.map (fun c => c.toInt8.toInt32)) (hfr : 4 ≤ R.frames) (hlo : W + 65 ≤ R.locals) :
    Back l R p e below s args (⟨"java/lang/String", "<init>", "([C)V"⟩ : MethodName) len W (fun P a => a = #[.ref x, .ref b] ∧ P.U.heap = h ∧ P.cells + 1 ≤ R.cells ∧ P.slots + n ≤ R.slots)
      (fun P _ v B => ∃ L, QV Z x N bs h n0 v B.U.heap L ∧ B.locs = P.locs ++ L ∧ B.cells = P.cells + 1 ∧ B.slots = P.slots + n) := by
  subst hn hN hb
  refine Back.mono (backArv hZ hw wi E V C K S hz (n32 (by omega)) l0 (by omega) (fun c hc => (hp c hc).2) hfr hlo) (fun P a hp => hp) (fun P a v B hp hq => ?_)
  obtain ⟨L, ⟨q1, q2, q3, q4, q5, q6, q7, ⟨kb, v1, v2⟩, q9⟩, hl, hc, hs⟩ := hq
  exact ⟨L, ⟨q1, fun y hy => by rw [q2 y hy]; exact hx0, q3, q5, q7, h.size, kb, hh0, Nat.le_refl _, Nat.ne_of_gt E.lt, q6, by rw [List.map_map]; exact v2⟩, hl, hc, hs⟩
end StrChars.Road
namespace StrChars
open Jvm Sem ClassFile Op Lib Jvm.Stand Jvm.Free.XT Jvm.Free.ALB Jvm.Free.JM Jvm.Free
open Jvm.Lib.Cold (StaticIs)
def hi8 (x : Int32) : Int32 := lo8 (x >>> ((8 : Int32) &&& 31))
/-- what StringUTF16.getChar makes of two bytes -/
def pairCh (u v : Int32) : Int32 := (((u &&& 255) <<< ((0 : Int32) &&& 31)) ||| ((v &&& 255) <<< ((8 : Int32) &&& 31))).toUInt32.toUInt16.toUInt32.toInt32
theorem lo8_and (x : Int32) : (lo8 x &&& 255).toBitVec.toNat = x.toBitVec.toNat % 256 := by
  have h : (lo8 x).toBitVec = (x.toBitVec.signExtend 8).signExtend 32 := by rw [lo8, Int8.toBitVec_toInt32, Int32.toBitVec_toInt8]
  rw [Int32.toBitVec_and, BitVec.toNat_and, h]
  have e : ((x.toBitVec.signExtend 8).signExtend 32).toNat % 256 = x.toBitVec.toNat % 256 := by
    rw [BitVec.toNat_signExtend]
    have hlt := x.toBitVec.isLt
    simp only [BitVec.toNat_setWidth, BitVec.toNat_signExtend]
    split <;> split <;> omega
  rw [← e]
  exact Nat.and_two_pow_sub_one_eq_mod _ 8
theorem pair_says {c : Int32} (h0 : ¬ c < 0) (h1 : ¬ 65535 < c) : pairCh (lo8 c) (hi8 c) = c := by
  rw [Int32.lt_iff_toInt_lt] at h0 h1
  have e0 : (0 : Int32).toInt = 0 := rfl
  have e1 : (65535 : Int32).toInt = 65535 := rfl
  have hc : c.toInt = c.toBitVec.toNat := by
    have := c.toBitVec.isLt
    have e : c.toInt = c.toBitVec.toInt := rfl
    rw [e] at h0 h1
    rw [e]
    rw [BitVec.toInt_eq_toNat_cond] at h0 h1 ⊢
    split at h0 <;> split <;> omega
  have hn : c.toBitVec.toNat < 65536 := by omega
  have a1 := lo8_and c
  have a2 : (hi8 c &&& 255).toBitVec.toNat = c.toBitVec.toNat / 256 := by
    rw [hi8, lo8_and]
    have e : ((8 : Int32) &&& 31) = 8 := by decide
    rw [e, Int32.toBitVec_shiftRight]
    have e2 : ((8 : Int32).toBitVec.smod 32) = 8#32 := by decide
    rw [e2, BitVec.sshiftRight_eq', BitVec.toNat_sshiftRight_of_msb_false (by rw [BitVec.msb_eq_false_iff_two_mul_lt]; omega)]
    show c.toBitVec.toNat >>> 8 % 256 = _
    rw [Nat.shiftRight_eq_div_pow]
    omega
  unfold pairCh
  apply Int32.toBitVec_inj.mp
  apply BitVec.eq_of_toNat_eq
  have f0 : ((0 : Int32) &&& 31) = 0 := by decide
  have f8 : ((8 : Int32) &&& 31) = 8 := by decide
  rw [f0, f8]
  have g : (((lo8 c &&& 255) <<< (0 : Int32)) ||| ((hi8 c &&& 255) <<< (8 : Int32))).toBitVec.toNat = c.toBitVec.toNat := by
    rw [Int32.toBitVec_or, Int32.toBitVec_shiftLeft, Int32.toBitVec_shiftLeft]
    have s0 : ((0 : Int32).toBitVec.smod 32) = 0#32 := by decide
    have s8 : ((8 : Int32).toBitVec.smod 32) = 8#32 := by decide
    rw [s0, s8, BitVec.toNat_or]
    simp only [BitVec.shiftLeft_eq', BitVec.toNat_shiftLeft, a1, a2]
    show (c.toBitVec.toNat % 256) <<< 0 % 2 ^ 32 ||| (c.toBitVec.toNat / 256) <<< 8 % 2 ^ 32 = _
    rw [Nat.shiftLeft_zero, Nat.mod_eq_of_lt (show c.toBitVec.toNat % 256 < 2 ^ 32 by omega), Nat.mod_eq_of_lt (show (c.toBitVec.toNat / 256) <<< 8 < 2 ^ 32 by rw [Nat.shiftLeft_eq]; omega), Nat.or_comm, ← Nat.shiftLeft_add_eq_or_of_lt (by omega), Nat.shiftLeft_eq]
    omega
  show BitVec.toNat (((((lo8 c &&& 255) <<< (0 : Int32)) ||| ((hi8 c &&& 255) <<< (8 : Int32))).toBitVec.setWidth 16).setWidth 32) = _
  rw [BitVec.toNat_setWidth, BitVec.toNat_setWidth, g]
  omega
end StrChars
namespace StrChars
open Jvm Sem ClassFile Op Lib Jvm.Stand Jvm.Free.XT Jvm.Free.ALB Jvm.Free.JM Jvm.Free
open Jvm.Lib.Cold (StaticIs)
/-- the array's cell V codes the n chars f 0 .. f (n - 1) by the coder cd, as the JDK does: coder 1 just where some char is above 255 -/
def Cod (cd : Int32) (n : Nat) (f : Nat → Int32) (V : Cell) : Prop := (cd = 0 ∧ V.slots.size = n ∧ ∀ j, j < n → V.slots[j]? = some (.int (lo8 (f j))) ∧ ¬ 255 < f j) ∨ (cd = 1 ∧ V.slots.size = 2 * n ∧ (∀ j, j < n → V.slots[2 * j]? = some (.int (lo8 (f j))) ∧ V.slots[2 * j + 1]? = some (.int (hi8 (f j)))) ∧ ∃ j, j < n ∧ 255 < f j)
/-- **x is a String of the n chars f 0 .. f (n - 1)**, Latin-1 or UTF-16; its array at t has the cell V -/
def Txt (x t : Addr) (V : Cell) (cd : Int32) (n : Nat) (f : Nat → Int32) (U : State) : Prop := Exact "java/lang/String" x U ∧ Has x "java/lang/String" "value" "[B" (.ref t) U ∧ Has x "java/lang/String" "coder" "B" (.int cd) U ∧ XT.Arr .byte t V U ∧ Cod cd n f V ∧ ∀ j, j < n → ¬ f j < 0 ∧ ¬ 65535 < f j
theorem Txt.mv {x t : Addr} {V : Cell} {cd : Int32} {n : Nat} {f : Nat → Int32} {U U' : State} (h : Txt x t V cd n f U) (hal : U.vm.Alike U'.vm) (hh : U'.heap = U.heap) : Txt x t V cd n f U' := ⟨h.1.mv hal hh, h.2.1.mv hal hh, h.2.2.1.mv hal hh, h.2.2.2.1.mv hal hh, h.2.2.2.2⟩
end StrChars
namespace StrChars.Road
open Jvm Sem ClassFile Op Lib Jvm.Stand Jvm.Free Jvm.Free.XT
open Jvm.Lib.Cold (StaticIs)
theorem consq {a : Array Value} {s : State} {c : Jvm.Cond} {L : List Jvm.Cond} (h0 : c.before a s = true) (h : ∀ w ∈ L, w.before a s = true) : ∀ w ∈ c :: L, w.before a s = true := fun w hw => (List.mem_cons.mp hw).elim (fun e => e ▸ h0) (h w)
/-- the bytes of the chars cs, low before high -/
def wideBytes : List Int32 → List Value
  | [] => []
  | c :: cs => .int (lo8 c) :: .int (hi8 c) :: wideBytes cs
theorem wide_lo (d : Value) : ∀ (cs : List Int32) (j : Nat), j < cs.length → (wideBytes cs).getD (2 * j) d = .int (lo8 (cs.getD j 0))
  | [], j, h => absurd h (Nat.not_lt_zero j)
  | c :: cs, 0, _ => rfl
  | c :: cs, j + 1, h => by
    have q := wide_lo d cs j (by simpa using h)
    rw [show 2 * (j + 1) = 2 * j + 1 + 1 from by omega]
    simpa [wideBytes] using q
theorem wide_hi (d : Value) : ∀ (cs : List Int32) (j : Nat), j < cs.length → (wideBytes cs).getD (2 * j + 1) d = .int (hi8 (cs.getD j 0))
  | [], j, h => absurd h (Nat.not_lt_zero j)
  | c :: cs, 0, _ => rfl
  | c :: cs, j + 1, h => by
    have q := wide_hi d cs j (by simpa using h)
    rw [show 2 * (j + 1) + 1 = 2 * j + 1 + 1 + 1 from by omega]
    simpa [wideBytes] using q
theorem low_at (d : Value) (cs : List Int32) (j : Nat) (h : j < cs.length) : (cs.map fun c => Value.int (lo8 c)).getD j d = .int (lo8 (cs.getD j 0)) := by
  simp [List.getD_eq_getElem?_getD, h]
/-- an array of N2 bytes vs codes the chars cs by the coder cd -/
def CodA (cs : List Int32) (cd N2 : Int32) (vs : List Value) : Prop := (cd = 0 ∧ N2 = Int32.ofNat cs.length ∧ vs = (cs.map fun c => Value.int (lo8 c)) ∧ ∀ c ∈ cs, ¬ 255 < c) ∨ (cd = 1 ∧ N2 = Int32.ofNat (2 * cs.length) ∧ vs = wideBytes cs ∧ ∃ c ∈ cs, 255 < c)
theorem CodA.cod {cs : List Int32} {cd N2 : Int32} {vs : List Value} {V : Cell} (h : CodA cs cd N2 vs) (hn : 2 * cs.length < 2 ^ 31) (hs : V.slots.size = N2.toNatClampNeg) (hv : RoadKit.Has V vs (.int 0)) : Cod cd cs.length (fun j => cs.getD j 0) V := by
  rcases h with ⟨rfl, rfl, rfl, h⟩ | ⟨rfl, rfl, rfl, c, hc, hw⟩
  · rw [n32 (by omega)] at hs
    exact Or.inl ⟨rfl, hs, fun j hj => ⟨by rw [hv j (by omega), low_at _ _ _ hj], by
      have e : cs.getD j 0 = cs[j] := by simp [List.getD_eq_getElem?_getD, hj]
      show ¬ 255 < cs.getD j 0
      rw [e]; exact h _ (List.getElem_mem _)⟩⟩
  · rw [n32 (by omega)] at hs
    obtain ⟨j, hj, rfl⟩ := List.getElem_of_mem hc
    exact Or.inr ⟨rfl, hs, fun j hj => ⟨by rw [hv _ (by omega), wide_lo _ _ _ hj], by rw [hv _ (by omega), wide_hi _ _ _ hj]⟩, j, hj, by
      have e : cs.getD j 0 = cs[j] := by simp [List.getD_eq_getElem?_getD, hj]
      show 255 < cs.getD j 0
      rw [e]; exact hw⟩
/-- an object of exactly java/lang/String, its two fields found: as the laws ask it -/
theorem strObj {Z U : State} {a0 : Array Value} {kI : Nat} (wi : (Jvm.Cond.instantiable ST kI).before a0 Z = true) (al : Z.vm.Alike U.vm) {x : Addr} {v0 c0 : Value} (E : RoadKit.Exa Z U.heap x ST) (V : RoadKit.Fld Z U.heap x ST "value" "[B" v0) (C : RoadKit.Fld Z U.heap x ST "coder" "B" c0) :
    ∃ (D : Cell) (fV fC : Field), Blank ST x D U ∧ Found ST "value" "[B" fV U ∧ Found ST "coder" "B" fC U ∧ D.slots[fV.slot]? = some v0 ∧ D.slots[fC.slot]? = some c0 ∧ RoadKit.slotOf Z ST "value" "[B" = fV.slot ∧ RoadKit.slotOf Z ST "coder" "B" = fC.slot := by
  obtain ⟨D, cfV, kV, iV, fV, hD, gV, stV, knV, obV, asV, slV⟩ := V
  obtain ⟨D', cfC, kC, iC, fC, hD', gC, stC, -, -, asC, slC⟩ := C
  cases hD.symm.trans hD'
  obtain ⟨D2, kD, e1, e2, e3, e4, e5⟩ := E
  cases hD.symm.trans e1
  obtain ⟨c2, k2, i1, i2, i3, -⟩ := Cond.instantiable_spec wi
  cases e2.symm.trans i1
  cases e3.symm.trans i2
  obtain ⟨kU, u1, u2⟩ := al.2.2 _ _ e3
  exact ⟨D, fV, fC, ⟨hD, ⟨knV, fun q hq => by rw [hq] at obV; cases obV⟩, by rw [al.findClass]; exact e2, kU, u1, by rw [u2]; exact i3, by rw [u2]; exact e5 i3⟩, ⟨SBG.found_only al ⟨cfV, kV, iV, gV⟩, stV⟩, ⟨SBG.found_only al ⟨cfC, kC, iC, gC⟩, stC⟩, slV, slC, by simp [RoadKit.slotOf, gV], by simp [RoadKit.slotOf, gC]⟩
theorem sta_is {Z U : State} (al : Z.vm.Alike U.vm) {C n d : String} {v : Value} (S : RoadKit.Sta Z U.heap C n d v) : StaticIs U C n d v := by
  obtain ⟨cfS, iS, kS, fS, st, cS, t1, t2, t3, t4, t5, t6, t7⟩ := S
  exact StaticIs.there (s := { Z with heap := U.heap }) ⟨cfS, iS, kS, fS, st, cS, t1, t2, t3, t4, t5, (fun q => by rw [q] at t6; cases t6), t7⟩ al rfl
end StrChars.Road
namespace StrChars
open Jvm Sem ClassFile Op Lib Jvm.Stand Jvm.Free.XT Jvm.Free.ALB Jvm.Free.JM Jvm.Free
open Jvm.Lib.Cold (StaticIs)
/-- what place i of a byte[]'s cell holds -/
def yv (A : Cell) (i : Nat) : Int32 := match A.slots[i]? with | some (.int x) => x | _ => 0
theorem yv_get {a : Addr} {A : Cell} {U : State} (h : XT.Arr .byte a A U) (ht : Typed .byte A) {i : Nat} (hi : i < A.slots.size) : A.slots[i]? = some (.int (yv A i)) := by
  have e := Array.getElem?_eq_getElem hi
  have f := ht i _ e
  unfold yv; rw [e]
  generalize A.slots[i] = v at f
  cases v <;> simp [fits] at f ⊢
/-- the two arrays are equal, place for place -/
def EqC (A B : Cell) : Prop := A.slots.size = B.slots.size ∧ ∀ i, i < A.slots.size → yv A i = yv B i
/-- a boolean that says whether p -/
def Says01 (q : Prop) (r : Option Value) (s u : State) : Prop := ∃ v : Int32, r = some (.int v) ∧ u.heap = s.heap ∧ ((v = 1 ∧ q) ∨ (v = 0 ∧ ¬ q))
theorem Says01.mv {q : Prop} : ∀ r (U U' V V' : State), U'.heap = U.heap → V.vm.Alike V'.vm → V'.heap = V.heap → Says01 q r U V → Says01 q r U' V' :=
  fun r U U' V V' h1 _ h2 ⟨v, a, b, c⟩ => ⟨v, a, by rw [h1, h2]; exact b, c⟩
namespace LEq
def yN : MethodName := ⟨"java/lang/StringLatin1", "equals", "([B[B)Z"⟩
abbrev yB : ByteArray := jdk_43_method_13_code
theorem d0 : decode yB 0 = .ok (.aload_n 0, 1) := by decide +kernel
theorem d1 : decode yB 1 = .ok (.arraylength, 1) := by decide +kernel
theorem d2 : decode yB 2 = .ok (.aload_n 1, 1) := by decide +kernel
theorem d3 : decode yB 3 = .ok (.arraylength, 1) := by decide +kernel
theorem d4 : decode yB 4 = .ok (.if_icmp (.ne) 30, 3) := by decide +kernel
theorem d7 : decode yB 7 = .ok (.iconst 0, 1) := by decide +kernel
theorem d8 : decode yB 8 = .ok (.istore_n 2, 1) := by decide +kernel
theorem d9 : decode yB 9 = .ok (.iload_n 2, 1) := by decide +kernel
theorem d10 : decode yB 10 = .ok (.aload_n 0, 1) := by decide +kernel
theorem d11 : decode yB 11 = .ok (.arraylength, 1) := by decide +kernel
theorem d12 : decode yB 12 = .ok (.if_icmp (.ge) 20, 3) := by decide +kernel
theorem d15 : decode yB 15 = .ok (.aload_n 0, 1) := by decide +kernel
theorem d16 : decode yB 16 = .ok (.iload_n 2, 1) := by decide +kernel
theorem d17 : decode yB 17 = .ok (.baload, 1) := by decide +kernel
theorem d18 : decode yB 18 = .ok (.aload_n 1, 1) := by decide +kernel
theorem d19 : decode yB 19 = .ok (.iload_n 2, 1) := by decide +kernel
theorem d20 : decode yB 20 = .ok (.baload, 1) := by decide +kernel
theorem d21 : decode yB 21 = .ok (.if_icmp (.eq) 5, 3) := by decide +kernel
theorem d24 : decode yB 24 = .ok (.iconst 0, 1) := by decide +kernel
theorem d25 : decode yB 25 = .ok (.ireturn, 1) := by decide +kernel
theorem d26 : decode yB 26 = .ok (.iinc 2 1, 3) := by decide +kernel
theorem d29 : decode yB 29 = .ok (.goto (-20), 3) := by decide +kernel
theorem d32 : decode yB 32 = .ok (.iconst 1, 1) := by decide +kernel
theorem d33 : decode yB 33 = .ok (.ireturn, 1) := by decide +kernel
theorem d34 : decode yB 34 = .ok (.iconst 0, 1) := by decide +kernel
theorem d35 : decode yB 35 = .ok (.ireturn, 1) := by decide +kernel
def site : List Cond := []
def tab : Cond := tabOf yN yB 3 (some .boolean) site
def P (a : Addr) (A : Cell) (b : Addr) (B : Cell) (args : Array Value) (s : State) : Prop := args = #[.ref a, .ref b] ∧ XT.Arr .byte a A s ∧ Typed .byte A ∧ XT.Arr .byte b B s ∧ Typed .byte B
/-- whether two byte[] are equal, place for place -/
theorem law (l : Launch) (a : Addr) (A : Cell) (b : Addr) (B : Cell) : Law l yN 2 2 0 0 yB 3 (some .boolean) site (P a A b B) (Says01 (EqC A B)) [] 0 0 := by
  refine Law.of_walk (plainFor_of_name (by decide +kernel)) (by decide +kernel) (by decide +kernel) (by decide) (fun _ _ h => by rw [h.1]; rfl) (fun _ U U' hal hh h => ⟨h.1, h.2.1.mv hal hh, h.2.2.1, h.2.2.2.1.mv hal hh, h.2.2.2.2⟩) (fun r U U' V V' h1 hal h2 h => Says01.mv r U U' V V' h1 hal h2 h) ?_
  intro p e s m args below meth c s₁ X0 hexec hbytes hml hret hlk hnm hown hh0 W hP
  obtain ⟨rfl, hA, tA, hB, tB⟩ := hP
  have a31 := hA.2.2.2
  have b31 := hB.2.2.2
  have hA0 := hA.mv X0.warmed.alike hh0
  have hB0 := hB.mv X0.warmed.alike hh0
  have c1 : Steps p.tables e below (s₁.setTop (entryFrame m #[.ref a, .ref b] 3)) (s₁.setTop (mkF m 0 #[.val (.ref a), .val (.ref b), .unset] [])) := entry rfl
  have c2 : Steps p.tables e below (s₁.setTop (entryFrame m #[.ref a, .ref b] 3)) (s₁.setTop (mkF m 4 #[.val (.ref a), .val (.ref b), .unset] [.int (Int32.ofNat B.slots.size), .int (Int32.ofNat A.slots.size)])) := c1.trans (by
    refine XS.aloadN X0.here hexec rfl (hb hbytes d0) rfl rfl ?_
    refine X0.alen hexec hA0 rfl rfl (hb hbytes d1) ?_
    refine XS.aloadN X0.here hexec rfl (hb hbytes d2) rfl rfl ?_
    refine X0.alen hexec hB0 rfl rfl (hb hbytes d3) ?_
    exact Steps.refl _)
  by_cases hs : A.slots.size = B.slots.size
  · have c3 : Steps p.tables e below (s₁.setTop (entryFrame m #[.ref a, .ref b] 3)) (s₁.setTop (mkF m 9 #[.val (.ref a), .val (.ref b), .val (.int 0)] [])) := c2.trans (by
      refine XS.icmpNo X0.here hexec rfl (hb hbytes d4) rfl (ii_ne_f (by rw [hs])) ?_
      refine iconstV X0.here hexec rfl 0 (hb hbytes d7) (by decide) ?_
      refine XS.istoreN X0.here hexec rfl (hb hbytes d8) rfl rfl ?_
      exact Steps.refl _)
    have loop : ∀ (r i : Nat), i + r = A.slots.size → (∀ j, j < i → yv A j = yv B j) → Steps p.tables e below (s₁.setTop (entryFrame m #[.ref a, .ref b] 3)) (s₁.setTop (mkF m 9 #[.val (.ref a), .val (.ref b), .val (.int (Int32.ofNat i))] [])) → ∃ (pc : Nat) (Ls : Array Slot) (v : Int32), (pc = 25 ∨ pc = 33) ∧ ((v = 1 ∧ EqC A B) ∨ (v = 0 ∧ ¬ EqC A B)) ∧ Steps p.tables e below (s₁.setTop (entryFrame m #[.ref a, .ref b] 3)) (s₁.setTop (mkF m pc Ls [.int v])) := by
      intro r
      induction r with
      | zero =>
        intro i hi he cl
        exact ⟨33, _, 1, Or.inr rfl, Or.inl ⟨rfl, hs, fun j hj => he j (by omega)⟩, cl.trans (by
          refine XS.iloadN X0.here hexec rfl (hb hbytes d9) rfl ?_
          refine XS.aloadN X0.here hexec rfl (hb hbytes d10) rfl rfl ?_
          refine X0.alen hexec hA0 rfl rfl (hb hbytes d11) ?_
          refine XS.icmpYes X0.here hexec rfl (pc0 := 12) rfl (hb hbytes d12) rfl (ii_ge_t (nlt32 (by omega) (by omega))) (by decide) rfl ?_
          refine iconstV X0.here hexec rfl 1 (hb hbytes d32) (by decide) ?_
          exact Steps.refl _)⟩
      | succ r ih =>
        intro i hi he cl
        have c4 : Steps p.tables e below (s₁.setTop (entryFrame m #[.ref a, .ref b] 3)) (s₁.setTop (mkF m 21 #[.val (.ref a), .val (.ref b), .val (.int (Int32.ofNat i))] [.int (yv B i), .int (yv A i)])) := cl.trans (by
          refine XS.iloadN X0.here hexec rfl (hb hbytes d9) rfl ?_
          refine XS.aloadN X0.here hexec rfl (hb hbytes d10) rfl rfl ?_
          refine X0.alen hexec hA0 rfl rfl (hb hbytes d11) ?_
          refine XS.icmpNo X0.here hexec rfl (hb hbytes d12) rfl (ii_ge_f (lt32 (by omega) (by omega))) ?_
          refine XS.aloadN X0.here hexec rfl (hb hbytes d15) rfl rfl ?_
          refine XS.iloadN X0.here hexec rfl (hb hbytes d16) rfl ?_
          refine X0.aget hexec hA0 rfl (yv_get hA tA (i := i) (by omega)) rfl rfl (hb hbytes d17) ?_
          refine XS.aloadN X0.here hexec rfl (hb hbytes d18) rfl rfl ?_
          refine XS.iloadN X0.here hexec rfl (hb hbytes d19) rfl ?_
          refine X0.aget hexec hB0 rfl (yv_get hB tB (i := i) (by omega)) rfl rfl (hb hbytes d20) ?_
          exact Steps.refl _)
        by_cases hv : yv A i = yv B i
        · have c5 : Steps p.tables e below (s₁.setTop (entryFrame m #[.ref a, .ref b] 3)) (s₁.setTop (mkF m 9 #[.val (.ref a), .val (.ref b), .val (.int (Int32.ofNat i + 1))] [])) := c4.trans (by
            refine XS.icmpYes X0.here hexec rfl (pc0 := 21) rfl (hb hbytes d21) rfl (ii_eq_t hv) (by decide) rfl ?_
            refine iincV X0.here hexec rfl 1 (hb hbytes d26) (by decide) rfl rfl ?_
            refine XS.goto X0.here hexec rfl (pc0 := 29) rfl (hb hbytes d29) (by decide) rfl ?_
            exact Steps.refl _)
          rw [succ32] at c5
          exact ih (i + 1) (by omega) (fun j hj => by
            by_cases e : j = i
            · rw [e]; exact hv
            · exact he j (by omega)) c5
        · exact ⟨25, _, 0, Or.inl rfl, Or.inr ⟨rfl, fun q => hv (q.2 i (by omega))⟩, c4.trans (by
            refine XS.icmpNo X0.here hexec rfl (hb hbytes d21) rfl (ii_eq_f hv) ?_
            refine iconstV X0.here hexec rfl 0 (hb hbytes d24) (by decide) ?_
            exact Steps.refl _)⟩
    obtain ⟨pc, Ls, v, hpc, hv, cz⟩ := loop A.slots.size 0 (by omega) (fun j hj => absurd hj (Nat.not_lt_zero j)) c3
    have nv : narrow .boolean (.int v) = .int v := by rcases hv with ⟨rfl, -⟩ | ⟨rfl, -⟩ <;> rfl
    rcases hpc with rfl | rfl
    · exact ⟨s₁, some (.int v), _, _, _, X0, rfl, rfl, rfl, (fun h => by cases h), ⟨v, rfl, hh0, hv⟩, fun fs hl => cz.trans (X0.ireturnOut hexec hret nv (Or.inr (Or.inl rfl)) (hb hbytes d25) hl)⟩
    · exact ⟨s₁, some (.int v), _, _, _, X0, rfl, rfl, rfl, (fun h => by cases h), ⟨v, rfl, hh0, hv⟩, fun fs hl => cz.trans (X0.ireturnOut hexec hret nv (Or.inr (Or.inl rfl)) (hb hbytes d33) hl)⟩
  · have c3 : Steps p.tables e below (s₁.setTop (entryFrame m #[.ref a, .ref b] 3)) (s₁.setTop (mkF m 35 #[.val (.ref a), .val (.ref b), .unset] [.int 0])) := c2.trans (by
      refine XS.icmpYes X0.here hexec rfl (pc0 := 4) rfl (hb hbytes d4) rfl (ii_ne_t (ne32 a31 b31 hs)) (by decide) rfl ?_
      refine iconstV X0.here hexec rfl 0 (hb hbytes d34) (by decide) ?_
      exact Steps.refl _)
    exact ⟨s₁, some (.int 0), _, _, _, X0, rfl, rfl, rfl, (fun h => by cases h), ⟨0, rfl, hh0, Or.inr ⟨rfl, fun q => hs q.1⟩⟩, fun fs hl => c3.trans (X0.ireturnOut hexec hret rfl (Or.inr (Or.inl rfl)) (hb hbytes d35) hl)⟩
end LEq
theorem Cod.ty {cd : Int32} {n : Nat} {f : Nat → Int32} {V : Cell} (h : Cod cd n f V) : Typed .byte V := fun i v hv => by
  have hi : i < V.slots.size := (Array.getElem?_eq_some_iff.mp hv).1
  rcases h with ⟨-, k1, k2⟩ | ⟨-, k1, k2, -⟩
  · rw [(k2 i (by omega)).1] at hv; cases hv; exact fits_lo8 _
  · rcases Nat.mod_two_eq_zero_or_one i with e | e
    · obtain ⟨j, rfl⟩ : ∃ j, i = 2 * j := ⟨i / 2, by omega⟩
      rw [(k2 j (by omega)).1] at hv; cases hv; exact fits_lo8 _
    · obtain ⟨j, rfl⟩ : ∃ j, i = 2 * j + 1 := ⟨i / 2, by omega⟩
      rw [(k2 j (by omega)).2] at hv; cases hv; exact fits_lo8 _
/-- the same text -/
def SameT (n : Nat) (f : Nat → Int32) (k : Nat) (g : Nat → Int32) : Prop := n = k ∧ ∀ j, j < n → f j = g j
theorem lo8_inj {x y : Int32} (h0 : ¬ x < 0) (h1 : ¬ 255 < x) (k0 : ¬ y < 0) (k1 : ¬ 255 < y) (h : lo8 x = lo8 y) : x = y := by
  rw [← lo8_mask h0 h1, ← lo8_mask k0 k1, h]
/-- arrays coded by one coder are equal just where the texts are -/
theorem Cod.eqv {cd : Int32} {n k : Nat} {f g : Nat → Int32} {V V' : Cell} (h : Cod cd n f V) (h' : Cod cd k g V') (hf : ∀ j, j < n → ¬ f j < 0 ∧ ¬ 65535 < f j) (hg : ∀ j, j < k → ¬ g j < 0 ∧ ¬ 65535 < g j) : EqC V V' ↔ SameT n f k g := by
  have yvv : ∀ {W : Cell} {i : Nat} {x : Int32}, W.slots[i]? = some (.int x) → yv W i = x := fun q => by unfold yv; rw [q]
  rcases h with ⟨rfl, k1, k2⟩ | ⟨rfl, k1, k2, -⟩
  · rcases h' with ⟨-, m1, m2⟩ | ⟨e, -⟩
    · constructor
      · rintro ⟨e1, e2⟩
        refine ⟨by omega, fun j hj => ?_⟩
        have q := e2 j (by omega)
        rw [yvv (k2 j hj).1, yvv (m2 j (by omega)).1] at q
        exact lo8_inj (hf j hj).1 (k2 j hj).2 (hg j (by omega)).1 (m2 j (by omega)).2 q
      · rintro ⟨rfl, e2⟩
        refine ⟨by omega, fun j hj => ?_⟩
        rw [yvv (k2 j (by omega)).1, yvv (m2 j (by omega)).1, e2 j (by omega)]
    · exact absurd e (by decide)
  · rcases h' with ⟨e, -⟩ | ⟨-, m1, m2, -⟩
    · exact absurd e (by decide)
    · constructor
      · rintro ⟨e1, e2⟩
        refine ⟨by omega, fun j hj => ?_⟩
        have q1 := e2 (2 * j) (by omega)
        have q2 := e2 (2 * j + 1) (by omega)
        rw [yvv (k2 j hj).1, yvv (m2 j (by omega)).1] at q1
        rw [yvv (k2 j hj).2, yvv (m2 j (by omega)).2] at q2
        rw [← pair_says (hf j hj).1 (hf j hj).2, ← pair_says (hg j (by omega)).1 (hg j (by omega)).2, q1, q2]
      · rintro ⟨rfl, e2⟩
        refine ⟨by omega, fun i hi => ?_⟩
        rcases Nat.mod_two_eq_zero_or_one i with e | e
        · obtain ⟨j, rfl⟩ : ∃ j, i = 2 * j := ⟨i / 2, by omega⟩
          rw [yvv (k2 j (by omega)).1, yvv (m2 j (by omega)).1, e2 j (by omega)]
        · obtain ⟨j, rfl⟩ : ∃ j, i = 2 * j + 1 := ⟨i / 2, by omega⟩
          rw [yvv (k2 j (by omega)).2, yvv (m2 j (by omega)).2, e2 j (by omega)]
/-- two codings differ: so do the texts -/
theorem Cod.dif {cd cd' : Int32} {n k : Nat} {f g : Nat → Int32} {V V' : Cell} (h : Cod cd n f V) (h' : Cod cd' k g V') (hne : ¬ cd = cd') : ¬ SameT n f k g := by
  rintro ⟨rfl, e⟩
  rcases h with ⟨rfl, -, k2⟩ | ⟨rfl, -, -, j, hj, hw⟩
  · rcases h' with ⟨rfl, -⟩ | ⟨-, -, -, j, hj, hw⟩
    · exact hne rfl
    · exact (k2 j hj).2 (by rw [e j hj]; exact hw)
  · rcases h' with ⟨-, -, m2⟩ | ⟨rfl, -⟩
    · exact (m2 j hj).2 (by rw [← e j hj]; exact hw)
    · exact hne rfl
/-- an object of exactly C is an instance of C -/
theorem cinst {p : Program} {l : Launch} {e : Env} {R : Room} {s : State} {m : MethodId} {args : Array Value} {below : List Frame} {meth : Method} {c : Code} {T : State} {locs : List Loc} {cells slots : Nat} (X : Stand p l e R s m args below meth c T locs cells slots) (hexec : p.tables.exec = Jvm.exec) {own C : String} {index : Nat} (hown : s.vm.findClass own = some m.cls) (hlink : (Cond.classLink own index C).before args s = true) {a : Addr} (hE : Exact C a T)
    {g : JFrame} (hg : g.method = m) {rest : List Value} (hstack : g.stack = .ref a :: rest) (hdg : decode c.code g.pc = .ok (.instanceof index, 3)) :
    ∃ T', Stand p l e R s m args below meth c T' locs cells slots ∧ T'.heap = T.heap ∧ ∀ target, Steps p.tables e below (T'.setTop { g with pc := g.pc + 3, stack := .int 1 :: rest }) target → Steps p.tables e below (T.setTop g) target := by
  obtain ⟨cB, h1, D, h2, h3, h4⟩ := hE
  have h1' : s.vm.findClass C = some cB := by rw [← X.warmed.alike.findClass]; exact h1
  obtain ⟨vm', X', st⟩ := X.instanceofYes hexec hown hlink h2 h4 h1' (by rw [h3]; exact Jvm.Free.SB.assignable_self _ _) hg hstack hdg
  exact ⟨_, X', rfl, st⟩
theorem cself {p : Program} {l : Launch} {e : Env} {R : Room} {s : State} {m : MethodId} {args : Array Value} {below : List Frame} {meth : Method} {c : Code} {T : State} {locs : List Loc} {cells slots : Nat} (X : Stand p l e R s m args below meth c T locs cells slots) (hexec : p.tables.exec = Jvm.exec) {own C : String} {index : Nat} (hown : s.vm.findClass own = some m.cls) (hlink : (Cond.classLink own index C).before args s = true) {a : Addr} (hE : Exact C a T)
    {g : JFrame} (hg : g.method = m) {rest : List Value} (hstack : g.stack = .ref a :: rest) (hdg : decode c.code g.pc = .ok (.checkcast index, 3)) :
    ∃ T', Stand p l e R s m args below meth c T' locs cells slots ∧ T'.heap = T.heap ∧ ∀ target, Steps p.tables e below (T'.setTop { g with pc := g.pc + 3, stack := .ref a :: rest }) target → Steps p.tables e below (T.setTop g) target := by
  obtain ⟨cB, h1, D, h2, h3, h4⟩ := hE
  have h1' : s.vm.findClass C = some cB := by rw [← X.warmed.alike.findClass]; exact h1
  obtain ⟨vm', X', st⟩ := X.checkcastYes hexec hown hlink h2 h4 h1' (by rw [h3]; exact Jvm.Free.SB.assignable_self _ _) hg hstack hdg
  exact ⟨_, X', rfl, fun t h => st t (by rw [← hstack] at h; exact h)⟩
namespace SEq
def yN : MethodName := ⟨"java/lang/String", "equals", "(Ljava/lang/Object;)Z"⟩
abbrev yB : ByteArray := jdk_42_method_66_code
theorem d0 : decode yB 0 = .ok (.aload_n 0, 1) := by decide +kernel
theorem d1 : decode yB 1 = .ok (.aload_n 1, 1) := by decide +kernel
theorem d2 : decode yB 2 = .ok (.if_acmp (.ne) 5, 3) := by decide +kernel
theorem d5 : decode yB 5 = .ok (.iconst 1, 1) := by decide +kernel
theorem d6 : decode yB 6 = .ok (.ireturn, 1) := by decide +kernel
theorem d7 : decode yB 7 = .ok (.aload_n 1, 1) := by decide +kernel
theorem d8 : decode yB 8 = .ok (.instanceof 10, 3) := by decide +kernel
theorem d11 : decode yB 11 = .ok (.ifCond (.eq) 43, 3) := by decide +kernel
theorem d14 : decode yB 14 = .ok (.aload_n 1, 1) := by decide +kernel
theorem d15 : decode yB 15 = .ok (.checkcast 10, 3) := by decide +kernel
theorem d18 : decode yB 18 = .ok (.astore_n 2, 1) := by decide +kernel
theorem d19 : decode yB 19 = .ok (.getstatic 38, 3) := by decide +kernel
theorem d22 : decode yB 22 = .ok (.ifCond (.eq) 14, 3) := by decide +kernel
theorem d25 : decode yB 25 = .ok (.aload_n 0, 1) := by decide +kernel
theorem d26 : decode yB 26 = .ok (.getfield 15, 3) := by decide +kernel
theorem d29 : decode yB 29 = .ok (.aload_n 2, 1) := by decide +kernel
theorem d30 : decode yB 30 = .ok (.getfield 15, 3) := by decide +kernel
theorem d33 : decode yB 33 = .ok (.if_icmp (.ne) 21, 3) := by decide +kernel
theorem d36 : decode yB 36 = .ok (.aload_n 0, 1) := by decide +kernel
theorem d37 : decode yB 37 = .ok (.getfield 9, 3) := by decide +kernel
theorem d40 : decode yB 40 = .ok (.aload_n 2, 1) := by decide +kernel
theorem d41 : decode yB 41 = .ok (.getfield 9, 3) := by decide +kernel
theorem d44 : decode yB 44 = .ok (.invokestatic 541, 3) := by decide +kernel
theorem d47 : decode yB 47 = .ok (.ifCond (.eq) 7, 3) := by decide +kernel
theorem d50 : decode yB 50 = .ok (.iconst 1, 1) := by decide +kernel
theorem d51 : decode yB 51 = .ok (.goto 4, 3) := by decide +kernel
theorem d54 : decode yB 54 = .ok (.iconst 0, 1) := by decide +kernel
theorem d55 : decode yB 55 = .ok (.ireturn, 1) := by decide +kernel
def site : List Cond := [.classLink "java/lang/String" 10 "java/lang/String", .fieldLink "java/lang/String" 38 "java/lang/String" "COMPACT_STRINGS" "Z", .fieldLink "java/lang/String" 15 "java/lang/String" "coder" "B", .fieldLink "java/lang/String" 9 "java/lang/String" "value" "[B", LEq.tab] ++ staticW "java/lang/String" 541 LEq.yN
def tab : Cond := tabOf yN yB 3 (some .boolean) site
def P (x t : Addr) (V : Cell) (cd : Int32) (n : Nat) (f : Nat → Int32) (y t' : Addr) (V' : Cell) (cd' : Int32) (k : Nat) (g : Nat → Int32) (z : Int32) (args : Array Value) (s : State) : Prop := args = #[.ref x, .ref y] ∧ Txt x t V cd n f s ∧ Txt y t' V' cd' k g s ∧ StaticIs s "java/lang/String" "COMPACT_STRINGS" "Z" (.int z) ∧ ¬ z = 0
/-- equals(Object) of two Strings: whether the texts are the same -/
theorem law (l : Launch) (x t : Addr) (V : Cell) (cd : Int32) (n : Nat) (f : Nat → Int32) (y t' : Addr) (V' : Cell) (cd' : Int32) (k : Nat) (g : Nat → Int32) (z : Int32) : Law l yN 2 1 1 14 yB 3 (some .boolean) site (P x t V cd n f y t' V' cd' k g z) (Says01 (SameT n f k g)) [] 0 0 := by
  refine Law.of_walk (plainFor_of_name (by decide +kernel)) (by decide +kernel) (by decide +kernel) (by decide) (fun _ _ h => by rw [h.1]; rfl) (fun _ U U' hal hh h => ⟨h.1, h.2.1.mv hal hh, h.2.2.1.mv hal hh, h.2.2.2.1.there hal hh, h.2.2.2.2⟩) (fun r U U' V V' h1 hal h2 h => Says01.mv r U U' V V' h1 hal h2 h) ?_
  intro p e s m args below meth c s₁ X0 hexec hbytes hml hret hlk hnm hown hh0 W hP
  obtain ⟨rfl, hx, hy, s1, hz⟩ := hP
  have c1 : Steps p.tables e below (s₁.setTop (entryFrame m #[.ref x, .ref y] 3)) (s₁.setTop (mkF m 2 #[.val (.ref x), .val (.ref y), .unset] [.ref y, .ref x])) := Steps.trans (entry rfl) (by
    show Steps p.tables e below (s₁.setTop (mkF m 0 #[.val (.ref x), .val (.ref y), .unset] [])) _
    refine XS.aloadN X0.here hexec rfl (hb hbytes d0) rfl rfl ?_
    refine XS.aloadN X0.here hexec rfl (hb hbytes d1) rfl rfl ?_
    exact Steps.refl _)
  by_cases hxy : x = y
  · have c2 : Steps p.tables e below (s₁.setTop (entryFrame m #[.ref x, .ref y] 3)) (s₁.setTop (mkF m 6 #[.val (.ref x), .val (.ref y), .unset] [.int 1])) := c1.trans (by
      refine acmpNo X0.here hexec rfl (hb hbytes d2) rfl rfl rfl (by simp [acmp, hxy]) ?_
      refine iconstV X0.here hexec rfl 1 (hb hbytes d5) (by decide) ?_
      exact Steps.refl _)
    subst hxy
    have ec : cd = cd' := by
      obtain ⟨D, fd, a1, a2, a3⟩ := hx.2.2.1
      obtain ⟨D', fd', b1, b2, b3⟩ := hy.2.2.1
      cases a1.symm.trans b1
      obtain ⟨q1, q2, q3, q4⟩ := a2.1
      obtain ⟨r1, r2, r3, r4⟩ := b2.1
      cases q4.symm.trans r4
      cases a3.symm.trans b3; rfl
    have et : t = t' := by
      obtain ⟨D, fd, a1, a2, a3⟩ := hx.2.1
      obtain ⟨D', fd', b1, b2, b3⟩ := hy.2.1
      cases a1.symm.trans b1
      obtain ⟨q1, q2, q3, q4⟩ := a2.1
      obtain ⟨r1, r2, r3, r4⟩ := b2.1
      cases q4.symm.trans r4
      cases a3.symm.trans b3; rfl
    subst ec et
    have ev : V = V' := by cases hx.2.2.2.1.1.symm.trans hy.2.2.2.1.1; rfl
    subst ev
    have hs : SameT n f k g := (Cod.eqv hx.2.2.2.2.1 hy.2.2.2.2.1 hx.2.2.2.2.2 hy.2.2.2.2.2).mp ⟨rfl, fun _ _ => rfl⟩
    exact ⟨s₁, some (.int 1), _, _, _, X0, rfl, rfl, rfl, (fun h => by cases h), ⟨1, rfl, hh0, Or.inl ⟨rfl, hs⟩⟩, fun fs hl => c2.trans (X0.ireturnOut hexec hret rfl (Or.inr (Or.inl rfl)) (hb hbytes d6) hl)⟩
  · have c2 : Steps p.tables e below (s₁.setTop (entryFrame m #[.ref x, .ref y] 3)) (s₁.setTop (mkF m 8 #[.val (.ref x), .val (.ref y), .unset] [.ref y])) := c1.trans (by
      refine acmpYes X0.here hexec rfl (pc0 := 2) rfl (hb hbytes d2) rfl rfl rfl (by simp [acmp, hxy]) (by decide) rfl ?_
      refine XS.aloadN X0.here hexec rfl (hb hbytes d7) rfl rfl ?_
      exact Steps.refl _)
    obtain ⟨T3, X3, q3, st3⟩ := cinst X0 hexec hown (wk W (.classLink "java/lang/String" 10 "java/lang/String")) (hy.mv X0.warmed.alike hh0).1 (g := (mkF m 8 #[.val (.ref x), .val (.ref y), .unset] [.ref y])) rfl (rest := []) rfl (hb hbytes d8)
    have hh3 := q3.trans hh0
    have c4 : Steps p.tables e below (s₁.setTop (entryFrame m #[.ref x, .ref y] 3)) (T3.setTop (mkF m 15 #[.val (.ref x), .val (.ref y), .unset] [.ref y])) := (c2.trans (st3 _ (Steps.refl _))).trans (by
      refine XS.ifNo X3.here hexec rfl (hb hbytes d11) rfl (i0_eq_f (by decide)) ?_
      refine XS.aloadN X3.here hexec rfl (hb hbytes d14) rfl rfl ?_
      exact Steps.refl _)
    obtain ⟨T5, X5, q5, st5⟩ := cself X3 hexec hown (wk W (.classLink "java/lang/String" 10 "java/lang/String")) (hy.mv X3.warmed.alike hh3).1 (g := (mkF m 15 #[.val (.ref x), .val (.ref y), .unset] [.ref y])) rfl (rest := []) rfl (hb hbytes d15)
    have hh5 := q5.trans hh3
    have c6 : Steps p.tables e below (s₁.setTop (entryFrame m #[.ref x, .ref y] 3)) (T5.setTop (mkF m 19 #[.val (.ref x), .val (.ref y), .val (.ref y)] [])) := (c4.trans (st5 _ (Steps.refl _))).trans (by
      refine XS.astoreN X5.here hexec rfl (hb hbytes d18) rfl rfl rfl ?_
      exact Steps.refl _)
    obtain ⟨T7, X7, q7, st7⟩ := X5.sget hexec hown (wk W (.fieldLink "java/lang/String" 38 "java/lang/String" "COMPACT_STRINGS" "Z")) s1 (fun _ _ h => by rw [hh5]; exact h) (g := (mkF m 19 #[.val (.ref x), .val (.ref y), .val (.ref y)] [])) rfl (hb hbytes d19)
    have hh7 := q7.trans hh5
    have c8 : Steps p.tables e below (s₁.setTop (entryFrame m #[.ref x, .ref y] 3)) (T7.setTop (mkF m 26 #[.val (.ref x), .val (.ref y), .val (.ref y)] [.ref x])) := (c6.trans (st7 _ (Steps.refl _))).trans (by
      refine XS.ifNo X7.here hexec rfl (hb hbytes d22) rfl (i0_eq_f hz) ?_
      refine XS.aloadN X7.here hexec rfl (hb hbytes d25) rfl rfl ?_
      exact Steps.refl _)
    obtain ⟨T9, X9, q9, st9⟩ := X7.hget hexec hown (wk W (.fieldLink "java/lang/String" 15 "java/lang/String" "coder" "B")) (hx.mv X7.warmed.alike hh7).2.2.1 (g := (mkF m 26 #[.val (.ref x), .val (.ref y), .val (.ref y)] [.ref x])) rfl (rest := []) rfl (hb hbytes d26)
    have hh9 := q9.trans hh7
    have c10 : Steps p.tables e below (s₁.setTop (entryFrame m #[.ref x, .ref y] 3)) (T9.setTop (mkF m 30 #[.val (.ref x), .val (.ref y), .val (.ref y)] [.ref y, .int cd])) := (c8.trans (st9 _ (Steps.refl _))).trans (by
      refine XS.aloadN X9.here hexec rfl (hb hbytes d29) rfl rfl ?_
      exact Steps.refl _)
    obtain ⟨T11, X11, q11, st11⟩ := X9.hget hexec hown (wk W (.fieldLink "java/lang/String" 15 "java/lang/String" "coder" "B")) (hy.mv X9.warmed.alike hh9).2.2.1 (g := (mkF m 30 #[.val (.ref x), .val (.ref y), .val (.ref y)] [.ref y, .int cd])) rfl (rest := [.int cd]) rfl (hb hbytes d30)
    have hh11 := q11.trans hh9
    have c12 : Steps p.tables e below (s₁.setTop (entryFrame m #[.ref x, .ref y] 3)) (T11.setTop (mkF m 33 #[.val (.ref x), .val (.ref y), .val (.ref y)] [.int cd', .int cd])) := c10.trans (st11 _ (Steps.refl _))
    by_cases hcd : cd = cd'
    · subst hcd
      have c13 : Steps p.tables e below (s₁.setTop (entryFrame m #[.ref x, .ref y] 3)) (T11.setTop (mkF m 37 #[.val (.ref x), .val (.ref y), .val (.ref y)] [.ref x])) := c12.trans (by
        refine XS.icmpNo X11.here hexec rfl (hb hbytes d33) rfl (ii_ne_f rfl) ?_
        refine XS.aloadN X11.here hexec rfl (hb hbytes d36) rfl rfl ?_
        exact Steps.refl _)
      obtain ⟨T14, X14, q14, st14⟩ := X11.hget hexec hown (wk W (.fieldLink "java/lang/String" 9 "java/lang/String" "value" "[B")) (hx.mv X11.warmed.alike hh11).2.1 (g := (mkF m 37 #[.val (.ref x), .val (.ref y), .val (.ref y)] [.ref x])) rfl (rest := []) rfl (hb hbytes d37)
      have hh14 := q14.trans hh11
      have c15 : Steps p.tables e below (s₁.setTop (entryFrame m #[.ref x, .ref y] 3)) (T14.setTop (mkF m 41 #[.val (.ref x), .val (.ref y), .val (.ref y)] [.ref y, .ref t])) := (c13.trans (st14 _ (Steps.refl _))).trans (by
        refine XS.aloadN X14.here hexec rfl (hb hbytes d40) rfl rfl ?_
        exact Steps.refl _)
      obtain ⟨T16, X16, q16, st16⟩ := X14.hget hexec hown (wk W (.fieldLink "java/lang/String" 9 "java/lang/String" "value" "[B")) (hy.mv X14.warmed.alike hh14).2.1 (g := (mkF m 41 #[.val (.ref x), .val (.ref y), .val (.ref y)] [.ref y, .ref t])) rfl (rest := [.ref t]) rfl (hb hbytes d41)
      have hh16 := q16.trans hh14
      have c17 : Steps p.tables e below (s₁.setTop (entryFrame m #[.ref x, .ref y] 3)) (T16.setTop (mkF m 44 #[.val (.ref x), .val (.ref y), .val (.ref y)] [.ref t', .ref t])) := c15.trans (st16 _ (Steps.refl _))
      obtain ⟨v18, T18, X18, E18, g18⟩ := X16.callS hexec (LEq.law l t V t' V') hown (wks W (staticW "java/lang/String" 541 LEq.yN)) (wk W LEq.tab) (W := 0) (Nat.le_of_ble_eq_true rfl) (Nat.le_of_ble_eq_true rfl) (Nat.le_refl _) (Nat.le_refl _) (g := (mkF m 44 #[.val (.ref x), .val (.ref y), .val (.ref y)] [.ref t', .ref t])) rfl (by rw [hml]; rfl) c17 (argsL := [.ref t, .ref t']) (rest := []) rfl rfl (by show 2 * 0 + 0 ≤ _; decide) (hb hbytes d44) (⟨rfl, hx.2.2.2.1.mv X16.warmed.alike hh16, hx.2.2.2.2.1.ty, hy.2.2.2.1.mv X16.warmed.alike hh16, hy.2.2.2.2.1.ty⟩)
      obtain ⟨v, rfl, q18, hv⟩ := E18
      have iff := Cod.eqv hx.2.2.2.2.1 hy.2.2.2.2.1 hx.2.2.2.2.2 hy.2.2.2.2.2
      rcases hv with ⟨rfl, he⟩ | ⟨rfl, he⟩
      · have c19 : Steps p.tables e below (s₁.setTop (entryFrame m #[.ref x, .ref y] 3)) (T18.setTop (mkF m 55 #[.val (.ref x), .val (.ref y), .val (.ref y)] [.int 1])) := Steps.trans g18 (by
          refine XS.ifNo X18.here hexec rfl (hb hbytes d47) rfl (i0_eq_f (by decide)) ?_
          refine iconstV X18.here hexec rfl 1 (hb hbytes d50) (by decide) ?_
          refine XS.goto X18.here hexec rfl (pc0 := 51) rfl (hb hbytes d51) (by decide) rfl ?_
          exact Steps.refl _)
        exact ⟨T18, some (.int 1), _, _, _, X18, rfl, rfl, rfl, (fun h => by cases h), ⟨1, rfl, q18.trans hh16, Or.inl ⟨rfl, iff.mp he⟩⟩, fun fs hl => c19.trans (X18.ireturnOut hexec hret rfl (Or.inr (Or.inl rfl)) (hb hbytes d55) hl)⟩
      · have c19 : Steps p.tables e below (s₁.setTop (entryFrame m #[.ref x, .ref y] 3)) (T18.setTop (mkF m 55 #[.val (.ref x), .val (.ref y), .val (.ref y)] [.int 0])) := Steps.trans g18 (by
          refine XS.ifYes X18.here hexec rfl (pc0 := 47) rfl (hb hbytes d47) rfl (i0_eq_t rfl) (by decide) rfl ?_
          refine iconstV X18.here hexec rfl 0 (hb hbytes d54) (by decide) ?_
          exact Steps.refl _)
        exact ⟨T18, some (.int 0), _, _, _, X18, rfl, rfl, rfl, (fun h => by cases h), ⟨0, rfl, q18.trans hh16, Or.inr ⟨rfl, fun q => he (iff.mpr q)⟩⟩, fun fs hl => c19.trans (X18.ireturnOut hexec hret rfl (Or.inr (Or.inl rfl)) (hb hbytes d55) hl)⟩
    · have c13 : Steps p.tables e below (s₁.setTop (entryFrame m #[.ref x, .ref y] 3)) (T11.setTop (mkF m 55 #[.val (.ref x), .val (.ref y), .val (.ref y)] [.int 0])) := c12.trans (by
        refine XS.icmpYes X11.here hexec rfl (pc0 := 33) rfl (hb hbytes d33) rfl (ii_ne_t hcd) (by decide) rfl ?_
        refine iconstV X11.here hexec rfl 0 (hb hbytes d54) (by decide) ?_
        exact Steps.refl _)
      exact ⟨T11, some (.int 0), _, _, _, X11, rfl, rfl, rfl, (fun h => by cases h), ⟨0, rfl, hh11, Or.inr ⟨rfl, Cod.dif hx.2.2.2.2.1 hy.2.2.2.2.1 hcd⟩⟩, fun fs hl => c13.trans (X11.ireturnOut hexec hret rfl (Or.inr (Or.inl rfl)) (hb hbytes d55) hl)⟩
theorem pays {l : Launch} {R : Room} {p : Program} {e : Env} {below : List Frame} {s : State} {sargs : Array Value} {len W : Nat} (x t : Addr) (V : Cell) (cd : Int32) (n : Nat) (f : Nat → Int32) (y t' : Addr) (V' : Cell) (cd' : Int32) (k : Nat) (g : Nat → Int32) (z : Int32) (htab : tab.before sargs s = true) (hfr : 2 ≤ R.frames) (hlo : W + 28 ≤ R.locals) :
    Back l R p e below s sargs yN len W (fun A₁ a₁ => A₁.cells + 0 ≤ R.cells ∧ A₁.slots + 0 ≤ R.slots ∧ P x t V cd n f y t' V' cd' k g z a₁ A₁.U) (fun A₁ _ v₁ B₁ => Says01 (SameT n f k g) v₁ A₁.U B₁.U ∧ B₁.locs = A₁.locs ++ [] ∧ B₁.cells = A₁.cells + 0 ∧ B₁.slots = A₁.slots + 0) :=
  (law l x t V cd n f y t' V' cd' k g z).pays htab hfr (by omega)
end SEq
end StrChars
namespace StrChars.Road
open Jvm Sem ClassFile Op Lib Jvm.Stand Jvm.Free Jvm.Free.XT
open Jvm.Lib.Cold (StaticIs)
/-- the words of String.equals(Object) -/
abbrev wordsEq : List Jvm.Cond := [.code SEq.yN SEq.yB 3 (some .boolean), .initialized ST, .classLink ST 10 ST, .fieldLink ST 38 ST "COMPACT_STRINGS" "Z", .fieldLink ST 15 ST "coder" "B", .fieldLink ST 9 ST "value" "[B", .methodLink ST 541 LEq.yN, .static LEq.yN, .code LEq.yN LEq.yB 3 (some .boolean), .initialized "java/lang/StringLatin1"]
theorem tabEq_of {a : Array Value} {s : State} (h : ∀ w ∈ wordsEq, w.before a s = true) : SEq.tab.before a s = true := by
  have hl : LEq.tab.before a s = true := unparts (wk h (.code LEq.yN LEq.yB 3 (some .boolean))) (wks h (.initialized LEq.yN.cls :: LEq.site))
  have q := consq hl h
  exact unparts (wk q (.code SEq.yN SEq.yB 3 (some .boolean))) (wks q (.initialized SEq.yN.cls :: SEq.site))
theorem movedEq {Z s : State} {a0 args : Array Value} (hZ : Z.Warmed39 s.vm) (hw : ∀ d ∈ wordsEq, d.before a0 Z = true) : ∀ d ∈ wordsEq, d.before args s = true := fun d hd => by
  have t : ∀ d ∈ wordsEq, (d.onTables && d.keepsFace) = true := by decide +kernel
  exact RoadKit.mv hZ (hw d hd) (t d hd)
/-- the road's facts of a String, as the laws ask it -/
theorem txt_of {Z U : State} {a0 : Array Value} {kI : Nat} (wi : (Jvm.Cond.instantiable ST kI).before a0 Z = true) (al : Z.vm.Alike U.vm) {x t : Addr} {kb : ClassId} {cs : List Int32} {cd N2 : Int32} {vs : List Value} (E : RoadKit.Exa Z U.heap x ST) (V : RoadKit.Fld Z U.heap x ST "value" "[B" (.ref t)) (C : RoadKit.Fld Z U.heap x ST "coder" "B" (.int cd)) (K : RoadKit.Arv Z U.heap t kb .byte N2 vs (.int 0)) (hc : CodA cs cd N2 vs) (hb : ∀ c ∈ cs, ¬ c < 0 ∧ ¬ (65535 : Int32) < c) (l2 : cs.length ≤ 4000) :
    ∃ A, Txt x t A cd cs.length (fun j => cs.getD j 0) U := by
  obtain ⟨A, K1, K2, K3, K4, K5, K6⟩ := K
  have hcod := hc.cod (by omega) K3 K5
  obtain ⟨D, fV, fC, hB, F1, F2, g1, g2, -, -⟩ := strObj wi al E V C
  exact ⟨A, ⟨_, hB.2.2.1, D, hB.1, rfl, by cases q : D.vm <;> first | rfl | exact absurd q (hB.2.1.2 _)⟩, Has.of hB F1 g1, Has.of hB F2 g2, ⟨K1.1, State.isArrayOf_alike al K1.2.1, K1.2.2, by rcases hcod with ⟨-, q, -⟩ | ⟨-, q, -⟩ <;> omega⟩, hcod, fun j hj => by
    have e : cs.getD j 0 = cs[j] := by simp [List.getD_eq_getElem?_getD, hj]
    show ¬ cs.getD j 0 < 0 ∧ ¬ 65535 < cs.getD j 0
    rw [e]; exact hb _ (List.getElem_mem _)⟩
theorem same_list (cs ds : List Int32) : SameT cs.length (fun j => cs.getD j 0) ds.length (fun j => ds.getD j 0) ↔ cs = ds := by
  constructor
  · rintro ⟨e, q⟩
    refine List.ext_getElem e fun j h1 h2 => ?_
    have := q j h1
    simpa [List.getD_eq_getElem?_getD, h1, h2] using this
  · rintro rfl
    exact ⟨rfl, fun _ _ => rfl⟩
/-- **equals(Object) OF TWO SUCH STRINGS**: 1 just where the chars are the same -/
theorem eqW {p : Program} {l : Launch} {e : Env} {R : Room} {s : State} {args : Array Value} {below : List Frame} {len W : Nat} {Z : State} {a0 : Array Value} {h : Heap} (hZ : Z.Warmed39 s.vm) (hw : ∀ d ∈ wordsEq, d.before a0 Z = true) {kI : Nat} (wi : (Jvm.Cond.instantiable ST kI).before a0 Z = true)
    {x t : Addr} {kb : ClassId} {cs : List Int32} {cd N2 : Int32} {vs : List Value} (E : RoadKit.Exa Z h x ST) (V : RoadKit.Fld Z h x ST "value" "[B" (.ref t)) (C : RoadKit.Fld Z h x ST "coder" "B" (.int cd)) (K : RoadKit.Arv Z h t kb .byte N2 vs (.int 0)) (hc : CodA cs cd N2 vs) (hb : ∀ c ∈ cs, ¬ c < 0 ∧ ¬ (65535 : Int32) < c) (l2 : cs.length ≤ 4000)
    {y t' : Addr} {kb' : ClassId} {ds : List Int32} {cd' N2' : Int32} {vs' : List Value} (E' : RoadKit.Exa Z h y ST) (V' : RoadKit.Fld Z h y ST "value" "[B" (.ref t')) (C' : RoadKit.Fld Z h y ST "coder" "B" (.int cd')) (K' : RoadKit.Arv Z h t' kb' .byte N2' vs' (.int 0)) (hc' : CodA ds cd' N2' vs') (hb' : ∀ c ∈ ds, ¬ c < 0 ∧ ¬ (65535 : Int32) < c) (l2' : ds.length ≤ 4000)
    {z : Int32} (S : RoadKit.Sta Z h ST "COMPACT_STRINGS" "Z" (.int z)) (hz : ¬ z = 0) (hfr : 2 ≤ R.frames) (hlo : W + 28 ≤ R.locals) :
    Back l R p e below s args (⟨"java/lang/String", "equals", "(Ljava/lang/Object;)Z"⟩ : MethodName) len W (fun P a => a = #[.ref x, .ref y] ∧ P.U.heap = h ∧ P.cells + 0 ≤ R.cells ∧ P.slots + 0 ≤ R.slots)
      (fun P _ v B => ∃ L, (((v = some (.int 1) ∧ cs = ds) ∨ (v = some (.int 0) ∧ ¬ cs = ds)) ∧ L = [] ∧ B.U.heap = h) ∧ B.locs = P.locs ++ L ∧ B.cells = P.cells + 0 ∧ B.slots = P.slots + 0) := by
  intro m meth c P g ig mk a X hg hsize hdg hW hn hp'
  obtain ⟨rfl, rfl, r1, r2⟩ := hp'
  have al : Z.vm.Alike P.U.vm := hZ.alike.trans X.warmed.alike
  obtain ⟨A, hx⟩ := txt_of wi al E V C K hc hb l2
  obtain ⟨A', hy⟩ := txt_of wi al E' V' C' K' hc' hb' l2'
  obtain ⟨v, B, X', ⟨⟨w, hv, hh, hq⟩, hl, hk, hs⟩, st⟩ := SEq.pays x t A cd cs.length (fun j => cs.getD j 0) y t' A' cd' ds.length (fun j => ds.getD j 0) z (tabEq_of (movedEq hZ hw)) hfr hlo m meth c P g ig mk _ X hg hsize hdg hW hn ⟨r1, r2, rfl, hx, hy, sta_is al S, hz⟩
  refine ⟨v, B, X', ⟨[], ⟨?_, rfl, hh⟩, hl, hk, hs⟩, st⟩
  rcases hq with ⟨rfl, q⟩ | ⟨rfl, q⟩
  · exact Or.inl ⟨hv, (same_list cs ds).mp q⟩
  · exact Or.inr ⟨hv, fun e => q ((same_list cs ds).mpr e)⟩
end StrChars.Road
namespace StrChars.Road
open Jvm Sem ClassFile Op Lib Jvm.Stand Jvm.Free Jvm.Free.XT
open Jvm.Lib.Cold (StaticIs)
/-- what backV says of its String, as the contracts of this text ask it: cs's low bytes, coder 0 -/
theorem codOf {cs : List Int32} {n : Nat} (hn : cs.length = n) (hb : ∀ c ∈ cs, ¬ 255 < c) : CodA cs 0 (Int32.ofNat n) ((cs.map lo8).map Value.int) := Or.inl ⟨rfl, by rw [hn], by simp [List.map_map, Function.comp_def], hb⟩
end StrChars.Road
end Jvm.Pilot.@@N@@

namespace Jvm.Pilot.@@N@@
open Jvm Jvm.ClassFile Sem Op Lib Jvm.Free Jvm.Stand Jvm.LawKit Jvm.RoadKit Bundle Jvm.Pilot.@@N@@.Jvm.D
/-- from the state S the run comes to an end of which R speaks -/
abbrev Ends (tb : Tables) (e : Env) (below : List Frame) (S : State) (R : State → Outcome → Prop) : Prop := ∃ t o, Steps tb e below S t ∧ R t o
theorem Ends.st {tb : Tables} {e : Env} {below : List Frame} {S S' : State} {R : State → Outcome → Prop} (h : ∀ t, Steps tb e below S' t → Steps tb e below S t) (k : Ends tb e below S' R) : Ends tb e below S R := by
  obtain ⟨t, o, h1, h2⟩ := k
  exact ⟨t, o, h t h1, h2⟩
theorem pd_0 : parseMethodDescriptor "([CIILjava/lang/Void;)V" = some ⟨[(.array .char), .int, .int, (.object "java/lang/Void")], none⟩ := by decide +kernel
theorem pd_1 : parseMethodDescriptor "([C)V" = some ⟨[(.array .char)], none⟩ := by decide +kernel
theorem pd_2 : parseMethodDescriptor "(Ljava/lang/Object;Ljava/lang/String;)Ljava/lang/Object;" = some ⟨[(.object "java/lang/Object"), (.object "java/lang/String")], some (.object "java/lang/Object")⟩ := by decide +kernel
theorem pd_3 : parseMethodDescriptor "(Ljava/lang/Object;)Z" = some ⟨[(.object "java/lang/Object")], some .boolean⟩ := by decide +kernel
theorem pd_4 : parseMethodDescriptor "(III)Ljava/lang/String;" = some ⟨[.int, .int, .int], some (.object "java/lang/String")⟩ := by decide +kernel
theorem pd_5 : parseMethodDescriptor "(Ljava/lang/String;IIII)V" = some ⟨[(.object "java/lang/String"), .int, .int, .int, .int], none⟩ := by decide +kernel
theorem own_root {Z : State} {a0 : Array Value} {O K : String} {n : Nat} (w : (Cond.noSuperclass O).before a0 Z = true) (wk : (Cond.instantiable K n).before a0 Z = true) (hn : O ≠ K) : NS Z O K := by
  obtain ⟨c, k, h1, h2, h3, -, -⟩ := Cond.noSuperclass_spec w
  obtain ⟨t, k', g1, -⟩ := Cond.instantiable_spec wk
  have hne := ids_ne h1 g1 hn
  refine ⟨c, t, h1, g1, fun fuel => ?_⟩
  cases fuel with
  | zero => rfl
  | succ f => simp [Vm.isSubclassAux, hne, h2, h3]
theorem own_no {Z : State} {a0 : Array Value} {C S K : String} {n : Nat} (w : (Cond.superclass C S).before a0 Z = true) (wk : (Cond.instantiable K n).before a0 Z = true) (hs : NS Z C K) (hn : C ≠ K) : ∃ c t, Z.vm.findClass C = some c ∧ Z.vm.findClass K = some t ∧ Z.vm.assignable c t = false := by
  obtain ⟨c, t, h0, g0, n3⟩ := hs
  obtain ⟨p, k, kp, h1, h2, h3, h4, h5, -, h7⟩ := Cond.superclass_spec h0 w
  obtain ⟨t', k', g1, g2, g3, g4, -⟩ := Cond.instantiable_spec wk
  cases g0.symm.trans g1
  have g7 : k'.isInterface = false := by
    cases hq : k'.isInterface with
    | false => rfl
    | true => rw [hq] at g4; simp at g4
  have hne := ids_ne h0 g0 hn
  refine ⟨c, t, h0, g0, ?_⟩
  show Z.vm.assignableAux (255 + 1) c t = false
  simp [Vm.assignableAux, hne, h2, g2, h5, g3, g7, Vm.isSubclass, n3]
abbrev EL0 : List (String × Nat) := [("java/lang/String", 7)]
theorem own_EW {Z : State} {a0 : Array Value} (hw : ∀ d ∈ tables_1, d.before a0 Z = true) : EW Z a0 EL0 := EW.cons (text := "") (hw _ (List.mem_of_getElem? (i := 18) rfl)) (by decide) EW.nil
theorem own_atoms {Z : State} {a0 : Array Value} (hw : ∀ d ∈ tables_1, d.before a0 Z = true) : ∀ a ∈ Bundle.stringAtoms, a.before a0 Z = true := fun a ha => hw a ((by decide +kernel : ∀ a ∈ Bundle.stringAtoms, a ∈ tables_1) a ha)
/-- a String whose value is null is no booked String, nor its array -/
theorem own_safe {Z : State} {EL : List (String × Nat)} {vm : Vm} {h : Heap} {x : Addr} (hal : Z.vm.Alike vm) (E : Exa Z h x "java/lang/String") (F : Fld Z h x "java/lang/String" "value" "[B" .null) : Safe Z EL vm h x := fun B => by
  obtain ⟨cell, k, e1, e2, e3, -, -⟩ := E
  obtain ⟨p, -, u, a, -, q, -, G, rfl | rfl⟩ := B
  · obtain ⟨cell', cf, k', i, f, f1, f2, -, -, -, -, f7⟩ := F
    obtain ⟨cS, ⟨⟨g1, -, -, ⟨c1, k1, i1, gf, -⟩, -, -, -, v1, -⟩, -⟩, -⟩ := G
    obtain ⟨kz, z4⟩ := ff_back (U := Wst Z vm h) hal gf
    have e4 := f2.symm.trans z4
    simp only [Option.some.injEq, Prod.mk.injEq] at e4
    have e5 : cell' = q.sC := Option.some.inj (f1.symm.trans g1)
    rw [e5, e4.2.2.2, v1] at f7
    cases f7
  · cases (show h[q.sd]? = some q.SA from G.hd).symm.trans e1
    obtain ⟨cS, -, -, f, -⟩ := G
    have f : vm.findClass "[B" = some q.SA.cls := f
    rw [hal.findClass] at f
    obtain ⟨k1, q1, q2⟩ := Vm.findClass_spec f
    obtain ⟨k2, q3, q4⟩ := Vm.findClass_spec e2
    cases q1.symm.trans q3
    exact absurd (q2.symm.trans q4) (by decide)
def sc (v : Int32) : Int32 := nar .char ((v &&& (255 : Int32)).toUInt32.toUInt16.toUInt32.toInt32)
theorem own_sc (x : Int32) : ¬ sc x < 0 ∧ ¬ (255 : Int32) < sc x := by
  have t : ∀ k : Fin 256, ¬ nar .char ((Int32.ofNat k.val).toUInt32.toUInt16.toUInt32.toInt32) < 0 ∧ ¬ (255 : Int32) < nar .char ((Int32.ofNat k.val).toUInt32.toUInt16.toUInt32.toInt32) := by decide +kernel
  have h : (x &&& 255).toBitVec.toNat < 256 := by
    simp only [Int32.toBitVec_and, BitVec.toNat_and]
    exact Nat.lt_succ_of_le Nat.and_le_right
  have e : (x &&& 255) = Int32.ofNat (x &&& 255).toBitVec.toNat := by
    apply Int32.toBitVec_inj.mp
    show _ = BitVec.ofNat 32 _
    rw [BitVec.ofNat_toNat]; simp
  unfold sc
  rw [e]
  exact t ⟨_, h⟩
/-- what str(n, x, y) spells -/
def strs (n x y : Int32) : List Int32 := if (n &&& (3 : Int32)) = (0 : Int32) then [] else if (n &&& (3 : Int32)) = (1 : Int32) then [sc x] else if (n &&& (3 : Int32)) = (2 : Int32) then [sc x, sc y] else [sc x, sc y, sc x]
theorem own_strsP (n x y : Int32) : ∀ c ∈ strs n x y, ¬ c < 0 ∧ ¬ (255 : Int32) < c := by
  intro c hc
  have : c = sc x ∨ c = sc y := by
    unfold strs at hc
    split at hc
    · cases hc
    · split at hc
      · simp at hc; exact Or.inl hc
      · split at hc
        · simpa using hc
        · simp at hc; rcases hc with q | q | q
          · exact Or.inl q
          · exact Or.inr q
          · exact Or.inl q
  rcases this with rfl | rfl <;> exact own_sc _
theorem own_strsL (n x y : Int32) : (strs n x y).length ≤ 4000 := by
  unfold strs
  split
  · exact Nat.zero_le _
  · split
    · exact Nat.le_of_ble_eq_true rfl
    · split <;> exact Nat.le_of_ble_eq_true rfl
theorem own_up16 (cs : List Int32) (h : ∀ c ∈ cs, ¬ c < 0 ∧ ¬ (255 : Int32) < c) : ∀ c ∈ cs, ¬ c < 0 ∧ ¬ (65535 : Int32) < c := fun c hc => ⟨(h c hc).1, fun q => (h c hc).2 (by rw [Int32.lt_iff_toInt_lt] at q ⊢; have e1 : (65535 : Int32).toInt = 65535 := rfl; have e2 : (255 : Int32).toInt = 255 := rfl; omega)⟩
theorem own_ne {a d : Int32} (h : ¬ (d = (0 : Int32))) : ¬ (a + d = a) := fun q => h (by
  have := congrArg (fun z => z - a) q
  simp only [Int32.add_comm a d, Int32.add_sub_cancel, Int32.sub_self] at this
  exact this)
theorem own_and (m k : Int64) (hk : (15 : Int64) &&& k = k) (h : m &&& 15 = 0) : m &&& k = 0 := by
  rw [← hk, ← Int64.and_assoc, h, Int64.zero_and]
theorem own_15 (m : Int64) : m &&& 15 = 0 ↔ m &&& 1 = 0 ∧ m &&& 2 = 0 ∧ m &&& 4 = 0 ∧ m &&& 8 = 0 := by
  constructor
  · intro h
    exact ⟨own_and m 1 (by decide) h, own_and m 2 (by decide) h, own_and m 4 (by decide) h, own_and m 8 (by decide) h⟩
  · rintro ⟨h1, h2, h4, h8⟩
    have e : (15 : Int64) = 1 ||| (2 ||| (4 ||| 8)) := by decide
    have d : ∀ a b : Int64, m &&& (a ||| b) = (m &&& a) ||| (m &&& b) := fun a b => by
      apply Int64.toBitVec_inj.mp
      simp [BitVec.and_or_distrib_left]
    rw [e, d, d, d, h1, h2, h4, h8]
    decide
theorem own_all {m : Int64} {a a2 b b2 c c2 d d2 : Int32} (h1 : a2 = a ↔ (lcmpW (m &&& (1 : Int64)) (0 : Int64)) = (0 : Int32)) (h2 : b2 = b ↔ (lcmpW (m &&& (2 : Int64)) (0 : Int64)) = (0 : Int32)) (h4 : c2 = c ↔ (lcmpW (m &&& (4 : Int64)) (0 : Int64)) = (0 : Int32)) (h8 : d2 = d ↔ (lcmpW (m &&& (8 : Int64)) (0 : Int64)) = (0 : Int32)) :
    (lcmpW (m &&& (15 : Int64)) (0 : Int64)) = (0 : Int32) ↔ (a2 = a ∧ b2 = b ∧ c2 = c ∧ d2 = d) := by
  rw [lw_eq] at h1 h2 h4 h8 ⊢
  rw [h1, h2, h4, h8]
  exact own_15 m
abbrev same9 (cs cs' : List Int32) (a a' b b' c c' d d' : Int32) : Int32 := if cs = cs' ∧ a = a' ∧ b = b' ∧ c = c' ∧ d = d' then 1 else 0
def Q3 (Z : State) (a : Addr) (h0 : Heap) (n0 : Nat) (v : Option Value) (h : Heap) (L : List Loc) : Prop := v = none ∧ Fr n0 L ∧ Keep h0 h [a] ∧ ∃ (t : Addr) (k : ClassId), Fld Z h a "java/lang/String" "value" "[B" (.ref t) ∧ Fld Z h a "java/lang/String" "coder" "B" (.int 0) ∧ Arv Z h t k .byte 0 [] (.int 0)
def Q1 (Z : State) (cs : List Int32) (h0 : Heap) (n0 : Nat) (v : Option Value) (h : Heap) (L : List Loc) : Prop := ∃ (x t : Addr) (k : ClassId) (N : Int32) (vs : List Value), v = some (.ref x) ∧ Fr n0 L ∧ Keep h0 h [] ∧ Exa Z h x "java/lang/String" ∧ Fld Z h x "java/lang/String" "value" "[B" (.ref t) ∧ Fld Z h x "java/lang/String" "coder" "B" (.int 0) ∧ Arv Z h t k .byte N vs (.int 0) ∧ StrChars.Road.CodA cs 0 N vs
def Q5 (Z : State) (a x : Addr) (i0 i1 i2 i3 : Int32) (h0 : Heap) (n0 : Nat) (v : Option Value) (h : Heap) (L : List Loc) : Prop := v = none ∧ Fr n0 L ∧ Keep h0 h [a] ∧ Fld Z h a "com/example/umpteenth_copy/umpteenthcopy/engine/Passage" "source" "Ljava/lang/String;" (.ref x) ∧ Fld Z h a "com/example/umpteenth_copy/umpteenthcopy/engine/Passage" "start" "I" (.int i0) ∧ Fld Z h a "com/example/umpteenth_copy/umpteenthcopy/engine/Passage" "end" "I" (.int i1) ∧ Fld Z h a "com/example/umpteenth_copy/umpteenthcopy/engine/Passage" "sourceStart" "I" (.int i2) ∧ Fld Z h a "com/example/umpteenth_copy/umpteenthcopy/engine/Passage" "sourceEnd" "I" (.int i3)
def Q6 (Z : State) (a : Addr) (h0 : Heap) (n0 : Nat) (v : Option Value) (h : Heap) (L : List Loc) : Prop := v = some (.ref a) ∧ Fr n0 L ∧ h = h0
def Q9 (Z : State) (r : Int32) (h0 : Heap) (n0 : Nat) (v : Option Value) (h : Heap) (L : List Loc) : Prop := v = some (.int r) ∧ Fr n0 L ∧ h = h0
def Q0 (Z : State)  (h0 : Heap) (n0 : Nat) (v : Option Value) (h : Heap) (L : List Loc) : Prop := v = some (.int 1) ∧ Fr n0 L
theorem d1_0 : decode method_2_code 0 = .ok (.iload_n 0, 1) := by decide +kernel
theorem d1_1 : decode method_2_code 1 = .ok (.iconst 3, 1) := by decide +kernel
theorem d1_2 : decode method_2_code 2 = .ok (.iand, 1) := by decide +kernel
theorem d1_3 : decode method_2_code 3 = .ok (.istore_n 3, 1) := by decide +kernel
theorem d1_4 : decode method_2_code 4 = .ok (.iload_n 1, 1) := by decide +kernel
theorem d1_5 : decode method_2_code 5 = .ok (.sipush 255, 3) := by decide +kernel
theorem d1_8 : decode method_2_code 8 = .ok (.iand, 1) := by decide +kernel
theorem d1_9 : decode method_2_code 9 = .ok (.i2c, 1) := by decide +kernel
theorem d1_10 : decode method_2_code 10 = .ok (.istore 4, 2) := by decide +kernel
theorem d1_12 : decode method_2_code 12 = .ok (.iload_n 2, 1) := by decide +kernel
theorem d1_13 : decode method_2_code 13 = .ok (.sipush 255, 3) := by decide +kernel
theorem d1_16 : decode method_2_code 16 = .ok (.iand, 1) := by decide +kernel
theorem d1_17 : decode method_2_code 17 = .ok (.i2c, 1) := by decide +kernel
theorem d1_18 : decode method_2_code 18 = .ok (.istore 5, 2) := by decide +kernel
theorem d1_20 : decode method_2_code 20 = .ok (.iload_n 3, 1) := by decide +kernel
theorem d1_21 : decode method_2_code 21 = .ok (.ifCond .ne 14, 3) := by decide +kernel
theorem d1_24 : decode method_2_code 24 = .ok (.new 7, 3) := by decide +kernel
theorem d1_27 : decode method_2_code 27 = .ok (.dup, 1) := by decide +kernel
theorem d1_28 : decode method_2_code 28 = .ok (.iconst 0, 1) := by decide +kernel
theorem d1_29 : decode method_2_code 29 = .ok (.newarray .char, 2) := by decide +kernel
theorem d1_31 : decode method_2_code 31 = .ok (.invokespecial 9, 3) := by decide +kernel
theorem d1_34 : decode method_2_code 34 = .ok (.areturn, 1) := by decide +kernel
theorem d1_35 : decode method_2_code 35 = .ok (.iload_n 3, 1) := by decide +kernel
theorem d1_36 : decode method_2_code 36 = .ok (.iconst 1, 1) := by decide +kernel
theorem d1_37 : decode method_2_code 37 = .ok (.if_icmp .ne 19, 3) := by decide +kernel
theorem d1_40 : decode method_2_code 40 = .ok (.new 7, 3) := by decide +kernel
theorem d1_43 : decode method_2_code 43 = .ok (.dup, 1) := by decide +kernel
theorem d1_44 : decode method_2_code 44 = .ok (.iconst 1, 1) := by decide +kernel
theorem d1_45 : decode method_2_code 45 = .ok (.newarray .char, 2) := by decide +kernel
theorem d1_47 : decode method_2_code 47 = .ok (.dup, 1) := by decide +kernel
theorem d1_48 : decode method_2_code 48 = .ok (.iconst 0, 1) := by decide +kernel
theorem d1_49 : decode method_2_code 49 = .ok (.iload 4, 2) := by decide +kernel
theorem d1_51 : decode method_2_code 51 = .ok (.castore, 1) := by decide +kernel
theorem d1_52 : decode method_2_code 52 = .ok (.invokespecial 9, 3) := by decide +kernel
theorem d1_55 : decode method_2_code 55 = .ok (.areturn, 1) := by decide +kernel
theorem d1_56 : decode method_2_code 56 = .ok (.iload_n 3, 1) := by decide +kernel
theorem d1_57 : decode method_2_code 57 = .ok (.iconst 2, 1) := by decide +kernel
theorem d1_58 : decode method_2_code 58 = .ok (.if_icmp .ne 24, 3) := by decide +kernel
theorem d1_61 : decode method_2_code 61 = .ok (.new 7, 3) := by decide +kernel
theorem d1_64 : decode method_2_code 64 = .ok (.dup, 1) := by decide +kernel
theorem d1_65 : decode method_2_code 65 = .ok (.iconst 2, 1) := by decide +kernel
theorem d1_66 : decode method_2_code 66 = .ok (.newarray .char, 2) := by decide +kernel
theorem d1_68 : decode method_2_code 68 = .ok (.dup, 1) := by decide +kernel
theorem d1_69 : decode method_2_code 69 = .ok (.iconst 0, 1) := by decide +kernel
theorem d1_70 : decode method_2_code 70 = .ok (.iload 4, 2) := by decide +kernel
theorem d1_72 : decode method_2_code 72 = .ok (.castore, 1) := by decide +kernel
theorem d1_73 : decode method_2_code 73 = .ok (.dup, 1) := by decide +kernel
theorem d1_74 : decode method_2_code 74 = .ok (.iconst 1, 1) := by decide +kernel
theorem d1_75 : decode method_2_code 75 = .ok (.iload 5, 2) := by decide +kernel
theorem d1_77 : decode method_2_code 77 = .ok (.castore, 1) := by decide +kernel
theorem d1_78 : decode method_2_code 78 = .ok (.invokespecial 9, 3) := by decide +kernel
theorem d1_81 : decode method_2_code 81 = .ok (.areturn, 1) := by decide +kernel
theorem d1_82 : decode method_2_code 82 = .ok (.new 7, 3) := by decide +kernel
theorem d1_85 : decode method_2_code 85 = .ok (.dup, 1) := by decide +kernel
theorem d1_86 : decode method_2_code 86 = .ok (.iconst 3, 1) := by decide +kernel
theorem d1_87 : decode method_2_code 87 = .ok (.newarray .char, 2) := by decide +kernel
theorem d1_89 : decode method_2_code 89 = .ok (.dup, 1) := by decide +kernel
theorem d1_90 : decode method_2_code 90 = .ok (.iconst 0, 1) := by decide +kernel
theorem d1_91 : decode method_2_code 91 = .ok (.iload 4, 2) := by decide +kernel
theorem d1_93 : decode method_2_code 93 = .ok (.castore, 1) := by decide +kernel
theorem d1_94 : decode method_2_code 94 = .ok (.dup, 1) := by decide +kernel
theorem d1_95 : decode method_2_code 95 = .ok (.iconst 1, 1) := by decide +kernel
theorem d1_96 : decode method_2_code 96 = .ok (.iload 5, 2) := by decide +kernel
theorem d1_98 : decode method_2_code 98 = .ok (.castore, 1) := by decide +kernel
theorem d1_99 : decode method_2_code 99 = .ok (.dup, 1) := by decide +kernel
theorem d1_100 : decode method_2_code 100 = .ok (.iconst 2, 1) := by decide +kernel
theorem d1_101 : decode method_2_code 101 = .ok (.iload 4, 2) := by decide +kernel
theorem d1_103 : decode method_2_code 103 = .ok (.castore, 1) := by decide +kernel
theorem d1_104 : decode method_2_code 104 = .ok (.invokespecial 9, 3) := by decide +kernel
theorem d1_107 : decode method_2_code 107 = .ok (.areturn, 1) := by decide +kernel
theorem pn_1 : plainName "com/example/umpteenth_copy/umpteenthcopy/engine/PassageEqualsPinLaw" = true := by first | (simp [plainName, overriddenIn]; done) | decide +kernel
theorem d2_0 : decode jdk_42_method_3_code 0 = .ok (.aload_n 0, 1) := by decide +kernel
theorem d2_1 : decode jdk_42_method_3_code 1 = .ok (.aload_n 1, 1) := by decide +kernel
theorem d2_2 : decode jdk_42_method_3_code 2 = .ok (.iconst 0, 1) := by decide +kernel
theorem d2_3 : decode jdk_42_method_3_code 3 = .ok (.aload_n 1, 1) := by decide +kernel
theorem d2_4 : decode jdk_42_method_3_code 4 = .ok (.arraylength, 1) := by decide +kernel
theorem d2_5 : decode jdk_42_method_3_code 5 = .ok (.aconst_null, 1) := by decide +kernel
theorem d2_6 : decode jdk_42_method_3_code 6 = .ok (.invokespecial 27, 3) := by decide +kernel
theorem d2_9 : decode jdk_42_method_3_code 9 = .ok (.return_, 1) := by decide +kernel
theorem pn_2 : plainName "java/lang/String" = true := by first | (simp [plainName, overriddenIn]; done) | decide +kernel
theorem d3_0 : decode jdk_42_method_149_code 0 = .ok (.aload_n 0, 1) := by decide +kernel
theorem d3_1 : decode jdk_42_method_149_code 1 = .ok (.invokespecial 1, 3) := by decide +kernel
theorem d3_4 : decode jdk_42_method_149_code 4 = .ok (.iload_n 3, 1) := by decide +kernel
theorem d3_5 : decode jdk_42_method_149_code 5 = .ok (.ifCond .ne 22, 3) := by decide +kernel
theorem d3_8 : decode jdk_42_method_149_code 8 = .ok (.aload_n 0, 1) := by decide +kernel
theorem d3_9 : decode jdk_42_method_149_code 9 = .ok (.ldc 7, 2) := by decide +kernel
theorem d3_11 : decode jdk_42_method_149_code 11 = .ok (.getfield 9, 3) := by decide +kernel
theorem d3_14 : decode jdk_42_method_149_code 14 = .ok (.putfield 9, 3) := by decide +kernel
theorem d3_17 : decode jdk_42_method_149_code 17 = .ok (.aload_n 0, 1) := by decide +kernel
theorem d3_18 : decode jdk_42_method_149_code 18 = .ok (.ldc 7, 2) := by decide +kernel
theorem d3_20 : decode jdk_42_method_149_code 20 = .ok (.getfield 15, 3) := by decide +kernel
theorem d3_23 : decode jdk_42_method_149_code 23 = .ok (.putfield 15, 3) := by decide +kernel
theorem d3_26 : decode jdk_42_method_149_code 26 = .ok (.return_, 1) := by decide +kernel
theorem d3_27 : decode jdk_42_method_149_code 27 = .ok (.getstatic 38, 3) := by decide +kernel
theorem d3_30 : decode jdk_42_method_149_code 30 = .ok (.ifCond .eq 28, 3) := by decide +kernel
theorem d3_33 : decode jdk_42_method_149_code 33 = .ok (.aload_n 1, 1) := by decide +kernel
theorem d3_34 : decode jdk_42_method_149_code 34 = .ok (.iload_n 2, 1) := by decide +kernel
theorem d3_35 : decode jdk_42_method_149_code 35 = .ok (.iload_n 3, 1) := by decide +kernel
theorem d3_36 : decode jdk_42_method_149_code 36 = .ok (.invokestatic 177, 3) := by decide +kernel
theorem d3_39 : decode jdk_42_method_149_code 39 = .ok (.astore 5, 2) := by decide +kernel
theorem d3_41 : decode jdk_42_method_149_code 41 = .ok (.aload_n 0, 1) := by decide +kernel
theorem d3_42 : decode jdk_42_method_149_code 42 = .ok (.aload 5, 2) := by decide +kernel
theorem d3_44 : decode jdk_42_method_149_code 44 = .ok (.iload_n 3, 1) := by decide +kernel
theorem d3_45 : decode jdk_42_method_149_code 45 = .ok (.invokestatic 47, 3) := by decide +kernel
theorem d3_48 : decode jdk_42_method_149_code 48 = .ok (.putfield 15, 3) := by decide +kernel
theorem d3_51 : decode jdk_42_method_149_code 51 = .ok (.aload_n 0, 1) := by decide +kernel
theorem d3_52 : decode jdk_42_method_149_code 52 = .ok (.aload 5, 2) := by decide +kernel
theorem d3_54 : decode jdk_42_method_149_code 54 = .ok (.putfield 9, 3) := by decide +kernel
theorem d3_57 : decode jdk_42_method_149_code 57 = .ok (.return_, 1) := by decide +kernel
theorem d3_58 : decode jdk_42_method_149_code 58 = .ok (.aload_n 0, 1) := by decide +kernel
theorem d3_59 : decode jdk_42_method_149_code 59 = .ok (.iconst 1, 1) := by decide +kernel
theorem d3_60 : decode jdk_42_method_149_code 60 = .ok (.putfield 15, 3) := by decide +kernel
theorem d3_63 : decode jdk_42_method_149_code 63 = .ok (.aload_n 0, 1) := by decide +kernel
theorem d3_64 : decode jdk_42_method_149_code 64 = .ok (.aload_n 1, 1) := by decide +kernel
theorem d3_65 : decode jdk_42_method_149_code 65 = .ok (.iload_n 2, 1) := by decide +kernel
theorem d3_66 : decode jdk_42_method_149_code 66 = .ok (.iload_n 3, 1) := by decide +kernel
theorem d3_67 : decode jdk_42_method_149_code 67 = .ok (.invokestatic 180, 3) := by decide +kernel
theorem d3_70 : decode jdk_42_method_149_code 70 = .ok (.putfield 9, 3) := by decide +kernel
theorem d3_73 : decode jdk_42_method_149_code 73 = .ok (.return_, 1) := by decide +kernel
theorem pn_3 : plainName "java/lang/String" = true := by first | (simp [plainName, overriddenIn]; done) | decide +kernel
theorem d5_0 : decode prog_16_method_1_code 0 = .ok (.aload_n 0, 1) := by decide +kernel
theorem d5_1 : decode prog_16_method_1_code 1 = .ok (.invokespecial 1, 3) := by decide +kernel
theorem d5_4 : decode prog_16_method_1_code 4 = .ok (.aload_n 0, 1) := by decide +kernel
theorem d5_5 : decode prog_16_method_1_code 5 = .ok (.aload_n 1, 1) := by decide +kernel
theorem d5_6 : decode prog_16_method_1_code 6 = .ok (.ldc 7, 2) := by decide +kernel
theorem d5_8 : decode prog_16_method_1_code 8 = .ok (.invokestatic 9, 3) := by decide +kernel
theorem d5_11 : decode prog_16_method_1_code 11 = .ok (.checkcast 15, 3) := by decide +kernel
theorem d5_14 : decode prog_16_method_1_code 14 = .ok (.putfield 17, 3) := by decide +kernel
theorem d5_17 : decode prog_16_method_1_code 17 = .ok (.aload_n 0, 1) := by decide +kernel
theorem d5_18 : decode prog_16_method_1_code 18 = .ok (.iload_n 2, 1) := by decide +kernel
theorem d5_19 : decode prog_16_method_1_code 19 = .ok (.putfield 22, 3) := by decide +kernel
theorem d5_22 : decode prog_16_method_1_code 22 = .ok (.aload_n 0, 1) := by decide +kernel
theorem d5_23 : decode prog_16_method_1_code 23 = .ok (.iload_n 3, 1) := by decide +kernel
theorem d5_24 : decode prog_16_method_1_code 24 = .ok (.putfield 26, 3) := by decide +kernel
theorem d5_27 : decode prog_16_method_1_code 27 = .ok (.aload_n 0, 1) := by decide +kernel
theorem d5_28 : decode prog_16_method_1_code 28 = .ok (.iload 4, 2) := by decide +kernel
theorem d5_30 : decode prog_16_method_1_code 30 = .ok (.putfield 29, 3) := by decide +kernel
theorem d5_33 : decode prog_16_method_1_code 33 = .ok (.aload_n 0, 1) := by decide +kernel
theorem d5_34 : decode prog_16_method_1_code 34 = .ok (.iload 5, 2) := by decide +kernel
theorem d5_36 : decode prog_16_method_1_code 36 = .ok (.putfield 32, 3) := by decide +kernel
theorem d5_39 : decode prog_16_method_1_code 39 = .ok (.return_, 1) := by decide +kernel
theorem pn_5 : plainName "com/example/umpteenth_copy/umpteenthcopy/engine/Passage" = true := by first | (simp [plainName, overriddenIn]; done) | decide +kernel
theorem d6_0 : decode jdk_31_method_11_code 0 = .ok (.aload_n 0, 1) := by decide +kernel
theorem d6_1 : decode jdk_31_method_11_code 1 = .ok (.ifnonnull 12, 3) := by decide +kernel
theorem d6_4 : decode jdk_31_method_11_code 4 = .ok (.new 84, 3) := by decide +kernel
theorem d6_7 : decode jdk_31_method_11_code 7 = .ok (.dup, 1) := by decide +kernel
theorem d6_8 : decode jdk_31_method_11_code 8 = .ok (.aload_n 1, 1) := by decide +kernel
theorem d6_9 : decode jdk_31_method_11_code 9 = .ok (.invokespecial 87, 3) := by decide +kernel
theorem d6_12 : decode jdk_31_method_11_code 12 = .ok (.athrow, 1) := by decide +kernel
theorem d6_13 : decode jdk_31_method_11_code 13 = .ok (.aload_n 0, 1) := by decide +kernel
theorem d6_14 : decode jdk_31_method_11_code 14 = .ok (.areturn, 1) := by decide +kernel
theorem pn_6 : plainName "java/util/Objects" = true := by first | (simp [plainName, overriddenIn]; done) | decide +kernel
theorem d9_0 : decode prog_16_method_7_code 0 = .ok (.aload_n 1, 1) := by decide +kernel
theorem d9_1 : decode prog_16_method_7_code 1 = .ok (.instanceof 18, 3) := by decide +kernel
theorem d9_4 : decode prog_16_method_7_code 4 = .ok (.ifCond .ne 5, 3) := by decide +kernel
theorem d9_7 : decode prog_16_method_7_code 7 = .ok (.iconst 0, 1) := by decide +kernel
theorem d9_8 : decode prog_16_method_7_code 8 = .ok (.ireturn, 1) := by decide +kernel
theorem d9_9 : decode prog_16_method_7_code 9 = .ok (.aload_n 1, 1) := by decide +kernel
theorem d9_10 : decode prog_16_method_7_code 10 = .ok (.checkcast 18, 3) := by decide +kernel
theorem d9_13 : decode prog_16_method_7_code 13 = .ok (.astore_n 2, 1) := by decide +kernel
theorem d9_14 : decode prog_16_method_7_code 14 = .ok (.aload_n 0, 1) := by decide +kernel
theorem d9_15 : decode prog_16_method_7_code 15 = .ok (.getfield 17, 3) := by decide +kernel
theorem d9_18 : decode prog_16_method_7_code 18 = .ok (.aload_n 2, 1) := by decide +kernel
theorem d9_19 : decode prog_16_method_7_code 19 = .ok (.getfield 17, 3) := by decide +kernel
theorem d9_22 : decode prog_16_method_7_code 22 = .ok (.invokevirtual 35, 3) := by decide +kernel
theorem d9_25 : decode prog_16_method_7_code 25 = .ok (.ifCond .eq 51, 3) := by decide +kernel
theorem d9_28 : decode prog_16_method_7_code 28 = .ok (.aload_n 0, 1) := by decide +kernel
theorem d9_29 : decode prog_16_method_7_code 29 = .ok (.getfield 22, 3) := by decide +kernel
theorem d9_32 : decode prog_16_method_7_code 32 = .ok (.aload_n 2, 1) := by decide +kernel
theorem d9_33 : decode prog_16_method_7_code 33 = .ok (.getfield 22, 3) := by decide +kernel
theorem d9_36 : decode prog_16_method_7_code 36 = .ok (.if_icmp .ne 40, 3) := by decide +kernel
theorem d9_39 : decode prog_16_method_7_code 39 = .ok (.aload_n 0, 1) := by decide +kernel
theorem d9_40 : decode prog_16_method_7_code 40 = .ok (.getfield 26, 3) := by decide +kernel
theorem d9_43 : decode prog_16_method_7_code 43 = .ok (.aload_n 2, 1) := by decide +kernel
theorem d9_44 : decode prog_16_method_7_code 44 = .ok (.getfield 26, 3) := by decide +kernel
theorem d9_47 : decode prog_16_method_7_code 47 = .ok (.if_icmp .ne 29, 3) := by decide +kernel
theorem d9_50 : decode prog_16_method_7_code 50 = .ok (.aload_n 0, 1) := by decide +kernel
theorem d9_51 : decode prog_16_method_7_code 51 = .ok (.getfield 29, 3) := by decide +kernel
theorem d9_54 : decode prog_16_method_7_code 54 = .ok (.aload_n 2, 1) := by decide +kernel
theorem d9_55 : decode prog_16_method_7_code 55 = .ok (.getfield 29, 3) := by decide +kernel
theorem d9_58 : decode prog_16_method_7_code 58 = .ok (.if_icmp .ne 18, 3) := by decide +kernel
theorem d9_61 : decode prog_16_method_7_code 61 = .ok (.aload_n 0, 1) := by decide +kernel
theorem d9_62 : decode prog_16_method_7_code 62 = .ok (.getfield 32, 3) := by decide +kernel
theorem d9_65 : decode prog_16_method_7_code 65 = .ok (.aload_n 2, 1) := by decide +kernel
theorem d9_66 : decode prog_16_method_7_code 66 = .ok (.getfield 32, 3) := by decide +kernel
theorem d9_69 : decode prog_16_method_7_code 69 = .ok (.if_icmp .ne 7, 3) := by decide +kernel
theorem d9_72 : decode prog_16_method_7_code 72 = .ok (.iconst 1, 1) := by decide +kernel
theorem d9_73 : decode prog_16_method_7_code 73 = .ok (.goto 4, 3) := by decide +kernel
theorem d9_76 : decode prog_16_method_7_code 76 = .ok (.iconst 0, 1) := by decide +kernel
theorem d9_77 : decode prog_16_method_7_code 77 = .ok (.ireturn, 1) := by decide +kernel
theorem pn_9 : plainName "com/example/umpteenth_copy/umpteenthcopy/engine/Passage" = true := by first | (simp [plainName, overriddenIn]; done) | decide +kernel
theorem pn_0 : plainName "com/example/umpteenth_copy/umpteenthcopy/engine/PassageEqualsPinLaw" = true := by first | (simp [plainName, overriddenIn]; done) | decide +kernel
theorem ef_rm3 (m : MethodId) (x0 : Addr) (x1 : Addr) (x2 : Int32) (x3 : Int32)  : entryFrame m #[(.ref x0), (.ref x1), (.int x2), (.int x3), .null] 6 = mkF m 0 #[.val (.ref x0), .val (.ref x1), .val (.int x2), .val (.int x3), .val .null, .unset] [] := by first | (simp [entryFrame, mkF, argsToLocals, Value.category]; done) | rfl
set_option maxRecDepth 65536 in
set_option maxHeartbeats 40000000 in
theorem rm3 (l : Launch) (Z : State) (a0 : Array Value) (hw : ∀ d ∈ tables_1, d.before a0 Z = true) (ws : List Jvm.Cond) (a1 : Addr) (a2 : Addr) (h0 : Heap) (n0 : Nat) (Z0 : n0 ≤ h0.size) (Ea : Exa Z h0 a1 "java/lang/String") (Fa : Fld Z h0 a1 "java/lang/String" "value" "[B" .null) (Fb : Fld Z h0 a1 "java/lang/String" "coder" "B" (.int (0 : Int32))) (g1 : n0 ≤ a1) :
    MetFree l (⟨"java/lang/String", "<init>", "([CIILjava/lang/Void;)V"⟩ : MethodName) (head1 (Jvm.Cond.code (⟨"java/lang/String", "<init>", "([CIILjava/lang/Void;)V"⟩ : MethodName) jdk_42_method_149_code 6 none :: ws) ({ frames := 1, cells := 4, slots := 8, locals := 12 } : Room)) (fun a U => a = #[(.ref a1), (.ref a2), (.int (0 : Int32)), (.int (0 : Int32)), .null] ∧ Z.Warmed39 U.vm ∧ U.heap = h0 ∧ CHv Z EL0 U.vm h0) (fun _ _ _ _ _ => True) (fun _ U o U' => ∃ v L, o = .returned v ∧ Q3 Z a1 h0 n0 v U'.heap L ∧ CHr Z EL0 U.vm U.heap U'.vm U'.heap ∧ ReturnedEndW U o U' L ({ frames := 1, cells := 4, slots := 8, locals := 12 } : Room).cells ({ frames := 1, cells := 4, slots := 8, locals := 12 } : Room).slots) := by
  refine MetFree.of_bodySF (plainFor_of_name pn_3) hisR ?_
  intro p e s m args below meth c s₁ Bd hml0 hP hK
  obtain ⟨rfl, hZ, hh, hC0⟩ := hP
  have hx := Bd.exec
  have hby := Bd.bytes
  have hml : c.maxLocals = 6 := hml0
  have hown : s.vm.findClass "java/lang/String" = some m.cls := findClass_of_methodNamed Bd.named
  have hnm := (name_of_methodNamed Bd.named Bd.method).1
  have X0 : Stand p l e ({ frames := 1, cells := 4, slots := 8, locals := 12 } : Room) s m #[(.ref a1), (.ref a2), (.int (0 : Int32)), (.int (0 : Int32)), .null] below meth c s₁ [] 0 0 := Stand.of_body Bd
  have e0 : s₁.heap = h0 := by rw [← hh, Bd.state]; rfl
  have N0 := Fr.nil n0
  refine Ends.st (tb := p.tables) (e := e) (below := below) (S' := s₁.setTop (mkF m 0 #[.val (.ref a1), .val (.ref a2), .val (.int (0 : Int32)), .val (.int (0 : Int32)), .val .null, .unset] [])) (fun t k => castTop (ef_rm3 m a1 a2 (0 : Int32) (0 : Int32)) k) ?_
  refine Ends.st (S' := s₁.setTop (mkF m 1 #[.val (.ref a1), .val (.ref a2), .val (.int (0 : Int32)), .val (.int (0 : Int32)), .val .null, .unset] [(.ref a1)])) (fun _ k => XS.aloadN X0.here hx rfl (hb hby d3_0) rfl rfl k) ?_
  obtain ⟨T1, X1, e1, st1⟩ := initO X0 hx hZ hown (hw _ (List.mem_of_getElem? (i := 15) rfl)) (hw _ (List.mem_of_getElem? (i := 16) rfl)) (hw _ (List.mem_of_getElem? (i := 17) rfl)) e0 (g := (mkF m 1 #[.val (.ref a1), .val (.ref a2), .val (.int (0 : Int32)), .val (.int (0 : Int32)), .val .null, .unset] [(.ref a1)])) rfl (by rw [hml]; rfl) rfl (hb hby d3_1) (by decide) (W := 0) (by show 2 * 0 + _ ≤ _; exact Nat.le_of_eq rfl) (by decide)
  refine Ends.st (S' := T1.setTop (mkF m 4 #[.val (.ref a1), .val (.ref a2), .val (.int (0 : Int32)), .val (.int (0 : Int32)), .val .null, .unset] [])) (fun _ k => st1 _ k) ?_
  refine Ends.st (S' := T1.setTop (mkF m 5 #[.val (.ref a1), .val (.ref a2), .val (.int (0 : Int32)), .val (.int (0 : Int32)), .val .null, .unset] [(.int (0 : Int32))])) (fun _ k => XS.iloadN X1.here hx rfl (hb hby d3_4) rfl k) ?_
  refine Ends.st (S' := T1.setTop (mkF m 8 #[.val (.ref a1), .val (.ref a2), .val (.int (0 : Int32)), .val (.int (0 : Int32)), .val .null, .unset] [])) (fun _ k => XS.ifNo X1.here hx rfl (hb hby d3_5) rfl ((if0 _ _).trans (teq (by decide : (0 : Int32) = (0 : Int32))).2) k) ?_
  refine Ends.st (S' := T1.setTop (mkF m 9 #[.val (.ref a1), .val (.ref a2), .val (.int (0 : Int32)), .val (.int (0 : Int32)), .val .null, .unset] [(.ref a1)])) (fun _ k => XS.aloadN X1.here hx rfl (hb hby d3_8) rfl rfl k) ?_
  obtain ⟨y2, T2, h2, k2, b2, kb2, X2, e2, E2, hS2, hk2, hZ, hown, Ay2, Fc2, Fv2, V2, -, -, hC2, -, ne2, st2⟩ := ldcCH (s := s) (vm0 := s.vm) (EL := EL0) (own := "java/lang/String") (index := 7) (text := "") X1 hx hZ hown (hw _ (List.mem_of_getElem? (i := 18) rfl)) (own_atoms hw) e1 ((State.WarmedH.refl s).since 0) (Nat.zero_le h0.size) (own_EW hw) (List.mem_cons_self ..) (CHr.refl hC0).1 (vs := []) (z := 0) ⟨by decide, rfl⟩ (by decide) (by decide) (g := (mkF m 9 #[.val (.ref a1), .val (.ref a2), .val (.int (0 : Int32)), .val (.int (0 : Int32)), .val .null, .unset] [(.ref a1)])) rfl (hb hby d3_9) (n := 0) (by decide) (by decide) (by decide) (by decide)
  have f3 := Nat.le_trans Z0 E2.1
  have f4 := Ea.ext E2
  have f5 := Fa.ext E2
  have f6 := Fb.ext E2
  have f7 := (Keep.refl h0 [a1]).ext E2
  have C2 := CHr.trans (CHr.refl hC0) hC2
  have S2 : Safe Z EL0 T2.vm h2 a1 := own_safe hZ.alike f4 f5
  have nd2 := ne2 a1 S2
  refine Ends.st (S' := T2.setTop (mkF m 11 #[.val (.ref a1), .val (.ref a2), .val (.int (0 : Int32)), .val (.int (0 : Int32)), .val .null, .unset] [(.ref y2), (.ref a1)])) (fun _ k => st2 _ k) ?_
  obtain ⟨T8, X8, e8, st8⟩ := getF X2 hx hZ hown (host := "") (Or.inl (hw _ (List.mem_of_getElem? (i := 24) rfl))) Via.refl e2 (Fv2) (g := (mkF m 11 #[.val (.ref a1), .val (.ref a2), .val (.int (0 : Int32)), .val (.int (0 : Int32)), .val .null, .unset] [(.ref y2), (.ref a1)])) rfl rfl (hb hby d3_11)
  refine Ends.st (S' := T8.setTop (mkF m 14 #[.val (.ref a1), .val (.ref a2), .val (.int (0 : Int32)), .val (.int (0 : Int32)), .val .null, .unset] [(.ref b2), (.ref a1)])) (fun _ k => st8 _ k) ?_
  obtain ⟨T9, h9, X9, e9, W9, st9⟩ := putF X8 hx hZ hown (host := "") (Or.inl (hw _ (List.mem_of_getElem? (i := 24) rfl))) Via.refl e8 f5 f4 (Or.inr ⟨(hw _ (List.mem_of_getElem? (i := 20) rfl)), rfl, hnm⟩) (hw _ (List.mem_of_getElem? (i := 5) rfl)) (ty := (.array .byte)) (by decide) rfl rfl (g := (mkF m 14 #[.val (.ref a1), .val (.ref a2), .val (.int (0 : Int32)), .val (.int (0 : Int32)), .val .null, .unset] [(.ref b2), (.ref a1)])) rfl rfl (hb hby d3_14)
  have f10 := Nat.le_trans f3 (Keep.of_wr W9).1
  have f11 := f4.wr W9
  have f12 := f6.other W9 (Or.inr (slot_ne (Or.inr (hw _ (List.mem_of_getElem? (i := 21) rfl))) (Or.inr (hw _ (List.mem_of_getElem? (i := 20) rfl))) (by decide) (t := .byte) (t' := (.array .byte)) (by decide) (by decide)))
  have f13 := f7.wr W9 (Or.inl (by simp))
  have f14 := Nat.le_trans hk2 (Keep.of_wr W9).1
  have f15 := CHr.trans C2 (CHr.wr W9 S2 C2.1)
  have f16 := Ay2.wr W9
  have f17 := Fv2.other W9 (Or.inl (Ne.symm nd2.1))
  have f18 := Fc2.other W9 (Or.inl (Ne.symm nd2.1))
  have f19 := V2.other W9 (Ne.symm nd2.2)
  have Fw9 := f5.same W9
  have N9 := Fr.snoc X9 N0 g1
  have Sw9 := Safe.wr W9 S2 C2.1 S2
  refine Ends.st (S' := T9.setTop (mkF m 17 #[.val (.ref a1), .val (.ref a2), .val (.int (0 : Int32)), .val (.int (0 : Int32)), .val .null, .unset] [])) (fun _ k => st9 _ k) ?_
  refine Ends.st (S' := T9.setTop (mkF m 18 #[.val (.ref a1), .val (.ref a2), .val (.int (0 : Int32)), .val (.int (0 : Int32)), .val .null, .unset] [(.ref a1)])) (fun _ k => XS.aloadN X9.here hx rfl (hb hby d3_17) rfl rfl k) ?_
  obtain ⟨y20, T20, h20, k20, b20, kb20, X20, e20, E20, hS20, hk20, hZ, hown, Ay20, Fc20, Fv20, V20, -, -, hC20, -, ne20, st20⟩ := ldcCH (s := s) (vm0 := T2.vm) (EL := EL0) (own := "java/lang/String") (index := 7) (text := "") X9 hx hZ hown (hw _ (List.mem_of_getElem? (i := 18) rfl)) (own_atoms hw) e9 hS2 f14 (own_EW hw) (List.mem_cons_self ..) f15.1 (vs := []) (z := 0) ⟨by decide, rfl⟩ (by decide) (by decide) (g := (mkF m 18 #[.val (.ref a1), .val (.ref a2), .val (.int (0 : Int32)), .val (.int (0 : Int32)), .val .null, .unset] [(.ref a1)])) rfl (hb hby d3_18) (n := 0) (by decide) (by decide) (by decide) (by decide)
  have f21 := Nat.le_trans f10 E20.1
  have f22 := f11.ext E20
  have f23 := f12.ext E20
  have f24 := f13.ext E20
  have f25 := f16.ext E20
  have f26 := f17.ext E20
  have f27 := f18.ext E20
  have f28 := f19.ext E20
  have f29 := Fw9.ext E20
  have C20 := CHr.trans f15 hC20
  have S20 : Safe Z EL0 T20.vm h20 a1 := hC20.safe f11.lt Sw9
  have nd20 := ne20 a1 S20
  refine Ends.st (S' := T20.setTop (mkF m 20 #[.val (.ref a1), .val (.ref a2), .val (.int (0 : Int32)), .val (.int (0 : Int32)), .val .null, .unset] [(.ref y20), (.ref a1)])) (fun _ k => st20 _ k) ?_
  obtain ⟨T30, X30, e30, st30⟩ := getF X20 hx hZ hown (host := "") (Or.inl (hw _ (List.mem_of_getElem? (i := 25) rfl))) Via.refl e20 (Fc20) (g := (mkF m 20 #[.val (.ref a1), .val (.ref a2), .val (.int (0 : Int32)), .val (.int (0 : Int32)), .val .null, .unset] [(.ref y20), (.ref a1)])) rfl rfl (hb hby d3_20)
  refine Ends.st (S' := T30.setTop (mkF m 23 #[.val (.ref a1), .val (.ref a2), .val (.int (0 : Int32)), .val (.int (0 : Int32)), .val .null, .unset] [(.int (0 : Int32)), (.ref a1)])) (fun _ k => st30 _ k) ?_
  obtain ⟨T31, h31, X31, e31, W31, st31⟩ := putF X30 hx hZ hown (host := "") (Or.inl (hw _ (List.mem_of_getElem? (i := 25) rfl))) Via.refl e30 f23 f22 (Or.inr ⟨(hw _ (List.mem_of_getElem? (i := 21) rfl)), rfl, hnm⟩) (hw _ (List.mem_of_getElem? (i := 5) rfl)) (ty := .byte) (by decide) rfl rfl (g := (mkF m 23 #[.val (.ref a1), .val (.ref a2), .val (.int (0 : Int32)), .val (.int (0 : Int32)), .val .null, .unset] [(.int (0 : Int32)), (.ref a1)])) rfl rfl (hb hby d3_23)
  have f32 := Nat.le_trans f21 (Keep.of_wr W31).1
  have f33 := f22.wr W31
  have f34 := f24.wr W31 (Or.inl (by simp))
  have f35 := f25.wr W31
  have f36 := f26.other W31 (Or.inl (Ne.symm nd2.1))
  have f37 := f27.other W31 (Or.inl (Ne.symm nd2.1))
  have f38 := f28.other W31 (Ne.symm nd2.2)
  have f39 := f29.other W31 (Or.inr (slot_ne (Or.inr (hw _ (List.mem_of_getElem? (i := 20) rfl))) (Or.inr (hw _ (List.mem_of_getElem? (i := 21) rfl))) (by decide) (t := (.array .byte)) (t' := .byte) (by decide) (by decide)))
  have f40 := Nat.le_trans hk20 (Keep.of_wr W31).1
  have f41 := CHr.trans C20 (CHr.wr W31 S20 C20.1)
  have f42 := Ay20.wr W31
  have f43 := Fv20.other W31 (Or.inl (Ne.symm nd20.1))
  have f44 := Fc20.other W31 (Or.inl (Ne.symm nd20.1))
  have f45 := V20.other W31 (Ne.symm nd20.2)
  have Fw31 := f23.same W31
  have N31 := Fr.snoc X31 N9 g1
  refine Ends.st (S' := T31.setTop (mkF m 26 #[.val (.ref a1), .val (.ref a2), .val (.int (0 : Int32)), .val (.int (0 : Int32)), .val .null, .unset] [])) (fun _ k => st31 _ k) ?_
  obtain ⟨fs, hr, hrun, hended, hRW⟩ := Stand.leaveW (s := s) (vm₁ := T20.vm) X31 hS20 (Nat.le_trans f40 (Nat.le_of_eq (congrArg Array.size (Eq.symm e31)))) (v := none) (fun _ => rfl)
  exact ⟨_, _, X31.returnOut hx Bd.returns (hb hby d3_26) hr, hrun, hended, _, _, rfl, (by show Q3 Z a1 h0 n0 _ T31.heap _; rw [e31]; exact ⟨rfl, N31, f34, b2, kb2, f39, Fw31, f38⟩), (by show CHr Z EL0 s.vm s.heap T31.vm T31.heap; rw [hh]; rw [e31]; exact CHr.trans f41 (CHv.at (s := s) (vm0 := T20.vm) X31 hZ (own_EW hw) f41.1)), hRW.1, hRW.2.1, hRW.2.2.1, hRW.2.2.2.mono (by decide) (by decide)⟩
theorem ef_rm2 (m : MethodId) (x0 : Addr) (x1 : Addr)  : entryFrame m #[(.ref x0), (.ref x1)] 2 = mkF m 0 #[.val (.ref x0), .val (.ref x1)] [] := by first | (simp [entryFrame, mkF, argsToLocals, Value.category]; done) | rfl
set_option maxRecDepth 65536 in
set_option maxHeartbeats 40000000 in
theorem rm2 (l : Launch) (Z : State) (a0 : Array Value) (hw : ∀ d ∈ tables_1, d.before a0 Z = true) (ws : List Jvm.Cond) (a1 : Addr) (a2 : Addr) (k2 : ClassId) (h0 : Heap) (n0 : Nat) (Z0 : n0 ≤ h0.size) (Ea : Exa Z h0 a1 "java/lang/String") (Fa : Fld Z h0 a1 "java/lang/String" "value" "[B" .null) (Fb : Fld Z h0 a1 "java/lang/String" "coder" "B" (.int (0 : Int32))) (g1 : n0 ≤ a1) (V2 : Arv Z h0 a2 k2 .char (0 : Int32) [] (.int (0 : Int32))) :
    MetFree l (⟨"java/lang/String", "<init>", "([C)V"⟩ : MethodName) (head1 (Jvm.Cond.code (⟨"java/lang/String", "<init>", "([C)V"⟩ : MethodName) jdk_42_method_3_code 2 none :: ws) ({ frames := 2, cells := 4, slots := 8, locals := 29 } : Room)) (fun a U => a = #[(.ref a1), (.ref a2)] ∧ Z.Warmed39 U.vm ∧ U.heap = h0 ∧ CHv Z EL0 U.vm h0) (fun _ _ _ _ _ => True) (fun _ U o U' => ∃ v L, o = .returned v ∧ Q3 Z a1 h0 n0 v U'.heap L ∧ CHr Z EL0 U.vm U.heap U'.vm U'.heap ∧ ReturnedEndW U o U' L ({ frames := 2, cells := 4, slots := 8, locals := 29 } : Room).cells ({ frames := 2, cells := 4, slots := 8, locals := 29 } : Room).slots) := by
  refine MetFree.of_bodySF (plainFor_of_name pn_2) hisR ?_
  intro p e s m args below meth c s₁ Bd hml0 hP hK
  obtain ⟨rfl, hZ, hh, hC0⟩ := hP
  have hx := Bd.exec
  have hby := Bd.bytes
  have hml : c.maxLocals = 2 := hml0
  have hown : s.vm.findClass "java/lang/String" = some m.cls := findClass_of_methodNamed Bd.named
  have hnm := (name_of_methodNamed Bd.named Bd.method).1
  have X0 : Stand p l e ({ frames := 2, cells := 4, slots := 8, locals := 29 } : Room) s m #[(.ref a1), (.ref a2)] below meth c s₁ [] 0 0 := Stand.of_body Bd
  have e0 : s₁.heap = h0 := by rw [← hh, Bd.state]; rfl
  have N0 := Fr.nil n0
  refine Ends.st (tb := p.tables) (e := e) (below := below) (S' := s₁.setTop (mkF m 0 #[.val (.ref a1), .val (.ref a2)] [])) (fun t k => castTop (ef_rm2 m a1 a2) k) ?_
  obtain ⟨cl, Ar, -, Sl, Ml, -, -⟩ := V2
  refine Ends.st (S' := s₁.setTop (mkF m 1 #[.val (.ref a1), .val (.ref a2)] [(.ref a1)])) (fun _ k => XS.aloadN X0.here hx rfl (hb hby d2_0) rfl rfl k) ?_
  refine Ends.st (S' := s₁.setTop (mkF m 2 #[.val (.ref a1), .val (.ref a2)] [(.ref a2), (.ref a1)])) (fun _ k => XS.aloadN X0.here hx rfl (hb hby d2_1) rfl rfl k) ?_
  refine Ends.st (S' := s₁.setTop (mkF m 3 #[.val (.ref a1), .val (.ref a2)] [(.int (0 : Int32)), (.ref a2), (.ref a1)])) (fun _ k => XS.iconst X0.here hx rfl (hb hby d2_2) k) ?_
  refine Ends.st (S' := s₁.setTop (mkF m 4 #[.val (.ref a1), .val (.ref a2)] [(.ref a2), (.int (0 : Int32)), (.ref a2), (.ref a1)])) (fun _ k => XS.aloadN X0.here hx rfl (hb hby d2_3) rfl rfl k) ?_
  refine Ends.st (S' := s₁.setTop (mkF m 5 #[.val (.ref a1), .val (.ref a2)] [(.int (0 : Int32)), (.int (0 : Int32)), (.ref a2), (.ref a1)])) (fun _ k => X0.arraylength hx (by rw [e0]; exact Ar.1) (State.isArrayOf_alike hZ.alike Ar.2.1) (g := (mkF m 4 #[.val (.ref a1), .val (.ref a2)] [(.ref a2), (.int (0 : Int32)), (.ref a2), (.ref a1)])) rfl rfl (hb hby d2_4) _ (by rw [len_of Sl Ml]; exact k)) ?_
  refine Ends.st (S' := s₁.setTop (mkF m 6 #[.val (.ref a1), .val (.ref a2)] [.null, (.int (0 : Int32)), (.int (0 : Int32)), (.ref a2), (.ref a1)])) (fun _ k => XS.aconstNull X0.here hx rfl (hb hby d2_5) k) ?_
  obtain ⟨_, _, ⟨T1, L1, k1, n1⟩, -, X1, hS1r, hgr1, ⟨Lc1, hQ1, l1, y1, z1, hC1⟩, st1⟩ := Stand.specialBackS (s := s.setVm s.vm) X0 hx (y := (⟨"java/lang/String", "<init>", "([CIILjava/lang/Void;)V"⟩ : MethodName)) rfl hown (mvT hZ (hw _ (List.mem_of_getElem? (i := 11) rfl))) (mvT hZ (hw _ (List.mem_of_getElem? (i := 12) rfl))) (mvT hZ (hw _ (List.mem_of_getElem? (i := 14) rfl))) (by decide) (backOfSH (s := s) (vm0 := s.vm) (W := 0) (rm3 l Z a0 hw [] a1 a2 h0 n0 Z0 Ea Fa Fb g1) hZ (hw _ (List.mem_of_getElem? (i := 14) rfl)) (hw _ (List.mem_of_getElem? (i := 6) rfl)) (by decide) (by decide) (own_EW hw) (CHr.refl hC0).1) (g := (mkF m 6 #[.val (.ref a1), .val (.ref a2)] [.null, (.int (0 : Int32)), (.int (0 : Int32)), (.ref a2), (.ref a1)])) rfl (by rw [hml]; rfl) (Steps.refl _) (a := a1) (argsL := [(.ref a2), (.int (0 : Int32)), (.int (0 : Int32)), .null]) (rest := []) (lenOf pd_0 rfl) rfl (by show 2 * 0 + _ ≤ _; exact Nat.le_of_eq rfl) (hb hby d2_6) (fun _ _ => ⟨rfl, e0, (by decide : 0 + 4 ≤ _), (by decide : 0 + 8 ≤ _)⟩)
  dsimp only [Pt.U, Pt.locs, Pt.cells, Pt.slots] at X1 hS1r hgr1 l1 y1 z1 st1 hQ1 hC1
  subst l1 y1 z1
  obtain ⟨rfl, N1q, K1, t, kb, Gv, Gc, Gt⟩ := hQ1
  have N1 := Fr.app N0 N1q
  have hown : (s.setVm T1.vm).vm.findClass "java/lang/String" = some m.cls := by rw [show (s.setVm T1.vm).vm = T1.vm from rfl, hS1r.1.alike.findClass]; exact hown
  have hZ : Z.Warmed39 (s.setVm T1.vm).vm := State.Warmed39.trans (t := s.setVm s.vm) hZ hS1r.1
  have X1 : Stand p l e ({ frames := 2, cells := 4, slots := 8, locals := 29 } : Room) (s.setVm T1.vm) m _ below meth c T1 _ _ _ := X1
  have hS1 : s.Since T1.vm T1.heap.size := State.Since.trans ((State.WarmedH.refl s).since 0) hS1r (Nat.le_trans (Nat.zero_le h0.size) (by have q := hgr1; rw [e0] at q; exact q))
  have f2 := Nat.le_trans Z0 K1.1
  have f3 := (Keep.refl h0 [a1]).trans K1 (allS (Or.inl (by simp)) all0)
  have f4 := Ea.keep K1
  have C1 := CHr.trans (CHr.refl hC0) hC1
  refine Ends.st (S' := T1.setTop (mkF m 9 #[.val (.ref a1), .val (.ref a2)] [])) (fun _ k => st1.trans k) ?_
  obtain ⟨fs, hr, hrun, hended, hRW⟩ := Stand.leaveW (s := s) (vm₁ := T1.vm) X1 hS1 (Nat.le_refl T1.heap.size) (v := none) (fun _ => rfl)
  exact ⟨_, _, X1.returnOut hx Bd.returns (hb hby d2_9) hr, hrun, hended, _, _, rfl, (by show Q3 Z a1 h0 n0 _ T1.heap _; exact ⟨rfl, N1, f3, t, kb, Gv, Gc, Gt⟩), (by show CHr Z EL0 s.vm s.heap T1.vm T1.heap; rw [hh]; exact CHr.trans C1 (CHv.at (s := s) (vm0 := T1.vm) X1 hZ (own_EW hw) C1.1)), hRW.1, hRW.2.1, hRW.2.2.1, hRW.2.2.2.mono (by decide) (by decide)⟩
theorem ef_rm1 (m : MethodId) (x0 : Int32) (x1 : Int32) (x2 : Int32)  : entryFrame m #[(.int x0), (.int x1), (.int x2)] 6 = mkF m 0 #[.val (.int x0), .val (.int x1), .val (.int x2), .unset, .unset, .unset] [] := by first | (simp [entryFrame, mkF, argsToLocals, Value.category]; done) | rfl
set_option maxRecDepth 65536 in
set_option maxHeartbeats 40000000 in
theorem rm1 (l : Launch) (Z : State) (a0 : Array Value) (hw : ∀ d ∈ tables_1, d.before a0 Z = true) (ws : List Jvm.Cond) (v0 : Int32) (v1 : Int32) (v2 : Int32) (G : Int32) (h0 : Heap) (n0 : Nat) (Z0 : n0 ≤ h0.size) (O0 : Old Z n0 h0) (SC : Sta Z Z.heap "java/lang/String" "COMPACT_STRINGS" "Z" (.int G)) (hG : ¬ G = 0) :
    MetFree l (⟨"com/example/umpteenth_copy/umpteenthcopy/engine/PassageEqualsPinLaw", "str", "(III)Ljava/lang/String;"⟩ : MethodName) (head1 (Jvm.Cond.code (⟨"com/example/umpteenth_copy/umpteenthcopy/engine/PassageEqualsPinLaw", "str", "(III)Ljava/lang/String;"⟩ : MethodName) method_2_code 6 (some (.object "java/lang/String")) :: ws) ({ frames := 4, cells := 6, slots := 16, locals := 66 } : Room)) (fun a U => a = #[(.int v0), (.int v1), (.int v2)] ∧ Z.Warmed39 U.vm ∧ U.heap = h0 ∧ CHv Z EL0 U.vm h0) (fun _ _ _ _ _ => True) (fun _ U o U' => ∃ v L, o = .returned v ∧ Q1 Z (strs v0 v1 v2) h0 n0 v U'.heap L ∧ CHr Z EL0 U.vm U.heap U'.vm U'.heap ∧ ReturnedEndW U o U' L ({ frames := 4, cells := 6, slots := 16, locals := 66 } : Room).cells ({ frames := 4, cells := 6, slots := 16, locals := 66 } : Room).slots) := by
  refine MetFree.of_bodySF (plainFor_of_name pn_1) hisR ?_
  intro p e s m args below meth c s₁ Bd hml0 hP hK
  obtain ⟨rfl, hZ, hh, hC0⟩ := hP
  have hx := Bd.exec
  have hby := Bd.bytes
  have hml : c.maxLocals = 6 := hml0
  have hown : s.vm.findClass "com/example/umpteenth_copy/umpteenthcopy/engine/PassageEqualsPinLaw" = some m.cls := findClass_of_methodNamed Bd.named
  have hnm := (name_of_methodNamed Bd.named Bd.method).1
  have X0 : Stand p l e ({ frames := 4, cells := 6, slots := 16, locals := 66 } : Room) s m #[(.int v0), (.int v1), (.int v2)] below meth c s₁ [] 0 0 := Stand.of_body Bd
  have e0 : s₁.heap = h0 := by rw [← hh, Bd.state]; rfl
  have N0 := Fr.nil n0
  refine Ends.st (tb := p.tables) (e := e) (below := below) (S' := s₁.setTop (mkF m 0 #[.val (.int v0), .val (.int v1), .val (.int v2), .unset, .unset, .unset] [])) (fun t k => castTop (ef_rm1 m v0 v1 v2) k) ?_
  refine Ends.st (S' := s₁.setTop (mkF m 1 #[.val (.int v0), .val (.int v1), .val (.int v2), .unset, .unset, .unset] [(.int v0)])) (fun _ k => XS.iloadN X0.here hx rfl (hb hby d1_0) rfl k) ?_
  refine Ends.st (S' := s₁.setTop (mkF m 2 #[.val (.int v0), .val (.int v1), .val (.int v2), .unset, .unset, .unset] [(.int (3 : Int32)), (.int v0)])) (fun _ k => XS.iconst X0.here hx rfl (hb hby d1_1) k) ?_
  refine Ends.st (S' := s₁.setTop (mkF m 3 #[.val (.int v0), .val (.int v1), .val (.int v2), .unset, .unset, .unset] [(.int (v0 &&& (3 : Int32)))])) (fun _ k => XS.iand X0.here hx rfl (hb hby d1_2) rfl k) ?_
  refine Ends.st (S' := s₁.setTop (mkF m 4 #[.val (.int v0), .val (.int v1), .val (.int v2), .val (.int (v0 &&& (3 : Int32))), .unset, .unset] [])) (fun _ k => XS.istoreN X0.here hx rfl (hb hby d1_3) rfl (l' := #[.val (.int v0), .val (.int v1), .val (.int v2), .val (.int (v0 &&& (3 : Int32))), .unset, .unset]) rfl k) ?_
  refine Ends.st (S' := s₁.setTop (mkF m 5 #[.val (.int v0), .val (.int v1), .val (.int v2), .val (.int (v0 &&& (3 : Int32))), .unset, .unset] [(.int v1)])) (fun _ k => XS.iloadN X0.here hx rfl (hb hby d1_4) rfl k) ?_
  refine Ends.st (S' := s₁.setTop (mkF m 8 #[.val (.int v0), .val (.int v1), .val (.int v2), .val (.int (v0 &&& (3 : Int32))), .unset, .unset] [(.int (255 : Int32)), (.int v1)])) (fun _ k => XS.sipush X0.here hx rfl (hb hby d1_5) k) ?_
  refine Ends.st (S' := s₁.setTop (mkF m 9 #[.val (.int v0), .val (.int v1), .val (.int v2), .val (.int (v0 &&& (3 : Int32))), .unset, .unset] [(.int (v1 &&& (255 : Int32)))])) (fun _ k => XS.iand X0.here hx rfl (hb hby d1_8) rfl k) ?_
  refine Ends.st (S' := s₁.setTop (mkF m 10 #[.val (.int v0), .val (.int v1), .val (.int v2), .val (.int (v0 &&& (3 : Int32))), .unset, .unset] [(.int ((v1 &&& (255 : Int32)).toUInt32.toUInt16.toUInt32.toInt32))])) (fun _ k => XS.i2c X0.here hx rfl (hb hby d1_9) rfl k) ?_
  refine Ends.st (S' := s₁.setTop (mkF m 12 #[.val (.int v0), .val (.int v1), .val (.int v2), .val (.int (v0 &&& (3 : Int32))), .val (.int ((v1 &&& (255 : Int32)).toUInt32.toUInt16.toUInt32.toInt32)), .unset] [])) (fun _ k => XS.istore X0.here hx rfl (hb hby d1_10) rfl (l' := #[.val (.int v0), .val (.int v1), .val (.int v2), .val (.int (v0 &&& (3 : Int32))), .val (.int ((v1 &&& (255 : Int32)).toUInt32.toUInt16.toUInt32.toInt32)), .unset]) rfl k) ?_
  refine Ends.st (S' := s₁.setTop (mkF m 13 #[.val (.int v0), .val (.int v1), .val (.int v2), .val (.int (v0 &&& (3 : Int32))), .val (.int ((v1 &&& (255 : Int32)).toUInt32.toUInt16.toUInt32.toInt32)), .unset] [(.int v2)])) (fun _ k => XS.iloadN X0.here hx rfl (hb hby d1_12) rfl k) ?_
  refine Ends.st (S' := s₁.setTop (mkF m 16 #[.val (.int v0), .val (.int v1), .val (.int v2), .val (.int (v0 &&& (3 : Int32))), .val (.int ((v1 &&& (255 : Int32)).toUInt32.toUInt16.toUInt32.toInt32)), .unset] [(.int (255 : Int32)), (.int v2)])) (fun _ k => XS.sipush X0.here hx rfl (hb hby d1_13) k) ?_
  refine Ends.st (S' := s₁.setTop (mkF m 17 #[.val (.int v0), .val (.int v1), .val (.int v2), .val (.int (v0 &&& (3 : Int32))), .val (.int ((v1 &&& (255 : Int32)).toUInt32.toUInt16.toUInt32.toInt32)), .unset] [(.int (v2 &&& (255 : Int32)))])) (fun _ k => XS.iand X0.here hx rfl (hb hby d1_16) rfl k) ?_
  refine Ends.st (S' := s₁.setTop (mkF m 18 #[.val (.int v0), .val (.int v1), .val (.int v2), .val (.int (v0 &&& (3 : Int32))), .val (.int ((v1 &&& (255 : Int32)).toUInt32.toUInt16.toUInt32.toInt32)), .unset] [(.int ((v2 &&& (255 : Int32)).toUInt32.toUInt16.toUInt32.toInt32))])) (fun _ k => XS.i2c X0.here hx rfl (hb hby d1_17) rfl k) ?_
  refine Ends.st (S' := s₁.setTop (mkF m 20 #[.val (.int v0), .val (.int v1), .val (.int v2), .val (.int (v0 &&& (3 : Int32))), .val (.int ((v1 &&& (255 : Int32)).toUInt32.toUInt16.toUInt32.toInt32)), .val (.int ((v2 &&& (255 : Int32)).toUInt32.toUInt16.toUInt32.toInt32))] [])) (fun _ k => XS.istore X0.here hx rfl (hb hby d1_18) rfl (l' := #[.val (.int v0), .val (.int v1), .val (.int v2), .val (.int (v0 &&& (3 : Int32))), .val (.int ((v1 &&& (255 : Int32)).toUInt32.toUInt16.toUInt32.toInt32)), .val (.int ((v2 &&& (255 : Int32)).toUInt32.toUInt16.toUInt32.toInt32))]) rfl k) ?_
  refine Ends.st (S' := s₁.setTop (mkF m 21 #[.val (.int v0), .val (.int v1), .val (.int v2), .val (.int (v0 &&& (3 : Int32))), .val (.int ((v1 &&& (255 : Int32)).toUInt32.toUInt16.toUInt32.toInt32)), .val (.int ((v2 &&& (255 : Int32)).toUInt32.toUInt16.toUInt32.toInt32))] [(.int (v0 &&& (3 : Int32)))])) (fun _ k => XS.iloadN X0.here hx rfl (hb hby d1_20) rfl k) ?_
  by_cases hc1 : (v0 &&& (3 : Int32)) = (0 : Int32)
  · refine Ends.st (S' := s₁.setTop (mkF m 24 #[.val (.int v0), .val (.int v1), .val (.int v2), .val (.int (v0 &&& (3 : Int32))), .val (.int ((v1 &&& (255 : Int32)).toUInt32.toUInt16.toUInt32.toInt32)), .val (.int ((v2 &&& (255 : Int32)).toUInt32.toUInt16.toUInt32.toInt32))] [])) (fun _ k => XS.ifNo X0.here hx rfl (hb hby d1_21) rfl ((if0 _ _).trans (teq hc1).2) k) ?_
    obtain ⟨T2, h2, X2, e2, E2, A2, D2, -, st2⟩ := newO X0 hx hZ hown (hw _ (List.mem_of_getElem? (i := 4) rfl)) (hw _ (List.mem_of_getElem? (i := 5) rfl)) (hw _ (List.mem_of_getElem? (i := 6) rfl)) e0 (g := (mkF m 24 #[.val (.int v0), .val (.int v1), .val (.int v2), .val (.int (v0 &&& (3 : Int32))), .val (.int ((v1 &&& (255 : Int32)).toUInt32.toUInt16.toUInt32.toInt32)), .val (.int ((v2 &&& (255 : Int32)).toUInt32.toUInt16.toUInt32.toInt32))] [])) rfl (hb hby d1_24) (by decide) (by decide)
    obtain ⟨b2, g2⟩ : ∃ z, z = h0.size := ⟨_, rfl⟩
    rw [← g2] at A2 D2 st2
    have g_b2 : n0 ≤ b2 := Nat.le_trans Z0 (Nat.le_of_eq g2.symm)
    have sz_b2 : h0.size ≤ b2 := Nat.le_trans (Keep.refl h0 []).1 (Nat.le_of_eq g2.symm)
    have f3 := Nat.le_trans (Nat.zero_le h0.size) E2.1
    have f4 := Nat.le_trans Z0 E2.1
    have f5 := CHr.trans (CHr.refl hC0) (CHr.ext E2 (CHr.refl hC0).1)
    have f6 := (Keep.refl h0 []).ext E2
    have f7 := O0.ext E2
    have F8 : Fld Z h2 b2 "java/lang/String" "value" "[B" .null := D2 (Or.inr (hw _ (List.mem_of_getElem? (i := 20) rfl))) (ty := (.array .byte)) (by decide)
    have F9 : Fld Z h2 b2 "java/lang/String" "coder" "B" (.int (0 : Int32)) := D2 (Or.inr (hw _ (List.mem_of_getElem? (i := 21) rfl))) (ty := .byte) (by decide)
    refine Ends.st (S' := T2.setTop (mkF m 27 #[.val (.int v0), .val (.int v1), .val (.int v2), .val (.int (v0 &&& (3 : Int32))), .val (.int ((v1 &&& (255 : Int32)).toUInt32.toUInt16.toUInt32.toInt32)), .val (.int ((v2 &&& (255 : Int32)).toUInt32.toUInt16.toUInt32.toInt32))] [(.ref b2)])) (fun _ k => st2 _ k) ?_
    refine Ends.st (S' := T2.setTop (mkF m 28 #[.val (.int v0), .val (.int v1), .val (.int v2), .val (.int (v0 &&& (3 : Int32))), .val (.int ((v1 &&& (255 : Int32)).toUInt32.toUInt16.toUInt32.toInt32)), .val (.int ((v2 &&& (255 : Int32)).toUInt32.toUInt16.toUInt32.toInt32))] [(.ref b2), (.ref b2)])) (fun _ k => XS.dup X2.here hx rfl (hb hby d1_27) rfl rfl k) ?_
    refine Ends.st (S' := T2.setTop (mkF m 29 #[.val (.int v0), .val (.int v1), .val (.int v2), .val (.int (v0 &&& (3 : Int32))), .val (.int ((v1 &&& (255 : Int32)).toUInt32.toUInt16.toUInt32.toInt32)), .val (.int ((v2 &&& (255 : Int32)).toUInt32.toUInt16.toUInt32.toInt32))] [(.int (0 : Int32)), (.ref b2), (.ref b2)])) (fun _ k => XS.iconst X2.here hx rfl (hb hby d1_28) k) ?_
    obtain ⟨T10, h10, k10, X10, e10, E10, A10, B10, st10⟩ := newPE X2 hx hZ (hw _ (List.mem_of_getElem? (i := 7) rfl)) e2 (g := (mkF m 29 #[.val (.int v0), .val (.int v1), .val (.int v2), .val (.int (v0 &&& (3 : Int32))), .val (.int ((v1 &&& (255 : Int32)).toUInt32.toUInt16.toUInt32.toInt32)), .val (.int ((v2 &&& (255 : Int32)).toUInt32.toUInt16.toUInt32.toInt32))] [(.int (0 : Int32)), (.ref b2), (.ref b2)])) rfl (hb hby d1_29) rfl (by decide) (cap := 0) (by decide) (by decide) (by decide) (by decide) (ad := "[C") (by decide)
    obtain ⟨b10, g10⟩ : ∃ z, z = h2.size := ⟨_, rfl⟩
    rw [← g10] at A10 B10 st10
    have ne11 : b2 ≠ b10 := Nat.ne_of_lt (Nat.lt_of_lt_of_le A2.lt (Nat.le_of_eq g10.symm))
    have g_b10 : n0 ≤ b10 := Nat.le_trans f4 (Nat.le_of_eq g10.symm)
    have sz_b10 : h0.size ≤ b10 := Nat.le_trans f6.1 (Nat.le_of_eq g10.symm)
    have f12 := Nat.le_trans f3 E10.1
    have f13 := Nat.le_trans f4 E10.1
    have f14 := CHr.trans f5 (CHr.ext E10 f5.1)
    have f15 := f6.ext E10
    have f16 := f7.ext E10
    have f17 := A2.ext E10
    have f18 := F8.ext E10
    have f19 := F9.ext E10
    have V10 : Arv Z h10 b10 k10 .char (0 : Int32) [] (.int (0 : Int32)) := Arv.new A10 (by decide)
    refine Ends.st (S' := T10.setTop (mkF m 31 #[.val (.int v0), .val (.int v1), .val (.int v2), .val (.int (v0 &&& (3 : Int32))), .val (.int ((v1 &&& (255 : Int32)).toUInt32.toUInt16.toUInt32.toInt32)), .val (.int ((v2 &&& (255 : Int32)).toUInt32.toUInt16.toUInt32.toInt32))] [(.ref b10), (.ref b2), (.ref b2)])) (fun _ k => st10 _ k) ?_
    have hs : strs v0 v1 v2 = [] := by unfold strs; rw [if_pos hc1]
    obtain ⟨_, _, ⟨T20, L20, k20, n20⟩, -, X20, hS20r, hgr20, ⟨Lc20, hQ20, l20, y20, z20, hC20⟩, st20⟩ := Stand.specialBackS (s := s.setVm s.vm) X10 hx (y := (⟨"java/lang/String", "<init>", "([C)V"⟩ : MethodName)) rfl hown (mvT hZ (hw _ (List.mem_of_getElem? (i := 8) rfl))) (mvT hZ (hw _ (List.mem_of_getElem? (i := 9) rfl))) (mvT hZ (hw _ (List.mem_of_getElem? (i := 10) rfl))) (by decide) (backOfSH (s := s) (vm0 := s.vm) (W := 1) (rm2 l Z a0 hw [] b2 b10 k10 h10 n0 f13 f17 f18 f19 g_b2 V10) hZ (hw _ (List.mem_of_getElem? (i := 10) rfl)) (hw _ (List.mem_of_getElem? (i := 6) rfl)) (by decide) (by decide) (own_EW hw) f14.1) (g := (mkF m 31 #[.val (.int v0), .val (.int v1), .val (.int v2), .val (.int (v0 &&& (3 : Int32))), .val (.int ((v1 &&& (255 : Int32)).toUInt32.toUInt16.toUInt32.toInt32)), .val (.int ((v2 &&& (255 : Int32)).toUInt32.toUInt16.toUInt32.toInt32))] [(.ref b10), (.ref b2), (.ref b2)])) rfl (by rw [hml]; rfl) (Steps.refl _) (a := b2) (argsL := [(.ref b10)]) (rest := [(.ref b2)]) (lenOf pd_1 rfl) rfl (by show 2 * 0 + _ ≤ _; exact Nat.le_of_eq rfl) (hb hby d1_31) (fun _ _ => ⟨rfl, e10, (by decide : 0 + 1 + 1 + 4 ≤ _), (by decide : 0 + 4 + 0 + 8 ≤ _)⟩)
    dsimp only [Pt.U, Pt.locs, Pt.cells, Pt.slots] at X20 hS20r hgr20 l20 y20 z20 st20 hQ20 hC20
    subst l20 y20 z20
    obtain ⟨rfl, N20q, K20, t, kb, Gv, Gc, Gt⟩ := hQ20
    have N20 := Fr.app N0 N20q
    have hown : (s.setVm T20.vm).vm.findClass "com/example/umpteenth_copy/umpteenthcopy/engine/PassageEqualsPinLaw" = some m.cls := by rw [show (s.setVm T20.vm).vm = T20.vm from rfl, hS20r.1.alike.findClass]; exact hown
    have hZ : Z.Warmed39 (s.setVm T20.vm).vm := State.Warmed39.trans (t := s.setVm s.vm) hZ hS20r.1
    have X20 : Stand p l e ({ frames := 4, cells := 6, slots := 16, locals := 66 } : Room) (s.setVm T20.vm) m _ below meth c T20 _ _ _ := X20
    have hS20 : s.Since T20.vm T20.heap.size := State.Since.trans ((State.WarmedH.refl s).since 0) hS20r (Nat.le_trans f12 (by have q := hgr20; rw [e10] at q; exact q))
    have f21 := Nat.le_trans f13 K20.1
    have f22 := f15.trans K20 (allS (Or.inr sz_b2) all0)
    have f23 := f16.keep K20 (allS g_b2 all0)
    have f24 := f17.keep K20
    have f25 := V10.keep K20 (ninS (Ne.symm ne11) nin0)
    have f26 := B10.keep K20
    have C20 := CHr.trans f14 hC20
    refine Ends.st (S' := T20.setTop (mkF m 34 #[.val (.int v0), .val (.int v1), .val (.int v2), .val (.int (v0 &&& (3 : Int32))), .val (.int ((v1 &&& (255 : Int32)).toUInt32.toUInt16.toUInt32.toInt32)), .val (.int ((v2 &&& (255 : Int32)).toUInt32.toUInt16.toUInt32.toInt32))] [(.ref b2)])) (fun _ k => st20.trans k) ?_
    have hcod : StrChars.Road.CodA (strs v0 v1 v2) 0 (Int32.ofNat 0) ((([] : List Int32).map StrChars.lo8).map Value.int) := by rw [hs]; exact StrChars.Road.codOf (n := 0) rfl (fun c hc => (own_strsP v0 v1 v2 c (by rw [hs]; exact hc)).2)
    obtain ⟨fs, hr, hrun, hended, hRW⟩ := Stand.leaveW (s := s) (vm₁ := T20.vm) X20 hS20 (Nat.le_refl T20.heap.size) (v := some (.ref b2)) (fun h => by rw [Bd.returns] at h; cases h)
    exact ⟨_, _, retRef X20 hx Bd.returns rfl rfl (hb hby d1_34) hr, hrun, hended, _, _, rfl, (by show Q1 Z (strs v0 v1 v2) h0 n0 _ T20.heap _; exact ⟨b2, t, kb, _, _, rfl, N20, f22, f24, Gv, Gc, Gt, hcod⟩), (by show CHr Z EL0 s.vm s.heap T20.vm T20.heap; rw [hh]; exact CHr.trans C20 (CHv.at (s := s) (vm0 := T20.vm) X20 hZ (own_EW hw) C20.1)), hRW.1, hRW.2.1, hRW.2.2.1, hRW.2.2.2.mono (by decide) (by decide)⟩
  · refine Ends.st (S' := s₁.setTop (mkF m 35 #[.val (.int v0), .val (.int v1), .val (.int v2), .val (.int (v0 &&& (3 : Int32))), .val (.int ((v1 &&& (255 : Int32)).toUInt32.toUInt16.toUInt32.toInt32)), .val (.int ((v2 &&& (255 : Int32)).toUInt32.toUInt16.toUInt32.toInt32))] [])) (fun _ k => XS.ifYes X0.here hx rfl (pc0 := 21) (pc' := 35) rfl (hb hby d1_21) rfl ((if0 _ _).trans (feq hc1).2) (by decide) (by decide) k) ?_
    refine Ends.st (S' := s₁.setTop (mkF m 36 #[.val (.int v0), .val (.int v1), .val (.int v2), .val (.int (v0 &&& (3 : Int32))), .val (.int ((v1 &&& (255 : Int32)).toUInt32.toUInt16.toUInt32.toInt32)), .val (.int ((v2 &&& (255 : Int32)).toUInt32.toUInt16.toUInt32.toInt32))] [(.int (v0 &&& (3 : Int32)))])) (fun _ k => XS.iloadN X0.here hx rfl (hb hby d1_35) rfl k) ?_
    refine Ends.st (S' := s₁.setTop (mkF m 37 #[.val (.int v0), .val (.int v1), .val (.int v2), .val (.int (v0 &&& (3 : Int32))), .val (.int ((v1 &&& (255 : Int32)).toUInt32.toUInt16.toUInt32.toInt32)), .val (.int ((v2 &&& (255 : Int32)).toUInt32.toUInt16.toUInt32.toInt32))] [(.int (1 : Int32)), (.int (v0 &&& (3 : Int32)))])) (fun _ k => XS.iconst X0.here hx rfl (hb hby d1_36) k) ?_
    by_cases hc27 : (v0 &&& (3 : Int32)) = (1 : Int32)
    · refine Ends.st (S' := s₁.setTop (mkF m 40 #[.val (.int v0), .val (.int v1), .val (.int v2), .val (.int (v0 &&& (3 : Int32))), .val (.int ((v1 &&& (255 : Int32)).toUInt32.toUInt16.toUInt32.toInt32)), .val (.int ((v2 &&& (255 : Int32)).toUInt32.toUInt16.toUInt32.toInt32))] [])) (fun _ k => XS.icmpNo X0.here hx rfl (hb hby d1_37) rfl (teq hc27).2 k) ?_
      obtain ⟨T28, h28, X28, e28, E28, A28, D28, -, st28⟩ := newO X0 hx hZ hown (hw _ (List.mem_of_getElem? (i := 4) rfl)) (hw _ (List.mem_of_getElem? (i := 5) rfl)) (hw _ (List.mem_of_getElem? (i := 6) rfl)) e0 (g := (mkF m 40 #[.val (.int v0), .val (.int v1), .val (.int v2), .val (.int (v0 &&& (3 : Int32))), .val (.int ((v1 &&& (255 : Int32)).toUInt32.toUInt16.toUInt32.toInt32)), .val (.int ((v2 &&& (255 : Int32)).toUInt32.toUInt16.toUInt32.toInt32))] [])) rfl (hb hby d1_40) (by decide) (by decide)
      obtain ⟨b28, g28⟩ : ∃ z, z = h0.size := ⟨_, rfl⟩
      rw [← g28] at A28 D28 st28
      have g_b28 : n0 ≤ b28 := Nat.le_trans Z0 (Nat.le_of_eq g28.symm)
      have sz_b28 : h0.size ≤ b28 := Nat.le_trans (Keep.refl h0 []).1 (Nat.le_of_eq g28.symm)
      have f29 := Nat.le_trans (Nat.zero_le h0.size) E28.1
      have f30 := Nat.le_trans Z0 E28.1
      have f31 := CHr.trans (CHr.refl hC0) (CHr.ext E28 (CHr.refl hC0).1)
      have f32 := (Keep.refl h0 []).ext E28
      have f33 := O0.ext E28
      have F34 : Fld Z h28 b28 "java/lang/String" "value" "[B" .null := D28 (Or.inr (hw _ (List.mem_of_getElem? (i := 20) rfl))) (ty := (.array .byte)) (by decide)
      have F35 : Fld Z h28 b28 "java/lang/String" "coder" "B" (.int (0 : Int32)) := D28 (Or.inr (hw _ (List.mem_of_getElem? (i := 21) rfl))) (ty := .byte) (by decide)
      refine Ends.st (S' := T28.setTop (mkF m 43 #[.val (.int v0), .val (.int v1), .val (.int v2), .val (.int (v0 &&& (3 : Int32))), .val (.int ((v1 &&& (255 : Int32)).toUInt32.toUInt16.toUInt32.toInt32)), .val (.int ((v2 &&& (255 : Int32)).toUInt32.toUInt16.toUInt32.toInt32))] [(.ref b28)])) (fun _ k => st28 _ k) ?_
      refine Ends.st (S' := T28.setTop (mkF m 44 #[.val (.int v0), .val (.int v1), .val (.int v2), .val (.int (v0 &&& (3 : Int32))), .val (.int ((v1 &&& (255 : Int32)).toUInt32.toUInt16.toUInt32.toInt32)), .val (.int ((v2 &&& (255 : Int32)).toUInt32.toUInt16.toUInt32.toInt32))] [(.ref b28), (.ref b28)])) (fun _ k => XS.dup X28.here hx rfl (hb hby d1_43) rfl rfl k) ?_
      refine Ends.st (S' := T28.setTop (mkF m 45 #[.val (.int v0), .val (.int v1), .val (.int v2), .val (.int (v0 &&& (3 : Int32))), .val (.int ((v1 &&& (255 : Int32)).toUInt32.toUInt16.toUInt32.toInt32)), .val (.int ((v2 &&& (255 : Int32)).toUInt32.toUInt16.toUInt32.toInt32))] [(.int (1 : Int32)), (.ref b28), (.ref b28)])) (fun _ k => XS.iconst X28.here hx rfl (hb hby d1_44) k) ?_
      obtain ⟨T36, h36, k36, X36, e36, E36, A36, B36, st36⟩ := newPE X28 hx hZ (hw _ (List.mem_of_getElem? (i := 7) rfl)) e28 (g := (mkF m 45 #[.val (.int v0), .val (.int v1), .val (.int v2), .val (.int (v0 &&& (3 : Int32))), .val (.int ((v1 &&& (255 : Int32)).toUInt32.toUInt16.toUInt32.toInt32)), .val (.int ((v2 &&& (255 : Int32)).toUInt32.toUInt16.toUInt32.toInt32))] [(.int (1 : Int32)), (.ref b28), (.ref b28)])) rfl (hb hby d1_45) rfl (by decide) (cap := 1) (by decide) (by decide) (by decide) (by decide) (ad := "[C") (by decide)
      obtain ⟨b36, g36⟩ : ∃ z, z = h28.size := ⟨_, rfl⟩
      rw [← g36] at A36 B36 st36
      have ne37 : b28 ≠ b36 := Nat.ne_of_lt (Nat.lt_of_lt_of_le A28.lt (Nat.le_of_eq g36.symm))
      have g_b36 : n0 ≤ b36 := Nat.le_trans f30 (Nat.le_of_eq g36.symm)
      have sz_b36 : h0.size ≤ b36 := Nat.le_trans f32.1 (Nat.le_of_eq g36.symm)
      have f38 := Nat.le_trans f29 E36.1
      have f39 := Nat.le_trans f30 E36.1
      have f40 := CHr.trans f31 (CHr.ext E36 f31.1)
      have f41 := f32.ext E36
      have f42 := f33.ext E36
      have f43 := A28.ext E36
      have f44 := F34.ext E36
      have f45 := F35.ext E36
      have V36 : Arv Z h36 b36 k36 .char (1 : Int32) [] (.int (0 : Int32)) := Arv.new A36 (by decide)
      refine Ends.st (S' := T36.setTop (mkF m 47 #[.val (.int v0), .val (.int v1), .val (.int v2), .val (.int (v0 &&& (3 : Int32))), .val (.int ((v1 &&& (255 : Int32)).toUInt32.toUInt16.toUInt32.toInt32)), .val (.int ((v2 &&& (255 : Int32)).toUInt32.toUInt16.toUInt32.toInt32))] [(.ref b36), (.ref b28), (.ref b28)])) (fun _ k => st36 _ k) ?_
      refine Ends.st (S' := T36.setTop (mkF m 48 #[.val (.int v0), .val (.int v1), .val (.int v2), .val (.int (v0 &&& (3 : Int32))), .val (.int ((v1 &&& (255 : Int32)).toUInt32.toUInt16.toUInt32.toInt32)), .val (.int ((v2 &&& (255 : Int32)).toUInt32.toUInt16.toUInt32.toInt32))] [(.ref b36), (.ref b36), (.ref b28), (.ref b28)])) (fun _ k => XS.dup X36.here hx rfl (hb hby d1_47) rfl rfl k) ?_
      refine Ends.st (S' := T36.setTop (mkF m 49 #[.val (.int v0), .val (.int v1), .val (.int v2), .val (.int (v0 &&& (3 : Int32))), .val (.int ((v1 &&& (255 : Int32)).toUInt32.toUInt16.toUInt32.toInt32)), .val (.int ((v2 &&& (255 : Int32)).toUInt32.toUInt16.toUInt32.toInt32))] [(.int (0 : Int32)), (.ref b36), (.ref b36), (.ref b28), (.ref b28)])) (fun _ k => XS.iconst X36.here hx rfl (hb hby d1_48) k) ?_
      refine Ends.st (S' := T36.setTop (mkF m 51 #[.val (.int v0), .val (.int v1), .val (.int v2), .val (.int (v0 &&& (3 : Int32))), .val (.int ((v1 &&& (255 : Int32)).toUInt32.toUInt16.toUInt32.toInt32)), .val (.int ((v2 &&& (255 : Int32)).toUInt32.toUInt16.toUInt32.toInt32))] [(.int ((v1 &&& (255 : Int32)).toUInt32.toUInt16.toUInt32.toInt32)), (.int (0 : Int32)), (.ref b36), (.ref b36), (.ref b28), (.ref b28)])) (fun _ k => XS.iload X36.here hx rfl (hb hby d1_49) rfl k) ?_
      have Vp46 : Arv Z h36 b36 k36 .char (1 : Int32) [(.int (0 : Int32))] (.int (0 : Int32)) := (V36).pad (pad_rep [] (.int (0 : Int32)) 1)
      obtain ⟨cl46, Ar46, q46, S46, M46, H46, G46⟩ := Vp46
      have hin46 : ¬ ((0 : Int32) < 0 ∨ cl46.slots.size ≤ ((0 : Int32)).toNatClampNeg) := inb_of S46 ⟨by decide, by decide⟩
      obtain ⟨T46, h46, X46, e46, W46, st46⟩ := stC X36 hx hZ e36 Ar46 (j := (0 : Int32)) hin46 (g := (mkF m 51 #[.val (.int v0), .val (.int v1), .val (.int v2), .val (.int (v0 &&& (3 : Int32))), .val (.int ((v1 &&& (255 : Int32)).toUInt32.toUInt16.toUInt32.toInt32)), .val (.int ((v2 &&& (255 : Int32)).toUInt32.toUInt16.toUInt32.toInt32))] [(.int ((v1 &&& (255 : Int32)).toUInt32.toUInt16.toUInt32.toInt32)), (.int (0 : Int32)), (.ref b36), (.ref b36), (.ref b28), (.ref b28)])) rfl rfl (hb hby d1_51)
      have f47 := Nat.le_trans f38 (Keep.of_wr W46).1
      have f48 := Nat.le_trans f39 (Keep.of_wr W46).1
      have f49 := CHr.trans f40 (CHr.wr W46 (Safe.arr hZ.alike Ar46 (fun q => by cases q)) f40.1)
      have f50 := f41.wr W46 (Or.inr sz_b36)
      have f51 := f42.wr W46 g_b36
      have f52 := f43.wr W46
      have f53 := f44.other W46 (Or.inl ne37)
      have f54 := f45.other W46 (Or.inl ne37)
      have f55 := B36.wr W46
      have V46 : Arv Z h46 b36 k36 .char (1 : Int32) [(.int (nar .char ((v1 &&& (255 : Int32)).toUInt32.toUInt16.toUInt32.toInt32)))] (.int (0 : Int32)) := Arv.set Ar46 q46 S46 M46 H46 G46 (fits_nar_char _) W46 0 rfl (Nat.le_of_ble_eq_true rfl)
      have N46 := Fr.snoc X46 N0 g_b36
      refine Ends.st (S' := T46.setTop (mkF m 52 #[.val (.int v0), .val (.int v1), .val (.int v2), .val (.int (v0 &&& (3 : Int32))), .val (.int ((v1 &&& (255 : Int32)).toUInt32.toUInt16.toUInt32.toInt32)), .val (.int ((v2 &&& (255 : Int32)).toUInt32.toUInt16.toUInt32.toInt32))] [(.ref b36), (.ref b28), (.ref b28)])) (fun _ k => st46 _ k) ?_
      have hs : strs v0 v1 v2 = [sc v1] := by unfold strs; rw [if_neg hc1, if_pos hc27]
      have hp : ∀ c ∈ ([sc v1] : List Int32), ¬ c < 0 ∧ ¬ (255 : Int32) < c := by rw [← hs]; exact own_strsP v0 v1 v2
      have hws : ∀ d ∈ StrChars.Road.words, d.before a0 Z = true := fun d hd => hw d ((by decide +kernel : ∀ d ∈ StrChars.Road.words, d ∈ tables_1) d hd)
      have Sx : Safe Z EL0 s.vm h46 b28 := own_safe hZ.alike f52 f53
      obtain ⟨_, _, ⟨T56, L56, k56, n56⟩, -, X56, ⟨Lc56, hQ56, l56, y56, z56⟩, st56⟩ := X46.specialBack hx (y := (⟨"java/lang/String", "<init>", "([C)V"⟩ : MethodName)) rfl hown (mvT hZ (hw _ (List.mem_of_getElem? (i := 8) rfl))) (mvT hZ (hw _ (List.mem_of_getElem? (i := 9) rfl))) (mvT hZ (hw _ (List.mem_of_getElem? (i := 10) rfl))) (by decide) (StrChars.Road.backV (W := 1) hZ hws (kI := 4) (hw _ (List.mem_of_getElem? (i := 5) rfl)) (cs := ([sc v1] : List Int32)) (bs := ([sc v1] : List Int32).map (fun c => c.toInt8.toInt32)) (n := 1) g_b28 f48 f52 f53 f54 V46 (SC.ext f51.2) hG rfl rfl (by decide) (by decide) hp rfl (by decide) (by decide)) (g := (mkF m 52 #[.val (.int v0), .val (.int v1), .val (.int v2), .val (.int (v0 &&& (3 : Int32))), .val (.int ((v1 &&& (255 : Int32)).toUInt32.toUInt16.toUInt32.toInt32)), .val (.int ((v2 &&& (255 : Int32)).toUInt32.toUInt16.toUInt32.toInt32))] [(.ref b36), (.ref b28), (.ref b28)])) rfl (by rw [hml]; rfl) (Steps.refl _) (a := b28) (argsL := [(.ref b36)]) (rest := [(.ref b28)]) (lenOf pd_1 rfl) rfl (by show 2 * 0 + _ ≤ _; exact Nat.le_of_eq rfl) (hb hby d1_52) (fun _ _ => ⟨rfl, e46, (by decide : 0 + 1 + 1 + 1 ≤ _), (by decide : 0 + 4 + 1 + 1 ≤ _)⟩)
      dsimp only [Pt.U, Pt.locs, Pt.cells, Pt.slots] at X56 l56 y56 z56 st56 hQ56
      subst l56 y56 z56
      obtain ⟨rfl, N56q, K56, -, Gc, t, kb, -, -, -, Gv, Gt⟩ := hQ56
      have N56 := Fr.app N46 N56q
      have f57 := Nat.le_trans f47 K56.1
      have f58 := Nat.le_trans f48 K56.1
      have f59 := CHr.trans f49 (CHr.keep K56 (allS Sx all0) f49.1)
      have f60 := f50.trans K56 (allS (Or.inr sz_b28) all0)
      have f61 := f51.keep K56 (allS g_b28 all0)
      have f62 := f52.keep K56
      have f63 := f55.keep K56
      have f64 := V46.keep K56 (ninS (Ne.symm ne37) nin0)
      refine Ends.st (S' := T56.setTop (mkF m 55 #[.val (.int v0), .val (.int v1), .val (.int v2), .val (.int (v0 &&& (3 : Int32))), .val (.int ((v1 &&& (255 : Int32)).toUInt32.toUInt16.toUInt32.toInt32)), .val (.int ((v2 &&& (255 : Int32)).toUInt32.toUInt16.toUInt32.toInt32))] [(.ref b28)])) (fun _ k => st56.trans k) ?_
      have hcod : StrChars.Road.CodA (strs v0 v1 v2) 0 (Int32.ofNat 1) ((([sc v1] : List Int32).map StrChars.lo8).map Value.int) := by rw [hs]; exact StrChars.Road.codOf (n := 1) rfl (fun c hc => (own_strsP v0 v1 v2 c (by rw [hs]; exact hc)).2)
      obtain ⟨fs, hr, hrun, hended, hRW⟩ := Stand.leaveW (s := s) (vm₁ := s.vm) X56 ((State.WarmedH.refl s).since 0) f57 (v := some (.ref b28)) (fun h => by rw [Bd.returns] at h; cases h)
      exact ⟨_, _, retRef X56 hx Bd.returns rfl rfl (hb hby d1_55) hr, hrun, hended, _, _, rfl, (by show Q1 Z (strs v0 v1 v2) h0 n0 _ T56.heap _; exact ⟨b28, t, kb, _, _, rfl, N56, f60, f62, Gv, Gc, Gt, hcod⟩), (by show CHr Z EL0 s.vm s.heap T56.vm T56.heap; rw [hh]; exact CHr.trans f59 (CHv.at (s := s) (vm0 := s.vm) X56 hZ (own_EW hw) f59.1)), hRW.1, hRW.2.1, hRW.2.2.1, hRW.2.2.2.mono (by decide) (by decide)⟩
    · refine Ends.st (S' := s₁.setTop (mkF m 56 #[.val (.int v0), .val (.int v1), .val (.int v2), .val (.int (v0 &&& (3 : Int32))), .val (.int ((v1 &&& (255 : Int32)).toUInt32.toUInt16.toUInt32.toInt32)), .val (.int ((v2 &&& (255 : Int32)).toUInt32.toUInt16.toUInt32.toInt32))] [])) (fun _ k => XS.icmpYes X0.here hx rfl (pc0 := 37) (pc' := 56) rfl (hb hby d1_37) rfl (feq hc27).2 (by decide) (by decide) k) ?_
      refine Ends.st (S' := s₁.setTop (mkF m 57 #[.val (.int v0), .val (.int v1), .val (.int v2), .val (.int (v0 &&& (3 : Int32))), .val (.int ((v1 &&& (255 : Int32)).toUInt32.toUInt16.toUInt32.toInt32)), .val (.int ((v2 &&& (255 : Int32)).toUInt32.toUInt16.toUInt32.toInt32))] [(.int (v0 &&& (3 : Int32)))])) (fun _ k => XS.iloadN X0.here hx rfl (hb hby d1_56) rfl k) ?_
      refine Ends.st (S' := s₁.setTop (mkF m 58 #[.val (.int v0), .val (.int v1), .val (.int v2), .val (.int (v0 &&& (3 : Int32))), .val (.int ((v1 &&& (255 : Int32)).toUInt32.toUInt16.toUInt32.toInt32)), .val (.int ((v2 &&& (255 : Int32)).toUInt32.toUInt16.toUInt32.toInt32))] [(.int (2 : Int32)), (.int (v0 &&& (3 : Int32)))])) (fun _ k => XS.iconst X0.here hx rfl (hb hby d1_57) k) ?_
      by_cases hc65 : (v0 &&& (3 : Int32)) = (2 : Int32)
      · refine Ends.st (S' := s₁.setTop (mkF m 61 #[.val (.int v0), .val (.int v1), .val (.int v2), .val (.int (v0 &&& (3 : Int32))), .val (.int ((v1 &&& (255 : Int32)).toUInt32.toUInt16.toUInt32.toInt32)), .val (.int ((v2 &&& (255 : Int32)).toUInt32.toUInt16.toUInt32.toInt32))] [])) (fun _ k => XS.icmpNo X0.here hx rfl (hb hby d1_58) rfl (teq hc65).2 k) ?_
        obtain ⟨T66, h66, X66, e66, E66, A66, D66, -, st66⟩ := newO X0 hx hZ hown (hw _ (List.mem_of_getElem? (i := 4) rfl)) (hw _ (List.mem_of_getElem? (i := 5) rfl)) (hw _ (List.mem_of_getElem? (i := 6) rfl)) e0 (g := (mkF m 61 #[.val (.int v0), .val (.int v1), .val (.int v2), .val (.int (v0 &&& (3 : Int32))), .val (.int ((v1 &&& (255 : Int32)).toUInt32.toUInt16.toUInt32.toInt32)), .val (.int ((v2 &&& (255 : Int32)).toUInt32.toUInt16.toUInt32.toInt32))] [])) rfl (hb hby d1_61) (by decide) (by decide)
        obtain ⟨b66, g66⟩ : ∃ z, z = h0.size := ⟨_, rfl⟩
        rw [← g66] at A66 D66 st66
        have g_b66 : n0 ≤ b66 := Nat.le_trans Z0 (Nat.le_of_eq g66.symm)
        have sz_b66 : h0.size ≤ b66 := Nat.le_trans (Keep.refl h0 []).1 (Nat.le_of_eq g66.symm)
        have f67 := Nat.le_trans (Nat.zero_le h0.size) E66.1
        have f68 := Nat.le_trans Z0 E66.1
        have f69 := CHr.trans (CHr.refl hC0) (CHr.ext E66 (CHr.refl hC0).1)
        have f70 := (Keep.refl h0 []).ext E66
        have f71 := O0.ext E66
        have F72 : Fld Z h66 b66 "java/lang/String" "value" "[B" .null := D66 (Or.inr (hw _ (List.mem_of_getElem? (i := 20) rfl))) (ty := (.array .byte)) (by decide)
        have F73 : Fld Z h66 b66 "java/lang/String" "coder" "B" (.int (0 : Int32)) := D66 (Or.inr (hw _ (List.mem_of_getElem? (i := 21) rfl))) (ty := .byte) (by decide)
        refine Ends.st (S' := T66.setTop (mkF m 64 #[.val (.int v0), .val (.int v1), .val (.int v2), .val (.int (v0 &&& (3 : Int32))), .val (.int ((v1 &&& (255 : Int32)).toUInt32.toUInt16.toUInt32.toInt32)), .val (.int ((v2 &&& (255 : Int32)).toUInt32.toUInt16.toUInt32.toInt32))] [(.ref b66)])) (fun _ k => st66 _ k) ?_
        refine Ends.st (S' := T66.setTop (mkF m 65 #[.val (.int v0), .val (.int v1), .val (.int v2), .val (.int (v0 &&& (3 : Int32))), .val (.int ((v1 &&& (255 : Int32)).toUInt32.toUInt16.toUInt32.toInt32)), .val (.int ((v2 &&& (255 : Int32)).toUInt32.toUInt16.toUInt32.toInt32))] [(.ref b66), (.ref b66)])) (fun _ k => XS.dup X66.here hx rfl (hb hby d1_64) rfl rfl k) ?_
        refine Ends.st (S' := T66.setTop (mkF m 66 #[.val (.int v0), .val (.int v1), .val (.int v2), .val (.int (v0 &&& (3 : Int32))), .val (.int ((v1 &&& (255 : Int32)).toUInt32.toUInt16.toUInt32.toInt32)), .val (.int ((v2 &&& (255 : Int32)).toUInt32.toUInt16.toUInt32.toInt32))] [(.int (2 : Int32)), (.ref b66), (.ref b66)])) (fun _ k => XS.iconst X66.here hx rfl (hb hby d1_65) k) ?_
        obtain ⟨T74, h74, k74, X74, e74, E74, A74, B74, st74⟩ := newPE X66 hx hZ (hw _ (List.mem_of_getElem? (i := 7) rfl)) e66 (g := (mkF m 66 #[.val (.int v0), .val (.int v1), .val (.int v2), .val (.int (v0 &&& (3 : Int32))), .val (.int ((v1 &&& (255 : Int32)).toUInt32.toUInt16.toUInt32.toInt32)), .val (.int ((v2 &&& (255 : Int32)).toUInt32.toUInt16.toUInt32.toInt32))] [(.int (2 : Int32)), (.ref b66), (.ref b66)])) rfl (hb hby d1_66) rfl (by decide) (cap := 2) (by decide) (by decide) (by decide) (by decide) (ad := "[C") (by decide)
        obtain ⟨b74, g74⟩ : ∃ z, z = h66.size := ⟨_, rfl⟩
        rw [← g74] at A74 B74 st74
        have ne75 : b66 ≠ b74 := Nat.ne_of_lt (Nat.lt_of_lt_of_le A66.lt (Nat.le_of_eq g74.symm))
        have g_b74 : n0 ≤ b74 := Nat.le_trans f68 (Nat.le_of_eq g74.symm)
        have sz_b74 : h0.size ≤ b74 := Nat.le_trans f70.1 (Nat.le_of_eq g74.symm)
        have f76 := Nat.le_trans f67 E74.1
        have f77 := Nat.le_trans f68 E74.1
        have f78 := CHr.trans f69 (CHr.ext E74 f69.1)
        have f79 := f70.ext E74
        have f80 := f71.ext E74
        have f81 := A66.ext E74
        have f82 := F72.ext E74
        have f83 := F73.ext E74
        have V74 : Arv Z h74 b74 k74 .char (2 : Int32) [] (.int (0 : Int32)) := Arv.new A74 (by decide)
        refine Ends.st (S' := T74.setTop (mkF m 68 #[.val (.int v0), .val (.int v1), .val (.int v2), .val (.int (v0 &&& (3 : Int32))), .val (.int ((v1 &&& (255 : Int32)).toUInt32.toUInt16.toUInt32.toInt32)), .val (.int ((v2 &&& (255 : Int32)).toUInt32.toUInt16.toUInt32.toInt32))] [(.ref b74), (.ref b66), (.ref b66)])) (fun _ k => st74 _ k) ?_
        refine Ends.st (S' := T74.setTop (mkF m 69 #[.val (.int v0), .val (.int v1), .val (.int v2), .val (.int (v0 &&& (3 : Int32))), .val (.int ((v1 &&& (255 : Int32)).toUInt32.toUInt16.toUInt32.toInt32)), .val (.int ((v2 &&& (255 : Int32)).toUInt32.toUInt16.toUInt32.toInt32))] [(.ref b74), (.ref b74), (.ref b66), (.ref b66)])) (fun _ k => XS.dup X74.here hx rfl (hb hby d1_68) rfl rfl k) ?_
        refine Ends.st (S' := T74.setTop (mkF m 70 #[.val (.int v0), .val (.int v1), .val (.int v2), .val (.int (v0 &&& (3 : Int32))), .val (.int ((v1 &&& (255 : Int32)).toUInt32.toUInt16.toUInt32.toInt32)), .val (.int ((v2 &&& (255 : Int32)).toUInt32.toUInt16.toUInt32.toInt32))] [(.int (0 : Int32)), (.ref b74), (.ref b74), (.ref b66), (.ref b66)])) (fun _ k => XS.iconst X74.here hx rfl (hb hby d1_69) k) ?_
        refine Ends.st (S' := T74.setTop (mkF m 72 #[.val (.int v0), .val (.int v1), .val (.int v2), .val (.int (v0 &&& (3 : Int32))), .val (.int ((v1 &&& (255 : Int32)).toUInt32.toUInt16.toUInt32.toInt32)), .val (.int ((v2 &&& (255 : Int32)).toUInt32.toUInt16.toUInt32.toInt32))] [(.int ((v1 &&& (255 : Int32)).toUInt32.toUInt16.toUInt32.toInt32)), (.int (0 : Int32)), (.ref b74), (.ref b74), (.ref b66), (.ref b66)])) (fun _ k => XS.iload X74.here hx rfl (hb hby d1_70) rfl k) ?_
        have Vp84 : Arv Z h74 b74 k74 .char (2 : Int32) [(.int (0 : Int32)), (.int (0 : Int32))] (.int (0 : Int32)) := (V74).pad (pad_rep [] (.int (0 : Int32)) 2)
        obtain ⟨cl84, Ar84, q84, S84, M84, H84, G84⟩ := Vp84
        have hin84 : ¬ ((0 : Int32) < 0 ∨ cl84.slots.size ≤ ((0 : Int32)).toNatClampNeg) := inb_of S84 ⟨by decide, by decide⟩
        obtain ⟨T84, h84, X84, e84, W84, st84⟩ := stC X74 hx hZ e74 Ar84 (j := (0 : Int32)) hin84 (g := (mkF m 72 #[.val (.int v0), .val (.int v1), .val (.int v2), .val (.int (v0 &&& (3 : Int32))), .val (.int ((v1 &&& (255 : Int32)).toUInt32.toUInt16.toUInt32.toInt32)), .val (.int ((v2 &&& (255 : Int32)).toUInt32.toUInt16.toUInt32.toInt32))] [(.int ((v1 &&& (255 : Int32)).toUInt32.toUInt16.toUInt32.toInt32)), (.int (0 : Int32)), (.ref b74), (.ref b74), (.ref b66), (.ref b66)])) rfl rfl (hb hby d1_72)
        have f85 := Nat.le_trans f76 (Keep.of_wr W84).1
        have f86 := Nat.le_trans f77 (Keep.of_wr W84).1
        have f87 := CHr.trans f78 (CHr.wr W84 (Safe.arr hZ.alike Ar84 (fun q => by cases q)) f78.1)
        have f88 := f79.wr W84 (Or.inr sz_b74)
        have f89 := f80.wr W84 g_b74
        have f90 := f81.wr W84
        have f91 := f82.other W84 (Or.inl ne75)
        have f92 := f83.other W84 (Or.inl ne75)
        have f93 := B74.wr W84
        have V84 : Arv Z h84 b74 k74 .char (2 : Int32) [(.int (nar .char ((v1 &&& (255 : Int32)).toUInt32.toUInt16.toUInt32.toInt32))), (.int (0 : Int32))] (.int (0 : Int32)) := Arv.set Ar84 q84 S84 M84 H84 G84 (fits_nar_char _) W84 0 rfl (Nat.le_of_ble_eq_true rfl)
        have N84 := Fr.snoc X84 N0 g_b74
        refine Ends.st (S' := T84.setTop (mkF m 73 #[.val (.int v0), .val (.int v1), .val (.int v2), .val (.int (v0 &&& (3 : Int32))), .val (.int ((v1 &&& (255 : Int32)).toUInt32.toUInt16.toUInt32.toInt32)), .val (.int ((v2 &&& (255 : Int32)).toUInt32.toUInt16.toUInt32.toInt32))] [(.ref b74), (.ref b66), (.ref b66)])) (fun _ k => st84 _ k) ?_
        refine Ends.st (S' := T84.setTop (mkF m 74 #[.val (.int v0), .val (.int v1), .val (.int v2), .val (.int (v0 &&& (3 : Int32))), .val (.int ((v1 &&& (255 : Int32)).toUInt32.toUInt16.toUInt32.toInt32)), .val (.int ((v2 &&& (255 : Int32)).toUInt32.toUInt16.toUInt32.toInt32))] [(.ref b74), (.ref b74), (.ref b66), (.ref b66)])) (fun _ k => XS.dup X84.here hx rfl (hb hby d1_73) rfl rfl k) ?_
        refine Ends.st (S' := T84.setTop (mkF m 75 #[.val (.int v0), .val (.int v1), .val (.int v2), .val (.int (v0 &&& (3 : Int32))), .val (.int ((v1 &&& (255 : Int32)).toUInt32.toUInt16.toUInt32.toInt32)), .val (.int ((v2 &&& (255 : Int32)).toUInt32.toUInt16.toUInt32.toInt32))] [(.int (1 : Int32)), (.ref b74), (.ref b74), (.ref b66), (.ref b66)])) (fun _ k => XS.iconst X84.here hx rfl (hb hby d1_74) k) ?_
        refine Ends.st (S' := T84.setTop (mkF m 77 #[.val (.int v0), .val (.int v1), .val (.int v2), .val (.int (v0 &&& (3 : Int32))), .val (.int ((v1 &&& (255 : Int32)).toUInt32.toUInt16.toUInt32.toInt32)), .val (.int ((v2 &&& (255 : Int32)).toUInt32.toUInt16.toUInt32.toInt32))] [(.int ((v2 &&& (255 : Int32)).toUInt32.toUInt16.toUInt32.toInt32)), (.int (1 : Int32)), (.ref b74), (.ref b74), (.ref b66), (.ref b66)])) (fun _ k => XS.iload X84.here hx rfl (hb hby d1_75) rfl k) ?_
        obtain ⟨cl94, Ar94, q94, S94, M94, H94, G94⟩ := V84
        have hin94 : ¬ ((1 : Int32) < 0 ∨ cl94.slots.size ≤ ((1 : Int32)).toNatClampNeg) := inb_of S94 ⟨by decide, by decide⟩
        obtain ⟨T94, h94, X94, e94, W94, st94⟩ := stC X84 hx hZ e84 Ar94 (j := (1 : Int32)) hin94 (g := (mkF m 77 #[.val (.int v0), .val (.int v1), .val (.int v2), .val (.int (v0 &&& (3 : Int32))), .val (.int ((v1 &&& (255 : Int32)).toUInt32.toUInt16.toUInt32.toInt32)), .val (.int ((v2 &&& (255 : Int32)).toUInt32.toUInt16.toUInt32.toInt32))] [(.int ((v2 &&& (255 : Int32)).toUInt32.toUInt16.toUInt32.toInt32)), (.int (1 : Int32)), (.ref b74), (.ref b74), (.ref b66), (.ref b66)])) rfl rfl (hb hby d1_77)
        have f95 := Nat.le_trans f85 (Keep.of_wr W94).1
        have f96 := Nat.le_trans f86 (Keep.of_wr W94).1
        have f97 := CHr.trans f87 (CHr.wr W94 (Safe.arr hZ.alike Ar94 (fun q => by cases q)) f87.1)
        have f98 := f88.wr W94 (Or.inr sz_b74)
        have f99 := f89.wr W94 g_b74
        have f100 := f90.wr W94
        have f101 := f91.other W94 (Or.inl ne75)
        have f102 := f92.other W94 (Or.inl ne75)
        have f103 := f93.wr W94
        have V94 : Arv Z h94 b74 k74 .char (2 : Int32) [(.int (nar .char ((v1 &&& (255 : Int32)).toUInt32.toUInt16.toUInt32.toInt32))), (.int (nar .char ((v2 &&& (255 : Int32)).toUInt32.toUInt16.toUInt32.toInt32)))] (.int (0 : Int32)) := Arv.set Ar94 q94 S94 M94 H94 G94 (fits_nar_char _) W94 1 rfl (Nat.le_of_ble_eq_true rfl)
        have N94 := Fr.snoc X94 N84 g_b74
        refine Ends.st (S' := T94.setTop (mkF m 78 #[.val (.int v0), .val (.int v1), .val (.int v2), .val (.int (v0 &&& (3 : Int32))), .val (.int ((v1 &&& (255 : Int32)).toUInt32.toUInt16.toUInt32.toInt32)), .val (.int ((v2 &&& (255 : Int32)).toUInt32.toUInt16.toUInt32.toInt32))] [(.ref b74), (.ref b66), (.ref b66)])) (fun _ k => st94 _ k) ?_
        have hs : strs v0 v1 v2 = [sc v1, sc v2] := by unfold strs; rw [if_neg hc1, if_neg hc27, if_pos hc65]
        have hp : ∀ c ∈ ([sc v1, sc v2] : List Int32), ¬ c < 0 ∧ ¬ (255 : Int32) < c := by rw [← hs]; exact own_strsP v0 v1 v2
        have hws : ∀ d ∈ StrChars.Road.words, d.before a0 Z = true := fun d hd => hw d ((by decide +kernel : ∀ d ∈ StrChars.Road.words, d ∈ tables_1) d hd)
        have Sx : Safe Z EL0 s.vm h94 b66 := own_safe hZ.alike f100 f101
        obtain ⟨_, _, ⟨T104, L104, k104, n104⟩, -, X104, ⟨Lc104, hQ104, l104, y104, z104⟩, st104⟩ := X94.specialBack hx (y := (⟨"java/lang/String", "<init>", "([C)V"⟩ : MethodName)) rfl hown (mvT hZ (hw _ (List.mem_of_getElem? (i := 8) rfl))) (mvT hZ (hw _ (List.mem_of_getElem? (i := 9) rfl))) (mvT hZ (hw _ (List.mem_of_getElem? (i := 10) rfl))) (by decide) (StrChars.Road.backV (W := 1) hZ hws (kI := 4) (hw _ (List.mem_of_getElem? (i := 5) rfl)) (cs := ([sc v1, sc v2] : List Int32)) (bs := ([sc v1, sc v2] : List Int32).map (fun c => c.toInt8.toInt32)) (n := 2) g_b66 f96 f100 f101 f102 V94 (SC.ext f99.2) hG rfl rfl (by decide) (by decide) hp rfl (by decide) (by decide)) (g := (mkF m 78 #[.val (.int v0), .val (.int v1), .val (.int v2), .val (.int (v0 &&& (3 : Int32))), .val (.int ((v1 &&& (255 : Int32)).toUInt32.toUInt16.toUInt32.toInt32)), .val (.int ((v2 &&& (255 : Int32)).toUInt32.toUInt16.toUInt32.toInt32))] [(.ref b74), (.ref b66), (.ref b66)])) rfl (by rw [hml]; rfl) (Steps.refl _) (a := b66) (argsL := [(.ref b74)]) (rest := [(.ref b66)]) (lenOf pd_1 rfl) rfl (by show 2 * 0 + _ ≤ _; exact Nat.le_of_eq rfl) (hb hby d1_78) (fun _ _ => ⟨rfl, e94, (by decide : 0 + 1 + 1 + 1 ≤ _), (by decide : 0 + 4 + 2 + 2 ≤ _)⟩)
        dsimp only [Pt.U, Pt.locs, Pt.cells, Pt.slots] at X104 l104 y104 z104 st104 hQ104
        subst l104 y104 z104
        obtain ⟨rfl, N104q, K104, -, Gc, t, kb, -, -, -, Gv, Gt⟩ := hQ104
        have N104 := Fr.app N94 N104q
        have f105 := Nat.le_trans f95 K104.1
        have f106 := Nat.le_trans f96 K104.1
        have f107 := CHr.trans f97 (CHr.keep K104 (allS Sx all0) f97.1)
        have f108 := f98.trans K104 (allS (Or.inr sz_b66) all0)
        have f109 := f99.keep K104 (allS g_b66 all0)
        have f110 := f100.keep K104
        have f111 := f103.keep K104
        have f112 := V94.keep K104 (ninS (Ne.symm ne75) nin0)
        refine Ends.st (S' := T104.setTop (mkF m 81 #[.val (.int v0), .val (.int v1), .val (.int v2), .val (.int (v0 &&& (3 : Int32))), .val (.int ((v1 &&& (255 : Int32)).toUInt32.toUInt16.toUInt32.toInt32)), .val (.int ((v2 &&& (255 : Int32)).toUInt32.toUInt16.toUInt32.toInt32))] [(.ref b66)])) (fun _ k => st104.trans k) ?_
        have hcod : StrChars.Road.CodA (strs v0 v1 v2) 0 (Int32.ofNat 2) ((([sc v1, sc v2] : List Int32).map StrChars.lo8).map Value.int) := by rw [hs]; exact StrChars.Road.codOf (n := 2) rfl (fun c hc => (own_strsP v0 v1 v2 c (by rw [hs]; exact hc)).2)
        obtain ⟨fs, hr, hrun, hended, hRW⟩ := Stand.leaveW (s := s) (vm₁ := s.vm) X104 ((State.WarmedH.refl s).since 0) f105 (v := some (.ref b66)) (fun h => by rw [Bd.returns] at h; cases h)
        exact ⟨_, _, retRef X104 hx Bd.returns rfl rfl (hb hby d1_81) hr, hrun, hended, _, _, rfl, (by show Q1 Z (strs v0 v1 v2) h0 n0 _ T104.heap _; exact ⟨b66, t, kb, _, _, rfl, N104, f108, f110, Gv, Gc, Gt, hcod⟩), (by show CHr Z EL0 s.vm s.heap T104.vm T104.heap; rw [hh]; exact CHr.trans f107 (CHv.at (s := s) (vm0 := s.vm) X104 hZ (own_EW hw) f107.1)), hRW.1, hRW.2.1, hRW.2.2.1, hRW.2.2.2.mono (by decide) (by decide)⟩
      · refine Ends.st (S' := s₁.setTop (mkF m 82 #[.val (.int v0), .val (.int v1), .val (.int v2), .val (.int (v0 &&& (3 : Int32))), .val (.int ((v1 &&& (255 : Int32)).toUInt32.toUInt16.toUInt32.toInt32)), .val (.int ((v2 &&& (255 : Int32)).toUInt32.toUInt16.toUInt32.toInt32))] [])) (fun _ k => XS.icmpYes X0.here hx rfl (pc0 := 58) (pc' := 82) rfl (hb hby d1_58) rfl (feq hc65).2 (by decide) (by decide) k) ?_
        obtain ⟨T113, h113, X113, e113, E113, A113, D113, -, st113⟩ := newO X0 hx hZ hown (hw _ (List.mem_of_getElem? (i := 4) rfl)) (hw _ (List.mem_of_getElem? (i := 5) rfl)) (hw _ (List.mem_of_getElem? (i := 6) rfl)) e0 (g := (mkF m 82 #[.val (.int v0), .val (.int v1), .val (.int v2), .val (.int (v0 &&& (3 : Int32))), .val (.int ((v1 &&& (255 : Int32)).toUInt32.toUInt16.toUInt32.toInt32)), .val (.int ((v2 &&& (255 : Int32)).toUInt32.toUInt16.toUInt32.toInt32))] [])) rfl (hb hby d1_82) (by decide) (by decide)
        obtain ⟨b113, g113⟩ : ∃ z, z = h0.size := ⟨_, rfl⟩
        rw [← g113] at A113 D113 st113
        have g_b113 : n0 ≤ b113 := Nat.le_trans Z0 (Nat.le_of_eq g113.symm)
        have sz_b113 : h0.size ≤ b113 := Nat.le_trans (Keep.refl h0 []).1 (Nat.le_of_eq g113.symm)
        have f114 := Nat.le_trans (Nat.zero_le h0.size) E113.1
        have f115 := Nat.le_trans Z0 E113.1
        have f116 := CHr.trans (CHr.refl hC0) (CHr.ext E113 (CHr.refl hC0).1)
        have f117 := (Keep.refl h0 []).ext E113
        have f118 := O0.ext E113
        have F119 : Fld Z h113 b113 "java/lang/String" "value" "[B" .null := D113 (Or.inr (hw _ (List.mem_of_getElem? (i := 20) rfl))) (ty := (.array .byte)) (by decide)
        have F120 : Fld Z h113 b113 "java/lang/String" "coder" "B" (.int (0 : Int32)) := D113 (Or.inr (hw _ (List.mem_of_getElem? (i := 21) rfl))) (ty := .byte) (by decide)
        refine Ends.st (S' := T113.setTop (mkF m 85 #[.val (.int v0), .val (.int v1), .val (.int v2), .val (.int (v0 &&& (3 : Int32))), .val (.int ((v1 &&& (255 : Int32)).toUInt32.toUInt16.toUInt32.toInt32)), .val (.int ((v2 &&& (255 : Int32)).toUInt32.toUInt16.toUInt32.toInt32))] [(.ref b113)])) (fun _ k => st113 _ k) ?_
        refine Ends.st (S' := T113.setTop (mkF m 86 #[.val (.int v0), .val (.int v1), .val (.int v2), .val (.int (v0 &&& (3 : Int32))), .val (.int ((v1 &&& (255 : Int32)).toUInt32.toUInt16.toUInt32.toInt32)), .val (.int ((v2 &&& (255 : Int32)).toUInt32.toUInt16.toUInt32.toInt32))] [(.ref b113), (.ref b113)])) (fun _ k => XS.dup X113.here hx rfl (hb hby d1_85) rfl rfl k) ?_
        refine Ends.st (S' := T113.setTop (mkF m 87 #[.val (.int v0), .val (.int v1), .val (.int v2), .val (.int (v0 &&& (3 : Int32))), .val (.int ((v1 &&& (255 : Int32)).toUInt32.toUInt16.toUInt32.toInt32)), .val (.int ((v2 &&& (255 : Int32)).toUInt32.toUInt16.toUInt32.toInt32))] [(.int (3 : Int32)), (.ref b113), (.ref b113)])) (fun _ k => XS.iconst X113.here hx rfl (hb hby d1_86) k) ?_
        obtain ⟨T121, h121, k121, X121, e121, E121, A121, B121, st121⟩ := newPE X113 hx hZ (hw _ (List.mem_of_getElem? (i := 7) rfl)) e113 (g := (mkF m 87 #[.val (.int v0), .val (.int v1), .val (.int v2), .val (.int (v0 &&& (3 : Int32))), .val (.int ((v1 &&& (255 : Int32)).toUInt32.toUInt16.toUInt32.toInt32)), .val (.int ((v2 &&& (255 : Int32)).toUInt32.toUInt16.toUInt32.toInt32))] [(.int (3 : Int32)), (.ref b113), (.ref b113)])) rfl (hb hby d1_87) rfl (by decide) (cap := 3) (by decide) (by decide) (by decide) (by decide) (ad := "[C") (by decide)
        obtain ⟨b121, g121⟩ : ∃ z, z = h113.size := ⟨_, rfl⟩
        rw [← g121] at A121 B121 st121
        have ne122 : b113 ≠ b121 := Nat.ne_of_lt (Nat.lt_of_lt_of_le A113.lt (Nat.le_of_eq g121.symm))
        have g_b121 : n0 ≤ b121 := Nat.le_trans f115 (Nat.le_of_eq g121.symm)
        have sz_b121 : h0.size ≤ b121 := Nat.le_trans f117.1 (Nat.le_of_eq g121.symm)
        have f123 := Nat.le_trans f114 E121.1
        have f124 := Nat.le_trans f115 E121.1
        have f125 := CHr.trans f116 (CHr.ext E121 f116.1)
        have f126 := f117.ext E121
        have f127 := f118.ext E121
        have f128 := A113.ext E121
        have f129 := F119.ext E121
        have f130 := F120.ext E121
        have V121 : Arv Z h121 b121 k121 .char (3 : Int32) [] (.int (0 : Int32)) := Arv.new A121 (by decide)
        refine Ends.st (S' := T121.setTop (mkF m 89 #[.val (.int v0), .val (.int v1), .val (.int v2), .val (.int (v0 &&& (3 : Int32))), .val (.int ((v1 &&& (255 : Int32)).toUInt32.toUInt16.toUInt32.toInt32)), .val (.int ((v2 &&& (255 : Int32)).toUInt32.toUInt16.toUInt32.toInt32))] [(.ref b121), (.ref b113), (.ref b113)])) (fun _ k => st121 _ k) ?_
        refine Ends.st (S' := T121.setTop (mkF m 90 #[.val (.int v0), .val (.int v1), .val (.int v2), .val (.int (v0 &&& (3 : Int32))), .val (.int ((v1 &&& (255 : Int32)).toUInt32.toUInt16.toUInt32.toInt32)), .val (.int ((v2 &&& (255 : Int32)).toUInt32.toUInt16.toUInt32.toInt32))] [(.ref b121), (.ref b121), (.ref b113), (.ref b113)])) (fun _ k => XS.dup X121.here hx rfl (hb hby d1_89) rfl rfl k) ?_
        refine Ends.st (S' := T121.setTop (mkF m 91 #[.val (.int v0), .val (.int v1), .val (.int v2), .val (.int (v0 &&& (3 : Int32))), .val (.int ((v1 &&& (255 : Int32)).toUInt32.toUInt16.toUInt32.toInt32)), .val (.int ((v2 &&& (255 : Int32)).toUInt32.toUInt16.toUInt32.toInt32))] [(.int (0 : Int32)), (.ref b121), (.ref b121), (.ref b113), (.ref b113)])) (fun _ k => XS.iconst X121.here hx rfl (hb hby d1_90) k) ?_
        refine Ends.st (S' := T121.setTop (mkF m 93 #[.val (.int v0), .val (.int v1), .val (.int v2), .val (.int (v0 &&& (3 : Int32))), .val (.int ((v1 &&& (255 : Int32)).toUInt32.toUInt16.toUInt32.toInt32)), .val (.int ((v2 &&& (255 : Int32)).toUInt32.toUInt16.toUInt32.toInt32))] [(.int ((v1 &&& (255 : Int32)).toUInt32.toUInt16.toUInt32.toInt32)), (.int (0 : Int32)), (.ref b121), (.ref b121), (.ref b113), (.ref b113)])) (fun _ k => XS.iload X121.here hx rfl (hb hby d1_91) rfl k) ?_
        have Vp131 : Arv Z h121 b121 k121 .char (3 : Int32) [(.int (0 : Int32)), (.int (0 : Int32)), (.int (0 : Int32))] (.int (0 : Int32)) := (V121).pad (pad_rep [] (.int (0 : Int32)) 3)
        obtain ⟨cl131, Ar131, q131, S131, M131, H131, G131⟩ := Vp131
        have hin131 : ¬ ((0 : Int32) < 0 ∨ cl131.slots.size ≤ ((0 : Int32)).toNatClampNeg) := inb_of S131 ⟨by decide, by decide⟩
        obtain ⟨T131, h131, X131, e131, W131, st131⟩ := stC X121 hx hZ e121 Ar131 (j := (0 : Int32)) hin131 (g := (mkF m 93 #[.val (.int v0), .val (.int v1), .val (.int v2), .val (.int (v0 &&& (3 : Int32))), .val (.int ((v1 &&& (255 : Int32)).toUInt32.toUInt16.toUInt32.toInt32)), .val (.int ((v2 &&& (255 : Int32)).toUInt32.toUInt16.toUInt32.toInt32))] [(.int ((v1 &&& (255 : Int32)).toUInt32.toUInt16.toUInt32.toInt32)), (.int (0 : Int32)), (.ref b121), (.ref b121), (.ref b113), (.ref b113)])) rfl rfl (hb hby d1_93)
        have f132 := Nat.le_trans f123 (Keep.of_wr W131).1
        have f133 := Nat.le_trans f124 (Keep.of_wr W131).1
        have f134 := CHr.trans f125 (CHr.wr W131 (Safe.arr hZ.alike Ar131 (fun q => by cases q)) f125.1)
        have f135 := f126.wr W131 (Or.inr sz_b121)
        have f136 := f127.wr W131 g_b121
        have f137 := f128.wr W131
        have f138 := f129.other W131 (Or.inl ne122)
        have f139 := f130.other W131 (Or.inl ne122)
        have f140 := B121.wr W131
        have V131 : Arv Z h131 b121 k121 .char (3 : Int32) [(.int (nar .char ((v1 &&& (255 : Int32)).toUInt32.toUInt16.toUInt32.toInt32))), (.int (0 : Int32)), (.int (0 : Int32))] (.int (0 : Int32)) := Arv.set Ar131 q131 S131 M131 H131 G131 (fits_nar_char _) W131 0 rfl (Nat.le_of_ble_eq_true rfl)
        have N131 := Fr.snoc X131 N0 g_b121
        refine Ends.st (S' := T131.setTop (mkF m 94 #[.val (.int v0), .val (.int v1), .val (.int v2), .val (.int (v0 &&& (3 : Int32))), .val (.int ((v1 &&& (255 : Int32)).toUInt32.toUInt16.toUInt32.toInt32)), .val (.int ((v2 &&& (255 : Int32)).toUInt32.toUInt16.toUInt32.toInt32))] [(.ref b121), (.ref b113), (.ref b113)])) (fun _ k => st131 _ k) ?_
        refine Ends.st (S' := T131.setTop (mkF m 95 #[.val (.int v0), .val (.int v1), .val (.int v2), .val (.int (v0 &&& (3 : Int32))), .val (.int ((v1 &&& (255 : Int32)).toUInt32.toUInt16.toUInt32.toInt32)), .val (.int ((v2 &&& (255 : Int32)).toUInt32.toUInt16.toUInt32.toInt32))] [(.ref b121), (.ref b121), (.ref b113), (.ref b113)])) (fun _ k => XS.dup X131.here hx rfl (hb hby d1_94) rfl rfl k) ?_
        refine Ends.st (S' := T131.setTop (mkF m 96 #[.val (.int v0), .val (.int v1), .val (.int v2), .val (.int (v0 &&& (3 : Int32))), .val (.int ((v1 &&& (255 : Int32)).toUInt32.toUInt16.toUInt32.toInt32)), .val (.int ((v2 &&& (255 : Int32)).toUInt32.toUInt16.toUInt32.toInt32))] [(.int (1 : Int32)), (.ref b121), (.ref b121), (.ref b113), (.ref b113)])) (fun _ k => XS.iconst X131.here hx rfl (hb hby d1_95) k) ?_
        refine Ends.st (S' := T131.setTop (mkF m 98 #[.val (.int v0), .val (.int v1), .val (.int v2), .val (.int (v0 &&& (3 : Int32))), .val (.int ((v1 &&& (255 : Int32)).toUInt32.toUInt16.toUInt32.toInt32)), .val (.int ((v2 &&& (255 : Int32)).toUInt32.toUInt16.toUInt32.toInt32))] [(.int ((v2 &&& (255 : Int32)).toUInt32.toUInt16.toUInt32.toInt32)), (.int (1 : Int32)), (.ref b121), (.ref b121), (.ref b113), (.ref b113)])) (fun _ k => XS.iload X131.here hx rfl (hb hby d1_96) rfl k) ?_
        obtain ⟨cl141, Ar141, q141, S141, M141, H141, G141⟩ := V131
        have hin141 : ¬ ((1 : Int32) < 0 ∨ cl141.slots.size ≤ ((1 : Int32)).toNatClampNeg) := inb_of S141 ⟨by decide, by decide⟩
        obtain ⟨T141, h141, X141, e141, W141, st141⟩ := stC X131 hx hZ e131 Ar141 (j := (1 : Int32)) hin141 (g := (mkF m 98 #[.val (.int v0), .val (.int v1), .val (.int v2), .val (.int (v0 &&& (3 : Int32))), .val (.int ((v1 &&& (255 : Int32)).toUInt32.toUInt16.toUInt32.toInt32)), .val (.int ((v2 &&& (255 : Int32)).toUInt32.toUInt16.toUInt32.toInt32))] [(.int ((v2 &&& (255 : Int32)).toUInt32.toUInt16.toUInt32.toInt32)), (.int (1 : Int32)), (.ref b121), (.ref b121), (.ref b113), (.ref b113)])) rfl rfl (hb hby d1_98)
        have f142 := Nat.le_trans f132 (Keep.of_wr W141).1
        have f143 := Nat.le_trans f133 (Keep.of_wr W141).1
        have f144 := CHr.trans f134 (CHr.wr W141 (Safe.arr hZ.alike Ar141 (fun q => by cases q)) f134.1)
        have f145 := f135.wr W141 (Or.inr sz_b121)
        have f146 := f136.wr W141 g_b121
        have f147 := f137.wr W141
        have f148 := f138.other W141 (Or.inl ne122)
        have f149 := f139.other W141 (Or.inl ne122)
        have f150 := f140.wr W141
        have V141 : Arv Z h141 b121 k121 .char (3 : Int32) [(.int (nar .char ((v1 &&& (255 : Int32)).toUInt32.toUInt16.toUInt32.toInt32))), (.int (nar .char ((v2 &&& (255 : Int32)).toUInt32.toUInt16.toUInt32.toInt32))), (.int (0 : Int32))] (.int (0 : Int32)) := Arv.set Ar141 q141 S141 M141 H141 G141 (fits_nar_char _) W141 1 rfl (Nat.le_of_ble_eq_true rfl)
        have N141 := Fr.snoc X141 N131 g_b121
        refine Ends.st (S' := T141.setTop (mkF m 99 #[.val (.int v0), .val (.int v1), .val (.int v2), .val (.int (v0 &&& (3 : Int32))), .val (.int ((v1 &&& (255 : Int32)).toUInt32.toUInt16.toUInt32.toInt32)), .val (.int ((v2 &&& (255 : Int32)).toUInt32.toUInt16.toUInt32.toInt32))] [(.ref b121), (.ref b113), (.ref b113)])) (fun _ k => st141 _ k) ?_
        refine Ends.st (S' := T141.setTop (mkF m 100 #[.val (.int v0), .val (.int v1), .val (.int v2), .val (.int (v0 &&& (3 : Int32))), .val (.int ((v1 &&& (255 : Int32)).toUInt32.toUInt16.toUInt32.toInt32)), .val (.int ((v2 &&& (255 : Int32)).toUInt32.toUInt16.toUInt32.toInt32))] [(.ref b121), (.ref b121), (.ref b113), (.ref b113)])) (fun _ k => XS.dup X141.here hx rfl (hb hby d1_99) rfl rfl k) ?_
        refine Ends.st (S' := T141.setTop (mkF m 101 #[.val (.int v0), .val (.int v1), .val (.int v2), .val (.int (v0 &&& (3 : Int32))), .val (.int ((v1 &&& (255 : Int32)).toUInt32.toUInt16.toUInt32.toInt32)), .val (.int ((v2 &&& (255 : Int32)).toUInt32.toUInt16.toUInt32.toInt32))] [(.int (2 : Int32)), (.ref b121), (.ref b121), (.ref b113), (.ref b113)])) (fun _ k => XS.iconst X141.here hx rfl (hb hby d1_100) k) ?_
        refine Ends.st (S' := T141.setTop (mkF m 103 #[.val (.int v0), .val (.int v1), .val (.int v2), .val (.int (v0 &&& (3 : Int32))), .val (.int ((v1 &&& (255 : Int32)).toUInt32.toUInt16.toUInt32.toInt32)), .val (.int ((v2 &&& (255 : Int32)).toUInt32.toUInt16.toUInt32.toInt32))] [(.int ((v1 &&& (255 : Int32)).toUInt32.toUInt16.toUInt32.toInt32)), (.int (2 : Int32)), (.ref b121), (.ref b121), (.ref b113), (.ref b113)])) (fun _ k => XS.iload X141.here hx rfl (hb hby d1_101) rfl k) ?_
        obtain ⟨cl151, Ar151, q151, S151, M151, H151, G151⟩ := V141
        have hin151 : ¬ ((2 : Int32) < 0 ∨ cl151.slots.size ≤ ((2 : Int32)).toNatClampNeg) := inb_of S151 ⟨by decide, by decide⟩
        obtain ⟨T151, h151, X151, e151, W151, st151⟩ := stC X141 hx hZ e141 Ar151 (j := (2 : Int32)) hin151 (g := (mkF m 103 #[.val (.int v0), .val (.int v1), .val (.int v2), .val (.int (v0 &&& (3 : Int32))), .val (.int ((v1 &&& (255 : Int32)).toUInt32.toUInt16.toUInt32.toInt32)), .val (.int ((v2 &&& (255 : Int32)).toUInt32.toUInt16.toUInt32.toInt32))] [(.int ((v1 &&& (255 : Int32)).toUInt32.toUInt16.toUInt32.toInt32)), (.int (2 : Int32)), (.ref b121), (.ref b121), (.ref b113), (.ref b113)])) rfl rfl (hb hby d1_103)
        have f152 := Nat.le_trans f142 (Keep.of_wr W151).1
        have f153 := Nat.le_trans f143 (Keep.of_wr W151).1
        have f154 := CHr.trans f144 (CHr.wr W151 (Safe.arr hZ.alike Ar151 (fun q => by cases q)) f144.1)
        have f155 := f145.wr W151 (Or.inr sz_b121)
        have f156 := f146.wr W151 g_b121
        have f157 := f147.wr W151
        have f158 := f148.other W151 (Or.inl ne122)
        have f159 := f149.other W151 (Or.inl ne122)
        have f160 := f150.wr W151
        have V151 : Arv Z h151 b121 k121 .char (3 : Int32) [(.int (nar .char ((v1 &&& (255 : Int32)).toUInt32.toUInt16.toUInt32.toInt32))), (.int (nar .char ((v2 &&& (255 : Int32)).toUInt32.toUInt16.toUInt32.toInt32))), (.int (nar .char ((v1 &&& (255 : Int32)).toUInt32.toUInt16.toUInt32.toInt32)))] (.int (0 : Int32)) := Arv.set Ar151 q151 S151 M151 H151 G151 (fits_nar_char _) W151 2 rfl (Nat.le_of_ble_eq_true rfl)
        have N151 := Fr.snoc X151 N141 g_b121
        refine Ends.st (S' := T151.setTop (mkF m 104 #[.val (.int v0), .val (.int v1), .val (.int v2), .val (.int (v0 &&& (3 : Int32))), .val (.int ((v1 &&& (255 : Int32)).toUInt32.toUInt16.toUInt32.toInt32)), .val (.int ((v2 &&& (255 : Int32)).toUInt32.toUInt16.toUInt32.toInt32))] [(.ref b121), (.ref b113), (.ref b113)])) (fun _ k => st151 _ k) ?_
        have hs : strs v0 v1 v2 = [sc v1, sc v2, sc v1] := by unfold strs; rw [if_neg hc1, if_neg hc27, if_neg hc65]
        have hp : ∀ c ∈ ([sc v1, sc v2, sc v1] : List Int32), ¬ c < 0 ∧ ¬ (255 : Int32) < c := by rw [← hs]; exact own_strsP v0 v1 v2
        have hws : ∀ d ∈ StrChars.Road.words, d.before a0 Z = true := fun d hd => hw d ((by decide +kernel : ∀ d ∈ StrChars.Road.words, d ∈ tables_1) d hd)
        have Sx : Safe Z EL0 s.vm h151 b113 := own_safe hZ.alike f157 f158
        obtain ⟨_, _, ⟨T161, L161, k161, n161⟩, -, X161, ⟨Lc161, hQ161, l161, y161, z161⟩, st161⟩ := X151.specialBack hx (y := (⟨"java/lang/String", "<init>", "([C)V"⟩ : MethodName)) rfl hown (mvT hZ (hw _ (List.mem_of_getElem? (i := 8) rfl))) (mvT hZ (hw _ (List.mem_of_getElem? (i := 9) rfl))) (mvT hZ (hw _ (List.mem_of_getElem? (i := 10) rfl))) (by decide) (StrChars.Road.backV (W := 1) hZ hws (kI := 4) (hw _ (List.mem_of_getElem? (i := 5) rfl)) (cs := ([sc v1, sc v2, sc v1] : List Int32)) (bs := ([sc v1, sc v2, sc v1] : List Int32).map (fun c => c.toInt8.toInt32)) (n := 3) g_b113 f153 f157 f158 f159 V151 (SC.ext f156.2) hG rfl rfl (by decide) (by decide) hp rfl (by decide) (by decide)) (g := (mkF m 104 #[.val (.int v0), .val (.int v1), .val (.int v2), .val (.int (v0 &&& (3 : Int32))), .val (.int ((v1 &&& (255 : Int32)).toUInt32.toUInt16.toUInt32.toInt32)), .val (.int ((v2 &&& (255 : Int32)).toUInt32.toUInt16.toUInt32.toInt32))] [(.ref b121), (.ref b113), (.ref b113)])) rfl (by rw [hml]; rfl) (Steps.refl _) (a := b113) (argsL := [(.ref b121)]) (rest := [(.ref b113)]) (lenOf pd_1 rfl) rfl (by show 2 * 0 + _ ≤ _; exact Nat.le_of_eq rfl) (hb hby d1_104) (fun _ _ => ⟨rfl, e151, (by decide : 0 + 1 + 1 + 1 ≤ _), (by decide : 0 + 4 + 3 + 3 ≤ _)⟩)
        dsimp only [Pt.U, Pt.locs, Pt.cells, Pt.slots] at X161 l161 y161 z161 st161 hQ161
        subst l161 y161 z161
        obtain ⟨rfl, N161q, K161, -, Gc, t, kb, -, -, -, Gv, Gt⟩ := hQ161
        have N161 := Fr.app N151 N161q
        have f162 := Nat.le_trans f152 K161.1
        have f163 := Nat.le_trans f153 K161.1
        have f164 := CHr.trans f154 (CHr.keep K161 (allS Sx all0) f154.1)
        have f165 := f155.trans K161 (allS (Or.inr sz_b113) all0)
        have f166 := f156.keep K161 (allS g_b113 all0)
        have f167 := f157.keep K161
        have f168 := f160.keep K161
        have f169 := V151.keep K161 (ninS (Ne.symm ne122) nin0)
        refine Ends.st (S' := T161.setTop (mkF m 107 #[.val (.int v0), .val (.int v1), .val (.int v2), .val (.int (v0 &&& (3 : Int32))), .val (.int ((v1 &&& (255 : Int32)).toUInt32.toUInt16.toUInt32.toInt32)), .val (.int ((v2 &&& (255 : Int32)).toUInt32.toUInt16.toUInt32.toInt32))] [(.ref b113)])) (fun _ k => st161.trans k) ?_
        have hcod : StrChars.Road.CodA (strs v0 v1 v2) 0 (Int32.ofNat 3) ((([sc v1, sc v2, sc v1] : List Int32).map StrChars.lo8).map Value.int) := by rw [hs]; exact StrChars.Road.codOf (n := 3) rfl (fun c hc => (own_strsP v0 v1 v2 c (by rw [hs]; exact hc)).2)
        obtain ⟨fs, hr, hrun, hended, hRW⟩ := Stand.leaveW (s := s) (vm₁ := s.vm) X161 ((State.WarmedH.refl s).since 0) f162 (v := some (.ref b113)) (fun h => by rw [Bd.returns] at h; cases h)
        exact ⟨_, _, retRef X161 hx Bd.returns rfl rfl (hb hby d1_107) hr, hrun, hended, _, _, rfl, (by show Q1 Z (strs v0 v1 v2) h0 n0 _ T161.heap _; exact ⟨b113, t, kb, _, _, rfl, N161, f165, f167, Gv, Gc, Gt, hcod⟩), (by show CHr Z EL0 s.vm s.heap T161.vm T161.heap; rw [hh]; exact CHr.trans f164 (CHv.at (s := s) (vm0 := s.vm) X161 hZ (own_EW hw) f164.1)), hRW.1, hRW.2.1, hRW.2.2.1, hRW.2.2.2.mono (by decide) (by decide)⟩
theorem ef_rm6 (m : MethodId) (x0 : Addr) (x1 : Addr)  : entryFrame m #[(.ref x0), (.ref x1)] 2 = mkF m 0 #[.val (.ref x0), .val (.ref x1)] [] := by first | (simp [entryFrame, mkF, argsToLocals, Value.category]; done) | rfl
set_option maxRecDepth 65536 in
set_option maxHeartbeats 40000000 in
theorem rm6 (l : Launch) (Z : State) (a0 : Array Value) (hw : ∀ d ∈ tables_1, d.before a0 Z = true) (ws : List Jvm.Cond) (a1 : Addr) (a2 : Addr) (h0 : Heap) (n0 : Nat) (Z0 : n0 ≤ h0.size) :
    MetFree l (⟨"java/util/Objects", "requireNonNull", "(Ljava/lang/Object;Ljava/lang/String;)Ljava/lang/Object;"⟩ : MethodName) (head1 (Jvm.Cond.code (⟨"java/util/Objects", "requireNonNull", "(Ljava/lang/Object;Ljava/lang/String;)Ljava/lang/Object;"⟩ : MethodName) jdk_31_method_11_code 2 (some (.object "java/lang/Object")) :: ws) ({ frames := 0, cells := 0, slots := 0, locals := 0 } : Room)) (fun a U => a = #[(.ref a1), (.ref a2)] ∧ Z.Warmed39 U.vm ∧ U.heap = h0) (fun _ _ _ _ _ => True) (fun _ U o U' => ∃ v L, o = .returned v ∧ Q6 Z a1 h0 n0 v U'.heap L ∧ FrameEnd U o U' L ({ frames := 0, cells := 0, slots := 0, locals := 0 } : Room).cells ({ frames := 0, cells := 0, slots := 0, locals := 0 } : Room).slots) := by
  refine MetFree.of_bodySF (plainFor_of_name pn_6) hisR ?_
  intro p e s m args below meth c s₁ Bd hml0 hP hK
  obtain ⟨rfl, hZ, hh⟩ := hP
  have hx := Bd.exec
  have hby := Bd.bytes
  have hml : c.maxLocals = 2 := hml0
  have hown : s.vm.findClass "java/util/Objects" = some m.cls := findClass_of_methodNamed Bd.named
  have hnm := (name_of_methodNamed Bd.named Bd.method).1
  have X0 : Stand p l e ({ frames := 0, cells := 0, slots := 0, locals := 0 } : Room) s m #[(.ref a1), (.ref a2)] below meth c s₁ [] 0 0 := Stand.of_body Bd
  have e0 : s₁.heap = h0 := by rw [← hh, Bd.state]; rfl
  have N0 := Fr.nil n0
  refine Ends.st (tb := p.tables) (e := e) (below := below) (S' := s₁.setTop (mkF m 0 #[.val (.ref a1), .val (.ref a2)] [])) (fun t k => castTop (ef_rm6 m a1 a2) k) ?_
  refine Ends.st (S' := s₁.setTop (mkF m 1 #[.val (.ref a1), .val (.ref a2)] [(.ref a1)])) (fun _ k => XS.aloadN X0.here hx rfl (hb hby d6_0) rfl rfl k) ?_
  refine Ends.st (S' := s₁.setTop (mkF m 13 #[.val (.ref a1), .val (.ref a2)] [])) (fun _ k => XS.ifnonnullYes X0.here hx rfl (pc0 := 1) (pc' := 13) rfl (hb hby d6_1) rfl (by decide) (by decide) k) ?_
  refine Ends.st (S' := s₁.setTop (mkF m 14 #[.val (.ref a1), .val (.ref a2)] [(.ref a1)])) (fun _ k => XS.aloadN X0.here hx rfl (hb hby d6_13) rfl rfl k) ?_
  obtain ⟨fs, hr, hrun, hended, hW, hsame⟩ := X0.leave (v := some (.ref a1)) (fun h => by rw [Bd.returns] at h; cases h)
  exact ⟨_, _, retRef X0 hx Bd.returns rfl rfl (hb hby d6_14) hr, hrun, hended, _, _, rfl, (by show Q6 Z a1 h0 n0 _ s₁.heap _; rw [e0]; exact ⟨rfl, N0, rfl⟩), ⟨_, rfl⟩, hW, hsame.mono (by decide) (by decide)⟩
theorem ef_rm5 (m : MethodId) (x0 : Addr) (x1 : Addr) (x2 : Int32) (x3 : Int32) (x4 : Int32) (x5 : Int32)  : entryFrame m #[(.ref x0), (.ref x1), (.int x2), (.int x3), (.int x4), (.int x5)] 6 = mkF m 0 #[.val (.ref x0), .val (.ref x1), .val (.int x2), .val (.int x3), .val (.int x4), .val (.int x5)] [] := by first | (simp [entryFrame, mkF, argsToLocals, Value.category]; done) | rfl
set_option maxRecDepth 65536 in
set_option maxHeartbeats 40000000 in
theorem rm5 (l : Launch) (Z : State) (a0 : Array Value) (hw : ∀ d ∈ tables_1, d.before a0 Z = true) (ws : List Jvm.Cond) (a1 : Addr) (a2 : Addr) (i0 : Int32) (i1 : Int32) (i2 : Int32) (i3 : Int32) (h0 : Heap) (n0 : Nat) (Z0 : n0 ≤ h0.size) (Ea : Exa Z h0 a1 "com/example/umpteenth_copy/umpteenthcopy/engine/Passage") (Fs : Fld Z h0 a1 "com/example/umpteenth_copy/umpteenthcopy/engine/Passage" "source" "Ljava/lang/String;" .null) (Fia : Fld Z h0 a1 "com/example/umpteenth_copy/umpteenthcopy/engine/Passage" "start" "I" (.int (0 : Int32))) (Fib : Fld Z h0 a1 "com/example/umpteenth_copy/umpteenthcopy/engine/Passage" "end" "I" (.int (0 : Int32))) (Fic : Fld Z h0 a1 "com/example/umpteenth_copy/umpteenthcopy/engine/Passage" "sourceStart" "I" (.int (0 : Int32))) (Fid : Fld Z h0 a1 "com/example/umpteenth_copy/umpteenthcopy/engine/Passage" "sourceEnd" "I" (.int (0 : Int32))) (g1 : n0 ≤ a1) (Eb : Exa Z h0 a2 "java/lang/String") (neA : a2 ≠ a1) :
    MetFree l (⟨"com/example/umpteenth_copy/umpteenthcopy/engine/Passage", "<init>", "(Ljava/lang/String;IIII)V"⟩ : MethodName) (head1 (Jvm.Cond.code (⟨"com/example/umpteenth_copy/umpteenthcopy/engine/Passage", "<init>", "(Ljava/lang/String;IIII)V"⟩ : MethodName) prog_16_method_1_code 6 none :: ws) ({ frames := 1, cells := 2, slots := 28, locals := 14 } : Room)) (fun a U => a = #[(.ref a1), (.ref a2), (.int i0), (.int i1), (.int i2), (.int i3)] ∧ Z.Warmed39 U.vm ∧ U.heap = h0) (fun _ _ _ _ _ => True) (fun _ U o U' => ∃ v L, o = .returned v ∧ Q5 Z a1 a2 i0 i1 i2 i3 h0 n0 v U'.heap L ∧ ReturnedEndW U o U' L ({ frames := 1, cells := 2, slots := 28, locals := 14 } : Room).cells ({ frames := 1, cells := 2, slots := 28, locals := 14 } : Room).slots) := by
  refine MetFree.of_bodySF (plainFor_of_name pn_5) hisR ?_
  intro p e s m args below meth c s₁ Bd hml0 hP hK
  obtain ⟨rfl, hZ, hh⟩ := hP
  have hx := Bd.exec
  have hby := Bd.bytes
  have hml : c.maxLocals = 6 := hml0
  have hown : s.vm.findClass "com/example/umpteenth_copy/umpteenthcopy/engine/Passage" = some m.cls := findClass_of_methodNamed Bd.named
  have hnm := (name_of_methodNamed Bd.named Bd.method).1
  have X0 : Stand p l e ({ frames := 1, cells := 2, slots := 28, locals := 14 } : Room) s m #[(.ref a1), (.ref a2), (.int i0), (.int i1), (.int i2), (.int i3)] below meth c s₁ [] 0 0 := Stand.of_body Bd
  have e0 : s₁.heap = h0 := by rw [← hh, Bd.state]; rfl
  have N0 := Fr.nil n0
  refine Ends.st (tb := p.tables) (e := e) (below := below) (S' := s₁.setTop (mkF m 0 #[.val (.ref a1), .val (.ref a2), .val (.int i0), .val (.int i1), .val (.int i2), .val (.int i3)] [])) (fun t k => castTop (ef_rm5 m a1 a2 i0 i1 i2 i3) k) ?_
  refine Ends.st (S' := s₁.setTop (mkF m 1 #[.val (.ref a1), .val (.ref a2), .val (.int i0), .val (.int i1), .val (.int i2), .val (.int i3)] [(.ref a1)])) (fun _ k => XS.aloadN X0.here hx rfl (hb hby d5_0) rfl rfl k) ?_
  obtain ⟨T1, X1, e1, st1⟩ := initO X0 hx hZ hown (hw _ (List.mem_of_getElem? (i := 35) rfl)) (hw _ (List.mem_of_getElem? (i := 16) rfl)) (hw _ (List.mem_of_getElem? (i := 17) rfl)) e0 (g := (mkF m 1 #[.val (.ref a1), .val (.ref a2), .val (.int i0), .val (.int i1), .val (.int i2), .val (.int i3)] [(.ref a1)])) rfl (by rw [hml]; rfl) rfl (hb hby d5_1) (by decide) (W := 0) (by show 2 * 0 + _ ≤ _; exact Nat.le_of_eq rfl) (by decide)
  refine Ends.st (S' := T1.setTop (mkF m 4 #[.val (.ref a1), .val (.ref a2), .val (.int i0), .val (.int i1), .val (.int i2), .val (.int i3)] [])) (fun _ k => st1 _ k) ?_
  refine Ends.st (S' := T1.setTop (mkF m 5 #[.val (.ref a1), .val (.ref a2), .val (.int i0), .val (.int i1), .val (.int i2), .val (.int i3)] [(.ref a1)])) (fun _ k => XS.aloadN X1.here hx rfl (hb hby d5_4) rfl rfl k) ?_
  refine Ends.st (S' := T1.setTop (mkF m 6 #[.val (.ref a1), .val (.ref a2), .val (.int i0), .val (.int i1), .val (.int i2), .val (.int i3)] [(.ref a2), (.ref a1)])) (fun _ k => XS.aloadN X1.here hx rfl (hb hby d5_5) rfl rfl k) ?_
  obtain ⟨y2, T2, h2, k2, X2, e2, E2, hS2, hk2, hZ, hown, st2⟩ := ldcS (s := s) (vm0 := s.vm) X1 hx hZ hown (hw _ (List.mem_of_getElem? (i := 36) rfl)) (own_atoms hw) e1 ((State.WarmedH.refl s).since 0) (Nat.zero_le h0.size) (g := (mkF m 6 #[.val (.ref a1), .val (.ref a2), .val (.int i0), .val (.int i1), .val (.int i2), .val (.int i3)] [(.ref a2), (.ref a1)])) rfl (hb hby d5_6) (n := 24) (by decide) (by decide) (by decide) (by decide)
  have f3 := Nat.le_trans Z0 E2.1
  have f4 := Ea.ext E2
  have f5 := Fs.ext E2
  have f6 := (Keep.refl h0 [a1]).ext E2
  have f7 := Eb.ext E2
  have f8 := Fia.ext E2
  have f9 := Fib.ext E2
  have f10 := Fic.ext E2
  have f11 := Fid.ext E2
  refine Ends.st (S' := T2.setTop (mkF m 8 #[.val (.ref a1), .val (.ref a2), .val (.int i0), .val (.int i1), .val (.int i2), .val (.int i3)] [(.ref y2), (.ref a2), (.ref a1)])) (fun _ k => st2 _ k) ?_
  obtain ⟨_, _, ⟨T12, L12, k12, n12⟩, -, X12, ⟨Lc12, hQ12, l12, y12, z12⟩, st12⟩ := Jvm.LawKit.callS X2 hx (y := (⟨"java/util/Objects", "requireNonNull", "(Ljava/lang/Object;Ljava/lang/String;)Ljava/lang/Object;"⟩ : MethodName)) hown (mvT hZ (hw _ (List.mem_of_getElem? (i := 37) rfl))) (mvT hZ (hw _ (List.mem_of_getElem? (i := 38) rfl))) (mvT hZ (hw _ (List.mem_of_getElem? (i := 39) rfl))) (mvT hZ (hw _ (List.mem_of_getElem? (i := 40) rfl))) (by decide) (backOf (W := 1) (rm6 l Z a0 hw [] a2 y2 h2 n0 f3) hZ (hw _ (List.mem_of_getElem? (i := 40) rfl)) (hw _ (List.mem_of_getElem? (i := 39) rfl)) (by decide) (by decide)) (g := (mkF m 8 #[.val (.ref a1), .val (.ref a2), .val (.int i0), .val (.int i1), .val (.int i2), .val (.int i3)] [(.ref y2), (.ref a2), (.ref a1)])) rfl (by rw [hml]; rfl) (argsL := [(.ref a2), (.ref y2)]) (rest := [(.ref a1)]) (lenOf pd_2 rfl) rfl (by show 2 * 0 + _ ≤ _; exact Nat.le_of_eq rfl) (hb hby d5_8) (fun _ _ => ⟨rfl, e2, (by decide : 0 + 2 + 0 ≤ _), (by decide : 0 + (24 + 4) + 0 ≤ _)⟩)
  dsimp only [Pt.U, Pt.locs, Pt.cells, Pt.slots] at X12 l12 y12 z12 st12 hQ12
  subst l12 y12 z12
  obtain ⟨rfl, N12q, e12⟩ := hQ12
  have N12 := Fr.app N0 N12q
  refine Ends.st (S' := T12.setTop (mkF m 11 #[.val (.ref a1), .val (.ref a2), .val (.int i0), .val (.int i1), .val (.int i2), .val (.int i3)] [(.ref a2), (.ref a1)])) (fun _ k => st12 _ k) ?_
  obtain ⟨T13, X13, e13, st13⟩ := castY X12 hx hZ hown (hw _ (List.mem_of_getElem? (i := 41) rfl)) e12 (Ins.self f7) (g := (mkF m 11 #[.val (.ref a1), .val (.ref a2), .val (.int i0), .val (.int i1), .val (.int i2), .val (.int i3)] [(.ref a2), (.ref a1)])) rfl rfl (hb hby d5_11)
  refine Ends.st (S' := T13.setTop (mkF m 14 #[.val (.ref a1), .val (.ref a2), .val (.int i0), .val (.int i1), .val (.int i2), .val (.int i3)] [(.ref a2), (.ref a1)])) (fun _ k => st13 _ k) ?_
  obtain ⟨T14, h14, X14, e14, W14, st14⟩ := putF X13 hx hZ hown (host := "") (Or.inl (hw _ (List.mem_of_getElem? (i := 42) rfl))) Via.refl e13 f5 f4 (Or.inr ⟨(hw _ (List.mem_of_getElem? (i := 43) rfl)), rfl, hnm⟩) (hw _ (List.mem_of_getElem? (i := 30) rfl)) (ty := (.object "java/lang/String")) (by decide) rfl rfl (g := (mkF m 14 #[.val (.ref a1), .val (.ref a2), .val (.int i0), .val (.int i1), .val (.int i2), .val (.int i3)] [(.ref a2), (.ref a1)])) rfl rfl (hb hby d5_14)
  have f15 := Nat.le_trans f3 (Keep.of_wr W14).1
  have f16 := f4.wr W14
  have f17 := f6.wr W14 (Or.inl (by simp))
  have f18 := f7.wr W14
  have f19 := f8.other W14 (Or.inr (slot_ne (Or.inr (hw _ (List.mem_of_getElem? (i := 45) rfl))) (Or.inr (hw _ (List.mem_of_getElem? (i := 43) rfl))) (by decide) (t := .int) (t' := (.object "java/lang/String")) (by decide) (by decide)))
  have f20 := f9.other W14 (Or.inr (slot_ne (Or.inr (hw _ (List.mem_of_getElem? (i := 47) rfl))) (Or.inr (hw _ (List.mem_of_getElem? (i := 43) rfl))) (by decide) (t := .int) (t' := (.object "java/lang/String")) (by decide) (by decide)))
  have f21 := f10.other W14 (Or.inr (slot_ne (Or.inr (hw _ (List.mem_of_getElem? (i := 49) rfl))) (Or.inr (hw _ (List.mem_of_getElem? (i := 43) rfl))) (by decide) (t := .int) (t' := (.object "java/lang/String")) (by decide) (by decide)))
  have f22 := f11.other W14 (Or.inr (slot_ne (Or.inr (hw _ (List.mem_of_getElem? (i := 51) rfl))) (Or.inr (hw _ (List.mem_of_getElem? (i := 43) rfl))) (by decide) (t := .int) (t' := (.object "java/lang/String")) (by decide) (by decide)))
  have f23 := Nat.le_trans hk2 (Keep.of_wr W14).1
  have Fw14 := f5.same W14
  have N14 := Fr.snoc X14 N12 g1
  refine Ends.st (S' := T14.setTop (mkF m 17 #[.val (.ref a1), .val (.ref a2), .val (.int i0), .val (.int i1), .val (.int i2), .val (.int i3)] [])) (fun _ k => st14 _ k) ?_
  refine Ends.st (S' := T14.setTop (mkF m 18 #[.val (.ref a1), .val (.ref a2), .val (.int i0), .val (.int i1), .val (.int i2), .val (.int i3)] [(.ref a1)])) (fun _ k => XS.aloadN X14.here hx rfl (hb hby d5_17) rfl rfl k) ?_
  refine Ends.st (S' := T14.setTop (mkF m 19 #[.val (.ref a1), .val (.ref a2), .val (.int i0), .val (.int i1), .val (.int i2), .val (.int i3)] [(.int i0), (.ref a1)])) (fun _ k => XS.iloadN X14.here hx rfl (hb hby d5_18) rfl k) ?_
  obtain ⟨T24, h24, X24, e24, W24, st24⟩ := putF X14 hx hZ hown (host := "") (Or.inl (hw _ (List.mem_of_getElem? (i := 44) rfl))) Via.refl e14 f19 f16 (Or.inr ⟨(hw _ (List.mem_of_getElem? (i := 45) rfl)), rfl, hnm⟩) (hw _ (List.mem_of_getElem? (i := 30) rfl)) (ty := .int) (by decide) rfl rfl (g := (mkF m 19 #[.val (.ref a1), .val (.ref a2), .val (.int i0), .val (.int i1), .val (.int i2), .val (.int i3)] [(.int i0), (.ref a1)])) rfl rfl (hb hby d5_19)
  have f25 := Nat.le_trans f15 (Keep.of_wr W24).1
  have f26 := f16.wr W24
  have f27 := f17.wr W24 (Or.inl (by simp))
  have f28 := f18.wr W24
  have f29 := f20.other W24 (Or.inr (slot_ne (Or.inr (hw _ (List.mem_of_getElem? (i := 47) rfl))) (Or.inr (hw _ (List.mem_of_getElem? (i := 45) rfl))) (by decide) (t := .int) (t' := .int) (by decide) (by decide)))
  have f30 := f21.other W24 (Or.inr (slot_ne (Or.inr (hw _ (List.mem_of_getElem? (i := 49) rfl))) (Or.inr (hw _ (List.mem_of_getElem? (i := 45) rfl))) (by decide) (t := .int) (t' := .int) (by decide) (by decide)))
  have f31 := f22.other W24 (Or.inr (slot_ne (Or.inr (hw _ (List.mem_of_getElem? (i := 51) rfl))) (Or.inr (hw _ (List.mem_of_getElem? (i := 45) rfl))) (by decide) (t := .int) (t' := .int) (by decide) (by decide)))
  have f32 := Nat.le_trans f23 (Keep.of_wr W24).1
  have f33 := Fw14.other W24 (Or.inr (slot_ne (Or.inr (hw _ (List.mem_of_getElem? (i := 43) rfl))) (Or.inr (hw _ (List.mem_of_getElem? (i := 45) rfl))) (by decide) (t := (.object "java/lang/String")) (t' := .int) (by decide) (by decide)))
  have Fw24 := f19.same W24
  have N24 := Fr.snoc X24 N14 g1
  refine Ends.st (S' := T24.setTop (mkF m 22 #[.val (.ref a1), .val (.ref a2), .val (.int i0), .val (.int i1), .val (.int i2), .val (.int i3)] [])) (fun _ k => st24 _ k) ?_
  refine Ends.st (S' := T24.setTop (mkF m 23 #[.val (.ref a1), .val (.ref a2), .val (.int i0), .val (.int i1), .val (.int i2), .val (.int i3)] [(.ref a1)])) (fun _ k => XS.aloadN X24.here hx rfl (hb hby d5_22) rfl rfl k) ?_
  refine Ends.st (S' := T24.setTop (mkF m 24 #[.val (.ref a1), .val (.ref a2), .val (.int i0), .val (.int i1), .val (.int i2), .val (.int i3)] [(.int i1), (.ref a1)])) (fun _ k => XS.iloadN X24.here hx rfl (hb hby d5_23) rfl k) ?_
  obtain ⟨T34, h34, X34, e34, W34, st34⟩ := putF X24 hx hZ hown (host := "") (Or.inl (hw _ (List.mem_of_getElem? (i := 46) rfl))) Via.refl e24 f29 f26 (Or.inr ⟨(hw _ (List.mem_of_getElem? (i := 47) rfl)), rfl, hnm⟩) (hw _ (List.mem_of_getElem? (i := 30) rfl)) (ty := .int) (by decide) rfl rfl (g := (mkF m 24 #[.val (.ref a1), .val (.ref a2), .val (.int i0), .val (.int i1), .val (.int i2), .val (.int i3)] [(.int i1), (.ref a1)])) rfl rfl (hb hby d5_24)
  have f35 := Nat.le_trans f25 (Keep.of_wr W34).1
  have f36 := f26.wr W34
  have f37 := f27.wr W34 (Or.inl (by simp))
  have f38 := f28.wr W34
  have f39 := f30.other W34 (Or.inr (slot_ne (Or.inr (hw _ (List.mem_of_getElem? (i := 49) rfl))) (Or.inr (hw _ (List.mem_of_getElem? (i := 47) rfl))) (by decide) (t := .int) (t' := .int) (by decide) (by decide)))
  have f40 := f31.other W34 (Or.inr (slot_ne (Or.inr (hw _ (List.mem_of_getElem? (i := 51) rfl))) (Or.inr (hw _ (List.mem_of_getElem? (i := 47) rfl))) (by decide) (t := .int) (t' := .int) (by decide) (by decide)))
  have f41 := Nat.le_trans f32 (Keep.of_wr W34).1
  have f42 := f33.other W34 (Or.inr (slot_ne (Or.inr (hw _ (List.mem_of_getElem? (i := 43) rfl))) (Or.inr (hw _ (List.mem_of_getElem? (i := 47) rfl))) (by decide) (t := (.object "java/lang/String")) (t' := .int) (by decide) (by decide)))
  have f43 := Fw24.other W34 (Or.inr (slot_ne (Or.inr (hw _ (List.mem_of_getElem? (i := 45) rfl))) (Or.inr (hw _ (List.mem_of_getElem? (i := 47) rfl))) (by decide) (t := .int) (t' := .int) (by decide) (by decide)))
  have Fw34 := f29.same W34
  have N34 := Fr.snoc X34 N24 g1
  refine Ends.st (S' := T34.setTop (mkF m 27 #[.val (.ref a1), .val (.ref a2), .val (.int i0), .val (.int i1), .val (.int i2), .val (.int i3)] [])) (fun _ k => st34 _ k) ?_
  refine Ends.st (S' := T34.setTop (mkF m 28 #[.val (.ref a1), .val (.ref a2), .val (.int i0), .val (.int i1), .val (.int i2), .val (.int i3)] [(.ref a1)])) (fun _ k => XS.aloadN X34.here hx rfl (hb hby d5_27) rfl rfl k) ?_
  refine Ends.st (S' := T34.setTop (mkF m 30 #[.val (.ref a1), .val (.ref a2), .val (.int i0), .val (.int i1), .val (.int i2), .val (.int i3)] [(.int i2), (.ref a1)])) (fun _ k => XS.iload X34.here hx rfl (hb hby d5_28) rfl k) ?_
  obtain ⟨T44, h44, X44, e44, W44, st44⟩ := putF X34 hx hZ hown (host := "") (Or.inl (hw _ (List.mem_of_getElem? (i := 48) rfl))) Via.refl e34 f39 f36 (Or.inr ⟨(hw _ (List.mem_of_getElem? (i := 49) rfl)), rfl, hnm⟩) (hw _ (List.mem_of_getElem? (i := 30) rfl)) (ty := .int) (by decide) rfl rfl (g := (mkF m 30 #[.val (.ref a1), .val (.ref a2), .val (.int i0), .val (.int i1), .val (.int i2), .val (.int i3)] [(.int i2), (.ref a1)])) rfl rfl (hb hby d5_30)
  have f45 := Nat.le_trans f35 (Keep.of_wr W44).1
  have f46 := f36.wr W44
  have f47 := f37.wr W44 (Or.inl (by simp))
  have f48 := f38.wr W44
  have f49 := f40.other W44 (Or.inr (slot_ne (Or.inr (hw _ (List.mem_of_getElem? (i := 51) rfl))) (Or.inr (hw _ (List.mem_of_getElem? (i := 49) rfl))) (by decide) (t := .int) (t' := .int) (by decide) (by decide)))
  have f50 := Nat.le_trans f41 (Keep.of_wr W44).1
  have f51 := f42.other W44 (Or.inr (slot_ne (Or.inr (hw _ (List.mem_of_getElem? (i := 43) rfl))) (Or.inr (hw _ (List.mem_of_getElem? (i := 49) rfl))) (by decide) (t := (.object "java/lang/String")) (t' := .int) (by decide) (by decide)))
  have f52 := f43.other W44 (Or.inr (slot_ne (Or.inr (hw _ (List.mem_of_getElem? (i := 45) rfl))) (Or.inr (hw _ (List.mem_of_getElem? (i := 49) rfl))) (by decide) (t := .int) (t' := .int) (by decide) (by decide)))
  have f53 := Fw34.other W44 (Or.inr (slot_ne (Or.inr (hw _ (List.mem_of_getElem? (i := 47) rfl))) (Or.inr (hw _ (List.mem_of_getElem? (i := 49) rfl))) (by decide) (t := .int) (t' := .int) (by decide) (by decide)))
  have Fw44 := f39.same W44
  have N44 := Fr.snoc X44 N34 g1
  refine Ends.st (S' := T44.setTop (mkF m 33 #[.val (.ref a1), .val (.ref a2), .val (.int i0), .val (.int i1), .val (.int i2), .val (.int i3)] [])) (fun _ k => st44 _ k) ?_
  refine Ends.st (S' := T44.setTop (mkF m 34 #[.val (.ref a1), .val (.ref a2), .val (.int i0), .val (.int i1), .val (.int i2), .val (.int i3)] [(.ref a1)])) (fun _ k => XS.aloadN X44.here hx rfl (hb hby d5_33) rfl rfl k) ?_
  refine Ends.st (S' := T44.setTop (mkF m 36 #[.val (.ref a1), .val (.ref a2), .val (.int i0), .val (.int i1), .val (.int i2), .val (.int i3)] [(.int i3), (.ref a1)])) (fun _ k => XS.iload X44.here hx rfl (hb hby d5_34) rfl k) ?_
  obtain ⟨T54, h54, X54, e54, W54, st54⟩ := putF X44 hx hZ hown (host := "") (Or.inl (hw _ (List.mem_of_getElem? (i := 50) rfl))) Via.refl e44 f49 f46 (Or.inr ⟨(hw _ (List.mem_of_getElem? (i := 51) rfl)), rfl, hnm⟩) (hw _ (List.mem_of_getElem? (i := 30) rfl)) (ty := .int) (by decide) rfl rfl (g := (mkF m 36 #[.val (.ref a1), .val (.ref a2), .val (.int i0), .val (.int i1), .val (.int i2), .val (.int i3)] [(.int i3), (.ref a1)])) rfl rfl (hb hby d5_36)
  have f55 := Nat.le_trans f45 (Keep.of_wr W54).1
  have f56 := f46.wr W54
  have f57 := f47.wr W54 (Or.inl (by simp))
  have f58 := f48.wr W54
  have f59 := Nat.le_trans f50 (Keep.of_wr W54).1
  have f60 := f51.other W54 (Or.inr (slot_ne (Or.inr (hw _ (List.mem_of_getElem? (i := 43) rfl))) (Or.inr (hw _ (List.mem_of_getElem? (i := 51) rfl))) (by decide) (t := (.object "java/lang/String")) (t' := .int) (by decide) (by decide)))
  have f61 := f52.other W54 (Or.inr (slot_ne (Or.inr (hw _ (List.mem_of_getElem? (i := 45) rfl))) (Or.inr (hw _ (List.mem_of_getElem? (i := 51) rfl))) (by decide) (t := .int) (t' := .int) (by decide) (by decide)))
  have f62 := f53.other W54 (Or.inr (slot_ne (Or.inr (hw _ (List.mem_of_getElem? (i := 47) rfl))) (Or.inr (hw _ (List.mem_of_getElem? (i := 51) rfl))) (by decide) (t := .int) (t' := .int) (by decide) (by decide)))
  have f63 := Fw44.other W54 (Or.inr (slot_ne (Or.inr (hw _ (List.mem_of_getElem? (i := 49) rfl))) (Or.inr (hw _ (List.mem_of_getElem? (i := 51) rfl))) (by decide) (t := .int) (t' := .int) (by decide) (by decide)))
  have Fw54 := f49.same W54
  have N54 := Fr.snoc X54 N44 g1
  refine Ends.st (S' := T54.setTop (mkF m 39 #[.val (.ref a1), .val (.ref a2), .val (.int i0), .val (.int i1), .val (.int i2), .val (.int i3)] [])) (fun _ k => st54 _ k) ?_
  obtain ⟨fs, hr, hrun, hended, hRW⟩ := Stand.leaveW (s := s) (vm₁ := T2.vm) X54 hS2 (Nat.le_trans f59 (Nat.le_of_eq (congrArg Array.size (Eq.symm e54)))) (v := none) (fun _ => rfl)
  exact ⟨_, _, X54.returnOut hx Bd.returns (hb hby d5_39) hr, hrun, hended, _, _, rfl, (by show Q5 Z a1 a2 i0 i1 i2 i3 h0 n0 _ T54.heap _; rw [e54]; exact ⟨rfl, N54, f57, f60, f61, f62, f63, Fw54⟩), hRW.1, hRW.2.1, hRW.2.2.1, hRW.2.2.2.mono (by decide) (by decide)⟩
theorem ef_rm9a (m : MethodId) (x0 : Addr) (x1 : Addr)  : entryFrame m #[(.ref x0), (.ref x1)] 3 = mkF m 0 #[.val (.ref x0), .val (.ref x1), .unset] [] := by first | (simp [entryFrame, mkF, argsToLocals, Value.category]; done) | rfl
set_option maxRecDepth 65536 in
set_option maxHeartbeats 40000000 in
theorem rm9a (l : Launch) (Z : State) (a0 : Array Value) (hw : ∀ d ∈ tables_1, d.before a0 Z = true) (ws : List Jvm.Cond) (a1 : Addr) (a2 : Addr) (G : Int32) (xa : Addr) (ta : Addr) (ka : ClassId) (csa : List Int32) (Ma : Int32) (vsa : List Value) (ia0 : Int32) (ia1 : Int32) (ia2 : Int32) (ia3 : Int32) (xb : Addr) (tb : Addr) (kb : ClassId) (csb : List Int32) (Mb : Int32) (vsb : List Value) (ib0 : Int32) (ib1 : Int32) (ib2 : Int32) (ib3 : Int32) (h0 : Heap) (n0 : Nat) (Z0 : n0 ≤ h0.size) (Eb : Exa Z h0 a2 "com/example/umpteenth_copy/umpteenthcopy/engine/Passage") (Fsa : Fld Z h0 a1 "com/example/umpteenth_copy/umpteenthcopy/engine/Passage" "source" "Ljava/lang/String;" (.ref xa)) (Fia0 : Fld Z h0 a1 "com/example/umpteenth_copy/umpteenthcopy/engine/Passage" "start" "I" (.int ia0)) (Fia1 : Fld Z h0 a1 "com/example/umpteenth_copy/umpteenthcopy/engine/Passage" "end" "I" (.int ia1)) (Fia2 : Fld Z h0 a1 "com/example/umpteenth_copy/umpteenthcopy/engine/Passage" "sourceStart" "I" (.int ia2)) (Fia3 : Fld Z h0 a1 "com/example/umpteenth_copy/umpteenthcopy/engine/Passage" "sourceEnd" "I" (.int ia3)) (Esa : Exa Z h0 xa "java/lang/String") (Vsa : Fld Z h0 xa "java/lang/String" "value" "[B" (.ref ta)) (Csa : Fld Z h0 xa "java/lang/String" "coder" "B" (.int 0)) (Asa : Arv Z h0 ta ka .byte Ma vsa (.int 0)) (hca : StrChars.Road.CodA csa 0 Ma vsa) (hba : ∀ c ∈ csa, ¬ c < 0 ∧ ¬ (65535 : Int32) < c) (hla : csa.length ≤ 4000) (Fsb : Fld Z h0 a2 "com/example/umpteenth_copy/umpteenthcopy/engine/Passage" "source" "Ljava/lang/String;" (.ref xb)) (Fib0 : Fld Z h0 a2 "com/example/umpteenth_copy/umpteenthcopy/engine/Passage" "start" "I" (.int ib0)) (Fib1 : Fld Z h0 a2 "com/example/umpteenth_copy/umpteenthcopy/engine/Passage" "end" "I" (.int ib1)) (Fib2 : Fld Z h0 a2 "com/example/umpteenth_copy/umpteenthcopy/engine/Passage" "sourceStart" "I" (.int ib2)) (Fib3 : Fld Z h0 a2 "com/example/umpteenth_copy/umpteenthcopy/engine/Passage" "sourceEnd" "I" (.int ib3)) (Esb : Exa Z h0 xb "java/lang/String") (Vsb : Fld Z h0 xb "java/lang/String" "value" "[B" (.ref tb)) (Csb : Fld Z h0 xb "java/lang/String" "coder" "B" (.int 0)) (Asb : Arv Z h0 tb kb .byte Mb vsb (.int 0)) (hcb : StrChars.Road.CodA csb 0 Mb vsb) (hbb : ∀ c ∈ csb, ¬ c < 0 ∧ ¬ (65535 : Int32) < c) (hlb : csb.length ≤ 4000) (SC : Sta Z h0 "java/lang/String" "COMPACT_STRINGS" "Z" (.int G)) (hG : ¬ G = 0) :
    MetFree l (⟨"com/example/umpteenth_copy/umpteenthcopy/engine/Passage", "equals", "(Ljava/lang/Object;)Z"⟩ : MethodName) (head1 (Jvm.Cond.code (⟨"com/example/umpteenth_copy/umpteenthcopy/engine/Passage", "equals", "(Ljava/lang/Object;)Z"⟩ : MethodName) prog_16_method_7_code 3 (some .boolean) :: ws) ({ frames := 2, cells := 0, slots := 0, locals := 28 } : Room)) (fun a U => a = #[(.ref a1), (.ref a2)] ∧ Z.Warmed39 U.vm ∧ U.heap = h0) (fun _ _ _ _ _ => True) (fun _ U o U' => ∃ v L, o = .returned v ∧ Q9 Z (same9 csa csb ia0 ib0 ia1 ib1 ia2 ib2 ia3 ib3) h0 n0 v U'.heap L ∧ FrameEnd U o U' L ({ frames := 2, cells := 0, slots := 0, locals := 28 } : Room).cells ({ frames := 2, cells := 0, slots := 0, locals := 28 } : Room).slots) := by
  refine MetFree.of_bodySF (plainFor_of_name pn_9) hisR ?_
  intro p e s m args below meth c s₁ Bd hml0 hP hK
  obtain ⟨rfl, hZ, hh⟩ := hP
  have hx := Bd.exec
  have hby := Bd.bytes
  have hml : c.maxLocals = 3 := hml0
  have hown : s.vm.findClass "com/example/umpteenth_copy/umpteenthcopy/engine/Passage" = some m.cls := findClass_of_methodNamed Bd.named
  have hnm := (name_of_methodNamed Bd.named Bd.method).1
  have X0 : Stand p l e ({ frames := 2, cells := 0, slots := 0, locals := 28 } : Room) s m #[(.ref a1), (.ref a2)] below meth c s₁ [] 0 0 := Stand.of_body Bd
  have e0 : s₁.heap = h0 := by rw [← hh, Bd.state]; rfl
  have N0 := Fr.nil n0
  refine Ends.st (tb := p.tables) (e := e) (below := below) (S' := s₁.setTop (mkF m 0 #[.val (.ref a1), .val (.ref a2), .unset] [])) (fun t k => castTop (ef_rm9a m a1 a2) k) ?_
  refine Ends.st (S' := s₁.setTop (mkF m 1 #[.val (.ref a1), .val (.ref a2), .unset] [(.ref a2)])) (fun _ k => XS.aloadN X0.here hx rfl (hb hby d9_0) rfl rfl k) ?_
  obtain ⟨T1, X1, e1, st1⟩ := instY X0 hx hZ hown (hw _ (List.mem_of_getElem? (i := 70) rfl)) e0 (Ins.self Eb) (g := (mkF m 1 #[.val (.ref a1), .val (.ref a2), .unset] [(.ref a2)])) rfl rfl (hb hby d9_1)
  refine Ends.st (S' := T1.setTop (mkF m 4 #[.val (.ref a1), .val (.ref a2), .unset] [(.int (1 : Int32))])) (fun _ k => st1 _ k) ?_
  refine Ends.st (S' := T1.setTop (mkF m 9 #[.val (.ref a1), .val (.ref a2), .unset] [])) (fun _ k => XS.ifYes X1.here hx rfl (pc0 := 4) (pc' := 9) rfl (hb hby d9_4) rfl ((if0 _ _).trans (feq (by decide : ¬ ((1 : Int32) = (0 : Int32)))).2) (by decide) (by decide) k) ?_
  refine Ends.st (S' := T1.setTop (mkF m 10 #[.val (.ref a1), .val (.ref a2), .unset] [(.ref a2)])) (fun _ k => XS.aloadN X1.here hx rfl (hb hby d9_9) rfl rfl k) ?_
  obtain ⟨T2, X2, e2, st2⟩ := castY X1 hx hZ hown (hw _ (List.mem_of_getElem? (i := 70) rfl)) e1 (Ins.self Eb) (g := (mkF m 10 #[.val (.ref a1), .val (.ref a2), .unset] [(.ref a2)])) rfl rfl (hb hby d9_10)
  refine Ends.st (S' := T2.setTop (mkF m 13 #[.val (.ref a1), .val (.ref a2), .unset] [(.ref a2)])) (fun _ k => st2 _ k) ?_
  refine Ends.st (S' := T2.setTop (mkF m 14 #[.val (.ref a1), .val (.ref a2), .val (.ref a2)] [])) (fun _ k => XS.astoreN X2.here hx rfl (hb hby d9_13) rfl rfl (l' := #[.val (.ref a1), .val (.ref a2), .val (.ref a2)]) rfl k) ?_
  refine Ends.st (S' := T2.setTop (mkF m 15 #[.val (.ref a1), .val (.ref a2), .val (.ref a2)] [(.ref a1)])) (fun _ k => XS.aloadN X2.here hx rfl (hb hby d9_14) rfl rfl k) ?_
  obtain ⟨T3, X3, e3, st3⟩ := getF X2 hx hZ hown (host := "") (Or.inl (hw _ (List.mem_of_getElem? (i := 42) rfl))) Via.refl e2 (Fsa) (g := (mkF m 15 #[.val (.ref a1), .val (.ref a2), .val (.ref a2)] [(.ref a1)])) rfl rfl (hb hby d9_15)
  refine Ends.st (S' := T3.setTop (mkF m 18 #[.val (.ref a1), .val (.ref a2), .val (.ref a2)] [(.ref xa)])) (fun _ k => st3 _ k) ?_
  refine Ends.st (S' := T3.setTop (mkF m 19 #[.val (.ref a1), .val (.ref a2), .val (.ref a2)] [(.ref a2), (.ref xa)])) (fun _ k => XS.aloadN X3.here hx rfl (hb hby d9_18) rfl rfl k) ?_
  obtain ⟨T4, X4, e4, st4⟩ := getF X3 hx hZ hown (host := "") (Or.inl (hw _ (List.mem_of_getElem? (i := 42) rfl))) Via.refl e3 (Fsb) (g := (mkF m 19 #[.val (.ref a1), .val (.ref a2), .val (.ref a2)] [(.ref a2), (.ref xa)])) rfl rfl (hb hby d9_19)
  refine Ends.st (S' := T4.setTop (mkF m 22 #[.val (.ref a1), .val (.ref a2), .val (.ref a2)] [(.ref xb), (.ref xa)])) (fun _ k => st4 _ k) ?_
  have heq : ∀ d ∈ StrChars.Road.wordsEq, d.before a0 Z = true := fun d hd => hw d ((by decide +kernel : ∀ d ∈ StrChars.Road.wordsEq, d ∈ tables_1) d hd)
  obtain ⟨cq5, kq5, q5a, q5b, q5c⟩ := isOf hZ e4 (Esa)
  obtain ⟨_, _, ⟨T5, L5, k5, n5⟩, -, X5, ⟨Lc5, hQ5, l5, y5, z5⟩, st5⟩ := X4.virtualBack hx (y := (⟨"java/lang/String", "equals", "(Ljava/lang/Object;)Z"⟩ : MethodName)) (z := (⟨"java/lang/String", "equals", "(Ljava/lang/Object;)Z"⟩ : MethodName)) hown (mvT hZ (hw _ (List.mem_of_getElem? (i := 72) rfl))) (mvT hZ (hw _ (List.mem_of_getElem? (i := 54) rfl))) (notFace_of_selects (args := #[]) (mvT hZ (hw _ (List.mem_of_getElem? (i := 56) rfl)))) (mvT hZ (hw _ (List.mem_of_getElem? (i := 56) rfl))) (mvT hZ (hw _ (List.mem_of_getElem? (i := 55) rfl))) (by decide) (StrChars.Road.eqW (W := 0) hZ heq (kI := 4) (hw _ (List.mem_of_getElem? (i := 5) rfl)) Esa Vsa Csa Asa hca hba hla Esb Vsb Csb Asb hcb hbb hlb SC hG (by decide) (by decide)) q5a q5c (g := (mkF m 22 #[.val (.ref a1), .val (.ref a2), .val (.ref a2)] [(.ref xb), (.ref xa)])) rfl (by rw [hml]; rfl) (Steps.refl _) (argsL := [(.ref xb)]) (rest := []) (lenOf pd_3 rfl) rfl (by show 2 * 0 + _ ≤ _; exact Nat.le_of_eq rfl) (hb hby d9_22) (fun _ _ => ⟨rfl, e4, (by decide : 0 + 0 ≤ _), (by decide : 0 + 0 ≤ _)⟩)
  dsimp only [Pt.U, Pt.locs, Pt.cells, Pt.slots] at X5 l5 y5 z5 st5 hQ5
  subst l5 y5 z5
  obtain ⟨hE5, rfl, e5⟩ := hQ5
  have N5 := Fr.app N0 (Fr.nil n0)
  rcases hE5 with ⟨rfl, hcs5⟩ | ⟨rfl, hcs5⟩
  · refine Ends.st (S' := T5.setTop (mkF m 25 #[.val (.ref a1), .val (.ref a2), .val (.ref a2)] [(.int (1 : Int32))])) (fun _ k => st5.trans k) ?_
    refine Ends.st (S' := T5.setTop (mkF m 28 #[.val (.ref a1), .val (.ref a2), .val (.ref a2)] [])) (fun _ k => XS.ifNo X5.here hx rfl (hb hby d9_25) rfl ((if0 _ _).trans (feq (by decide : ¬ ((1 : Int32) = (0 : Int32)))).1) k) ?_
    refine Ends.st (S' := T5.setTop (mkF m 29 #[.val (.ref a1), .val (.ref a2), .val (.ref a2)] [(.ref a1)])) (fun _ k => XS.aloadN X5.here hx rfl (hb hby d9_28) rfl rfl k) ?_
    obtain ⟨T6, X6, e6, st6⟩ := getF X5 hx hZ hown (host := "") (Or.inl (hw _ (List.mem_of_getElem? (i := 44) rfl))) Via.refl e5 (Fia0) (g := (mkF m 29 #[.val (.ref a1), .val (.ref a2), .val (.ref a2)] [(.ref a1)])) rfl rfl (hb hby d9_29)
    refine Ends.st (S' := T6.setTop (mkF m 32 #[.val (.ref a1), .val (.ref a2), .val (.ref a2)] [(.int ia0)])) (fun _ k => st6 _ k) ?_
    refine Ends.st (S' := T6.setTop (mkF m 33 #[.val (.ref a1), .val (.ref a2), .val (.ref a2)] [(.ref a2), (.int ia0)])) (fun _ k => XS.aloadN X6.here hx rfl (hb hby d9_32) rfl rfl k) ?_
    obtain ⟨T7, X7, e7, st7⟩ := getF X6 hx hZ hown (host := "") (Or.inl (hw _ (List.mem_of_getElem? (i := 44) rfl))) Via.refl e6 (Fib0) (g := (mkF m 33 #[.val (.ref a1), .val (.ref a2), .val (.ref a2)] [(.ref a2), (.int ia0)])) rfl rfl (hb hby d9_33)
    refine Ends.st (S' := T7.setTop (mkF m 36 #[.val (.ref a1), .val (.ref a2), .val (.ref a2)] [(.int ib0), (.int ia0)])) (fun _ k => st7 _ k) ?_
    by_cases hc8 : ia0 = ib0
    · refine Ends.st (S' := T7.setTop (mkF m 39 #[.val (.ref a1), .val (.ref a2), .val (.ref a2)] [])) (fun _ k => XS.icmpNo X7.here hx rfl (hb hby d9_36) rfl (teq hc8).2 k) ?_
      refine Ends.st (S' := T7.setTop (mkF m 40 #[.val (.ref a1), .val (.ref a2), .val (.ref a2)] [(.ref a1)])) (fun _ k => XS.aloadN X7.here hx rfl (hb hby d9_39) rfl rfl k) ?_
      obtain ⟨T9, X9, e9, st9⟩ := getF X7 hx hZ hown (host := "") (Or.inl (hw _ (List.mem_of_getElem? (i := 46) rfl))) Via.refl e7 (Fia1) (g := (mkF m 40 #[.val (.ref a1), .val (.ref a2), .val (.ref a2)] [(.ref a1)])) rfl rfl (hb hby d9_40)
      refine Ends.st (S' := T9.setTop (mkF m 43 #[.val (.ref a1), .val (.ref a2), .val (.ref a2)] [(.int ia1)])) (fun _ k => st9 _ k) ?_
      refine Ends.st (S' := T9.setTop (mkF m 44 #[.val (.ref a1), .val (.ref a2), .val (.ref a2)] [(.ref a2), (.int ia1)])) (fun _ k => XS.aloadN X9.here hx rfl (hb hby d9_43) rfl rfl k) ?_
      obtain ⟨T10, X10, e10, st10⟩ := getF X9 hx hZ hown (host := "") (Or.inl (hw _ (List.mem_of_getElem? (i := 46) rfl))) Via.refl e9 (Fib1) (g := (mkF m 44 #[.val (.ref a1), .val (.ref a2), .val (.ref a2)] [(.ref a2), (.int ia1)])) rfl rfl (hb hby d9_44)
      refine Ends.st (S' := T10.setTop (mkF m 47 #[.val (.ref a1), .val (.ref a2), .val (.ref a2)] [(.int ib1), (.int ia1)])) (fun _ k => st10 _ k) ?_
      by_cases hc11 : ia1 = ib1
      · refine Ends.st (S' := T10.setTop (mkF m 50 #[.val (.ref a1), .val (.ref a2), .val (.ref a2)] [])) (fun _ k => XS.icmpNo X10.here hx rfl (hb hby d9_47) rfl (teq hc11).2 k) ?_
        refine Ends.st (S' := T10.setTop (mkF m 51 #[.val (.ref a1), .val (.ref a2), .val (.ref a2)] [(.ref a1)])) (fun _ k => XS.aloadN X10.here hx rfl (hb hby d9_50) rfl rfl k) ?_
        obtain ⟨T12, X12, e12, st12⟩ := getF X10 hx hZ hown (host := "") (Or.inl (hw _ (List.mem_of_getElem? (i := 48) rfl))) Via.refl e10 (Fia2) (g := (mkF m 51 #[.val (.ref a1), .val (.ref a2), .val (.ref a2)] [(.ref a1)])) rfl rfl (hb hby d9_51)
        refine Ends.st (S' := T12.setTop (mkF m 54 #[.val (.ref a1), .val (.ref a2), .val (.ref a2)] [(.int ia2)])) (fun _ k => st12 _ k) ?_
        refine Ends.st (S' := T12.setTop (mkF m 55 #[.val (.ref a1), .val (.ref a2), .val (.ref a2)] [(.ref a2), (.int ia2)])) (fun _ k => XS.aloadN X12.here hx rfl (hb hby d9_54) rfl rfl k) ?_
        obtain ⟨T13, X13, e13, st13⟩ := getF X12 hx hZ hown (host := "") (Or.inl (hw _ (List.mem_of_getElem? (i := 48) rfl))) Via.refl e12 (Fib2) (g := (mkF m 55 #[.val (.ref a1), .val (.ref a2), .val (.ref a2)] [(.ref a2), (.int ia2)])) rfl rfl (hb hby d9_55)
        refine Ends.st (S' := T13.setTop (mkF m 58 #[.val (.ref a1), .val (.ref a2), .val (.ref a2)] [(.int ib2), (.int ia2)])) (fun _ k => st13 _ k) ?_
        by_cases hc14 : ia2 = ib2
        · refine Ends.st (S' := T13.setTop (mkF m 61 #[.val (.ref a1), .val (.ref a2), .val (.ref a2)] [])) (fun _ k => XS.icmpNo X13.here hx rfl (hb hby d9_58) rfl (teq hc14).2 k) ?_
          refine Ends.st (S' := T13.setTop (mkF m 62 #[.val (.ref a1), .val (.ref a2), .val (.ref a2)] [(.ref a1)])) (fun _ k => XS.aloadN X13.here hx rfl (hb hby d9_61) rfl rfl k) ?_
          obtain ⟨T15, X15, e15, st15⟩ := getF X13 hx hZ hown (host := "") (Or.inl (hw _ (List.mem_of_getElem? (i := 50) rfl))) Via.refl e13 (Fia3) (g := (mkF m 62 #[.val (.ref a1), .val (.ref a2), .val (.ref a2)] [(.ref a1)])) rfl rfl (hb hby d9_62)
          refine Ends.st (S' := T15.setTop (mkF m 65 #[.val (.ref a1), .val (.ref a2), .val (.ref a2)] [(.int ia3)])) (fun _ k => st15 _ k) ?_
          refine Ends.st (S' := T15.setTop (mkF m 66 #[.val (.ref a1), .val (.ref a2), .val (.ref a2)] [(.ref a2), (.int ia3)])) (fun _ k => XS.aloadN X15.here hx rfl (hb hby d9_65) rfl rfl k) ?_
          obtain ⟨T16, X16, e16, st16⟩ := getF X15 hx hZ hown (host := "") (Or.inl (hw _ (List.mem_of_getElem? (i := 50) rfl))) Via.refl e15 (Fib3) (g := (mkF m 66 #[.val (.ref a1), .val (.ref a2), .val (.ref a2)] [(.ref a2), (.int ia3)])) rfl rfl (hb hby d9_66)
          refine Ends.st (S' := T16.setTop (mkF m 69 #[.val (.ref a1), .val (.ref a2), .val (.ref a2)] [(.int ib3), (.int ia3)])) (fun _ k => st16 _ k) ?_
          by_cases hc17 : ia3 = ib3
          · refine Ends.st (S' := T16.setTop (mkF m 72 #[.val (.ref a1), .val (.ref a2), .val (.ref a2)] [])) (fun _ k => XS.icmpNo X16.here hx rfl (hb hby d9_69) rfl (teq hc17).2 k) ?_
            refine Ends.st (S' := T16.setTop (mkF m 73 #[.val (.ref a1), .val (.ref a2), .val (.ref a2)] [(.int (1 : Int32))])) (fun _ k => XS.iconst X16.here hx rfl (hb hby d9_72) k) ?_
            refine Ends.st (S' := T16.setTop (mkF m 77 #[.val (.ref a1), .val (.ref a2), .val (.ref a2)] [(.int (1 : Int32))])) (fun _ k => XS.goto X16.here hx rfl (pc0 := 73) (pc' := 77) rfl (hb hby d9_73) (by decide) (by decide) k) ?_
            obtain ⟨fs, hr, hrun, hended, hW, hsame⟩ := X16.leave (v := some (.int (1 : Int32))) (fun h => by rw [Bd.returns] at h; cases h)
            exact ⟨_, _, retN X16 hx (t := .boolean) Bd.returns (by simp) (hb hby d9_77) hr, hrun, hended, _, _, rfl, (by show Q9 Z (same9 csa csb ia0 ib0 ia1 ib1 ia2 ib2 ia3 ib3) h0 n0 _ T16.heap _; rw [e16]; exact ⟨(congrArg (fun z => some (Value.int z)) (Eq.symm (if_pos ⟨hcs5, hc8, hc11, hc14, hc17⟩))), N5, rfl⟩), ⟨_, rfl⟩, hW, hsame.mono (by decide) (by decide)⟩
          · refine Ends.st (S' := T16.setTop (mkF m 76 #[.val (.ref a1), .val (.ref a2), .val (.ref a2)] [])) (fun _ k => XS.icmpYes X16.here hx rfl (pc0 := 69) (pc' := 76) rfl (hb hby d9_69) rfl (feq hc17).2 (by decide) (by decide) k) ?_
            refine Ends.st (S' := T16.setTop (mkF m 77 #[.val (.ref a1), .val (.ref a2), .val (.ref a2)] [(.int (0 : Int32))])) (fun _ k => XS.iconst X16.here hx rfl (hb hby d9_76) k) ?_
            obtain ⟨fs, hr, hrun, hended, hW, hsame⟩ := X16.leave (v := some (.int (0 : Int32))) (fun h => by rw [Bd.returns] at h; cases h)
            exact ⟨_, _, retN X16 hx (t := .boolean) Bd.returns (by simp) (hb hby d9_77) hr, hrun, hended, _, _, rfl, (by show Q9 Z (same9 csa csb ia0 ib0 ia1 ib1 ia2 ib2 ia3 ib3) h0 n0 _ T16.heap _; rw [e16]; exact ⟨(congrArg (fun z => some (Value.int z)) (Eq.symm (if_neg (fun q => hc17 q.2.2.2.2)))), N5, rfl⟩), ⟨_, rfl⟩, hW, hsame.mono (by decide) (by decide)⟩
        · refine Ends.st (S' := T13.setTop (mkF m 76 #[.val (.ref a1), .val (.ref a2), .val (.ref a2)] [])) (fun _ k => XS.icmpYes X13.here hx rfl (pc0 := 58) (pc' := 76) rfl (hb hby d9_58) rfl (feq hc14).2 (by decide) (by decide) k) ?_
          refine Ends.st (S' := T13.setTop (mkF m 77 #[.val (.ref a1), .val (.ref a2), .val (.ref a2)] [(.int (0 : Int32))])) (fun _ k => XS.iconst X13.here hx rfl (hb hby d9_76) k) ?_
          obtain ⟨fs, hr, hrun, hended, hW, hsame⟩ := X13.leave (v := some (.int (0 : Int32))) (fun h => by rw [Bd.returns] at h; cases h)
          exact ⟨_, _, retN X13 hx (t := .boolean) Bd.returns (by simp) (hb hby d9_77) hr, hrun, hended, _, _, rfl, (by show Q9 Z (same9 csa csb ia0 ib0 ia1 ib1 ia2 ib2 ia3 ib3) h0 n0 _ T13.heap _; rw [e13]; exact ⟨(congrArg (fun z => some (Value.int z)) (Eq.symm (if_neg (fun q => hc14 q.2.2.2.1)))), N5, rfl⟩), ⟨_, rfl⟩, hW, hsame.mono (by decide) (by decide)⟩
      · refine Ends.st (S' := T10.setTop (mkF m 76 #[.val (.ref a1), .val (.ref a2), .val (.ref a2)] [])) (fun _ k => XS.icmpYes X10.here hx rfl (pc0 := 47) (pc' := 76) rfl (hb hby d9_47) rfl (feq hc11).2 (by decide) (by decide) k) ?_
        refine Ends.st (S' := T10.setTop (mkF m 77 #[.val (.ref a1), .val (.ref a2), .val (.ref a2)] [(.int (0 : Int32))])) (fun _ k => XS.iconst X10.here hx rfl (hb hby d9_76) k) ?_
        obtain ⟨fs, hr, hrun, hended, hW, hsame⟩ := X10.leave (v := some (.int (0 : Int32))) (fun h => by rw [Bd.returns] at h; cases h)
        exact ⟨_, _, retN X10 hx (t := .boolean) Bd.returns (by simp) (hb hby d9_77) hr, hrun, hended, _, _, rfl, (by show Q9 Z (same9 csa csb ia0 ib0 ia1 ib1 ia2 ib2 ia3 ib3) h0 n0 _ T10.heap _; rw [e10]; exact ⟨(congrArg (fun z => some (Value.int z)) (Eq.symm (if_neg (fun q => hc11 q.2.2.1)))), N5, rfl⟩), ⟨_, rfl⟩, hW, hsame.mono (by decide) (by decide)⟩
    · refine Ends.st (S' := T7.setTop (mkF m 76 #[.val (.ref a1), .val (.ref a2), .val (.ref a2)] [])) (fun _ k => XS.icmpYes X7.here hx rfl (pc0 := 36) (pc' := 76) rfl (hb hby d9_36) rfl (feq hc8).2 (by decide) (by decide) k) ?_
      refine Ends.st (S' := T7.setTop (mkF m 77 #[.val (.ref a1), .val (.ref a2), .val (.ref a2)] [(.int (0 : Int32))])) (fun _ k => XS.iconst X7.here hx rfl (hb hby d9_76) k) ?_
      obtain ⟨fs, hr, hrun, hended, hW, hsame⟩ := X7.leave (v := some (.int (0 : Int32))) (fun h => by rw [Bd.returns] at h; cases h)
      exact ⟨_, _, retN X7 hx (t := .boolean) Bd.returns (by simp) (hb hby d9_77) hr, hrun, hended, _, _, rfl, (by show Q9 Z (same9 csa csb ia0 ib0 ia1 ib1 ia2 ib2 ia3 ib3) h0 n0 _ T7.heap _; rw [e7]; exact ⟨(congrArg (fun z => some (Value.int z)) (Eq.symm (if_neg (fun q => hc8 q.2.1)))), N5, rfl⟩), ⟨_, rfl⟩, hW, hsame.mono (by decide) (by decide)⟩
  · refine Ends.st (S' := T5.setTop (mkF m 25 #[.val (.ref a1), .val (.ref a2), .val (.ref a2)] [(.int (0 : Int32))])) (fun _ k => st5.trans k) ?_
    refine Ends.st (S' := T5.setTop (mkF m 76 #[.val (.ref a1), .val (.ref a2), .val (.ref a2)] [])) (fun _ k => XS.ifYes X5.here hx rfl (pc0 := 25) (pc' := 76) rfl (hb hby d9_25) rfl ((if0 _ _).trans (teq (by decide : (0 : Int32) = (0 : Int32))).1) (by decide) (by decide) k) ?_
    refine Ends.st (S' := T5.setTop (mkF m 77 #[.val (.ref a1), .val (.ref a2), .val (.ref a2)] [(.int (0 : Int32))])) (fun _ k => XS.iconst X5.here hx rfl (hb hby d9_76) k) ?_
    obtain ⟨fs, hr, hrun, hended, hW, hsame⟩ := X5.leave (v := some (.int (0 : Int32))) (fun h => by rw [Bd.returns] at h; cases h)
    exact ⟨_, _, retN X5 hx (t := .boolean) Bd.returns (by simp) (hb hby d9_77) hr, hrun, hended, _, _, rfl, (by show Q9 Z (same9 csa csb ia0 ib0 ia1 ib1 ia2 ib2 ia3 ib3) h0 n0 _ T5.heap _; rw [e5]; exact ⟨(congrArg (fun z => some (Value.int z)) (Eq.symm (if_neg (fun q => hcs5 q.1)))), N5, rfl⟩), ⟨_, rfl⟩, hW, hsame.mono (by decide) (by decide)⟩
theorem ef_rm9b (m : MethodId) (x0 : Addr)  : entryFrame m #[(.ref x0), .null] 3 = mkF m 0 #[.val (.ref x0), .val .null, .unset] [] := by first | (simp [entryFrame, mkF, argsToLocals, Value.category]; done) | rfl
set_option maxRecDepth 65536 in
set_option maxHeartbeats 40000000 in
theorem rm9b (l : Launch) (Z : State) (a0 : Array Value) (hw : ∀ d ∈ tables_1, d.before a0 Z = true) (ws : List Jvm.Cond) (a1 : Addr) (h0 : Heap) (n0 : Nat) (Z0 : n0 ≤ h0.size) :
    MetFree l (⟨"com/example/umpteenth_copy/umpteenthcopy/engine/Passage", "equals", "(Ljava/lang/Object;)Z"⟩ : MethodName) (head1 (Jvm.Cond.code (⟨"com/example/umpteenth_copy/umpteenthcopy/engine/Passage", "equals", "(Ljava/lang/Object;)Z"⟩ : MethodName) prog_16_method_7_code 3 (some .boolean) :: ws) ({ frames := 0, cells := 0, slots := 0, locals := 0 } : Room)) (fun a U => a = #[(.ref a1), .null] ∧ Z.Warmed39 U.vm ∧ U.heap = h0) (fun _ _ _ _ _ => True) (fun _ U o U' => ∃ v L, o = .returned v ∧ Q9 Z 0 h0 n0 v U'.heap L ∧ FrameEnd U o U' L ({ frames := 0, cells := 0, slots := 0, locals := 0 } : Room).cells ({ frames := 0, cells := 0, slots := 0, locals := 0 } : Room).slots) := by
  refine MetFree.of_bodySF (plainFor_of_name pn_9) hisR ?_
  intro p e s m args below meth c s₁ Bd hml0 hP hK
  obtain ⟨rfl, hZ, hh⟩ := hP
  have hx := Bd.exec
  have hby := Bd.bytes
  have hml : c.maxLocals = 3 := hml0
  have hown : s.vm.findClass "com/example/umpteenth_copy/umpteenthcopy/engine/Passage" = some m.cls := findClass_of_methodNamed Bd.named
  have hnm := (name_of_methodNamed Bd.named Bd.method).1
  have X0 : Stand p l e ({ frames := 0, cells := 0, slots := 0, locals := 0 } : Room) s m #[(.ref a1), .null] below meth c s₁ [] 0 0 := Stand.of_body Bd
  have e0 : s₁.heap = h0 := by rw [← hh, Bd.state]; rfl
  have N0 := Fr.nil n0
  refine Ends.st (tb := p.tables) (e := e) (below := below) (S' := s₁.setTop (mkF m 0 #[.val (.ref a1), .val .null, .unset] [])) (fun t k => castTop (ef_rm9b m a1) k) ?_
  refine Ends.st (S' := s₁.setTop (mkF m 1 #[.val (.ref a1), .val .null, .unset] [.null])) (fun _ k => XS.aloadN X0.here hx rfl (hb hby d9_0) rfl rfl k) ?_
  refine Ends.st (S' := s₁.setTop (mkF m 4 #[.val (.ref a1), .val .null, .unset] [(.int (0 : Int32))])) (fun _ k => X0.instanceofNull hx (g := (mkF m 1 #[.val (.ref a1), .val .null, .unset] [.null])) rfl rfl (hb hby d9_1) _ k) ?_
  refine Ends.st (S' := s₁.setTop (mkF m 7 #[.val (.ref a1), .val .null, .unset] [])) (fun _ k => XS.ifNo X0.here hx rfl (hb hby d9_4) rfl ((if0 _ _).trans (teq (by decide : (0 : Int32) = (0 : Int32))).2) k) ?_
  refine Ends.st (S' := s₁.setTop (mkF m 8 #[.val (.ref a1), .val .null, .unset] [(.int (0 : Int32))])) (fun _ k => XS.iconst X0.here hx rfl (hb hby d9_7) k) ?_
  obtain ⟨fs, hr, hrun, hended, hW, hsame⟩ := X0.leave (v := some (.int (0 : Int32))) (fun h => by rw [Bd.returns] at h; cases h)
  exact ⟨_, _, retN X0 hx (t := .boolean) Bd.returns (by simp) (hb hby d9_8) hr, hrun, hended, _, _, rfl, (by show Q9 Z 0 h0 n0 _ s₁.heap _; rw [e0]; exact ⟨rfl, N0, rfl⟩), ⟨_, rfl⟩, hW, hsame.mono (by decide) (by decide)⟩
theorem ef_rm9c (m : MethodId) (x0 : Addr) (x1 : Addr)  : entryFrame m #[(.ref x0), (.ref x1)] 3 = mkF m 0 #[.val (.ref x0), .val (.ref x1), .unset] [] := by first | (simp [entryFrame, mkF, argsToLocals, Value.category]; done) | rfl
set_option maxRecDepth 65536 in
set_option maxHeartbeats 40000000 in
theorem rm9c (l : Launch) (Z : State) (a0 : Array Value) (hw : ∀ d ∈ tables_1, d.before a0 Z = true) (ws : List Jvm.Cond) (a1 : Addr) (a2 : Addr) (h0 : Heap) (n0 : Nat) (Z0 : n0 ≤ h0.size) (Eb : Exa Z h0 a2 "java/lang/String") :
    MetFree l (⟨"com/example/umpteenth_copy/umpteenthcopy/engine/Passage", "equals", "(Ljava/lang/Object;)Z"⟩ : MethodName) (head1 (Jvm.Cond.code (⟨"com/example/umpteenth_copy/umpteenthcopy/engine/Passage", "equals", "(Ljava/lang/Object;)Z"⟩ : MethodName) prog_16_method_7_code 3 (some .boolean) :: ws) ({ frames := 0, cells := 0, slots := 0, locals := 0 } : Room)) (fun a U => a = #[(.ref a1), (.ref a2)] ∧ Z.Warmed39 U.vm ∧ U.heap = h0) (fun _ _ _ _ _ => True) (fun _ U o U' => ∃ v L, o = .returned v ∧ Q9 Z 0 h0 n0 v U'.heap L ∧ FrameEnd U o U' L ({ frames := 0, cells := 0, slots := 0, locals := 0 } : Room).cells ({ frames := 0, cells := 0, slots := 0, locals := 0 } : Room).slots) := by
  refine MetFree.of_bodySF (plainFor_of_name pn_9) hisR ?_
  intro p e s m args below meth c s₁ Bd hml0 hP hK
  obtain ⟨rfl, hZ, hh⟩ := hP
  have hx := Bd.exec
  have hby := Bd.bytes
  have hml : c.maxLocals = 3 := hml0
  have hown : s.vm.findClass "com/example/umpteenth_copy/umpteenthcopy/engine/Passage" = some m.cls := findClass_of_methodNamed Bd.named
  have hnm := (name_of_methodNamed Bd.named Bd.method).1
  have X0 : Stand p l e ({ frames := 0, cells := 0, slots := 0, locals := 0 } : Room) s m #[(.ref a1), (.ref a2)] below meth c s₁ [] 0 0 := Stand.of_body Bd
  have e0 : s₁.heap = h0 := by rw [← hh, Bd.state]; rfl
  have N0 := Fr.nil n0
  refine Ends.st (tb := p.tables) (e := e) (below := below) (S' := s₁.setTop (mkF m 0 #[.val (.ref a1), .val (.ref a2), .unset] [])) (fun t k => castTop (ef_rm9c m a1 a2) k) ?_
  refine Ends.st (S' := s₁.setTop (mkF m 1 #[.val (.ref a1), .val (.ref a2), .unset] [(.ref a2)])) (fun _ k => XS.aloadN X0.here hx rfl (hb hby d9_0) rfl rfl k) ?_
  obtain ⟨T1, X1, e1, st1⟩ := instNo X0 hx hZ hown (hw _ (List.mem_of_getElem? (i := 70) rfl)) e0 Eb (own_no (hw _ (List.mem_of_getElem? (i := 83) rfl)) (hw _ (List.mem_of_getElem? (i := 30) rfl)) (NS.step (hw _ (List.mem_of_getElem? (i := 83) rfl)) (own_root (hw _ (List.mem_of_getElem? (i := 84) rfl)) (hw _ (List.mem_of_getElem? (i := 30) rfl)) (by decide)) (by decide)) (by decide)) (g := (mkF m 1 #[.val (.ref a1), .val (.ref a2), .unset] [(.ref a2)])) rfl rfl (hb hby d9_1)
  refine Ends.st (S' := T1.setTop (mkF m 4 #[.val (.ref a1), .val (.ref a2), .unset] [(.int (0 : Int32))])) (fun _ k => st1 _ k) ?_
  refine Ends.st (S' := T1.setTop (mkF m 7 #[.val (.ref a1), .val (.ref a2), .unset] [])) (fun _ k => XS.ifNo X1.here hx rfl (hb hby d9_4) rfl ((if0 _ _).trans (teq (by decide : (0 : Int32) = (0 : Int32))).2) k) ?_
  refine Ends.st (S' := T1.setTop (mkF m 8 #[.val (.ref a1), .val (.ref a2), .unset] [(.int (0 : Int32))])) (fun _ k => XS.iconst X1.here hx rfl (hb hby d9_7) k) ?_
  obtain ⟨fs, hr, hrun, hended, hW, hsame⟩ := X1.leave (v := some (.int (0 : Int32))) (fun h => by rw [Bd.returns] at h; cases h)
  exact ⟨_, _, retN X1 hx (t := .boolean) Bd.returns (by simp) (hb hby d9_8) hr, hrun, hended, _, _, rfl, (by show Q9 Z 0 h0 n0 _ T1.heap _; rw [e1]; exact ⟨rfl, N0, rfl⟩), ⟨_, rfl⟩, hW, hsame.mono (by decide) (by decide)⟩
theorem ef_rm0 (m : MethodId) (x0 : Int32) (x1 : Int32) (x2 : Int32) (x3 : Int32) (x4 : Int32) (x5 : Int64)  : entryFrame m #[(.int x0), (.int x1), (.int x2), (.int x3), (.int x4), (.long x5)] maxLocals = mkF m 0 #[.val (.int x0), .val (.int x1), .val (.int x2), .val (.int x3), .val (.int x4), .val (.long x5), .second, .unset, .unset, .unset, .unset, .unset, .unset, .unset, .unset, .unset, .unset, .unset, .unset] [] := by first | (simp [entryFrame, mkF, argsToLocals, Value.category, maxLocals]; done) | rfl
set_option maxRecDepth 65536 in
set_option maxHeartbeats 40000000 in
theorem rm0 (l : Launch) (Z : State) (a0 : Array Value) (hw : ∀ d ∈ tables_1, d.before a0 Z = true) (ws : List Jvm.Cond) (v0 : Int32) (v1 : Int32) (v2 : Int32) (v3 : Int32) (v4 : Int32) (v5 : Int64) (G : Int32) (h0 : Heap) (n0 : Nat) (Z0 : n0 ≤ h0.size) (O0 : Old Z n0 h0) (SC : Sta Z Z.heap "java/lang/String" "COMPACT_STRINGS" "Z" (.int G)) (hG : ¬ G = 0) :
    MetFree l x (head1 (Jvm.Cond.code x code maxLocals ret :: ws) room_1) (fun a U => a = #[(.int v0), (.int v1), (.int v2), (.int v3), (.int v4), (.long v5)] ∧ Z.Warmed39 U.vm ∧ U.heap = h0 ∧ CHv Z EL0 U.vm h0) (fun _ _ _ _ _ => True) (fun _ U o U' => ∃ v L, o = .returned v ∧ Q0 Z  h0 n0 v U'.heap L ∧ ReturnedEndW U o U' L room_1.cells room_1.slots) := by
  refine MetFree.of_bodySF (plainFor_of_name pn_0) hisR ?_
  intro p e s m args below meth c s₁ Bd hml0 hP hK
  obtain ⟨rfl, hZ, hh, hC0⟩ := hP
  have hx := Bd.exec
  have hby := Bd.bytes
  have hml : c.maxLocals = 19 := hml0
  have hown : s.vm.findClass "com/example/umpteenth_copy/umpteenthcopy/engine/PassageEqualsPinLaw" = some m.cls := findClass_of_methodNamed Bd.named
  have hnm := (name_of_methodNamed Bd.named Bd.method).1
  have X0 : Stand p l e room_1 s m #[(.int v0), (.int v1), (.int v2), (.int v3), (.int v4), (.long v5)] below meth c s₁ [] 0 0 := Stand.of_body Bd
  have e0 : s₁.heap = h0 := by rw [← hh, Bd.state]; rfl
  have N0 := Fr.nil n0
  refine Ends.st (tb := p.tables) (e := e) (below := below) (S' := s₁.setTop (mkF m 0 #[.val (.int v0), .val (.int v1), .val (.int v2), .val (.int v3), .val (.int v4), .val (.long v5), .second, .unset, .unset, .unset, .unset, .unset, .unset, .unset, .unset, .unset, .unset, .unset, .unset] [])) (fun t k => castTop (ef_rm0 m v0 v1 v2 v3 v4 v5) k) ?_
  refine Ends.st (S' := s₁.setTop (mkF m 2 #[.val (.int v0), .val (.int v1), .val (.int v2), .val (.int v3), .val (.int v4), .val (.long v5), .second, .unset, .unset, .unset, .unset, .unset, .unset, .unset, .unset, .unset, .unset, .unset, .unset] [(.long v5)])) (fun _ k => XS.lload X0.here hx rfl (hb hby at_0) rfl k) ?_
  refine Ends.st (S' := s₁.setTop (mkF m 4 #[.val (.int v0), .val (.int v1), .val (.int v2), .val (.int v3), .val (.int v4), .val (.long v5), .second, .unset, .unset, .unset, .unset, .unset, .unset, .unset, .unset, .unset, .unset, .unset, .unset] [(.int (32 : Int32)), (.long v5)])) (fun _ k => XS.bipush X0.here hx rfl (hb hby at_2) k) ?_
  refine Ends.st (S' := s₁.setTop (mkF m 5 #[.val (.int v0), .val (.int v1), .val (.int v2), .val (.int v3), .val (.int v4), .val (.long v5), .second, .unset, .unset, .unset, .unset, .unset, .unset, .unset, .unset, .unset, .unset, .unset, .unset] [(.long ((v5.toUInt64 >>> ((32 : Int32) &&& 0x3f).toInt64.toUInt64).toInt64))])) (fun _ k => XS.lushr X0.here hx rfl (hb hby at_4) rfl k) ?_
  refine Ends.st (S' := s₁.setTop (mkF m 6 #[.val (.int v0), .val (.int v1), .val (.int v2), .val (.int v3), .val (.int v4), .val (.long v5), .second, .unset, .unset, .unset, .unset, .unset, .unset, .unset, .unset, .unset, .unset, .unset, .unset] [(.int (((v5.toUInt64 >>> ((32 : Int32) &&& 0x3f).toInt64.toUInt64).toInt64).toInt32))])) (fun _ k => XS.l2i X0.here hx rfl (hb hby at_5) rfl k) ?_
  refine Ends.st (S' := s₁.setTop (mkF m 8 #[.val (.int v0), .val (.int v1), .val (.int v2), .val (.int v3), .val (.int v4), .val (.long v5), .second, .val (.int (((v5.toUInt64 >>> ((32 : Int32) &&& 0x3f).toInt64.toUInt64).toInt64).toInt32)), .unset, .unset, .unset, .unset, .unset, .unset, .unset, .unset, .unset, .unset, .unset] [])) (fun _ k => XS.istore X0.here hx rfl (hb hby at_6) rfl (l' := #[.val (.int v0), .val (.int v1), .val (.int v2), .val (.int v3), .val (.int v4), .val (.long v5), .second, .val (.int (((v5.toUInt64 >>> ((32 : Int32) &&& 0x3f).toInt64.toUInt64).toInt64).toInt32)), .unset, .unset, .unset, .unset, .unset, .unset, .unset, .unset, .unset, .unset, .unset]) rfl k) ?_
  have j16 : ∀ dl : Int32, (¬ (dl = (0 : Int32))) → Ends p.tables e below (s₁.setTop (mkF m 16 #[.val (.int v0), .val (.int v1), .val (.int v2), .val (.int v3), .val (.int v4), .val (.long v5), .second, .val (.int dl), .unset, .unset, .unset, .unset, .unset, .unset, .unset, .unset, .unset, .unset, .unset] [])) (fun (s₂ : State) (o : Outcome) => s₂.status = .running ∧ Ended s₂ below o ∧ ∃ v L, o = .returned v ∧ Q0 Z  h0 n0 v s₂.heap L ∧ ReturnedEndW s o s₂ L room_1.cells room_1.slots) := by
    intro dl hdl
    refine Ends.st (S' := s₁.setTop (mkF m 18 #[.val (.int v0), .val (.int v1), .val (.int v2), .val (.int v3), .val (.int v4), .val (.long v5), .second, .val (.int dl), .unset, .unset, .unset, .unset, .unset, .unset, .unset, .unset, .unset, .unset, .unset] [(.int v4)])) (fun _ k => XS.iload X0.here hx rfl (hb hby at_16) rfl k) ?_
    refine Ends.st (S' := s₁.setTop (mkF m 20 #[.val (.int v0), .val (.int v1), .val (.int v2), .val (.int v3), .val (.int v4), .val (.long v5), .second, .val (.int dl), .unset, .unset, .unset, .unset, .unset, .unset, .unset, .unset, .unset, .unset, .unset] [(.int v4), (.int v4)])) (fun _ k => XS.iload X0.here hx rfl (hb hby at_18) rfl k) ?_
    refine Ends.st (S' := s₁.setTop (mkF m 22 #[.val (.int v0), .val (.int v1), .val (.int v2), .val (.int v3), .val (.int v4), .val (.long v5), .second, .val (.int dl), .unset, .unset, .unset, .unset, .unset, .unset, .unset, .unset, .unset, .unset, .unset] [(.int (8 : Int32)), (.int v4), (.int v4)])) (fun _ k => XS.bipush X0.here hx rfl (hb hby at_20) k) ?_
    refine Ends.st (S' := s₁.setTop (mkF m 23 #[.val (.int v0), .val (.int v1), .val (.int v2), .val (.int v3), .val (.int v4), .val (.long v5), .second, .val (.int dl), .unset, .unset, .unset, .unset, .unset, .unset, .unset, .unset, .unset, .unset, .unset] [(.int ((v4.toUInt32 >>> ((8 : Int32) &&& 31).toUInt32).toInt32)), (.int v4)])) (fun _ k => XS.iushr X0.here hx rfl (hb hby at_22) rfl k) ?_
    refine Ends.st (S' := s₁.setTop (mkF m 25 #[.val (.int v0), .val (.int v1), .val (.int v2), .val (.int v3), .val (.int v4), .val (.long v5), .second, .val (.int dl), .unset, .unset, .unset, .unset, .unset, .unset, .unset, .unset, .unset, .unset, .unset] [(.int v4), (.int ((v4.toUInt32 >>> ((8 : Int32) &&& 31).toUInt32).toInt32)), (.int v4)])) (fun _ k => XS.iload X0.here hx rfl (hb hby at_23) rfl k) ?_
    refine Ends.st (S' := s₁.setTop (mkF m 27 #[.val (.int v0), .val (.int v1), .val (.int v2), .val (.int v3), .val (.int v4), .val (.long v5), .second, .val (.int dl), .unset, .unset, .unset, .unset, .unset, .unset, .unset, .unset, .unset, .unset, .unset] [(.int (16 : Int32)), (.int v4), (.int ((v4.toUInt32 >>> ((8 : Int32) &&& 31).toUInt32).toInt32)), (.int v4)])) (fun _ k => XS.bipush X0.here hx rfl (hb hby at_25) k) ?_
    refine Ends.st (S' := s₁.setTop (mkF m 28 #[.val (.int v0), .val (.int v1), .val (.int v2), .val (.int v3), .val (.int v4), .val (.long v5), .second, .val (.int dl), .unset, .unset, .unset, .unset, .unset, .unset, .unset, .unset, .unset, .unset, .unset] [(.int ((v4.toUInt32 >>> ((16 : Int32) &&& 31).toUInt32).toInt32)), (.int ((v4.toUInt32 >>> ((8 : Int32) &&& 31).toUInt32).toInt32)), (.int v4)])) (fun _ k => XS.iushr X0.here hx rfl (hb hby at_27) rfl k) ?_
    obtain ⟨_, _, ⟨T1, L1, k1, n1⟩, -, X1, hS1r, hgr1, ⟨Lc1, hQ1, l1, y1, z1, hC1⟩, st1⟩ := callSS (s := s.setVm s.vm) X0 hx (y := (⟨"com/example/umpteenth_copy/umpteenthcopy/engine/PassageEqualsPinLaw", "str", "(III)Ljava/lang/String;"⟩ : MethodName)) hown (mvT hZ (hw _ (List.mem_of_getElem? (i := 0) rfl))) (mvT hZ (hw _ (List.mem_of_getElem? (i := 1) rfl))) (mvT hZ (hw _ (List.mem_of_getElem? (i := 2) rfl))) (mvT hZ (hw _ (List.mem_of_getElem? (i := 3) rfl))) (by decide) (backOfSH (s := s) (vm0 := s.vm) (W := 0) (rm1 l Z a0 hw [] v4 ((v4.toUInt32 >>> ((8 : Int32) &&& 31).toUInt32).toInt32) ((v4.toUInt32 >>> ((16 : Int32) &&& 31).toUInt32).toInt32) G h0 n0 Z0 O0 SC hG) hZ (hw _ (List.mem_of_getElem? (i := 3) rfl)) (hw _ (List.mem_of_getElem? (i := 2) rfl)) (by decide) (by decide) (own_EW hw) (CHr.refl hC0).1) (g := (mkF m 28 #[.val (.int v0), .val (.int v1), .val (.int v2), .val (.int v3), .val (.int v4), .val (.long v5), .second, .val (.int dl), .unset, .unset, .unset, .unset, .unset, .unset, .unset, .unset, .unset, .unset, .unset] [(.int ((v4.toUInt32 >>> ((16 : Int32) &&& 31).toUInt32).toInt32)), (.int ((v4.toUInt32 >>> ((8 : Int32) &&& 31).toUInt32).toInt32)), (.int v4)])) rfl (by rw [hml]; rfl) (argsL := [(.int v4), (.int ((v4.toUInt32 >>> ((8 : Int32) &&& 31).toUInt32).toInt32)), (.int ((v4.toUInt32 >>> ((16 : Int32) &&& 31).toUInt32).toInt32))]) (rest := []) (lenOf pd_4 rfl) rfl (by show 2 * 0 + _ ≤ _; exact Nat.le_of_eq rfl) (hb hby at_28) (fun _ _ => ⟨rfl, e0, (by decide : 0 + 6 ≤ _), (by decide : 0 + 16 ≤ _)⟩)
    dsimp only [Pt.U, Pt.locs, Pt.cells, Pt.slots] at X1 hS1r hgr1 l1 y1 z1 st1 hQ1 hC1
    subst l1 y1 z1
    obtain ⟨xa, ta, ka, Ma, vsa, rfl, N1q, K1, Esa, Vsa, Csa, Asa, hca⟩ := hQ1
    have N1 := Fr.app N0 N1q
    have hown : (s.setVm T1.vm).vm.findClass "com/example/umpteenth_copy/umpteenthcopy/engine/PassageEqualsPinLaw" = some m.cls := by rw [show (s.setVm T1.vm).vm = T1.vm from rfl, hS1r.1.alike.findClass]; exact hown
    have hZ : Z.Warmed39 (s.setVm T1.vm).vm := State.Warmed39.trans (t := s.setVm s.vm) hZ hS1r.1
    have X1 : Stand p l e room_1 (s.setVm T1.vm) m _ below meth c T1 _ _ _ := X1
    have hS1 : s.Since T1.vm T1.heap.size := State.Since.trans ((State.WarmedH.refl s).since 0) hS1r (Nat.le_trans (Nat.zero_le h0.size) (by have q := hgr1; rw [e0] at q; exact q))
    have f2 := Nat.le_trans Z0 K1.1
    have f3 := O0.keep K1 all0
    have hba := own_up16 _ (own_strsP v4 ((v4.toUInt32 >>> ((8 : Int32) &&& 31).toUInt32).toInt32) ((v4.toUInt32 >>> ((16 : Int32) &&& 31).toUInt32).toInt32))
    have hla := own_strsL v4 ((v4.toUInt32 >>> ((8 : Int32) &&& 31).toUInt32).toInt32) ((v4.toUInt32 >>> ((16 : Int32) &&& 31).toUInt32).toInt32)
    have C1 := CHr.trans (CHr.refl hC0) hC1
    refine Ends.st (S' := T1.setTop (mkF m 31 #[.val (.int v0), .val (.int v1), .val (.int v2), .val (.int v3), .val (.int v4), .val (.long v5), .second, .val (.int dl), .unset, .unset, .unset, .unset, .unset, .unset, .unset, .unset, .unset, .unset, .unset] [(.ref xa)])) (fun _ k => st1.trans k) ?_
    refine Ends.st (S' := T1.setTop (mkF m 33 #[.val (.int v0), .val (.int v1), .val (.int v2), .val (.int v3), .val (.int v4), .val (.long v5), .second, .val (.int dl), .val (.ref xa), .unset, .unset, .unset, .unset, .unset, .unset, .unset, .unset, .unset, .unset] [])) (fun _ k => XS.astore X1.here hx rfl (hb hby at_31) rfl rfl (l' := #[.val (.int v0), .val (.int v1), .val (.int v2), .val (.int v3), .val (.int v4), .val (.long v5), .second, .val (.int dl), .val (.ref xa), .unset, .unset, .unset, .unset, .unset, .unset, .unset, .unset, .unset, .unset]) rfl k) ?_
    refine Ends.st (S' := T1.setTop (mkF m 35 #[.val (.int v0), .val (.int v1), .val (.int v2), .val (.int v3), .val (.int v4), .val (.long v5), .second, .val (.int dl), .val (.ref xa), .unset, .unset, .unset, .unset, .unset, .unset, .unset, .unset, .unset, .unset] [(.long v5)])) (fun _ k => XS.lload X1.here hx rfl (hb hby at_33) rfl k) ?_
    refine Ends.st (S' := T1.setTop (mkF m 36 #[.val (.int v0), .val (.int v1), .val (.int v2), .val (.int v3), .val (.int v4), .val (.long v5), .second, .val (.int dl), .val (.ref xa), .unset, .unset, .unset, .unset, .unset, .unset, .unset, .unset, .unset, .unset] [(.int (4 : Int32)), (.long v5)])) (fun _ k => XS.iconst X1.here hx rfl (hb hby at_35) k) ?_
    refine Ends.st (S' := T1.setTop (mkF m 37 #[.val (.int v0), .val (.int v1), .val (.int v2), .val (.int v3), .val (.int v4), .val (.long v5), .second, .val (.int dl), .val (.ref xa), .unset, .unset, .unset, .unset, .unset, .unset, .unset, .unset, .unset, .unset] [(.long ((v5.toUInt64 >>> ((4 : Int32) &&& 0x3f).toInt64.toUInt64).toInt64))])) (fun _ k => XS.lushr X1.here hx rfl (hb hby at_36) rfl k) ?_
    refine Ends.st (S' := T1.setTop (mkF m 38 #[.val (.int v0), .val (.int v1), .val (.int v2), .val (.int v3), .val (.int v4), .val (.long v5), .second, .val (.int dl), .val (.ref xa), .unset, .unset, .unset, .unset, .unset, .unset, .unset, .unset, .unset, .unset] [(.long (1 : Int64)), (.long ((v5.toUInt64 >>> ((4 : Int32) &&& 0x3f).toInt64.toUInt64).toInt64))])) (fun _ k => XS.lconst X1.here hx rfl (hb hby at_37) k) ?_
    refine Ends.st (S' := T1.setTop (mkF m 39 #[.val (.int v0), .val (.int v1), .val (.int v2), .val (.int v3), .val (.int v4), .val (.long v5), .second, .val (.int dl), .val (.ref xa), .unset, .unset, .unset, .unset, .unset, .unset, .unset, .unset, .unset, .unset] [(.long (((v5.toUInt64 >>> ((4 : Int32) &&& 0x3f).toInt64.toUInt64).toInt64) &&& (1 : Int64)))])) (fun _ k => XS.land X1.here hx rfl (hb hby at_38) rfl k) ?_
    refine Ends.st (S' := T1.setTop (mkF m 40 #[.val (.int v0), .val (.int v1), .val (.int v2), .val (.int v3), .val (.int v4), .val (.long v5), .second, .val (.int dl), .val (.ref xa), .unset, .unset, .unset, .unset, .unset, .unset, .unset, .unset, .unset, .unset] [(.long (0 : Int64)), (.long (((v5.toUInt64 >>> ((4 : Int32) &&& 0x3f).toInt64.toUInt64).toInt64) &&& (1 : Int64)))])) (fun _ k => XS.lconst X1.here hx rfl (hb hby at_39) k) ?_
    refine Ends.st (S' := T1.setTop (mkF m 41 #[.val (.int v0), .val (.int v1), .val (.int v2), .val (.int v3), .val (.int v4), .val (.long v5), .second, .val (.int dl), .val (.ref xa), .unset, .unset, .unset, .unset, .unset, .unset, .unset, .unset, .unset, .unset] [(.int (lcmpW (((v5.toUInt64 >>> ((4 : Int32) &&& 0x3f).toInt64.toUInt64).toInt64) &&& (1 : Int64)) (0 : Int64)))])) (fun _ k => XS.lcmp X1.here hx rfl (hb hby at_40) rfl k) ?_
    by_cases hc4 : (lcmpW (((v5.toUInt64 >>> ((4 : Int32) &&& 0x3f).toInt64.toUInt64).toInt64) &&& (1 : Int64)) (0 : Int64)) = (0 : Int32)
    · refine Ends.st (S' := T1.setTop (mkF m 48 #[.val (.int v0), .val (.int v1), .val (.int v2), .val (.int v3), .val (.int v4), .val (.long v5), .second, .val (.int dl), .val (.ref xa), .unset, .unset, .unset, .unset, .unset, .unset, .unset, .unset, .unset, .unset] [])) (fun _ k => XS.ifYes X1.here hx rfl (pc0 := 41) (pc' := 48) rfl (hb hby at_41) rfl ((if0 _ _).trans (teq hc4).1) (by decide) (by decide) k) ?_
      refine Ends.st (S' := T1.setTop (mkF m 49 #[.val (.int v0), .val (.int v1), .val (.int v2), .val (.int v3), .val (.int v4), .val (.long v5), .second, .val (.int dl), .val (.ref xa), .unset, .unset, .unset, .unset, .unset, .unset, .unset, .unset, .unset, .unset] [(.int (0 : Int32))])) (fun _ k => XS.iconst X1.here hx rfl (hb hby at_48) k) ?_
      refine Ends.st (S' := T1.setTop (mkF m 51 #[.val (.int v0), .val (.int v1), .val (.int v2), .val (.int v3), .val (.int v4), .val (.long v5), .second, .val (.int dl), .val (.ref xa), .val (.int (0 : Int32)), .unset, .unset, .unset, .unset, .unset, .unset, .unset, .unset, .unset] [])) (fun _ k => XS.istore X1.here hx rfl (hb hby at_49) rfl (l' := #[.val (.int v0), .val (.int v1), .val (.int v2), .val (.int v3), .val (.int v4), .val (.long v5), .second, .val (.int dl), .val (.ref xa), .val (.int (0 : Int32)), .unset, .unset, .unset, .unset, .unset, .unset, .unset, .unset, .unset]) rfl k) ?_
      refine Ends.st (S' := T1.setTop (mkF m 53 #[.val (.int v0), .val (.int v1), .val (.int v2), .val (.int v3), .val (.int v4), .val (.long v5), .second, .val (.int dl), .val (.ref xa), .val (.int (0 : Int32)), .unset, .unset, .unset, .unset, .unset, .unset, .unset, .unset, .unset] [(.int (0 : Int32))])) (fun _ k => XS.iload X1.here hx rfl (hb hby at_51) rfl k) ?_
      refine Ends.st (S' := T1.setTop (mkF m 74 #[.val (.int v0), .val (.int v1), .val (.int v2), .val (.int v3), .val (.int v4), .val (.long v5), .second, .val (.int dl), .val (.ref xa), .val (.int (0 : Int32)), .unset, .unset, .unset, .unset, .unset, .unset, .unset, .unset, .unset] [])) (fun _ k => XS.ifYes X1.here hx rfl (pc0 := 53) (pc' := 74) rfl (hb hby at_53) rfl ((if0 _ _).trans (teq (by decide : (0 : Int32) = (0 : Int32))).1) (by decide) (by decide) k) ?_
      refine Ends.st (S' := T1.setTop (mkF m 76 #[.val (.int v0), .val (.int v1), .val (.int v2), .val (.int v3), .val (.int v4), .val (.long v5), .second, .val (.int dl), .val (.ref xa), .val (.int (0 : Int32)), .unset, .unset, .unset, .unset, .unset, .unset, .unset, .unset, .unset] [(.long v5)])) (fun _ k => XS.lload X1.here hx rfl (hb hby at_74) rfl k) ?_
      refine Ends.st (S' := T1.setTop (mkF m 78 #[.val (.int v0), .val (.int v1), .val (.int v2), .val (.int v3), .val (.int v4), .val (.long v5), .second, .val (.int dl), .val (.ref xa), .val (.int (0 : Int32)), .unset, .unset, .unset, .unset, .unset, .unset, .unset, .unset, .unset] [(.int (8 : Int32)), (.long v5)])) (fun _ k => XS.bipush X1.here hx rfl (hb hby at_76) k) ?_
      refine Ends.st (S' := T1.setTop (mkF m 79 #[.val (.int v0), .val (.int v1), .val (.int v2), .val (.int v3), .val (.int v4), .val (.long v5), .second, .val (.int dl), .val (.ref xa), .val (.int (0 : Int32)), .unset, .unset, .unset, .unset, .unset, .unset, .unset, .unset, .unset] [(.long ((v5.toUInt64 >>> ((8 : Int32) &&& 0x3f).toInt64.toUInt64).toInt64))])) (fun _ k => XS.lushr X1.here hx rfl (hb hby at_78) rfl k) ?_
      refine Ends.st (S' := T1.setTop (mkF m 80 #[.val (.int v0), .val (.int v1), .val (.int v2), .val (.int v3), .val (.int v4), .val (.long v5), .second, .val (.int dl), .val (.ref xa), .val (.int (0 : Int32)), .unset, .unset, .unset, .unset, .unset, .unset, .unset, .unset, .unset] [(.int (((v5.toUInt64 >>> ((8 : Int32) &&& 0x3f).toInt64.toUInt64).toInt64).toInt32))])) (fun _ k => XS.l2i X1.here hx rfl (hb hby at_79) rfl k) ?_
      refine Ends.st (S' := T1.setTop (mkF m 82 #[.val (.int v0), .val (.int v1), .val (.int v2), .val (.int v3), .val (.int v4), .val (.long v5), .second, .val (.int dl), .val (.ref xa), .val (.int (0 : Int32)), .unset, .unset, .unset, .unset, .unset, .unset, .unset, .unset, .unset] [(.long v5), (.int (((v5.toUInt64 >>> ((8 : Int32) &&& 0x3f).toInt64.toUInt64).toInt64).toInt32))])) (fun _ k => XS.lload X1.here hx rfl (hb hby at_80) rfl k) ?_
      refine Ends.st (S' := T1.setTop (mkF m 84 #[.val (.int v0), .val (.int v1), .val (.int v2), .val (.int v3), .val (.int v4), .val (.long v5), .second, .val (.int dl), .val (.ref xa), .val (.int (0 : Int32)), .unset, .unset, .unset, .unset, .unset, .unset, .unset, .unset, .unset] [(.int (10 : Int32)), (.long v5), (.int (((v5.toUInt64 >>> ((8 : Int32) &&& 0x3f).toInt64.toUInt64).toInt64).toInt32))])) (fun _ k => XS.bipush X1.here hx rfl (hb hby at_82) k) ?_
      refine Ends.st (S' := T1.setTop (mkF m 85 #[.val (.int v0), .val (.int v1), .val (.int v2), .val (.int v3), .val (.int v4), .val (.long v5), .second, .val (.int dl), .val (.ref xa), .val (.int (0 : Int32)), .unset, .unset, .unset, .unset, .unset, .unset, .unset, .unset, .unset] [(.long ((v5.toUInt64 >>> ((10 : Int32) &&& 0x3f).toInt64.toUInt64).toInt64)), (.int (((v5.toUInt64 >>> ((8 : Int32) &&& 0x3f).toInt64.toUInt64).toInt64).toInt32))])) (fun _ k => XS.lushr X1.here hx rfl (hb hby at_84) rfl k) ?_
      refine Ends.st (S' := T1.setTop (mkF m 86 #[.val (.int v0), .val (.int v1), .val (.int v2), .val (.int v3), .val (.int v4), .val (.long v5), .second, .val (.int dl), .val (.ref xa), .val (.int (0 : Int32)), .unset, .unset, .unset, .unset, .unset, .unset, .unset, .unset, .unset] [(.int (((v5.toUInt64 >>> ((10 : Int32) &&& 0x3f).toInt64.toUInt64).toInt64).toInt32)), (.int (((v5.toUInt64 >>> ((8 : Int32) &&& 0x3f).toInt64.toUInt64).toInt64).toInt32))])) (fun _ k => XS.l2i X1.here hx rfl (hb hby at_85) rfl k) ?_
      refine Ends.st (S' := T1.setTop (mkF m 88 #[.val (.int v0), .val (.int v1), .val (.int v2), .val (.int v3), .val (.int v4), .val (.long v5), .second, .val (.int dl), .val (.ref xa), .val (.int (0 : Int32)), .unset, .unset, .unset, .unset, .unset, .unset, .unset, .unset, .unset] [(.long v5), (.int (((v5.toUInt64 >>> ((10 : Int32) &&& 0x3f).toInt64.toUInt64).toInt64).toInt32)), (.int (((v5.toUInt64 >>> ((8 : Int32) &&& 0x3f).toInt64.toUInt64).toInt64).toInt32))])) (fun _ k => XS.lload X1.here hx rfl (hb hby at_86) rfl k) ?_
      refine Ends.st (S' := T1.setTop (mkF m 90 #[.val (.int v0), .val (.int v1), .val (.int v2), .val (.int v3), .val (.int v4), .val (.long v5), .second, .val (.int dl), .val (.ref xa), .val (.int (0 : Int32)), .unset, .unset, .unset, .unset, .unset, .unset, .unset, .unset, .unset] [(.int (18 : Int32)), (.long v5), (.int (((v5.toUInt64 >>> ((10 : Int32) &&& 0x3f).toInt64.toUInt64).toInt64).toInt32)), (.int (((v5.toUInt64 >>> ((8 : Int32) &&& 0x3f).toInt64.toUInt64).toInt64).toInt32))])) (fun _ k => XS.bipush X1.here hx rfl (hb hby at_88) k) ?_
      refine Ends.st (S' := T1.setTop (mkF m 91 #[.val (.int v0), .val (.int v1), .val (.int v2), .val (.int v3), .val (.int v4), .val (.long v5), .second, .val (.int dl), .val (.ref xa), .val (.int (0 : Int32)), .unset, .unset, .unset, .unset, .unset, .unset, .unset, .unset, .unset] [(.long ((v5.toUInt64 >>> ((18 : Int32) &&& 0x3f).toInt64.toUInt64).toInt64)), (.int (((v5.toUInt64 >>> ((10 : Int32) &&& 0x3f).toInt64.toUInt64).toInt64).toInt32)), (.int (((v5.toUInt64 >>> ((8 : Int32) &&& 0x3f).toInt64.toUInt64).toInt64).toInt32))])) (fun _ k => XS.lushr X1.here hx rfl (hb hby at_90) rfl k) ?_
      refine Ends.st (S' := T1.setTop (mkF m 92 #[.val (.int v0), .val (.int v1), .val (.int v2), .val (.int v3), .val (.int v4), .val (.long v5), .second, .val (.int dl), .val (.ref xa), .val (.int (0 : Int32)), .unset, .unset, .unset, .unset, .unset, .unset, .unset, .unset, .unset] [(.int (((v5.toUInt64 >>> ((18 : Int32) &&& 0x3f).toInt64.toUInt64).toInt64).toInt32)), (.int (((v5.toUInt64 >>> ((10 : Int32) &&& 0x3f).toInt64.toUInt64).toInt64).toInt32)), (.int (((v5.toUInt64 >>> ((8 : Int32) &&& 0x3f).toInt64.toUInt64).toInt64).toInt32))])) (fun _ k => XS.l2i X1.here hx rfl (hb hby at_91) rfl k) ?_
      obtain ⟨_, _, ⟨T5, L5, k5, n5⟩, -, X5, hS5r, hgr5, ⟨Lc5, hQ5, l5, y5, z5, hC5⟩, st5⟩ := callSS (s := s.setVm T1.vm) X1 hx (y := (⟨"com/example/umpteenth_copy/umpteenthcopy/engine/PassageEqualsPinLaw", "str", "(III)Ljava/lang/String;"⟩ : MethodName)) hown (mvT hZ (hw _ (List.mem_of_getElem? (i := 0) rfl))) (mvT hZ (hw _ (List.mem_of_getElem? (i := 1) rfl))) (mvT hZ (hw _ (List.mem_of_getElem? (i := 2) rfl))) (mvT hZ (hw _ (List.mem_of_getElem? (i := 3) rfl))) (by decide) (backOfSH (s := s) (vm0 := T1.vm) (W := 0) (rm1 l Z a0 hw [] (((v5.toUInt64 >>> ((8 : Int32) &&& 0x3f).toInt64.toUInt64).toInt64).toInt32) (((v5.toUInt64 >>> ((10 : Int32) &&& 0x3f).toInt64.toUInt64).toInt64).toInt32) (((v5.toUInt64 >>> ((18 : Int32) &&& 0x3f).toInt64.toUInt64).toInt64).toInt32) G T1.heap n0 f2 f3 SC hG) hZ (hw _ (List.mem_of_getElem? (i := 3) rfl)) (hw _ (List.mem_of_getElem? (i := 2) rfl)) (by decide) (by decide) (own_EW hw) C1.1) (g := (mkF m 92 #[.val (.int v0), .val (.int v1), .val (.int v2), .val (.int v3), .val (.int v4), .val (.long v5), .second, .val (.int dl), .val (.ref xa), .val (.int (0 : Int32)), .unset, .unset, .unset, .unset, .unset, .unset, .unset, .unset, .unset] [(.int (((v5.toUInt64 >>> ((18 : Int32) &&& 0x3f).toInt64.toUInt64).toInt64).toInt32)), (.int (((v5.toUInt64 >>> ((10 : Int32) &&& 0x3f).toInt64.toUInt64).toInt64).toInt32)), (.int (((v5.toUInt64 >>> ((8 : Int32) &&& 0x3f).toInt64.toUInt64).toInt64).toInt32))])) rfl (by rw [hml]; rfl) (argsL := [(.int (((v5.toUInt64 >>> ((8 : Int32) &&& 0x3f).toInt64.toUInt64).toInt64).toInt32)), (.int (((v5.toUInt64 >>> ((10 : Int32) &&& 0x3f).toInt64.toUInt64).toInt64).toInt32)), (.int (((v5.toUInt64 >>> ((18 : Int32) &&& 0x3f).toInt64.toUInt64).toInt64).toInt32))]) (rest := []) (lenOf pd_4 rfl) rfl (by show 2 * 0 + _ ≤ _; exact Nat.le_of_eq rfl) (hb hby at_92) (fun _ _ => ⟨rfl, rfl, (by decide : 0 + 6 + 6 ≤ _), (by decide : 0 + 16 + 16 ≤ _)⟩)
      dsimp only [Pt.U, Pt.locs, Pt.cells, Pt.slots] at X5 hS5r hgr5 l5 y5 z5 st5 hQ5 hC5
      subst l5 y5 z5
      obtain ⟨xb, tb, kb, Mb, vsb, rfl, N5q, K5, Esb, Vsb, Csb, Asb, hcb⟩ := hQ5
      have N5 := Fr.app N1 N5q
      have hown : (s.setVm T5.vm).vm.findClass "com/example/umpteenth_copy/umpteenthcopy/engine/PassageEqualsPinLaw" = some m.cls := by rw [show (s.setVm T5.vm).vm = T5.vm from rfl, hS5r.1.alike.findClass]; exact hown
      have hZ : Z.Warmed39 (s.setVm T5.vm).vm := State.Warmed39.trans (t := s.setVm T1.vm) hZ hS5r.1
      have X5 : Stand p l e room_1 (s.setVm T5.vm) m _ below meth c T5 _ _ _ := X5
      have hS5 : s.Since T5.vm T5.heap.size := State.Since.trans hS1 hS5r (Nat.le_trans (Nat.le_refl T1.heap.size) hgr5)
      have f6 := Nat.le_trans f2 K5.1
      have f7 := f3.keep K5 all0
      have f8 := Esa.keep K5
      have f9 := Vsa.keep K5 nin0
      have f10 := Csa.keep K5 nin0
      have f11 := Asa.keep K5 nin0
      have hbb := own_up16 _ (own_strsP (((v5.toUInt64 >>> ((8 : Int32) &&& 0x3f).toInt64.toUInt64).toInt64).toInt32) (((v5.toUInt64 >>> ((10 : Int32) &&& 0x3f).toInt64.toUInt64).toInt64).toInt32) (((v5.toUInt64 >>> ((18 : Int32) &&& 0x3f).toInt64.toUInt64).toInt64).toInt32))
      have hlb := own_strsL (((v5.toUInt64 >>> ((8 : Int32) &&& 0x3f).toInt64.toUInt64).toInt64).toInt32) (((v5.toUInt64 >>> ((10 : Int32) &&& 0x3f).toInt64.toUInt64).toInt64).toInt32) (((v5.toUInt64 >>> ((18 : Int32) &&& 0x3f).toInt64.toUInt64).toInt64).toInt32)
      have C5 := CHr.trans C1 hC5
      refine Ends.st (S' := T5.setTop (mkF m 95 #[.val (.int v0), .val (.int v1), .val (.int v2), .val (.int v3), .val (.int v4), .val (.long v5), .second, .val (.int dl), .val (.ref xa), .val (.int (0 : Int32)), .unset, .unset, .unset, .unset, .unset, .unset, .unset, .unset, .unset] [(.ref xb)])) (fun _ k => st5.trans k) ?_
      refine Ends.st (S' := T5.setTop (mkF m 97 #[.val (.int v0), .val (.int v1), .val (.int v2), .val (.int v3), .val (.int v4), .val (.long v5), .second, .val (.int dl), .val (.ref xa), .val (.int (0 : Int32)), .val (.ref xb), .unset, .unset, .unset, .unset, .unset, .unset, .unset, .unset] [])) (fun _ k => XS.astore X5.here hx rfl (hb hby at_95) rfl rfl (l' := #[.val (.int v0), .val (.int v1), .val (.int v2), .val (.int v3), .val (.int v4), .val (.long v5), .second, .val (.int dl), .val (.ref xa), .val (.int (0 : Int32)), .val (.ref xb), .unset, .unset, .unset, .unset, .unset, .unset, .unset, .unset]) rfl k) ?_
      have j116 : ∀ a2 : Int32, (a2 = v0 ↔ (lcmpW (v5 &&& (1 : Int64)) (0 : Int64)) = (0 : Int32)) → Ends p.tables e below (T5.setTop (mkF m 116 #[.val (.int v0), .val (.int v1), .val (.int v2), .val (.int v3), .val (.int v4), .val (.long v5), .second, .val (.int dl), .val (.ref xa), .val (.int (0 : Int32)), .val (.ref xb), .val (.int a2), .unset, .unset, .unset, .unset, .unset, .unset, .unset] [])) (fun (s₂ : State) (o : Outcome) => s₂.status = .running ∧ Ended s₂ below o ∧ ∃ v L, o = .returned v ∧ Q0 Z  h0 n0 v s₂.heap L ∧ ReturnedEndW s o s₂ L room_1.cells room_1.slots) := by
        intro a2 ha2
        have j137 : ∀ b2 : Int32, (b2 = v1 ↔ (lcmpW (v5 &&& (2 : Int64)) (0 : Int64)) = (0 : Int32)) → Ends p.tables e below (T5.setTop (mkF m 137 #[.val (.int v0), .val (.int v1), .val (.int v2), .val (.int v3), .val (.int v4), .val (.long v5), .second, .val (.int dl), .val (.ref xa), .val (.int (0 : Int32)), .val (.ref xb), .val (.int a2), .val (.int b2), .unset, .unset, .unset, .unset, .unset, .unset] [])) (fun (s₂ : State) (o : Outcome) => s₂.status = .running ∧ Ended s₂ below o ∧ ∃ v L, o = .returned v ∧ Q0 Z  h0 n0 v s₂.heap L ∧ ReturnedEndW s o s₂ L room_1.cells room_1.slots) := by
          intro b2 hb2
          have j158 : ∀ c2 : Int32, (c2 = v2 ↔ (lcmpW (v5 &&& (4 : Int64)) (0 : Int64)) = (0 : Int32)) → Ends p.tables e below (T5.setTop (mkF m 158 #[.val (.int v0), .val (.int v1), .val (.int v2), .val (.int v3), .val (.int v4), .val (.long v5), .second, .val (.int dl), .val (.ref xa), .val (.int (0 : Int32)), .val (.ref xb), .val (.int a2), .val (.int b2), .val (.int c2), .unset, .unset, .unset, .unset, .unset] [])) (fun (s₂ : State) (o : Outcome) => s₂.status = .running ∧ Ended s₂ below o ∧ ∃ v L, o = .returned v ∧ Q0 Z  h0 n0 v s₂.heap L ∧ ReturnedEndW s o s₂ L room_1.cells room_1.slots) := by
            intro c2 hc2
            have j179 : ∀ d2 : Int32, (d2 = v3 ↔ (lcmpW (v5 &&& (8 : Int64)) (0 : Int64)) = (0 : Int32)) → Ends p.tables e below (T5.setTop (mkF m 179 #[.val (.int v0), .val (.int v1), .val (.int v2), .val (.int v3), .val (.int v4), .val (.long v5), .second, .val (.int dl), .val (.ref xa), .val (.int (0 : Int32)), .val (.ref xb), .val (.int a2), .val (.int b2), .val (.int c2), .val (.int d2), .unset, .unset, .unset, .unset] [])) (fun (s₂ : State) (o : Outcome) => s₂.status = .running ∧ Ended s₂ below o ∧ ∃ v L, o = .returned v ∧ Q0 Z  h0 n0 v s₂.heap L ∧ ReturnedEndW s o s₂ L room_1.cells room_1.slots) := by
              intro d2 hd2
              obtain ⟨T12, h12, X12, e12, E12, A12, D12, -, st12⟩ := newO X5 hx hZ hown (hw _ (List.mem_of_getElem? (i := 29) rfl)) (hw _ (List.mem_of_getElem? (i := 30) rfl)) (hw _ (List.mem_of_getElem? (i := 31) rfl)) rfl (g := (mkF m 179 #[.val (.int v0), .val (.int v1), .val (.int v2), .val (.int v3), .val (.int v4), .val (.long v5), .second, .val (.int dl), .val (.ref xa), .val (.int (0 : Int32)), .val (.ref xb), .val (.int a2), .val (.int b2), .val (.int c2), .val (.int d2), .unset, .unset, .unset, .unset] [])) rfl (hb hby at_179) (by decide) (by decide)
              obtain ⟨b12, g12⟩ : ∃ z, z = T5.heap.size := ⟨_, rfl⟩
              rw [← g12] at A12 D12 st12
              have ne13 : xa ≠ b12 := Nat.ne_of_lt (Nat.lt_of_lt_of_le f8.lt (Nat.le_of_eq g12.symm))
              have ne14 : ta ≠ b12 := Nat.ne_of_lt (Nat.lt_of_lt_of_le f11.lt (Nat.le_of_eq g12.symm))
              have ne15 : xb ≠ b12 := Nat.ne_of_lt (Nat.lt_of_lt_of_le Esb.lt (Nat.le_of_eq g12.symm))
              have ne16 : tb ≠ b12 := Nat.ne_of_lt (Nat.lt_of_lt_of_le Asb.lt (Nat.le_of_eq g12.symm))
              have g_b12 : n0 ≤ b12 := Nat.le_trans f6 (Nat.le_of_eq g12.symm)
              have f17 := Nat.le_trans f6 E12.1
              have f18 := f7.ext E12
              have f19 := f8.ext E12
              have f20 := f9.ext E12
              have f21 := f10.ext E12
              have f22 := f11.ext E12
              have f23 := Esb.ext E12
              have f24 := Vsb.ext E12
              have f25 := Csb.ext E12
              have f26 := Asb.ext E12
              have f27 := Nat.le_trans (Nat.le_refl T5.heap.size) E12.1
              have f28 := CHr.trans C5 (CHr.ext E12 C5.1)
              have F29 : Fld Z h12 b12 "com/example/umpteenth_copy/umpteenthcopy/engine/Passage" "source" "Ljava/lang/String;" .null := D12 (Or.inr (hw _ (List.mem_of_getElem? (i := 43) rfl))) (ty := (.object "java/lang/String")) (by decide)
              have F30 : Fld Z h12 b12 "com/example/umpteenth_copy/umpteenthcopy/engine/Passage" "start" "I" (.int (0 : Int32)) := D12 (Or.inr (hw _ (List.mem_of_getElem? (i := 45) rfl))) (ty := .int) (by decide)
              have F31 : Fld Z h12 b12 "com/example/umpteenth_copy/umpteenthcopy/engine/Passage" "end" "I" (.int (0 : Int32)) := D12 (Or.inr (hw _ (List.mem_of_getElem? (i := 47) rfl))) (ty := .int) (by decide)
              have F32 : Fld Z h12 b12 "com/example/umpteenth_copy/umpteenthcopy/engine/Passage" "sourceStart" "I" (.int (0 : Int32)) := D12 (Or.inr (hw _ (List.mem_of_getElem? (i := 49) rfl))) (ty := .int) (by decide)
              have F33 : Fld Z h12 b12 "com/example/umpteenth_copy/umpteenthcopy/engine/Passage" "sourceEnd" "I" (.int (0 : Int32)) := D12 (Or.inr (hw _ (List.mem_of_getElem? (i := 51) rfl))) (ty := .int) (by decide)
              refine Ends.st (S' := T12.setTop (mkF m 182 #[.val (.int v0), .val (.int v1), .val (.int v2), .val (.int v3), .val (.int v4), .val (.long v5), .second, .val (.int dl), .val (.ref xa), .val (.int (0 : Int32)), .val (.ref xb), .val (.int a2), .val (.int b2), .val (.int c2), .val (.int d2), .unset, .unset, .unset, .unset] [(.ref b12)])) (fun _ k => st12 _ k) ?_
              refine Ends.st (S' := T12.setTop (mkF m 183 #[.val (.int v0), .val (.int v1), .val (.int v2), .val (.int v3), .val (.int v4), .val (.long v5), .second, .val (.int dl), .val (.ref xa), .val (.int (0 : Int32)), .val (.ref xb), .val (.int a2), .val (.int b2), .val (.int c2), .val (.int d2), .unset, .unset, .unset, .unset] [(.ref b12), (.ref b12)])) (fun _ k => XS.dup X12.here hx rfl (hb hby at_182) rfl rfl k) ?_
              refine Ends.st (S' := T12.setTop (mkF m 185 #[.val (.int v0), .val (.int v1), .val (.int v2), .val (.int v3), .val (.int v4), .val (.long v5), .second, .val (.int dl), .val (.ref xa), .val (.int (0 : Int32)), .val (.ref xb), .val (.int a2), .val (.int b2), .val (.int c2), .val (.int d2), .unset, .unset, .unset, .unset] [(.ref xa), (.ref b12), (.ref b12)])) (fun _ k => XS.aload X12.here hx rfl (hb hby at_183) rfl rfl k) ?_
              refine Ends.st (S' := T12.setTop (mkF m 186 #[.val (.int v0), .val (.int v1), .val (.int v2), .val (.int v3), .val (.int v4), .val (.long v5), .second, .val (.int dl), .val (.ref xa), .val (.int (0 : Int32)), .val (.ref xb), .val (.int a2), .val (.int b2), .val (.int c2), .val (.int d2), .unset, .unset, .unset, .unset] [(.int v0), (.ref xa), (.ref b12), (.ref b12)])) (fun _ k => XS.iloadN X12.here hx rfl (hb hby at_185) rfl k) ?_
              refine Ends.st (S' := T12.setTop (mkF m 187 #[.val (.int v0), .val (.int v1), .val (.int v2), .val (.int v3), .val (.int v4), .val (.long v5), .second, .val (.int dl), .val (.ref xa), .val (.int (0 : Int32)), .val (.ref xb), .val (.int a2), .val (.int b2), .val (.int c2), .val (.int d2), .unset, .unset, .unset, .unset] [(.int v1), (.int v0), (.ref xa), (.ref b12), (.ref b12)])) (fun _ k => XS.iloadN X12.here hx rfl (hb hby at_186) rfl k) ?_
              refine Ends.st (S' := T12.setTop (mkF m 188 #[.val (.int v0), .val (.int v1), .val (.int v2), .val (.int v3), .val (.int v4), .val (.long v5), .second, .val (.int dl), .val (.ref xa), .val (.int (0 : Int32)), .val (.ref xb), .val (.int a2), .val (.int b2), .val (.int c2), .val (.int d2), .unset, .unset, .unset, .unset] [(.int v2), (.int v1), (.int v0), (.ref xa), (.ref b12), (.ref b12)])) (fun _ k => XS.iloadN X12.here hx rfl (hb hby at_187) rfl k) ?_
              refine Ends.st (S' := T12.setTop (mkF m 189 #[.val (.int v0), .val (.int v1), .val (.int v2), .val (.int v3), .val (.int v4), .val (.long v5), .second, .val (.int dl), .val (.ref xa), .val (.int (0 : Int32)), .val (.ref xb), .val (.int a2), .val (.int b2), .val (.int c2), .val (.int d2), .unset, .unset, .unset, .unset] [(.int v3), (.int v2), (.int v1), (.int v0), (.ref xa), (.ref b12), (.ref b12)])) (fun _ k => XS.iloadN X12.here hx rfl (hb hby at_188) rfl k) ?_
              obtain ⟨_, _, ⟨T34, L34, k34, n34⟩, -, X34, hS34r, hgr34, ⟨Lc34, hQ34, l34, y34, z34⟩, st34⟩ := Stand.specialBackS (s := s.setVm T5.vm) X12 hx (y := (⟨"com/example/umpteenth_copy/umpteenthcopy/engine/Passage", "<init>", "(Ljava/lang/String;IIII)V"⟩ : MethodName)) rfl hown (mvT hZ (hw _ (List.mem_of_getElem? (i := 32) rfl))) (mvT hZ (hw _ (List.mem_of_getElem? (i := 33) rfl))) (mvT hZ (hw _ (List.mem_of_getElem? (i := 34) rfl))) (by decide) (backOfS (W := 1) (rm5 l Z a0 hw [] b12 xa v0 v1 v2 v3 h12 n0 f17 A12 F29 F30 F31 F32 F33 g_b12 f19 ne13) hZ (hw _ (List.mem_of_getElem? (i := 34) rfl)) (hw _ (List.mem_of_getElem? (i := 31) rfl)) (by decide) (by decide)) (g := (mkF m 189 #[.val (.int v0), .val (.int v1), .val (.int v2), .val (.int v3), .val (.int v4), .val (.long v5), .second, .val (.int dl), .val (.ref xa), .val (.int (0 : Int32)), .val (.ref xb), .val (.int a2), .val (.int b2), .val (.int c2), .val (.int d2), .unset, .unset, .unset, .unset] [(.int v3), (.int v2), (.int v1), (.int v0), (.ref xa), (.ref b12), (.ref b12)])) rfl (by rw [hml]; rfl) (Steps.refl _) (a := b12) (argsL := [(.ref xa), (.int v0), (.int v1), (.int v2), (.int v3)]) (rest := [(.ref b12)]) (lenOf pd_5 rfl) rfl (by show 2 * 0 + _ ≤ _; exact Nat.le_of_eq rfl) (hb hby at_189) (fun _ _ => ⟨rfl, e12, (by decide : 0 + 6 + 6 + 1 + 2 ≤ _), (by decide : 0 + 16 + 16 + 5 + 28 ≤ _)⟩)
              dsimp only [Pt.U, Pt.locs, Pt.cells, Pt.slots] at X34 hS34r hgr34 l34 y34 z34 st34 hQ34
              subst l34 y34 z34
              obtain ⟨rfl, N34q, K34, G34source, G34start, G34end, G34sourceStart, G34sourceEnd⟩ := hQ34
              have N34 := Fr.app N5 N34q
              have hown : (s.setVm T34.vm).vm.findClass "com/example/umpteenth_copy/umpteenthcopy/engine/PassageEqualsPinLaw" = some m.cls := by rw [show (s.setVm T34.vm).vm = T34.vm from rfl, hS34r.1.alike.findClass]; exact hown
              have hZ : Z.Warmed39 (s.setVm T34.vm).vm := State.Warmed39.trans (t := s.setVm T5.vm) hZ hS34r.1
              have X34 : Stand p l e room_1 (s.setVm T34.vm) m _ below meth c T34 _ _ _ := X34
              have hS34 : s.Since T34.vm T34.heap.size := State.Since.trans hS5 hS34r (Nat.le_trans f27 (by have q := hgr34; rw [e12] at q; exact q))
              have f35 := Nat.le_trans f17 K34.1
              have f36 := f18.keep K34 (allS g_b12 all0)
              have f37 := f19.keep K34
              have f38 := f20.keep K34 (ninS ne13 nin0)
              have f39 := f21.keep K34 (ninS ne13 nin0)
              have f40 := f22.keep K34 (ninS ne14 nin0)
              have f41 := f23.keep K34
              have f42 := f24.keep K34 (ninS ne15 nin0)
              have f43 := f25.keep K34 (ninS ne15 nin0)
              have f44 := f26.keep K34 (ninS ne16 nin0)
              have f45 := A12.keep K34
              refine Ends.st (S' := T34.setTop (mkF m 192 #[.val (.int v0), .val (.int v1), .val (.int v2), .val (.int v3), .val (.int v4), .val (.long v5), .second, .val (.int dl), .val (.ref xa), .val (.int (0 : Int32)), .val (.ref xb), .val (.int a2), .val (.int b2), .val (.int c2), .val (.int d2), .unset, .unset, .unset, .unset] [(.ref b12)])) (fun _ k => st34.trans k) ?_
              refine Ends.st (S' := T34.setTop (mkF m 194 #[.val (.int v0), .val (.int v1), .val (.int v2), .val (.int v3), .val (.int v4), .val (.long v5), .second, .val (.int dl), .val (.ref xa), .val (.int (0 : Int32)), .val (.ref xb), .val (.int a2), .val (.int b2), .val (.int c2), .val (.int d2), .val (.ref b12), .unset, .unset, .unset] [])) (fun _ k => XS.astore X34.here hx rfl (hb hby at_192) rfl rfl (l' := #[.val (.int v0), .val (.int v1), .val (.int v2), .val (.int v3), .val (.int v4), .val (.long v5), .second, .val (.int dl), .val (.ref xa), .val (.int (0 : Int32)), .val (.ref xb), .val (.int a2), .val (.int b2), .val (.int c2), .val (.int d2), .val (.ref b12), .unset, .unset, .unset]) rfl k) ?_
              obtain ⟨T46, h46, X46, e46, E46, A46, D46, -, st46⟩ := newO X34 hx hZ hown (hw _ (List.mem_of_getElem? (i := 29) rfl)) (hw _ (List.mem_of_getElem? (i := 30) rfl)) (hw _ (List.mem_of_getElem? (i := 31) rfl)) rfl (g := (mkF m 194 #[.val (.int v0), .val (.int v1), .val (.int v2), .val (.int v3), .val (.int v4), .val (.long v5), .second, .val (.int dl), .val (.ref xa), .val (.int (0 : Int32)), .val (.ref xb), .val (.int a2), .val (.int b2), .val (.int c2), .val (.int d2), .val (.ref b12), .unset, .unset, .unset] [])) rfl (hb hby at_194) (by decide) (by decide)
              obtain ⟨b46, g46⟩ : ∃ z, z = T34.heap.size := ⟨_, rfl⟩
              rw [← g46] at A46 D46 st46
              have ne47 : xa ≠ b46 := Nat.ne_of_lt (Nat.lt_of_lt_of_le f37.lt (Nat.le_of_eq g46.symm))
              have ne48 : ta ≠ b46 := Nat.ne_of_lt (Nat.lt_of_lt_of_le f40.lt (Nat.le_of_eq g46.symm))
              have ne49 : xb ≠ b46 := Nat.ne_of_lt (Nat.lt_of_lt_of_le f41.lt (Nat.le_of_eq g46.symm))
              have ne50 : tb ≠ b46 := Nat.ne_of_lt (Nat.lt_of_lt_of_le f44.lt (Nat.le_of_eq g46.symm))
              have ne51 : b12 ≠ b46 := Nat.ne_of_lt (Nat.lt_of_lt_of_le f45.lt (Nat.le_of_eq g46.symm))
              have g_b46 : n0 ≤ b46 := Nat.le_trans f35 (Nat.le_of_eq g46.symm)
              have f52 := Nat.le_trans f35 E46.1
              have f53 := f36.ext E46
              have f54 := f37.ext E46
              have f55 := f38.ext E46
              have f56 := f39.ext E46
              have f57 := f40.ext E46
              have f58 := f41.ext E46
              have f59 := f42.ext E46
              have f60 := f43.ext E46
              have f61 := f44.ext E46
              have f62 := f45.ext E46
              have f63 := G34source.ext E46
              have f64 := G34start.ext E46
              have f65 := G34end.ext E46
              have f66 := G34sourceStart.ext E46
              have f67 := G34sourceEnd.ext E46
              have f68 := Nat.le_trans (Nat.le_refl T34.heap.size) E46.1
              have F69 : Fld Z h46 b46 "com/example/umpteenth_copy/umpteenthcopy/engine/Passage" "source" "Ljava/lang/String;" .null := D46 (Or.inr (hw _ (List.mem_of_getElem? (i := 43) rfl))) (ty := (.object "java/lang/String")) (by decide)
              have F70 : Fld Z h46 b46 "com/example/umpteenth_copy/umpteenthcopy/engine/Passage" "start" "I" (.int (0 : Int32)) := D46 (Or.inr (hw _ (List.mem_of_getElem? (i := 45) rfl))) (ty := .int) (by decide)
              have F71 : Fld Z h46 b46 "com/example/umpteenth_copy/umpteenthcopy/engine/Passage" "end" "I" (.int (0 : Int32)) := D46 (Or.inr (hw _ (List.mem_of_getElem? (i := 47) rfl))) (ty := .int) (by decide)
              have F72 : Fld Z h46 b46 "com/example/umpteenth_copy/umpteenthcopy/engine/Passage" "sourceStart" "I" (.int (0 : Int32)) := D46 (Or.inr (hw _ (List.mem_of_getElem? (i := 49) rfl))) (ty := .int) (by decide)
              have F73 : Fld Z h46 b46 "com/example/umpteenth_copy/umpteenthcopy/engine/Passage" "sourceEnd" "I" (.int (0 : Int32)) := D46 (Or.inr (hw _ (List.mem_of_getElem? (i := 51) rfl))) (ty := .int) (by decide)
              refine Ends.st (S' := T46.setTop (mkF m 197 #[.val (.int v0), .val (.int v1), .val (.int v2), .val (.int v3), .val (.int v4), .val (.long v5), .second, .val (.int dl), .val (.ref xa), .val (.int (0 : Int32)), .val (.ref xb), .val (.int a2), .val (.int b2), .val (.int c2), .val (.int d2), .val (.ref b12), .unset, .unset, .unset] [(.ref b46)])) (fun _ k => st46 _ k) ?_
              refine Ends.st (S' := T46.setTop (mkF m 198 #[.val (.int v0), .val (.int v1), .val (.int v2), .val (.int v3), .val (.int v4), .val (.long v5), .second, .val (.int dl), .val (.ref xa), .val (.int (0 : Int32)), .val (.ref xb), .val (.int a2), .val (.int b2), .val (.int c2), .val (.int d2), .val (.ref b12), .unset, .unset, .unset] [(.ref b46), (.ref b46)])) (fun _ k => XS.dup X46.here hx rfl (hb hby at_197) rfl rfl k) ?_
              refine Ends.st (S' := T46.setTop (mkF m 200 #[.val (.int v0), .val (.int v1), .val (.int v2), .val (.int v3), .val (.int v4), .val (.long v5), .second, .val (.int dl), .val (.ref xa), .val (.int (0 : Int32)), .val (.ref xb), .val (.int a2), .val (.int b2), .val (.int c2), .val (.int d2), .val (.ref b12), .unset, .unset, .unset] [(.ref xb), (.ref b46), (.ref b46)])) (fun _ k => XS.aload X46.here hx rfl (hb hby at_198) rfl rfl k) ?_
              refine Ends.st (S' := T46.setTop (mkF m 202 #[.val (.int v0), .val (.int v1), .val (.int v2), .val (.int v3), .val (.int v4), .val (.long v5), .second, .val (.int dl), .val (.ref xa), .val (.int (0 : Int32)), .val (.ref xb), .val (.int a2), .val (.int b2), .val (.int c2), .val (.int d2), .val (.ref b12), .unset, .unset, .unset] [(.int a2), (.ref xb), (.ref b46), (.ref b46)])) (fun _ k => XS.iload X46.here hx rfl (hb hby at_200) rfl k) ?_
              refine Ends.st (S' := T46.setTop (mkF m 204 #[.val (.int v0), .val (.int v1), .val (.int v2), .val (.int v3), .val (.int v4), .val (.long v5), .second, .val (.int dl), .val (.ref xa), .val (.int (0 : Int32)), .val (.ref xb), .val (.int a2), .val (.int b2), .val (.int c2), .val (.int d2), .val (.ref b12), .unset, .unset, .unset] [(.int b2), (.int a2), (.ref xb), (.ref b46), (.ref b46)])) (fun _ k => XS.iload X46.here hx rfl (hb hby at_202) rfl k) ?_
              refine Ends.st (S' := T46.setTop (mkF m 206 #[.val (.int v0), .val (.int v1), .val (.int v2), .val (.int v3), .val (.int v4), .val (.long v5), .second, .val (.int dl), .val (.ref xa), .val (.int (0 : Int32)), .val (.ref xb), .val (.int a2), .val (.int b2), .val (.int c2), .val (.int d2), .val (.ref b12), .unset, .unset, .unset] [(.int c2), (.int b2), (.int a2), (.ref xb), (.ref b46), (.ref b46)])) (fun _ k => XS.iload X46.here hx rfl (hb hby at_204) rfl k) ?_
              refine Ends.st (S' := T46.setTop (mkF m 208 #[.val (.int v0), .val (.int v1), .val (.int v2), .val (.int v3), .val (.int v4), .val (.long v5), .second, .val (.int dl), .val (.ref xa), .val (.int (0 : Int32)), .val (.ref xb), .val (.int a2), .val (.int b2), .val (.int c2), .val (.int d2), .val (.ref b12), .unset, .unset, .unset] [(.int d2), (.int c2), (.int b2), (.int a2), (.ref xb), (.ref b46), (.ref b46)])) (fun _ k => XS.iload X46.here hx rfl (hb hby at_206) rfl k) ?_
              obtain ⟨_, _, ⟨T74, L74, k74, n74⟩, -, X74, hS74r, hgr74, ⟨Lc74, hQ74, l74, y74, z74⟩, st74⟩ := Stand.specialBackS (s := s.setVm T34.vm) X46 hx (y := (⟨"com/example/umpteenth_copy/umpteenthcopy/engine/Passage", "<init>", "(Ljava/lang/String;IIII)V"⟩ : MethodName)) rfl hown (mvT hZ (hw _ (List.mem_of_getElem? (i := 32) rfl))) (mvT hZ (hw _ (List.mem_of_getElem? (i := 33) rfl))) (mvT hZ (hw _ (List.mem_of_getElem? (i := 34) rfl))) (by decide) (backOfS (W := 1) (rm5 l Z a0 hw [] b46 xb a2 b2 c2 d2 h46 n0 f52 A46 F69 F70 F71 F72 F73 g_b46 f58 ne49) hZ (hw _ (List.mem_of_getElem? (i := 34) rfl)) (hw _ (List.mem_of_getElem? (i := 31) rfl)) (by decide) (by decide)) (g := (mkF m 208 #[.val (.int v0), .val (.int v1), .val (.int v2), .val (.int v3), .val (.int v4), .val (.long v5), .second, .val (.int dl), .val (.ref xa), .val (.int (0 : Int32)), .val (.ref xb), .val (.int a2), .val (.int b2), .val (.int c2), .val (.int d2), .val (.ref b12), .unset, .unset, .unset] [(.int d2), (.int c2), (.int b2), (.int a2), (.ref xb), (.ref b46), (.ref b46)])) rfl (by rw [hml]; rfl) (Steps.refl _) (a := b46) (argsL := [(.ref xb), (.int a2), (.int b2), (.int c2), (.int d2)]) (rest := [(.ref b46)]) (lenOf pd_5 rfl) rfl (by show 2 * 0 + _ ≤ _; exact Nat.le_of_eq rfl) (hb hby at_208) (fun _ _ => ⟨rfl, e46, (by decide : 0 + 6 + 6 + 1 + 2 + 1 + 2 ≤ _), (by decide : 0 + 16 + 16 + 5 + 28 + 5 + 28 ≤ _)⟩)
              dsimp only [Pt.U, Pt.locs, Pt.cells, Pt.slots] at X74 hS74r hgr74 l74 y74 z74 st74 hQ74
              subst l74 y74 z74
              obtain ⟨rfl, N74q, K74, G74source, G74start, G74end, G74sourceStart, G74sourceEnd⟩ := hQ74
              have N74 := Fr.app N34 N74q
              have hown : (s.setVm T74.vm).vm.findClass "com/example/umpteenth_copy/umpteenthcopy/engine/PassageEqualsPinLaw" = some m.cls := by rw [show (s.setVm T74.vm).vm = T74.vm from rfl, hS74r.1.alike.findClass]; exact hown
              have hZ : Z.Warmed39 (s.setVm T74.vm).vm := State.Warmed39.trans (t := s.setVm T34.vm) hZ hS74r.1
              have X74 : Stand p l e room_1 (s.setVm T74.vm) m _ below meth c T74 _ _ _ := X74
              have hS74 : s.Since T74.vm T74.heap.size := State.Since.trans hS34 hS74r (Nat.le_trans f68 (by have q := hgr74; rw [e46] at q; exact q))
              have f75 := Nat.le_trans f52 K74.1
              have f76 := f53.keep K74 (allS g_b46 all0)
              have f77 := f54.keep K74
              have f78 := f55.keep K74 (ninS ne47 nin0)
              have f79 := f56.keep K74 (ninS ne47 nin0)
              have f80 := f57.keep K74 (ninS ne48 nin0)
              have f81 := f58.keep K74
              have f82 := f59.keep K74 (ninS ne49 nin0)
              have f83 := f60.keep K74 (ninS ne49 nin0)
              have f84 := f61.keep K74 (ninS ne50 nin0)
              have f85 := f62.keep K74
              have f86 := f63.keep K74 (ninS ne51 nin0)
              have f87 := f64.keep K74 (ninS ne51 nin0)
              have f88 := f65.keep K74 (ninS ne51 nin0)
              have f89 := f66.keep K74 (ninS ne51 nin0)
              have f90 := f67.keep K74 (ninS ne51 nin0)
              have f91 := A46.keep K74
              refine Ends.st (S' := T74.setTop (mkF m 211 #[.val (.int v0), .val (.int v1), .val (.int v2), .val (.int v3), .val (.int v4), .val (.long v5), .second, .val (.int dl), .val (.ref xa), .val (.int (0 : Int32)), .val (.ref xb), .val (.int a2), .val (.int b2), .val (.int c2), .val (.int d2), .val (.ref b12), .unset, .unset, .unset] [(.ref b46)])) (fun _ k => st74.trans k) ?_
              refine Ends.st (S' := T74.setTop (mkF m 213 #[.val (.int v0), .val (.int v1), .val (.int v2), .val (.int v3), .val (.int v4), .val (.long v5), .second, .val (.int dl), .val (.ref xa), .val (.int (0 : Int32)), .val (.ref xb), .val (.int a2), .val (.int b2), .val (.int c2), .val (.int d2), .val (.ref b12), .val (.ref b46), .unset, .unset] [])) (fun _ k => XS.astore X74.here hx rfl (hb hby at_211) rfl rfl (l' := #[.val (.int v0), .val (.int v1), .val (.int v2), .val (.int v3), .val (.int v4), .val (.long v5), .second, .val (.int dl), .val (.ref xa), .val (.int (0 : Int32)), .val (.ref xb), .val (.int a2), .val (.int b2), .val (.int c2), .val (.int d2), .val (.ref b12), .val (.ref b46), .unset, .unset]) rfl k) ?_
              refine Ends.st (S' := T74.setTop (mkF m 215 #[.val (.int v0), .val (.int v1), .val (.int v2), .val (.int v3), .val (.int v4), .val (.long v5), .second, .val (.int dl), .val (.ref xa), .val (.int (0 : Int32)), .val (.ref xb), .val (.int a2), .val (.int b2), .val (.int c2), .val (.int d2), .val (.ref b12), .val (.ref b46), .unset, .unset] [(.long v5)])) (fun _ k => XS.lload X74.here hx rfl (hb hby at_213) rfl k) ?_
              refine Ends.st (S' := T74.setTop (mkF m 216 #[.val (.int v0), .val (.int v1), .val (.int v2), .val (.int v3), .val (.int v4), .val (.long v5), .second, .val (.int dl), .val (.ref xa), .val (.int (0 : Int32)), .val (.ref xb), .val (.int a2), .val (.int b2), .val (.int c2), .val (.int d2), .val (.ref b12), .val (.ref b46), .unset, .unset] [(.int (5 : Int32)), (.long v5)])) (fun _ k => XS.iconst X74.here hx rfl (hb hby at_215) k) ?_
              refine Ends.st (S' := T74.setTop (mkF m 217 #[.val (.int v0), .val (.int v1), .val (.int v2), .val (.int v3), .val (.int v4), .val (.long v5), .second, .val (.int dl), .val (.ref xa), .val (.int (0 : Int32)), .val (.ref xb), .val (.int a2), .val (.int b2), .val (.int c2), .val (.int d2), .val (.ref b12), .val (.ref b46), .unset, .unset] [(.long ((v5.toUInt64 >>> ((5 : Int32) &&& 0x3f).toInt64.toUInt64).toInt64))])) (fun _ k => XS.lushr X74.here hx rfl (hb hby at_216) rfl k) ?_
              refine Ends.st (S' := T74.setTop (mkF m 220 #[.val (.int v0), .val (.int v1), .val (.int v2), .val (.int v3), .val (.int v4), .val (.long v5), .second, .val (.int dl), .val (.ref xa), .val (.int (0 : Int32)), .val (.ref xb), .val (.int a2), .val (.int b2), .val (.int c2), .val (.int d2), .val (.ref b12), .val (.ref b46), .unset, .unset] [(.long (3 : Int64)), (.long ((v5.toUInt64 >>> ((5 : Int32) &&& 0x3f).toInt64.toUInt64).toInt64))])) (fun _ k => X74.ldc2Long hx hown (mvT hZ (hw _ (List.mem_of_getElem? (i := 52) rfl))) (g := (mkF m 217 #[.val (.int v0), .val (.int v1), .val (.int v2), .val (.int v3), .val (.int v4), .val (.long v5), .second, .val (.int dl), .val (.ref xa), .val (.int (0 : Int32)), .val (.ref xb), .val (.int a2), .val (.int b2), .val (.int c2), .val (.int d2), .val (.ref b12), .val (.ref b46), .unset, .unset] [(.long ((v5.toUInt64 >>> ((5 : Int32) &&& 0x3f).toInt64.toUInt64).toInt64))])) rfl (hb hby at_217) _ k) ?_
              refine Ends.st (S' := T74.setTop (mkF m 221 #[.val (.int v0), .val (.int v1), .val (.int v2), .val (.int v3), .val (.int v4), .val (.long v5), .second, .val (.int dl), .val (.ref xa), .val (.int (0 : Int32)), .val (.ref xb), .val (.int a2), .val (.int b2), .val (.int c2), .val (.int d2), .val (.ref b12), .val (.ref b46), .unset, .unset] [(.long (((v5.toUInt64 >>> ((5 : Int32) &&& 0x3f).toInt64.toUInt64).toInt64) &&& (3 : Int64)))])) (fun _ k => XS.land X74.here hx rfl (hb hby at_220) rfl k) ?_
              refine Ends.st (S' := T74.setTop (mkF m 222 #[.val (.int v0), .val (.int v1), .val (.int v2), .val (.int v3), .val (.int v4), .val (.long v5), .second, .val (.int dl), .val (.ref xa), .val (.int (0 : Int32)), .val (.ref xb), .val (.int a2), .val (.int b2), .val (.int c2), .val (.int d2), .val (.ref b12), .val (.ref b46), .unset, .unset] [(.int ((((v5.toUInt64 >>> ((5 : Int32) &&& 0x3f).toInt64.toUInt64).toInt64) &&& (3 : Int64)).toInt32))])) (fun _ k => XS.l2i X74.here hx rfl (hb hby at_221) rfl k) ?_
              refine Ends.st (S' := T74.setTop (mkF m 224 #[.val (.int v0), .val (.int v1), .val (.int v2), .val (.int v3), .val (.int v4), .val (.long v5), .second, .val (.int dl), .val (.ref xa), .val (.int (0 : Int32)), .val (.ref xb), .val (.int a2), .val (.int b2), .val (.int c2), .val (.int d2), .val (.ref b12), .val (.ref b46), .val (.int ((((v5.toUInt64 >>> ((5 : Int32) &&& 0x3f).toInt64.toUInt64).toInt64) &&& (3 : Int64)).toInt32)), .unset] [])) (fun _ k => XS.istore X74.here hx rfl (hb hby at_222) rfl (l' := #[.val (.int v0), .val (.int v1), .val (.int v2), .val (.int v3), .val (.int v4), .val (.long v5), .second, .val (.int dl), .val (.ref xa), .val (.int (0 : Int32)), .val (.ref xb), .val (.int a2), .val (.int b2), .val (.int c2), .val (.int d2), .val (.ref b12), .val (.ref b46), .val (.int ((((v5.toUInt64 >>> ((5 : Int32) &&& 0x3f).toInt64.toUInt64).toInt64) &&& (3 : Int64)).toInt32)), .unset]) rfl k) ?_
              refine Ends.st (S' := T74.setTop (mkF m 226 #[.val (.int v0), .val (.int v1), .val (.int v2), .val (.int v3), .val (.int v4), .val (.long v5), .second, .val (.int dl), .val (.ref xa), .val (.int (0 : Int32)), .val (.ref xb), .val (.int a2), .val (.int b2), .val (.int c2), .val (.int d2), .val (.ref b12), .val (.ref b46), .val (.int ((((v5.toUInt64 >>> ((5 : Int32) &&& 0x3f).toInt64.toUInt64).toInt64) &&& (3 : Int64)).toInt32)), .unset] [(.int ((((v5.toUInt64 >>> ((5 : Int32) &&& 0x3f).toInt64.toUInt64).toInt64) &&& (3 : Int64)).toInt32))])) (fun _ k => XS.iload X74.here hx rfl (hb hby at_224) rfl k) ?_
              refine Ends.st (S' := T74.setTop (mkF m 227 #[.val (.int v0), .val (.int v1), .val (.int v2), .val (.int v3), .val (.int v4), .val (.long v5), .second, .val (.int dl), .val (.ref xa), .val (.int (0 : Int32)), .val (.ref xb), .val (.int a2), .val (.int b2), .val (.int c2), .val (.int d2), .val (.ref b12), .val (.ref b46), .val (.int ((((v5.toUInt64 >>> ((5 : Int32) &&& 0x3f).toInt64.toUInt64).toInt64) &&& (3 : Int64)).toInt32)), .unset] [(.int (1 : Int32)), (.int ((((v5.toUInt64 >>> ((5 : Int32) &&& 0x3f).toInt64.toUInt64).toInt64) &&& (3 : Int64)).toInt32))])) (fun _ k => XS.iconst X74.here hx rfl (hb hby at_226) k) ?_
              by_cases hc92 : ((((v5.toUInt64 >>> ((5 : Int32) &&& 0x3f).toInt64.toUInt64).toInt64) &&& (3 : Int64)).toInt32) = (1 : Int32)
              · refine Ends.st (S' := T74.setTop (mkF m 230 #[.val (.int v0), .val (.int v1), .val (.int v2), .val (.int v3), .val (.int v4), .val (.long v5), .second, .val (.int dl), .val (.ref xa), .val (.int (0 : Int32)), .val (.ref xb), .val (.int a2), .val (.int b2), .val (.int c2), .val (.int d2), .val (.ref b12), .val (.ref b46), .val (.int ((((v5.toUInt64 >>> ((5 : Int32) &&& 0x3f).toInt64.toUInt64).toInt64) &&& (3 : Int64)).toInt32)), .unset] [])) (fun _ k => XS.icmpNo X74.here hx rfl (hb hby at_227) rfl (teq hc92).2 k) ?_
                refine Ends.st (S' := T74.setTop (mkF m 232 #[.val (.int v0), .val (.int v1), .val (.int v2), .val (.int v3), .val (.int v4), .val (.long v5), .second, .val (.int dl), .val (.ref xa), .val (.int (0 : Int32)), .val (.ref xb), .val (.int a2), .val (.int b2), .val (.int c2), .val (.int d2), .val (.ref b12), .val (.ref b46), .val (.int ((((v5.toUInt64 >>> ((5 : Int32) &&& 0x3f).toInt64.toUInt64).toInt64) &&& (3 : Int64)).toInt32)), .unset] [(.ref b12)])) (fun _ k => XS.aload X74.here hx rfl (hb hby at_230) rfl rfl k) ?_
                refine Ends.st (S' := T74.setTop (mkF m 234 #[.val (.int v0), .val (.int v1), .val (.int v2), .val (.int v3), .val (.int v4), .val (.long v5), .second, .val (.int dl), .val (.ref xa), .val (.int (0 : Int32)), .val (.ref xb), .val (.int a2), .val (.int b2), .val (.int c2), .val (.int d2), .val (.ref b12), .val (.ref b46), .val (.int ((((v5.toUInt64 >>> ((5 : Int32) &&& 0x3f).toInt64.toUInt64).toInt64) &&& (3 : Int64)).toInt32)), .unset] [(.ref b12), (.ref b12)])) (fun _ k => XS.aload X74.here hx rfl (hb hby at_232) rfl rfl k) ?_
                obtain ⟨cq93, kq93, q93a, q93b, q93c⟩ := isOf hZ rfl (f85)
                obtain ⟨_, _, ⟨T93, L93, k93, n93⟩, -, X93, ⟨Lc93, hQ93, l93, y93, z93⟩, st93⟩ := X74.virtualBack hx (y := (⟨"com/example/umpteenth_copy/umpteenthcopy/engine/Passage", "equals", "(Ljava/lang/Object;)Z"⟩ : MethodName)) (z := (⟨"com/example/umpteenth_copy/umpteenthcopy/engine/Passage", "equals", "(Ljava/lang/Object;)Z"⟩ : MethodName)) hown (mvT hZ (hw _ (List.mem_of_getElem? (i := 65) rfl))) (mvT hZ (hw _ (List.mem_of_getElem? (i := 66) rfl))) (notFace_of_selects (args := #[]) (mvT hZ (hw _ (List.mem_of_getElem? (i := 68) rfl)))) (mvT hZ (hw _ (List.mem_of_getElem? (i := 68) rfl))) (mvT hZ (hw _ (List.mem_of_getElem? (i := 67) rfl))) (by decide) (backOf (W := 0) (rm9a l Z a0 hw [] b12 b12 G xa ta ka _ Ma vsa v0 v1 v2 v3 xa ta ka _ Ma vsa v0 v1 v2 v3 T74.heap n0 f75 f85 f86 f87 f88 f89 f90 f77 f78 f79 f80 hca hba hla f86 f87 f88 f89 f90 f77 f78 f79 f80 hca hba hla (SC.ext f76.2) hG) hZ (hw _ (List.mem_of_getElem? (i := 69) rfl)) (hw _ (List.mem_of_getElem? (i := 31) rfl)) (by decide) (by decide)) q93a q93c (g := (mkF m 234 #[.val (.int v0), .val (.int v1), .val (.int v2), .val (.int v3), .val (.int v4), .val (.long v5), .second, .val (.int dl), .val (.ref xa), .val (.int (0 : Int32)), .val (.ref xb), .val (.int a2), .val (.int b2), .val (.int c2), .val (.int d2), .val (.ref b12), .val (.ref b46), .val (.int ((((v5.toUInt64 >>> ((5 : Int32) &&& 0x3f).toInt64.toUInt64).toInt64) &&& (3 : Int64)).toInt32)), .unset] [(.ref b12), (.ref b12)])) rfl (by rw [hml]; rfl) (Steps.refl _) (argsL := [(.ref b12)]) (rest := []) (lenOf pd_3 rfl) rfl (by show 2 * 0 + _ ≤ _; exact Nat.le_of_eq rfl) (hb hby at_234) (fun _ _ => ⟨rfl, rfl, (by decide : 0 + 6 + 6 + 1 + 2 + 1 + 2 + 0 ≤ _), (by decide : 0 + 16 + 16 + 5 + 28 + 5 + 28 + 0 ≤ _)⟩)
                dsimp only [Pt.U, Pt.locs, Pt.cells, Pt.slots] at X93 l93 y93 z93 st93 hQ93
                subst l93 y93 z93
                obtain ⟨rfl, N93q, e93⟩ := hQ93
                have N93 := Fr.app N74 N93q
                refine Ends.st (S' := T93.setTop (mkF m 237 #[.val (.int v0), .val (.int v1), .val (.int v2), .val (.int v3), .val (.int v4), .val (.long v5), .second, .val (.int dl), .val (.ref xa), .val (.int (0 : Int32)), .val (.ref xb), .val (.int a2), .val (.int b2), .val (.int c2), .val (.int d2), .val (.ref b12), .val (.ref b46), .val (.int ((((v5.toUInt64 >>> ((5 : Int32) &&& 0x3f).toInt64.toUInt64).toInt64) &&& (3 : Int64)).toInt32)), .unset] [(.int (same9 (strs v4 ((v4.toUInt32 >>> ((8 : Int32) &&& 31).toUInt32).toInt32) ((v4.toUInt32 >>> ((16 : Int32) &&& 31).toUInt32).toInt32)) (strs v4 ((v4.toUInt32 >>> ((8 : Int32) &&& 31).toUInt32).toInt32) ((v4.toUInt32 >>> ((16 : Int32) &&& 31).toUInt32).toInt32)) v0 v0 v1 v1 v2 v2 v3 v3))])) (fun _ k => st93.trans k) ?_
                rw [show (same9 (strs v4 ((v4.toUInt32 >>> ((8 : Int32) &&& 31).toUInt32).toInt32) ((v4.toUInt32 >>> ((16 : Int32) &&& 31).toUInt32).toInt32)) (strs v4 ((v4.toUInt32 >>> ((8 : Int32) &&& 31).toUInt32).toInt32) ((v4.toUInt32 >>> ((16 : Int32) &&& 31).toUInt32).toInt32)) v0 v0 v1 v1 v2 v2 v3 v3) = (1 : Int32) from if_pos ⟨rfl, rfl, rfl, rfl, rfl⟩]
                obtain ⟨fs, hr, hrun, hended, hRW⟩ := Stand.leaveW (s := s) (vm₁ := T74.vm) X93 hS74 (Nat.le_trans (Nat.le_refl T74.heap.size) (Nat.le_of_eq (congrArg Array.size (Eq.symm e93)))) (v := some (.int (1 : Int32))) (fun h => by rw [Bd.returns] at h; cases h)
                exact ⟨_, _, retN X93 hx (t := .boolean) Bd.returns (by simp) (hb hby at_237) hr, hrun, hended, _, _, rfl, (by show Q0 Z  h0 n0 _ T93.heap _; rw [e93]; exact ⟨rfl, N93⟩), hRW.1, hRW.2.1, hRW.2.2.1, hRW.2.2.2.mono (by decide) (by decide)⟩
              · refine Ends.st (S' := T74.setTop (mkF m 238 #[.val (.int v0), .val (.int v1), .val (.int v2), .val (.int v3), .val (.int v4), .val (.long v5), .second, .val (.int dl), .val (.ref xa), .val (.int (0 : Int32)), .val (.ref xb), .val (.int a2), .val (.int b2), .val (.int c2), .val (.int d2), .val (.ref b12), .val (.ref b46), .val (.int ((((v5.toUInt64 >>> ((5 : Int32) &&& 0x3f).toInt64.toUInt64).toInt64) &&& (3 : Int64)).toInt32)), .unset] [])) (fun _ k => XS.icmpYes X74.here hx rfl (pc0 := 227) (pc' := 238) rfl (hb hby at_227) rfl (feq hc92).2 (by decide) (by decide) k) ?_
                refine Ends.st (S' := T74.setTop (mkF m 240 #[.val (.int v0), .val (.int v1), .val (.int v2), .val (.int v3), .val (.int v4), .val (.long v5), .second, .val (.int dl), .val (.ref xa), .val (.int (0 : Int32)), .val (.ref xb), .val (.int a2), .val (.int b2), .val (.int c2), .val (.int d2), .val (.ref b12), .val (.ref b46), .val (.int ((((v5.toUInt64 >>> ((5 : Int32) &&& 0x3f).toInt64.toUInt64).toInt64) &&& (3 : Int64)).toInt32)), .unset] [(.int ((((v5.toUInt64 >>> ((5 : Int32) &&& 0x3f).toInt64.toUInt64).toInt64) &&& (3 : Int64)).toInt32))])) (fun _ k => XS.iload X74.here hx rfl (hb hby at_238) rfl k) ?_
                refine Ends.st (S' := T74.setTop (mkF m 241 #[.val (.int v0), .val (.int v1), .val (.int v2), .val (.int v3), .val (.int v4), .val (.long v5), .second, .val (.int dl), .val (.ref xa), .val (.int (0 : Int32)), .val (.ref xb), .val (.int a2), .val (.int b2), .val (.int c2), .val (.int d2), .val (.ref b12), .val (.ref b46), .val (.int ((((v5.toUInt64 >>> ((5 : Int32) &&& 0x3f).toInt64.toUInt64).toInt64) &&& (3 : Int64)).toInt32)), .unset] [(.int (2 : Int32)), (.int ((((v5.toUInt64 >>> ((5 : Int32) &&& 0x3f).toInt64.toUInt64).toInt64) &&& (3 : Int64)).toInt32))])) (fun _ k => XS.iconst X74.here hx rfl (hb hby at_240) k) ?_
                by_cases hc94 : ((((v5.toUInt64 >>> ((5 : Int32) &&& 0x3f).toInt64.toUInt64).toInt64) &&& (3 : Int64)).toInt32) = (2 : Int32)
                · refine Ends.st (S' := T74.setTop (mkF m 244 #[.val (.int v0), .val (.int v1), .val (.int v2), .val (.int v3), .val (.int v4), .val (.long v5), .second, .val (.int dl), .val (.ref xa), .val (.int (0 : Int32)), .val (.ref xb), .val (.int a2), .val (.int b2), .val (.int c2), .val (.int d2), .val (.ref b12), .val (.ref b46), .val (.int ((((v5.toUInt64 >>> ((5 : Int32) &&& 0x3f).toInt64.toUInt64).toInt64) &&& (3 : Int64)).toInt32)), .unset] [])) (fun _ k => XS.icmpNo X74.here hx rfl (hb hby at_241) rfl (teq hc94).2 k) ?_
                  refine Ends.st (S' := T74.setTop (mkF m 246 #[.val (.int v0), .val (.int v1), .val (.int v2), .val (.int v3), .val (.int v4), .val (.long v5), .second, .val (.int dl), .val (.ref xa), .val (.int (0 : Int32)), .val (.ref xb), .val (.int a2), .val (.int b2), .val (.int c2), .val (.int d2), .val (.ref b12), .val (.ref b46), .val (.int ((((v5.toUInt64 >>> ((5 : Int32) &&& 0x3f).toInt64.toUInt64).toInt64) &&& (3 : Int64)).toInt32)), .unset] [(.ref b12)])) (fun _ k => XS.aload X74.here hx rfl (hb hby at_244) rfl rfl k) ?_
                  refine Ends.st (S' := T74.setTop (mkF m 247 #[.val (.int v0), .val (.int v1), .val (.int v2), .val (.int v3), .val (.int v4), .val (.long v5), .second, .val (.int dl), .val (.ref xa), .val (.int (0 : Int32)), .val (.ref xb), .val (.int a2), .val (.int b2), .val (.int c2), .val (.int d2), .val (.ref b12), .val (.ref b46), .val (.int ((((v5.toUInt64 >>> ((5 : Int32) &&& 0x3f).toInt64.toUInt64).toInt64) &&& (3 : Int64)).toInt32)), .unset] [.null, (.ref b12)])) (fun _ k => XS.aconstNull X74.here hx rfl (hb hby at_246) k) ?_
                  obtain ⟨cq95, kq95, q95a, q95b, q95c⟩ := isOf hZ rfl (f85)
                  obtain ⟨_, _, ⟨T95, L95, k95, n95⟩, -, X95, ⟨Lc95, hQ95, l95, y95, z95⟩, st95⟩ := X74.virtualBack hx (y := (⟨"com/example/umpteenth_copy/umpteenthcopy/engine/Passage", "equals", "(Ljava/lang/Object;)Z"⟩ : MethodName)) (z := (⟨"com/example/umpteenth_copy/umpteenthcopy/engine/Passage", "equals", "(Ljava/lang/Object;)Z"⟩ : MethodName)) hown (mvT hZ (hw _ (List.mem_of_getElem? (i := 65) rfl))) (mvT hZ (hw _ (List.mem_of_getElem? (i := 66) rfl))) (notFace_of_selects (args := #[]) (mvT hZ (hw _ (List.mem_of_getElem? (i := 68) rfl)))) (mvT hZ (hw _ (List.mem_of_getElem? (i := 68) rfl))) (mvT hZ (hw _ (List.mem_of_getElem? (i := 67) rfl))) (by decide) (backOf (W := 0) (rm9b l Z a0 hw [] b12 T74.heap n0 f75) hZ (hw _ (List.mem_of_getElem? (i := 69) rfl)) (hw _ (List.mem_of_getElem? (i := 31) rfl)) (by decide) (by decide)) q95a q95c (g := (mkF m 247 #[.val (.int v0), .val (.int v1), .val (.int v2), .val (.int v3), .val (.int v4), .val (.long v5), .second, .val (.int dl), .val (.ref xa), .val (.int (0 : Int32)), .val (.ref xb), .val (.int a2), .val (.int b2), .val (.int c2), .val (.int d2), .val (.ref b12), .val (.ref b46), .val (.int ((((v5.toUInt64 >>> ((5 : Int32) &&& 0x3f).toInt64.toUInt64).toInt64) &&& (3 : Int64)).toInt32)), .unset] [.null, (.ref b12)])) rfl (by rw [hml]; rfl) (Steps.refl _) (argsL := [.null]) (rest := []) (lenOf pd_3 rfl) rfl (by show 2 * 0 + _ ≤ _; exact Nat.le_of_eq rfl) (hb hby at_247) (fun _ _ => ⟨rfl, rfl, (by decide : 0 + 6 + 6 + 1 + 2 + 1 + 2 + 0 ≤ _), (by decide : 0 + 16 + 16 + 5 + 28 + 5 + 28 + 0 ≤ _)⟩)
                  dsimp only [Pt.U, Pt.locs, Pt.cells, Pt.slots] at X95 l95 y95 z95 st95 hQ95
                  subst l95 y95 z95
                  obtain ⟨rfl, N95q, e95⟩ := hQ95
                  have N95 := Fr.app N74 N95q
                  refine Ends.st (S' := T95.setTop (mkF m 250 #[.val (.int v0), .val (.int v1), .val (.int v2), .val (.int v3), .val (.int v4), .val (.long v5), .second, .val (.int dl), .val (.ref xa), .val (.int (0 : Int32)), .val (.ref xb), .val (.int a2), .val (.int b2), .val (.int c2), .val (.int d2), .val (.ref b12), .val (.ref b46), .val (.int ((((v5.toUInt64 >>> ((5 : Int32) &&& 0x3f).toInt64.toUInt64).toInt64) &&& (3 : Int64)).toInt32)), .unset] [(.int (0 : Int32))])) (fun _ k => st95.trans k) ?_
                  refine Ends.st (S' := T95.setTop (mkF m 253 #[.val (.int v0), .val (.int v1), .val (.int v2), .val (.int v3), .val (.int v4), .val (.long v5), .second, .val (.int dl), .val (.ref xa), .val (.int (0 : Int32)), .val (.ref xb), .val (.int a2), .val (.int b2), .val (.int c2), .val (.int d2), .val (.ref b12), .val (.ref b46), .val (.int ((((v5.toUInt64 >>> ((5 : Int32) &&& 0x3f).toInt64.toUInt64).toInt64) &&& (3 : Int64)).toInt32)), .unset] [])) (fun _ k => XS.ifNo X95.here hx rfl (hb hby at_250) rfl ((if0 _ _).trans (teq (by decide : (0 : Int32) = (0 : Int32))).2) k) ?_
                  refine Ends.st (S' := T95.setTop (mkF m 254 #[.val (.int v0), .val (.int v1), .val (.int v2), .val (.int v3), .val (.int v4), .val (.long v5), .second, .val (.int dl), .val (.ref xa), .val (.int (0 : Int32)), .val (.ref xb), .val (.int a2), .val (.int b2), .val (.int c2), .val (.int d2), .val (.ref b12), .val (.ref b46), .val (.int ((((v5.toUInt64 >>> ((5 : Int32) &&& 0x3f).toInt64.toUInt64).toInt64) &&& (3 : Int64)).toInt32)), .unset] [(.int (1 : Int32))])) (fun _ k => XS.iconst X95.here hx rfl (hb hby at_253) k) ?_
                  refine Ends.st (S' := T95.setTop (mkF m 258 #[.val (.int v0), .val (.int v1), .val (.int v2), .val (.int v3), .val (.int v4), .val (.long v5), .second, .val (.int dl), .val (.ref xa), .val (.int (0 : Int32)), .val (.ref xb), .val (.int a2), .val (.int b2), .val (.int c2), .val (.int d2), .val (.ref b12), .val (.ref b46), .val (.int ((((v5.toUInt64 >>> ((5 : Int32) &&& 0x3f).toInt64.toUInt64).toInt64) &&& (3 : Int64)).toInt32)), .unset] [(.int (1 : Int32))])) (fun _ k => XS.goto X95.here hx rfl (pc0 := 254) (pc' := 258) rfl (hb hby at_254) (by decide) (by decide) k) ?_
                  obtain ⟨fs, hr, hrun, hended, hRW⟩ := Stand.leaveW (s := s) (vm₁ := T74.vm) X95 hS74 (Nat.le_trans (Nat.le_refl T74.heap.size) (Nat.le_of_eq (congrArg Array.size (Eq.symm e95)))) (v := some (.int (1 : Int32))) (fun h => by rw [Bd.returns] at h; cases h)
                  exact ⟨_, _, retN X95 hx (t := .boolean) Bd.returns (by simp) (hb hby at_258) hr, hrun, hended, _, _, rfl, (by show Q0 Z  h0 n0 _ T95.heap _; rw [e95]; exact ⟨rfl, N95⟩), hRW.1, hRW.2.1, hRW.2.2.1, hRW.2.2.2.mono (by decide) (by decide)⟩
                · refine Ends.st (S' := T74.setTop (mkF m 259 #[.val (.int v0), .val (.int v1), .val (.int v2), .val (.int v3), .val (.int v4), .val (.long v5), .second, .val (.int dl), .val (.ref xa), .val (.int (0 : Int32)), .val (.ref xb), .val (.int a2), .val (.int b2), .val (.int c2), .val (.int d2), .val (.ref b12), .val (.ref b46), .val (.int ((((v5.toUInt64 >>> ((5 : Int32) &&& 0x3f).toInt64.toUInt64).toInt64) &&& (3 : Int64)).toInt32)), .unset] [])) (fun _ k => XS.icmpYes X74.here hx rfl (pc0 := 241) (pc' := 259) rfl (hb hby at_241) rfl (feq hc94).2 (by decide) (by decide) k) ?_
                  refine Ends.st (S' := T74.setTop (mkF m 261 #[.val (.int v0), .val (.int v1), .val (.int v2), .val (.int v3), .val (.int v4), .val (.long v5), .second, .val (.int dl), .val (.ref xa), .val (.int (0 : Int32)), .val (.ref xb), .val (.int a2), .val (.int b2), .val (.int c2), .val (.int d2), .val (.ref b12), .val (.ref b46), .val (.int ((((v5.toUInt64 >>> ((5 : Int32) &&& 0x3f).toInt64.toUInt64).toInt64) &&& (3 : Int64)).toInt32)), .unset] [(.int ((((v5.toUInt64 >>> ((5 : Int32) &&& 0x3f).toInt64.toUInt64).toInt64) &&& (3 : Int64)).toInt32))])) (fun _ k => XS.iload X74.here hx rfl (hb hby at_259) rfl k) ?_
                  refine Ends.st (S' := T74.setTop (mkF m 262 #[.val (.int v0), .val (.int v1), .val (.int v2), .val (.int v3), .val (.int v4), .val (.long v5), .second, .val (.int dl), .val (.ref xa), .val (.int (0 : Int32)), .val (.ref xb), .val (.int a2), .val (.int b2), .val (.int c2), .val (.int d2), .val (.ref b12), .val (.ref b46), .val (.int ((((v5.toUInt64 >>> ((5 : Int32) &&& 0x3f).toInt64.toUInt64).toInt64) &&& (3 : Int64)).toInt32)), .unset] [(.int (3 : Int32)), (.int ((((v5.toUInt64 >>> ((5 : Int32) &&& 0x3f).toInt64.toUInt64).toInt64) &&& (3 : Int64)).toInt32))])) (fun _ k => XS.iconst X74.here hx rfl (hb hby at_261) k) ?_
                  by_cases hc96 : ((((v5.toUInt64 >>> ((5 : Int32) &&& 0x3f).toInt64.toUInt64).toInt64) &&& (3 : Int64)).toInt32) = (3 : Int32)
                  · refine Ends.st (S' := T74.setTop (mkF m 265 #[.val (.int v0), .val (.int v1), .val (.int v2), .val (.int v3), .val (.int v4), .val (.long v5), .second, .val (.int dl), .val (.ref xa), .val (.int (0 : Int32)), .val (.ref xb), .val (.int a2), .val (.int b2), .val (.int c2), .val (.int d2), .val (.ref b12), .val (.ref b46), .val (.int ((((v5.toUInt64 >>> ((5 : Int32) &&& 0x3f).toInt64.toUInt64).toInt64) &&& (3 : Int64)).toInt32)), .unset] [])) (fun _ k => XS.icmpNo X74.here hx rfl (hb hby at_262) rfl (teq hc96).2 k) ?_
                    refine Ends.st (S' := T74.setTop (mkF m 267 #[.val (.int v0), .val (.int v1), .val (.int v2), .val (.int v3), .val (.int v4), .val (.long v5), .second, .val (.int dl), .val (.ref xa), .val (.int (0 : Int32)), .val (.ref xb), .val (.int a2), .val (.int b2), .val (.int c2), .val (.int d2), .val (.ref b12), .val (.ref b46), .val (.int ((((v5.toUInt64 >>> ((5 : Int32) &&& 0x3f).toInt64.toUInt64).toInt64) &&& (3 : Int64)).toInt32)), .unset] [(.ref xa)])) (fun _ k => XS.aload X74.here hx rfl (hb hby at_265) rfl rfl k) ?_
                    refine Ends.st (S' := T74.setTop (mkF m 269 #[.val (.int v0), .val (.int v1), .val (.int v2), .val (.int v3), .val (.int v4), .val (.long v5), .second, .val (.int dl), .val (.ref xa), .val (.int (0 : Int32)), .val (.ref xb), .val (.int a2), .val (.int b2), .val (.int c2), .val (.int d2), .val (.ref b12), .val (.ref b46), .val (.int ((((v5.toUInt64 >>> ((5 : Int32) &&& 0x3f).toInt64.toUInt64).toInt64) &&& (3 : Int64)).toInt32)), .val (.ref xa)] [])) (fun _ k => XS.astore X74.here hx rfl (hb hby at_267) rfl rfl (l' := #[.val (.int v0), .val (.int v1), .val (.int v2), .val (.int v3), .val (.int v4), .val (.long v5), .second, .val (.int dl), .val (.ref xa), .val (.int (0 : Int32)), .val (.ref xb), .val (.int a2), .val (.int b2), .val (.int c2), .val (.int d2), .val (.ref b12), .val (.ref b46), .val (.int ((((v5.toUInt64 >>> ((5 : Int32) &&& 0x3f).toInt64.toUInt64).toInt64) &&& (3 : Int64)).toInt32)), .val (.ref xa)]) rfl k) ?_
                    refine Ends.st (S' := T74.setTop (mkF m 271 #[.val (.int v0), .val (.int v1), .val (.int v2), .val (.int v3), .val (.int v4), .val (.long v5), .second, .val (.int dl), .val (.ref xa), .val (.int (0 : Int32)), .val (.ref xb), .val (.int a2), .val (.int b2), .val (.int c2), .val (.int d2), .val (.ref b12), .val (.ref b46), .val (.int ((((v5.toUInt64 >>> ((5 : Int32) &&& 0x3f).toInt64.toUInt64).toInt64) &&& (3 : Int64)).toInt32)), .val (.ref xa)] [(.ref b12)])) (fun _ k => XS.aload X74.here hx rfl (hb hby at_269) rfl rfl k) ?_
                    refine Ends.st (S' := T74.setTop (mkF m 273 #[.val (.int v0), .val (.int v1), .val (.int v2), .val (.int v3), .val (.int v4), .val (.long v5), .second, .val (.int dl), .val (.ref xa), .val (.int (0 : Int32)), .val (.ref xb), .val (.int a2), .val (.int b2), .val (.int c2), .val (.int d2), .val (.ref b12), .val (.ref b46), .val (.int ((((v5.toUInt64 >>> ((5 : Int32) &&& 0x3f).toInt64.toUInt64).toInt64) &&& (3 : Int64)).toInt32)), .val (.ref xa)] [(.ref xa), (.ref b12)])) (fun _ k => XS.aload X74.here hx rfl (hb hby at_271) rfl rfl k) ?_
                    obtain ⟨cq97, kq97, q97a, q97b, q97c⟩ := isOf hZ rfl (f85)
                    obtain ⟨_, _, ⟨T97, L97, k97, n97⟩, -, X97, ⟨Lc97, hQ97, l97, y97, z97⟩, st97⟩ := X74.virtualBack hx (y := (⟨"com/example/umpteenth_copy/umpteenthcopy/engine/Passage", "equals", "(Ljava/lang/Object;)Z"⟩ : MethodName)) (z := (⟨"com/example/umpteenth_copy/umpteenthcopy/engine/Passage", "equals", "(Ljava/lang/Object;)Z"⟩ : MethodName)) hown (mvT hZ (hw _ (List.mem_of_getElem? (i := 65) rfl))) (mvT hZ (hw _ (List.mem_of_getElem? (i := 66) rfl))) (notFace_of_selects (args := #[]) (mvT hZ (hw _ (List.mem_of_getElem? (i := 68) rfl)))) (mvT hZ (hw _ (List.mem_of_getElem? (i := 68) rfl))) (mvT hZ (hw _ (List.mem_of_getElem? (i := 67) rfl))) (by decide) (backOf (W := 0) (rm9c l Z a0 hw [] b12 xa T74.heap n0 f75 f77) hZ (hw _ (List.mem_of_getElem? (i := 69) rfl)) (hw _ (List.mem_of_getElem? (i := 31) rfl)) (by decide) (by decide)) q97a q97c (g := (mkF m 273 #[.val (.int v0), .val (.int v1), .val (.int v2), .val (.int v3), .val (.int v4), .val (.long v5), .second, .val (.int dl), .val (.ref xa), .val (.int (0 : Int32)), .val (.ref xb), .val (.int a2), .val (.int b2), .val (.int c2), .val (.int d2), .val (.ref b12), .val (.ref b46), .val (.int ((((v5.toUInt64 >>> ((5 : Int32) &&& 0x3f).toInt64.toUInt64).toInt64) &&& (3 : Int64)).toInt32)), .val (.ref xa)] [(.ref xa), (.ref b12)])) rfl (by rw [hml]; rfl) (Steps.refl _) (argsL := [(.ref xa)]) (rest := []) (lenOf pd_3 rfl) rfl (by show 2 * 0 + _ ≤ _; exact Nat.le_of_eq rfl) (hb hby at_273) (fun _ _ => ⟨rfl, rfl, (by decide : 0 + 6 + 6 + 1 + 2 + 1 + 2 + 0 ≤ _), (by decide : 0 + 16 + 16 + 5 + 28 + 5 + 28 + 0 ≤ _)⟩)
                    dsimp only [Pt.U, Pt.locs, Pt.cells, Pt.slots] at X97 l97 y97 z97 st97 hQ97
                    subst l97 y97 z97
                    obtain ⟨rfl, N97q, e97⟩ := hQ97
                    have N97 := Fr.app N74 N97q
                    refine Ends.st (S' := T97.setTop (mkF m 276 #[.val (.int v0), .val (.int v1), .val (.int v2), .val (.int v3), .val (.int v4), .val (.long v5), .second, .val (.int dl), .val (.ref xa), .val (.int (0 : Int32)), .val (.ref xb), .val (.int a2), .val (.int b2), .val (.int c2), .val (.int d2), .val (.ref b12), .val (.ref b46), .val (.int ((((v5.toUInt64 >>> ((5 : Int32) &&& 0x3f).toInt64.toUInt64).toInt64) &&& (3 : Int64)).toInt32)), .val (.ref xa)] [(.int (0 : Int32))])) (fun _ k => st97.trans k) ?_
                    refine Ends.st (S' := T97.setTop (mkF m 279 #[.val (.int v0), .val (.int v1), .val (.int v2), .val (.int v3), .val (.int v4), .val (.long v5), .second, .val (.int dl), .val (.ref xa), .val (.int (0 : Int32)), .val (.ref xb), .val (.int a2), .val (.int b2), .val (.int c2), .val (.int d2), .val (.ref b12), .val (.ref b46), .val (.int ((((v5.toUInt64 >>> ((5 : Int32) &&& 0x3f).toInt64.toUInt64).toInt64) &&& (3 : Int64)).toInt32)), .val (.ref xa)] [])) (fun _ k => XS.ifNo X97.here hx rfl (hb hby at_276) rfl ((if0 _ _).trans (teq (by decide : (0 : Int32) = (0 : Int32))).2) k) ?_
                    refine Ends.st (S' := T97.setTop (mkF m 280 #[.val (.int v0), .val (.int v1), .val (.int v2), .val (.int v3), .val (.int v4), .val (.long v5), .second, .val (.int dl), .val (.ref xa), .val (.int (0 : Int32)), .val (.ref xb), .val (.int a2), .val (.int b2), .val (.int c2), .val (.int d2), .val (.ref b12), .val (.ref b46), .val (.int ((((v5.toUInt64 >>> ((5 : Int32) &&& 0x3f).toInt64.toUInt64).toInt64) &&& (3 : Int64)).toInt32)), .val (.ref xa)] [(.int (1 : Int32))])) (fun _ k => XS.iconst X97.here hx rfl (hb hby at_279) k) ?_
                    refine Ends.st (S' := T97.setTop (mkF m 284 #[.val (.int v0), .val (.int v1), .val (.int v2), .val (.int v3), .val (.int v4), .val (.long v5), .second, .val (.int dl), .val (.ref xa), .val (.int (0 : Int32)), .val (.ref xb), .val (.int a2), .val (.int b2), .val (.int c2), .val (.int d2), .val (.ref b12), .val (.ref b46), .val (.int ((((v5.toUInt64 >>> ((5 : Int32) &&& 0x3f).toInt64.toUInt64).toInt64) &&& (3 : Int64)).toInt32)), .val (.ref xa)] [(.int (1 : Int32))])) (fun _ k => XS.goto X97.here hx rfl (pc0 := 280) (pc' := 284) rfl (hb hby at_280) (by decide) (by decide) k) ?_
                    obtain ⟨fs, hr, hrun, hended, hRW⟩ := Stand.leaveW (s := s) (vm₁ := T74.vm) X97 hS74 (Nat.le_trans (Nat.le_refl T74.heap.size) (Nat.le_of_eq (congrArg Array.size (Eq.symm e97)))) (v := some (.int (1 : Int32))) (fun h => by rw [Bd.returns] at h; cases h)
                    exact ⟨_, _, retN X97 hx (t := .boolean) Bd.returns (by simp) (hb hby at_284) hr, hrun, hended, _, _, rfl, (by show Q0 Z  h0 n0 _ T97.heap _; rw [e97]; exact ⟨rfl, N97⟩), hRW.1, hRW.2.1, hRW.2.2.1, hRW.2.2.2.mono (by decide) (by decide)⟩
                  · refine Ends.st (S' := T74.setTop (mkF m 285 #[.val (.int v0), .val (.int v1), .val (.int v2), .val (.int v3), .val (.int v4), .val (.long v5), .second, .val (.int dl), .val (.ref xa), .val (.int (0 : Int32)), .val (.ref xb), .val (.int a2), .val (.int b2), .val (.int c2), .val (.int d2), .val (.ref b12), .val (.ref b46), .val (.int ((((v5.toUInt64 >>> ((5 : Int32) &&& 0x3f).toInt64.toUInt64).toInt64) &&& (3 : Int64)).toInt32)), .unset] [])) (fun _ k => XS.icmpYes X74.here hx rfl (pc0 := 262) (pc' := 285) rfl (hb hby at_262) rfl (feq hc96).2 (by decide) (by decide) k) ?_
                    refine Ends.st (S' := T74.setTop (mkF m 287 #[.val (.int v0), .val (.int v1), .val (.int v2), .val (.int v3), .val (.int v4), .val (.long v5), .second, .val (.int dl), .val (.ref xa), .val (.int (0 : Int32)), .val (.ref xb), .val (.int a2), .val (.int b2), .val (.int c2), .val (.int d2), .val (.ref b12), .val (.ref b46), .val (.int ((((v5.toUInt64 >>> ((5 : Int32) &&& 0x3f).toInt64.toUInt64).toInt64) &&& (3 : Int64)).toInt32)), .unset] [(.ref xa)])) (fun _ k => XS.aload X74.here hx rfl (hb hby at_285) rfl rfl k) ?_
                    refine Ends.st (S' := T74.setTop (mkF m 289 #[.val (.int v0), .val (.int v1), .val (.int v2), .val (.int v3), .val (.int v4), .val (.long v5), .second, .val (.int dl), .val (.ref xa), .val (.int (0 : Int32)), .val (.ref xb), .val (.int a2), .val (.int b2), .val (.int c2), .val (.int d2), .val (.ref b12), .val (.ref b46), .val (.int ((((v5.toUInt64 >>> ((5 : Int32) &&& 0x3f).toInt64.toUInt64).toInt64) &&& (3 : Int64)).toInt32)), .unset] [(.ref xb), (.ref xa)])) (fun _ k => XS.aload X74.here hx rfl (hb hby at_287) rfl rfl k) ?_
                    have heq : ∀ d ∈ StrChars.Road.wordsEq, d.before a0 Z = true := fun d hd => hw d ((by decide +kernel : ∀ d ∈ StrChars.Road.wordsEq, d ∈ tables_1) d hd)
                    obtain ⟨cq98, kq98, q98a, q98b, q98c⟩ := isOf hZ rfl (f77)
                    obtain ⟨_, _, ⟨T98, L98, k98, n98⟩, -, X98, ⟨Lc98, hQ98, l98, y98, z98⟩, st98⟩ := X74.virtualBack hx (y := (⟨"java/lang/String", "equals", "(Ljava/lang/Object;)Z"⟩ : MethodName)) (z := (⟨"java/lang/String", "equals", "(Ljava/lang/Object;)Z"⟩ : MethodName)) hown (mvT hZ (hw _ (List.mem_of_getElem? (i := 53) rfl))) (mvT hZ (hw _ (List.mem_of_getElem? (i := 54) rfl))) (notFace_of_selects (args := #[]) (mvT hZ (hw _ (List.mem_of_getElem? (i := 56) rfl)))) (mvT hZ (hw _ (List.mem_of_getElem? (i := 56) rfl))) (mvT hZ (hw _ (List.mem_of_getElem? (i := 55) rfl))) (by decide) (StrChars.Road.eqW (W := 0) hZ heq (kI := 4) (hw _ (List.mem_of_getElem? (i := 5) rfl)) f77 f78 f79 f80 hca hba hla f81 f82 f83 f84 hcb hbb hlb (SC.ext f76.2) hG (by decide) (by decide)) q98a q98c (g := (mkF m 289 #[.val (.int v0), .val (.int v1), .val (.int v2), .val (.int v3), .val (.int v4), .val (.long v5), .second, .val (.int dl), .val (.ref xa), .val (.int (0 : Int32)), .val (.ref xb), .val (.int a2), .val (.int b2), .val (.int c2), .val (.int d2), .val (.ref b12), .val (.ref b46), .val (.int ((((v5.toUInt64 >>> ((5 : Int32) &&& 0x3f).toInt64.toUInt64).toInt64) &&& (3 : Int64)).toInt32)), .unset] [(.ref xb), (.ref xa)])) rfl (by rw [hml]; rfl) (Steps.refl _) (argsL := [(.ref xb)]) (rest := []) (lenOf pd_3 rfl) rfl (by show 2 * 0 + _ ≤ _; exact Nat.le_of_eq rfl) (hb hby at_289) (fun _ _ => ⟨rfl, rfl, (by decide : 0 + 6 + 6 + 1 + 2 + 1 + 2 + 0 ≤ _), (by decide : 0 + 16 + 16 + 5 + 28 + 5 + 28 + 0 ≤ _)⟩)
                    dsimp only [Pt.U, Pt.locs, Pt.cells, Pt.slots] at X98 l98 y98 z98 st98 hQ98
                    subst l98 y98 z98
                    obtain ⟨hE98, rfl, e98⟩ := hQ98
                    have N98 := Fr.app N74 (Fr.nil n0)
                    rcases hE98 with ⟨rfl, hcs98⟩ | ⟨rfl, hcs98⟩
                    · refine Ends.st (S' := T98.setTop (mkF m 292 #[.val (.int v0), .val (.int v1), .val (.int v2), .val (.int v3), .val (.int v4), .val (.long v5), .second, .val (.int dl), .val (.ref xa), .val (.int (0 : Int32)), .val (.ref xb), .val (.int a2), .val (.int b2), .val (.int c2), .val (.int d2), .val (.ref b12), .val (.ref b46), .val (.int ((((v5.toUInt64 >>> ((5 : Int32) &&& 0x3f).toInt64.toUInt64).toInt64) &&& (3 : Int64)).toInt32)), .unset] [(.int (1 : Int32))])) (fun _ k => st98.trans k) ?_
                      refine Ends.st (S' := T98.setTop (mkF m 295 #[.val (.int v0), .val (.int v1), .val (.int v2), .val (.int v3), .val (.int v4), .val (.long v5), .second, .val (.int dl), .val (.ref xa), .val (.int (0 : Int32)), .val (.ref xb), .val (.int a2), .val (.int b2), .val (.int c2), .val (.int d2), .val (.ref b12), .val (.ref b46), .val (.int ((((v5.toUInt64 >>> ((5 : Int32) &&& 0x3f).toInt64.toUInt64).toInt64) &&& (3 : Int64)).toInt32)), .unset] [])) (fun _ k => XS.ifNo X98.here hx rfl (hb hby at_292) rfl ((if0 _ _).trans (feq (by decide : ¬ ((1 : Int32) = (0 : Int32)))).1) k) ?_
                      refine Ends.st (S' := T98.setTop (mkF m 297 #[.val (.int v0), .val (.int v1), .val (.int v2), .val (.int v3), .val (.int v4), .val (.long v5), .second, .val (.int dl), .val (.ref xa), .val (.int (0 : Int32)), .val (.ref xb), .val (.int a2), .val (.int b2), .val (.int c2), .val (.int d2), .val (.ref b12), .val (.ref b46), .val (.int ((((v5.toUInt64 >>> ((5 : Int32) &&& 0x3f).toInt64.toUInt64).toInt64) &&& (3 : Int64)).toInt32)), .unset] [(.long v5)])) (fun _ k => XS.lload X98.here hx rfl (hb hby at_295) rfl k) ?_
                      refine Ends.st (S' := T98.setTop (mkF m 300 #[.val (.int v0), .val (.int v1), .val (.int v2), .val (.int v3), .val (.int v4), .val (.long v5), .second, .val (.int dl), .val (.ref xa), .val (.int (0 : Int32)), .val (.ref xb), .val (.int a2), .val (.int b2), .val (.int c2), .val (.int d2), .val (.ref b12), .val (.ref b46), .val (.int ((((v5.toUInt64 >>> ((5 : Int32) &&& 0x3f).toInt64.toUInt64).toInt64) &&& (3 : Int64)).toInt32)), .unset] [(.long (15 : Int64)), (.long v5)])) (fun _ k => X98.ldc2Long hx hown (mvT hZ (hw _ (List.mem_of_getElem? (i := 64) rfl))) (g := (mkF m 297 #[.val (.int v0), .val (.int v1), .val (.int v2), .val (.int v3), .val (.int v4), .val (.long v5), .second, .val (.int dl), .val (.ref xa), .val (.int (0 : Int32)), .val (.ref xb), .val (.int a2), .val (.int b2), .val (.int c2), .val (.int d2), .val (.ref b12), .val (.ref b46), .val (.int ((((v5.toUInt64 >>> ((5 : Int32) &&& 0x3f).toInt64.toUInt64).toInt64) &&& (3 : Int64)).toInt32)), .unset] [(.long v5)])) rfl (hb hby at_297) _ k) ?_
                      refine Ends.st (S' := T98.setTop (mkF m 301 #[.val (.int v0), .val (.int v1), .val (.int v2), .val (.int v3), .val (.int v4), .val (.long v5), .second, .val (.int dl), .val (.ref xa), .val (.int (0 : Int32)), .val (.ref xb), .val (.int a2), .val (.int b2), .val (.int c2), .val (.int d2), .val (.ref b12), .val (.ref b46), .val (.int ((((v5.toUInt64 >>> ((5 : Int32) &&& 0x3f).toInt64.toUInt64).toInt64) &&& (3 : Int64)).toInt32)), .unset] [(.long (v5 &&& (15 : Int64)))])) (fun _ k => XS.land X98.here hx rfl (hb hby at_300) rfl k) ?_
                      refine Ends.st (S' := T98.setTop (mkF m 302 #[.val (.int v0), .val (.int v1), .val (.int v2), .val (.int v3), .val (.int v4), .val (.long v5), .second, .val (.int dl), .val (.ref xa), .val (.int (0 : Int32)), .val (.ref xb), .val (.int a2), .val (.int b2), .val (.int c2), .val (.int d2), .val (.ref b12), .val (.ref b46), .val (.int ((((v5.toUInt64 >>> ((5 : Int32) &&& 0x3f).toInt64.toUInt64).toInt64) &&& (3 : Int64)).toInt32)), .unset] [(.long (0 : Int64)), (.long (v5 &&& (15 : Int64)))])) (fun _ k => XS.lconst X98.here hx rfl (hb hby at_301) k) ?_
                      refine Ends.st (S' := T98.setTop (mkF m 303 #[.val (.int v0), .val (.int v1), .val (.int v2), .val (.int v3), .val (.int v4), .val (.long v5), .second, .val (.int dl), .val (.ref xa), .val (.int (0 : Int32)), .val (.ref xb), .val (.int a2), .val (.int b2), .val (.int c2), .val (.int d2), .val (.ref b12), .val (.ref b46), .val (.int ((((v5.toUInt64 >>> ((5 : Int32) &&& 0x3f).toInt64.toUInt64).toInt64) &&& (3 : Int64)).toInt32)), .unset] [(.int (lcmpW (v5 &&& (15 : Int64)) (0 : Int64)))])) (fun _ k => XS.lcmp X98.here hx rfl (hb hby at_302) rfl k) ?_
                      by_cases hc99 : (lcmpW (v5 &&& (15 : Int64)) (0 : Int64)) = (0 : Int32)
                      · refine Ends.st (S' := T98.setTop (mkF m 306 #[.val (.int v0), .val (.int v1), .val (.int v2), .val (.int v3), .val (.int v4), .val (.long v5), .second, .val (.int dl), .val (.ref xa), .val (.int (0 : Int32)), .val (.ref xb), .val (.int a2), .val (.int b2), .val (.int c2), .val (.int d2), .val (.ref b12), .val (.ref b46), .val (.int ((((v5.toUInt64 >>> ((5 : Int32) &&& 0x3f).toInt64.toUInt64).toInt64) &&& (3 : Int64)).toInt32)), .unset] [])) (fun _ k => XS.ifNo X98.here hx rfl (hb hby at_303) rfl ((if0 _ _).trans (teq hc99).2) k) ?_
                        refine Ends.st (S' := T98.setTop (mkF m 307 #[.val (.int v0), .val (.int v1), .val (.int v2), .val (.int v3), .val (.int v4), .val (.long v5), .second, .val (.int dl), .val (.ref xa), .val (.int (0 : Int32)), .val (.ref xb), .val (.int a2), .val (.int b2), .val (.int c2), .val (.int d2), .val (.ref b12), .val (.ref b46), .val (.int ((((v5.toUInt64 >>> ((5 : Int32) &&& 0x3f).toInt64.toUInt64).toInt64) &&& (3 : Int64)).toInt32)), .unset] [(.int (1 : Int32))])) (fun _ k => XS.iconst X98.here hx rfl (hb hby at_306) k) ?_
                        refine Ends.st (S' := T98.setTop (mkF m 311 #[.val (.int v0), .val (.int v1), .val (.int v2), .val (.int v3), .val (.int v4), .val (.long v5), .second, .val (.int dl), .val (.ref xa), .val (.int (0 : Int32)), .val (.ref xb), .val (.int a2), .val (.int b2), .val (.int c2), .val (.int d2), .val (.ref b12), .val (.ref b46), .val (.int ((((v5.toUInt64 >>> ((5 : Int32) &&& 0x3f).toInt64.toUInt64).toInt64) &&& (3 : Int64)).toInt32)), .unset] [(.int (1 : Int32))])) (fun _ k => XS.goto X98.here hx rfl (pc0 := 307) (pc' := 311) rfl (hb hby at_307) (by decide) (by decide) k) ?_
                        refine Ends.st (S' := T98.setTop (mkF m 313 #[.val (.int v0), .val (.int v1), .val (.int v2), .val (.int v3), .val (.int v4), .val (.long v5), .second, .val (.int dl), .val (.ref xa), .val (.int (0 : Int32)), .val (.ref xb), .val (.int a2), .val (.int b2), .val (.int c2), .val (.int d2), .val (.ref b12), .val (.ref b46), .val (.int ((((v5.toUInt64 >>> ((5 : Int32) &&& 0x3f).toInt64.toUInt64).toInt64) &&& (3 : Int64)).toInt32)), .val (.int (1 : Int32))] [])) (fun _ k => XS.istore X98.here hx rfl (hb hby at_311) rfl (l' := #[.val (.int v0), .val (.int v1), .val (.int v2), .val (.int v3), .val (.int v4), .val (.long v5), .second, .val (.int dl), .val (.ref xa), .val (.int (0 : Int32)), .val (.ref xb), .val (.int a2), .val (.int b2), .val (.int c2), .val (.int d2), .val (.ref b12), .val (.ref b46), .val (.int ((((v5.toUInt64 >>> ((5 : Int32) &&& 0x3f).toInt64.toUInt64).toInt64) &&& (3 : Int64)).toInt32)), .val (.int (1 : Int32))]) rfl k) ?_
                        refine Ends.st (S' := T98.setTop (mkF m 315 #[.val (.int v0), .val (.int v1), .val (.int v2), .val (.int v3), .val (.int v4), .val (.long v5), .second, .val (.int dl), .val (.ref xa), .val (.int (0 : Int32)), .val (.ref xb), .val (.int a2), .val (.int b2), .val (.int c2), .val (.int d2), .val (.ref b12), .val (.ref b46), .val (.int ((((v5.toUInt64 >>> ((5 : Int32) &&& 0x3f).toInt64.toUInt64).toInt64) &&& (3 : Int64)).toInt32)), .val (.int (1 : Int32))] [(.ref b12)])) (fun _ k => XS.aload X98.here hx rfl (hb hby at_313) rfl rfl k) ?_
                        refine Ends.st (S' := T98.setTop (mkF m 317 #[.val (.int v0), .val (.int v1), .val (.int v2), .val (.int v3), .val (.int v4), .val (.long v5), .second, .val (.int dl), .val (.ref xa), .val (.int (0 : Int32)), .val (.ref xb), .val (.int a2), .val (.int b2), .val (.int c2), .val (.int d2), .val (.ref b12), .val (.ref b46), .val (.int ((((v5.toUInt64 >>> ((5 : Int32) &&& 0x3f).toInt64.toUInt64).toInt64) &&& (3 : Int64)).toInt32)), .val (.int (1 : Int32))] [(.ref b46), (.ref b12)])) (fun _ k => XS.aload X98.here hx rfl (hb hby at_315) rfl rfl k) ?_
                        obtain ⟨cq100, kq100, q100a, q100b, q100c⟩ := isOf hZ e98 (f85)
                        obtain ⟨_, _, ⟨T100, L100, k100, n100⟩, -, X100, ⟨Lc100, hQ100, l100, y100, z100⟩, st100⟩ := X98.virtualBack hx (y := (⟨"com/example/umpteenth_copy/umpteenthcopy/engine/Passage", "equals", "(Ljava/lang/Object;)Z"⟩ : MethodName)) (z := (⟨"com/example/umpteenth_copy/umpteenthcopy/engine/Passage", "equals", "(Ljava/lang/Object;)Z"⟩ : MethodName)) hown (mvT hZ (hw _ (List.mem_of_getElem? (i := 65) rfl))) (mvT hZ (hw _ (List.mem_of_getElem? (i := 66) rfl))) (notFace_of_selects (args := #[]) (mvT hZ (hw _ (List.mem_of_getElem? (i := 68) rfl)))) (mvT hZ (hw _ (List.mem_of_getElem? (i := 68) rfl))) (mvT hZ (hw _ (List.mem_of_getElem? (i := 67) rfl))) (by decide) (backOf (W := 0) (rm9a l Z a0 hw [] b12 b46 G xa ta ka _ Ma vsa v0 v1 v2 v3 xb tb kb _ Mb vsb a2 b2 c2 d2 T74.heap n0 f75 f91 f86 f87 f88 f89 f90 f77 f78 f79 f80 hca hba hla G74source G74start G74end G74sourceStart G74sourceEnd f81 f82 f83 f84 hcb hbb hlb (SC.ext f76.2) hG) hZ (hw _ (List.mem_of_getElem? (i := 69) rfl)) (hw _ (List.mem_of_getElem? (i := 31) rfl)) (by decide) (by decide)) q100a q100c (g := (mkF m 317 #[.val (.int v0), .val (.int v1), .val (.int v2), .val (.int v3), .val (.int v4), .val (.long v5), .second, .val (.int dl), .val (.ref xa), .val (.int (0 : Int32)), .val (.ref xb), .val (.int a2), .val (.int b2), .val (.int c2), .val (.int d2), .val (.ref b12), .val (.ref b46), .val (.int ((((v5.toUInt64 >>> ((5 : Int32) &&& 0x3f).toInt64.toUInt64).toInt64) &&& (3 : Int64)).toInt32)), .val (.int (1 : Int32))] [(.ref b46), (.ref b12)])) rfl (by rw [hml]; rfl) (Steps.refl _) (argsL := [(.ref b46)]) (rest := []) (lenOf pd_3 rfl) rfl (by show 2 * 0 + _ ≤ _; exact Nat.le_of_eq rfl) (hb hby at_317) (fun _ _ => ⟨rfl, e98, (by decide : 0 + 6 + 6 + 1 + 2 + 1 + 2 + 0 + 0 ≤ _), (by decide : 0 + 16 + 16 + 5 + 28 + 5 + 28 + 0 + 0 ≤ _)⟩)
                        dsimp only [Pt.U, Pt.locs, Pt.cells, Pt.slots] at X100 l100 y100 z100 st100 hQ100
                        subst l100 y100 z100
                        obtain ⟨rfl, N100q, e100⟩ := hQ100
                        have N100 := Fr.app N98 N100q
                        refine Ends.st (S' := T100.setTop (mkF m 320 #[.val (.int v0), .val (.int v1), .val (.int v2), .val (.int v3), .val (.int v4), .val (.long v5), .second, .val (.int dl), .val (.ref xa), .val (.int (0 : Int32)), .val (.ref xb), .val (.int a2), .val (.int b2), .val (.int c2), .val (.int d2), .val (.ref b12), .val (.ref b46), .val (.int ((((v5.toUInt64 >>> ((5 : Int32) &&& 0x3f).toInt64.toUInt64).toInt64) &&& (3 : Int64)).toInt32)), .val (.int (1 : Int32))] [(.int (same9 (strs v4 ((v4.toUInt32 >>> ((8 : Int32) &&& 31).toUInt32).toInt32) ((v4.toUInt32 >>> ((16 : Int32) &&& 31).toUInt32).toInt32)) (strs (((v5.toUInt64 >>> ((8 : Int32) &&& 0x3f).toInt64.toUInt64).toInt64).toInt32) (((v5.toUInt64 >>> ((10 : Int32) &&& 0x3f).toInt64.toUInt64).toInt64).toInt32) (((v5.toUInt64 >>> ((18 : Int32) &&& 0x3f).toInt64.toUInt64).toInt64).toInt32)) v0 a2 v1 b2 v2 c2 v3 d2))])) (fun _ k => st100.trans k) ?_
                        refine Ends.st (S' := T100.setTop (mkF m 322 #[.val (.int v0), .val (.int v1), .val (.int v2), .val (.int v3), .val (.int v4), .val (.long v5), .second, .val (.int dl), .val (.ref xa), .val (.int (0 : Int32)), .val (.ref xb), .val (.int a2), .val (.int b2), .val (.int c2), .val (.int d2), .val (.ref b12), .val (.ref b46), .val (.int ((((v5.toUInt64 >>> ((5 : Int32) &&& 0x3f).toInt64.toUInt64).toInt64) &&& (3 : Int64)).toInt32)), .val (.int (1 : Int32))] [(.int (1 : Int32)), (.int (same9 (strs v4 ((v4.toUInt32 >>> ((8 : Int32) &&& 31).toUInt32).toInt32) ((v4.toUInt32 >>> ((16 : Int32) &&& 31).toUInt32).toInt32)) (strs (((v5.toUInt64 >>> ((8 : Int32) &&& 0x3f).toInt64.toUInt64).toInt64).toInt32) (((v5.toUInt64 >>> ((10 : Int32) &&& 0x3f).toInt64.toUInt64).toInt64).toInt32) (((v5.toUInt64 >>> ((18 : Int32) &&& 0x3f).toInt64.toUInt64).toInt64).toInt32)) v0 a2 v1 b2 v2 c2 v3 d2))])) (fun _ k => XS.iload X100.here hx rfl (hb hby at_320) rfl k) ?_
                        have hb101 : (same9 (strs v4 ((v4.toUInt32 >>> ((8 : Int32) &&& 31).toUInt32).toInt32) ((v4.toUInt32 >>> ((16 : Int32) &&& 31).toUInt32).toInt32)) (strs (((v5.toUInt64 >>> ((8 : Int32) &&& 0x3f).toInt64.toUInt64).toInt64).toInt32) (((v5.toUInt64 >>> ((10 : Int32) &&& 0x3f).toInt64.toUInt64).toInt64).toInt32) (((v5.toUInt64 >>> ((18 : Int32) &&& 0x3f).toInt64.toUInt64).toInt64).toInt32)) v0 a2 v1 b2 v2 c2 v3 d2) = (1 : Int32) := if_pos ⟨hcs98, ((own_all ha2 hb2 hc2 hd2).mp hc99).1.symm, ((own_all ha2 hb2 hc2 hd2).mp hc99).2.1.symm, ((own_all ha2 hb2 hc2 hd2).mp hc99).2.2.1.symm, ((own_all ha2 hb2 hc2 hd2).mp hc99).2.2.2.symm⟩
                        refine Ends.st (S' := T100.setTop (mkF m 325 #[.val (.int v0), .val (.int v1), .val (.int v2), .val (.int v3), .val (.int v4), .val (.long v5), .second, .val (.int dl), .val (.ref xa), .val (.int (0 : Int32)), .val (.ref xb), .val (.int a2), .val (.int b2), .val (.int c2), .val (.int d2), .val (.ref b12), .val (.ref b46), .val (.int ((((v5.toUInt64 >>> ((5 : Int32) &&& 0x3f).toInt64.toUInt64).toInt64) &&& (3 : Int64)).toInt32)), .val (.int (1 : Int32))] [])) (fun _ k => XS.icmpNo X100.here hx rfl (hb hby at_322) rfl (teq hb101).2 k) ?_
                        refine Ends.st (S' := T100.setTop (mkF m 327 #[.val (.int v0), .val (.int v1), .val (.int v2), .val (.int v3), .val (.int v4), .val (.long v5), .second, .val (.int dl), .val (.ref xa), .val (.int (0 : Int32)), .val (.ref xb), .val (.int a2), .val (.int b2), .val (.int c2), .val (.int d2), .val (.ref b12), .val (.ref b46), .val (.int ((((v5.toUInt64 >>> ((5 : Int32) &&& 0x3f).toInt64.toUInt64).toInt64) &&& (3 : Int64)).toInt32)), .val (.int (1 : Int32))] [(.ref b46)])) (fun _ k => XS.aload X100.here hx rfl (hb hby at_325) rfl rfl k) ?_
                        refine Ends.st (S' := T100.setTop (mkF m 329 #[.val (.int v0), .val (.int v1), .val (.int v2), .val (.int v3), .val (.int v4), .val (.long v5), .second, .val (.int dl), .val (.ref xa), .val (.int (0 : Int32)), .val (.ref xb), .val (.int a2), .val (.int b2), .val (.int c2), .val (.int d2), .val (.ref b12), .val (.ref b46), .val (.int ((((v5.toUInt64 >>> ((5 : Int32) &&& 0x3f).toInt64.toUInt64).toInt64) &&& (3 : Int64)).toInt32)), .val (.int (1 : Int32))] [(.ref b12), (.ref b46)])) (fun _ k => XS.aload X100.here hx rfl (hb hby at_327) rfl rfl k) ?_
                        obtain ⟨cq102, kq102, q102a, q102b, q102c⟩ := isOf hZ e100 (f91)
                        obtain ⟨_, _, ⟨T102, L102, k102, n102⟩, -, X102, ⟨Lc102, hQ102, l102, y102, z102⟩, st102⟩ := X100.virtualBack hx (y := (⟨"com/example/umpteenth_copy/umpteenthcopy/engine/Passage", "equals", "(Ljava/lang/Object;)Z"⟩ : MethodName)) (z := (⟨"com/example/umpteenth_copy/umpteenthcopy/engine/Passage", "equals", "(Ljava/lang/Object;)Z"⟩ : MethodName)) hown (mvT hZ (hw _ (List.mem_of_getElem? (i := 65) rfl))) (mvT hZ (hw _ (List.mem_of_getElem? (i := 66) rfl))) (notFace_of_selects (args := #[]) (mvT hZ (hw _ (List.mem_of_getElem? (i := 68) rfl)))) (mvT hZ (hw _ (List.mem_of_getElem? (i := 68) rfl))) (mvT hZ (hw _ (List.mem_of_getElem? (i := 67) rfl))) (by decide) (backOf (W := 0) (rm9a l Z a0 hw [] b46 b12 G xb tb kb _ Mb vsb a2 b2 c2 d2 xa ta ka _ Ma vsa v0 v1 v2 v3 T74.heap n0 f75 f85 G74source G74start G74end G74sourceStart G74sourceEnd f81 f82 f83 f84 hcb hbb hlb f86 f87 f88 f89 f90 f77 f78 f79 f80 hca hba hla (SC.ext f76.2) hG) hZ (hw _ (List.mem_of_getElem? (i := 69) rfl)) (hw _ (List.mem_of_getElem? (i := 31) rfl)) (by decide) (by decide)) q102a q102c (g := (mkF m 329 #[.val (.int v0), .val (.int v1), .val (.int v2), .val (.int v3), .val (.int v4), .val (.long v5), .second, .val (.int dl), .val (.ref xa), .val (.int (0 : Int32)), .val (.ref xb), .val (.int a2), .val (.int b2), .val (.int c2), .val (.int d2), .val (.ref b12), .val (.ref b46), .val (.int ((((v5.toUInt64 >>> ((5 : Int32) &&& 0x3f).toInt64.toUInt64).toInt64) &&& (3 : Int64)).toInt32)), .val (.int (1 : Int32))] [(.ref b12), (.ref b46)])) rfl (by rw [hml]; rfl) (Steps.refl _) (argsL := [(.ref b12)]) (rest := []) (lenOf pd_3 rfl) rfl (by show 2 * 0 + _ ≤ _; exact Nat.le_of_eq rfl) (hb hby at_329) (fun _ _ => ⟨rfl, e100, (by decide : 0 + 6 + 6 + 1 + 2 + 1 + 2 + 0 + 0 + 0 ≤ _), (by decide : 0 + 16 + 16 + 5 + 28 + 5 + 28 + 0 + 0 + 0 ≤ _)⟩)
                        dsimp only [Pt.U, Pt.locs, Pt.cells, Pt.slots] at X102 l102 y102 z102 st102 hQ102
                        subst l102 y102 z102
                        obtain ⟨rfl, N102q, e102⟩ := hQ102
                        have N102 := Fr.app N100 N102q
                        refine Ends.st (S' := T102.setTop (mkF m 332 #[.val (.int v0), .val (.int v1), .val (.int v2), .val (.int v3), .val (.int v4), .val (.long v5), .second, .val (.int dl), .val (.ref xa), .val (.int (0 : Int32)), .val (.ref xb), .val (.int a2), .val (.int b2), .val (.int c2), .val (.int d2), .val (.ref b12), .val (.ref b46), .val (.int ((((v5.toUInt64 >>> ((5 : Int32) &&& 0x3f).toInt64.toUInt64).toInt64) &&& (3 : Int64)).toInt32)), .val (.int (1 : Int32))] [(.int (same9 (strs (((v5.toUInt64 >>> ((8 : Int32) &&& 0x3f).toInt64.toUInt64).toInt64).toInt32) (((v5.toUInt64 >>> ((10 : Int32) &&& 0x3f).toInt64.toUInt64).toInt64).toInt32) (((v5.toUInt64 >>> ((18 : Int32) &&& 0x3f).toInt64.toUInt64).toInt64).toInt32)) (strs v4 ((v4.toUInt32 >>> ((8 : Int32) &&& 31).toUInt32).toInt32) ((v4.toUInt32 >>> ((16 : Int32) &&& 31).toUInt32).toInt32)) a2 v0 b2 v1 c2 v2 d2 v3))])) (fun _ k => st102.trans k) ?_
                        refine Ends.st (S' := T102.setTop (mkF m 334 #[.val (.int v0), .val (.int v1), .val (.int v2), .val (.int v3), .val (.int v4), .val (.long v5), .second, .val (.int dl), .val (.ref xa), .val (.int (0 : Int32)), .val (.ref xb), .val (.int a2), .val (.int b2), .val (.int c2), .val (.int d2), .val (.ref b12), .val (.ref b46), .val (.int ((((v5.toUInt64 >>> ((5 : Int32) &&& 0x3f).toInt64.toUInt64).toInt64) &&& (3 : Int64)).toInt32)), .val (.int (1 : Int32))] [(.int (1 : Int32)), (.int (same9 (strs (((v5.toUInt64 >>> ((8 : Int32) &&& 0x3f).toInt64.toUInt64).toInt64).toInt32) (((v5.toUInt64 >>> ((10 : Int32) &&& 0x3f).toInt64.toUInt64).toInt64).toInt32) (((v5.toUInt64 >>> ((18 : Int32) &&& 0x3f).toInt64.toUInt64).toInt64).toInt32)) (strs v4 ((v4.toUInt32 >>> ((8 : Int32) &&& 31).toUInt32).toInt32) ((v4.toUInt32 >>> ((16 : Int32) &&& 31).toUInt32).toInt32)) a2 v0 b2 v1 c2 v2 d2 v3))])) (fun _ k => XS.iload X102.here hx rfl (hb hby at_332) rfl k) ?_
                        have hb103 : (same9 (strs (((v5.toUInt64 >>> ((8 : Int32) &&& 0x3f).toInt64.toUInt64).toInt64).toInt32) (((v5.toUInt64 >>> ((10 : Int32) &&& 0x3f).toInt64.toUInt64).toInt64).toInt32) (((v5.toUInt64 >>> ((18 : Int32) &&& 0x3f).toInt64.toUInt64).toInt64).toInt32)) (strs v4 ((v4.toUInt32 >>> ((8 : Int32) &&& 31).toUInt32).toInt32) ((v4.toUInt32 >>> ((16 : Int32) &&& 31).toUInt32).toInt32)) a2 v0 b2 v1 c2 v2 d2 v3) = (1 : Int32) := if_pos ⟨hcs98.symm, ((own_all ha2 hb2 hc2 hd2).mp hc99).1, ((own_all ha2 hb2 hc2 hd2).mp hc99).2.1, ((own_all ha2 hb2 hc2 hd2).mp hc99).2.2.1, ((own_all ha2 hb2 hc2 hd2).mp hc99).2.2.2⟩
                        refine Ends.st (S' := T102.setTop (mkF m 337 #[.val (.int v0), .val (.int v1), .val (.int v2), .val (.int v3), .val (.int v4), .val (.long v5), .second, .val (.int dl), .val (.ref xa), .val (.int (0 : Int32)), .val (.ref xb), .val (.int a2), .val (.int b2), .val (.int c2), .val (.int d2), .val (.ref b12), .val (.ref b46), .val (.int ((((v5.toUInt64 >>> ((5 : Int32) &&& 0x3f).toInt64.toUInt64).toInt64) &&& (3 : Int64)).toInt32)), .val (.int (1 : Int32))] [])) (fun _ k => XS.icmpNo X102.here hx rfl (hb hby at_334) rfl (teq hb103).2 k) ?_
                        refine Ends.st (S' := T102.setTop (mkF m 338 #[.val (.int v0), .val (.int v1), .val (.int v2), .val (.int v3), .val (.int v4), .val (.long v5), .second, .val (.int dl), .val (.ref xa), .val (.int (0 : Int32)), .val (.ref xb), .val (.int a2), .val (.int b2), .val (.int c2), .val (.int d2), .val (.ref b12), .val (.ref b46), .val (.int ((((v5.toUInt64 >>> ((5 : Int32) &&& 0x3f).toInt64.toUInt64).toInt64) &&& (3 : Int64)).toInt32)), .val (.int (1 : Int32))] [(.int (1 : Int32))])) (fun _ k => XS.iconst X102.here hx rfl (hb hby at_337) k) ?_
                        refine Ends.st (S' := T102.setTop (mkF m 342 #[.val (.int v0), .val (.int v1), .val (.int v2), .val (.int v3), .val (.int v4), .val (.long v5), .second, .val (.int dl), .val (.ref xa), .val (.int (0 : Int32)), .val (.ref xb), .val (.int a2), .val (.int b2), .val (.int c2), .val (.int d2), .val (.ref b12), .val (.ref b46), .val (.int ((((v5.toUInt64 >>> ((5 : Int32) &&& 0x3f).toInt64.toUInt64).toInt64) &&& (3 : Int64)).toInt32)), .val (.int (1 : Int32))] [(.int (1 : Int32))])) (fun _ k => XS.goto X102.here hx rfl (pc0 := 338) (pc' := 342) rfl (hb hby at_338) (by decide) (by decide) k) ?_
                        obtain ⟨fs, hr, hrun, hended, hRW⟩ := Stand.leaveW (s := s) (vm₁ := T74.vm) X102 hS74 (Nat.le_trans (Nat.le_refl T74.heap.size) (Nat.le_of_eq (congrArg Array.size (Eq.symm e102)))) (v := some (.int (1 : Int32))) (fun h => by rw [Bd.returns] at h; cases h)
                        exact ⟨_, _, retN X102 hx (t := .boolean) Bd.returns (by simp) (hb hby at_342) hr, hrun, hended, _, _, rfl, (by show Q0 Z  h0 n0 _ T102.heap _; rw [e102]; exact ⟨rfl, N102⟩), hRW.1, hRW.2.1, hRW.2.2.1, hRW.2.2.2.mono (by decide) (by decide)⟩
                      · refine Ends.st (S' := T98.setTop (mkF m 310 #[.val (.int v0), .val (.int v1), .val (.int v2), .val (.int v3), .val (.int v4), .val (.long v5), .second, .val (.int dl), .val (.ref xa), .val (.int (0 : Int32)), .val (.ref xb), .val (.int a2), .val (.int b2), .val (.int c2), .val (.int d2), .val (.ref b12), .val (.ref b46), .val (.int ((((v5.toUInt64 >>> ((5 : Int32) &&& 0x3f).toInt64.toUInt64).toInt64) &&& (3 : Int64)).toInt32)), .unset] [])) (fun _ k => XS.ifYes X98.here hx rfl (pc0 := 303) (pc' := 310) rfl (hb hby at_303) rfl ((if0 _ _).trans (feq hc99).2) (by decide) (by decide) k) ?_
                        refine Ends.st (S' := T98.setTop (mkF m 311 #[.val (.int v0), .val (.int v1), .val (.int v2), .val (.int v3), .val (.int v4), .val (.long v5), .second, .val (.int dl), .val (.ref xa), .val (.int (0 : Int32)), .val (.ref xb), .val (.int a2), .val (.int b2), .val (.int c2), .val (.int d2), .val (.ref b12), .val (.ref b46), .val (.int ((((v5.toUInt64 >>> ((5 : Int32) &&& 0x3f).toInt64.toUInt64).toInt64) &&& (3 : Int64)).toInt32)), .unset] [(.int (0 : Int32))])) (fun _ k => XS.iconst X98.here hx rfl (hb hby at_310) k) ?_
                        refine Ends.st (S' := T98.setTop (mkF m 313 #[.val (.int v0), .val (.int v1), .val (.int v2), .val (.int v3), .val (.int v4), .val (.long v5), .second, .val (.int dl), .val (.ref xa), .val (.int (0 : Int32)), .val (.ref xb), .val (.int a2), .val (.int b2), .val (.int c2), .val (.int d2), .val (.ref b12), .val (.ref b46), .val (.int ((((v5.toUInt64 >>> ((5 : Int32) &&& 0x3f).toInt64.toUInt64).toInt64) &&& (3 : Int64)).toInt32)), .val (.int (0 : Int32))] [])) (fun _ k => XS.istore X98.here hx rfl (hb hby at_311) rfl (l' := #[.val (.int v0), .val (.int v1), .val (.int v2), .val (.int v3), .val (.int v4), .val (.long v5), .second, .val (.int dl), .val (.ref xa), .val (.int (0 : Int32)), .val (.ref xb), .val (.int a2), .val (.int b2), .val (.int c2), .val (.int d2), .val (.ref b12), .val (.ref b46), .val (.int ((((v5.toUInt64 >>> ((5 : Int32) &&& 0x3f).toInt64.toUInt64).toInt64) &&& (3 : Int64)).toInt32)), .val (.int (0 : Int32))]) rfl k) ?_
                        refine Ends.st (S' := T98.setTop (mkF m 315 #[.val (.int v0), .val (.int v1), .val (.int v2), .val (.int v3), .val (.int v4), .val (.long v5), .second, .val (.int dl), .val (.ref xa), .val (.int (0 : Int32)), .val (.ref xb), .val (.int a2), .val (.int b2), .val (.int c2), .val (.int d2), .val (.ref b12), .val (.ref b46), .val (.int ((((v5.toUInt64 >>> ((5 : Int32) &&& 0x3f).toInt64.toUInt64).toInt64) &&& (3 : Int64)).toInt32)), .val (.int (0 : Int32))] [(.ref b12)])) (fun _ k => XS.aload X98.here hx rfl (hb hby at_313) rfl rfl k) ?_
                        refine Ends.st (S' := T98.setTop (mkF m 317 #[.val (.int v0), .val (.int v1), .val (.int v2), .val (.int v3), .val (.int v4), .val (.long v5), .second, .val (.int dl), .val (.ref xa), .val (.int (0 : Int32)), .val (.ref xb), .val (.int a2), .val (.int b2), .val (.int c2), .val (.int d2), .val (.ref b12), .val (.ref b46), .val (.int ((((v5.toUInt64 >>> ((5 : Int32) &&& 0x3f).toInt64.toUInt64).toInt64) &&& (3 : Int64)).toInt32)), .val (.int (0 : Int32))] [(.ref b46), (.ref b12)])) (fun _ k => XS.aload X98.here hx rfl (hb hby at_315) rfl rfl k) ?_
                        obtain ⟨cq104, kq104, q104a, q104b, q104c⟩ := isOf hZ e98 (f85)
                        obtain ⟨_, _, ⟨T104, L104, k104, n104⟩, -, X104, ⟨Lc104, hQ104, l104, y104, z104⟩, st104⟩ := X98.virtualBack hx (y := (⟨"com/example/umpteenth_copy/umpteenthcopy/engine/Passage", "equals", "(Ljava/lang/Object;)Z"⟩ : MethodName)) (z := (⟨"com/example/umpteenth_copy/umpteenthcopy/engine/Passage", "equals", "(Ljava/lang/Object;)Z"⟩ : MethodName)) hown (mvT hZ (hw _ (List.mem_of_getElem? (i := 65) rfl))) (mvT hZ (hw _ (List.mem_of_getElem? (i := 66) rfl))) (notFace_of_selects (args := #[]) (mvT hZ (hw _ (List.mem_of_getElem? (i := 68) rfl)))) (mvT hZ (hw _ (List.mem_of_getElem? (i := 68) rfl))) (mvT hZ (hw _ (List.mem_of_getElem? (i := 67) rfl))) (by decide) (backOf (W := 0) (rm9a l Z a0 hw [] b12 b46 G xa ta ka _ Ma vsa v0 v1 v2 v3 xb tb kb _ Mb vsb a2 b2 c2 d2 T74.heap n0 f75 f91 f86 f87 f88 f89 f90 f77 f78 f79 f80 hca hba hla G74source G74start G74end G74sourceStart G74sourceEnd f81 f82 f83 f84 hcb hbb hlb (SC.ext f76.2) hG) hZ (hw _ (List.mem_of_getElem? (i := 69) rfl)) (hw _ (List.mem_of_getElem? (i := 31) rfl)) (by decide) (by decide)) q104a q104c (g := (mkF m 317 #[.val (.int v0), .val (.int v1), .val (.int v2), .val (.int v3), .val (.int v4), .val (.long v5), .second, .val (.int dl), .val (.ref xa), .val (.int (0 : Int32)), .val (.ref xb), .val (.int a2), .val (.int b2), .val (.int c2), .val (.int d2), .val (.ref b12), .val (.ref b46), .val (.int ((((v5.toUInt64 >>> ((5 : Int32) &&& 0x3f).toInt64.toUInt64).toInt64) &&& (3 : Int64)).toInt32)), .val (.int (0 : Int32))] [(.ref b46), (.ref b12)])) rfl (by rw [hml]; rfl) (Steps.refl _) (argsL := [(.ref b46)]) (rest := []) (lenOf pd_3 rfl) rfl (by show 2 * 0 + _ ≤ _; exact Nat.le_of_eq rfl) (hb hby at_317) (fun _ _ => ⟨rfl, e98, (by decide : 0 + 6 + 6 + 1 + 2 + 1 + 2 + 0 + 0 ≤ _), (by decide : 0 + 16 + 16 + 5 + 28 + 5 + 28 + 0 + 0 ≤ _)⟩)
                        dsimp only [Pt.U, Pt.locs, Pt.cells, Pt.slots] at X104 l104 y104 z104 st104 hQ104
                        subst l104 y104 z104
                        obtain ⟨rfl, N104q, e104⟩ := hQ104
                        have N104 := Fr.app N98 N104q
                        refine Ends.st (S' := T104.setTop (mkF m 320 #[.val (.int v0), .val (.int v1), .val (.int v2), .val (.int v3), .val (.int v4), .val (.long v5), .second, .val (.int dl), .val (.ref xa), .val (.int (0 : Int32)), .val (.ref xb), .val (.int a2), .val (.int b2), .val (.int c2), .val (.int d2), .val (.ref b12), .val (.ref b46), .val (.int ((((v5.toUInt64 >>> ((5 : Int32) &&& 0x3f).toInt64.toUInt64).toInt64) &&& (3 : Int64)).toInt32)), .val (.int (0 : Int32))] [(.int (same9 (strs v4 ((v4.toUInt32 >>> ((8 : Int32) &&& 31).toUInt32).toInt32) ((v4.toUInt32 >>> ((16 : Int32) &&& 31).toUInt32).toInt32)) (strs (((v5.toUInt64 >>> ((8 : Int32) &&& 0x3f).toInt64.toUInt64).toInt64).toInt32) (((v5.toUInt64 >>> ((10 : Int32) &&& 0x3f).toInt64.toUInt64).toInt64).toInt32) (((v5.toUInt64 >>> ((18 : Int32) &&& 0x3f).toInt64.toUInt64).toInt64).toInt32)) v0 a2 v1 b2 v2 c2 v3 d2))])) (fun _ k => st104.trans k) ?_
                        refine Ends.st (S' := T104.setTop (mkF m 322 #[.val (.int v0), .val (.int v1), .val (.int v2), .val (.int v3), .val (.int v4), .val (.long v5), .second, .val (.int dl), .val (.ref xa), .val (.int (0 : Int32)), .val (.ref xb), .val (.int a2), .val (.int b2), .val (.int c2), .val (.int d2), .val (.ref b12), .val (.ref b46), .val (.int ((((v5.toUInt64 >>> ((5 : Int32) &&& 0x3f).toInt64.toUInt64).toInt64) &&& (3 : Int64)).toInt32)), .val (.int (0 : Int32))] [(.int (0 : Int32)), (.int (same9 (strs v4 ((v4.toUInt32 >>> ((8 : Int32) &&& 31).toUInt32).toInt32) ((v4.toUInt32 >>> ((16 : Int32) &&& 31).toUInt32).toInt32)) (strs (((v5.toUInt64 >>> ((8 : Int32) &&& 0x3f).toInt64.toUInt64).toInt64).toInt32) (((v5.toUInt64 >>> ((10 : Int32) &&& 0x3f).toInt64.toUInt64).toInt64).toInt32) (((v5.toUInt64 >>> ((18 : Int32) &&& 0x3f).toInt64.toUInt64).toInt64).toInt32)) v0 a2 v1 b2 v2 c2 v3 d2))])) (fun _ k => XS.iload X104.here hx rfl (hb hby at_320) rfl k) ?_
                        have hb105 : (same9 (strs v4 ((v4.toUInt32 >>> ((8 : Int32) &&& 31).toUInt32).toInt32) ((v4.toUInt32 >>> ((16 : Int32) &&& 31).toUInt32).toInt32)) (strs (((v5.toUInt64 >>> ((8 : Int32) &&& 0x3f).toInt64.toUInt64).toInt64).toInt32) (((v5.toUInt64 >>> ((10 : Int32) &&& 0x3f).toInt64.toUInt64).toInt64).toInt32) (((v5.toUInt64 >>> ((18 : Int32) &&& 0x3f).toInt64.toUInt64).toInt64).toInt32)) v0 a2 v1 b2 v2 c2 v3 d2) = (0 : Int32) := if_neg (fun q => hc99 ((own_all ha2 hb2 hc2 hd2).mpr ⟨q.2.1.symm, q.2.2.1.symm, q.2.2.2.1.symm, q.2.2.2.2.symm⟩))
                        refine Ends.st (S' := T104.setTop (mkF m 325 #[.val (.int v0), .val (.int v1), .val (.int v2), .val (.int v3), .val (.int v4), .val (.long v5), .second, .val (.int dl), .val (.ref xa), .val (.int (0 : Int32)), .val (.ref xb), .val (.int a2), .val (.int b2), .val (.int c2), .val (.int d2), .val (.ref b12), .val (.ref b46), .val (.int ((((v5.toUInt64 >>> ((5 : Int32) &&& 0x3f).toInt64.toUInt64).toInt64) &&& (3 : Int64)).toInt32)), .val (.int (0 : Int32))] [])) (fun _ k => XS.icmpNo X104.here hx rfl (hb hby at_322) rfl (teq hb105).2 k) ?_
                        refine Ends.st (S' := T104.setTop (mkF m 327 #[.val (.int v0), .val (.int v1), .val (.int v2), .val (.int v3), .val (.int v4), .val (.long v5), .second, .val (.int dl), .val (.ref xa), .val (.int (0 : Int32)), .val (.ref xb), .val (.int a2), .val (.int b2), .val (.int c2), .val (.int d2), .val (.ref b12), .val (.ref b46), .val (.int ((((v5.toUInt64 >>> ((5 : Int32) &&& 0x3f).toInt64.toUInt64).toInt64) &&& (3 : Int64)).toInt32)), .val (.int (0 : Int32))] [(.ref b46)])) (fun _ k => XS.aload X104.here hx rfl (hb hby at_325) rfl rfl k) ?_
                        refine Ends.st (S' := T104.setTop (mkF m 329 #[.val (.int v0), .val (.int v1), .val (.int v2), .val (.int v3), .val (.int v4), .val (.long v5), .second, .val (.int dl), .val (.ref xa), .val (.int (0 : Int32)), .val (.ref xb), .val (.int a2), .val (.int b2), .val (.int c2), .val (.int d2), .val (.ref b12), .val (.ref b46), .val (.int ((((v5.toUInt64 >>> ((5 : Int32) &&& 0x3f).toInt64.toUInt64).toInt64) &&& (3 : Int64)).toInt32)), .val (.int (0 : Int32))] [(.ref b12), (.ref b46)])) (fun _ k => XS.aload X104.here hx rfl (hb hby at_327) rfl rfl k) ?_
                        obtain ⟨cq106, kq106, q106a, q106b, q106c⟩ := isOf hZ e104 (f91)
                        obtain ⟨_, _, ⟨T106, L106, k106, n106⟩, -, X106, ⟨Lc106, hQ106, l106, y106, z106⟩, st106⟩ := X104.virtualBack hx (y := (⟨"com/example/umpteenth_copy/umpteenthcopy/engine/Passage", "equals", "(Ljava/lang/Object;)Z"⟩ : MethodName)) (z := (⟨"com/example/umpteenth_copy/umpteenthcopy/engine/Passage", "equals", "(Ljava/lang/Object;)Z"⟩ : MethodName)) hown (mvT hZ (hw _ (List.mem_of_getElem? (i := 65) rfl))) (mvT hZ (hw _ (List.mem_of_getElem? (i := 66) rfl))) (notFace_of_selects (args := #[]) (mvT hZ (hw _ (List.mem_of_getElem? (i := 68) rfl)))) (mvT hZ (hw _ (List.mem_of_getElem? (i := 68) rfl))) (mvT hZ (hw _ (List.mem_of_getElem? (i := 67) rfl))) (by decide) (backOf (W := 0) (rm9a l Z a0 hw [] b46 b12 G xb tb kb _ Mb vsb a2 b2 c2 d2 xa ta ka _ Ma vsa v0 v1 v2 v3 T74.heap n0 f75 f85 G74source G74start G74end G74sourceStart G74sourceEnd f81 f82 f83 f84 hcb hbb hlb f86 f87 f88 f89 f90 f77 f78 f79 f80 hca hba hla (SC.ext f76.2) hG) hZ (hw _ (List.mem_of_getElem? (i := 69) rfl)) (hw _ (List.mem_of_getElem? (i := 31) rfl)) (by decide) (by decide)) q106a q106c (g := (mkF m 329 #[.val (.int v0), .val (.int v1), .val (.int v2), .val (.int v3), .val (.int v4), .val (.long v5), .second, .val (.int dl), .val (.ref xa), .val (.int (0 : Int32)), .val (.ref xb), .val (.int a2), .val (.int b2), .val (.int c2), .val (.int d2), .val (.ref b12), .val (.ref b46), .val (.int ((((v5.toUInt64 >>> ((5 : Int32) &&& 0x3f).toInt64.toUInt64).toInt64) &&& (3 : Int64)).toInt32)), .val (.int (0 : Int32))] [(.ref b12), (.ref b46)])) rfl (by rw [hml]; rfl) (Steps.refl _) (argsL := [(.ref b12)]) (rest := []) (lenOf pd_3 rfl) rfl (by show 2 * 0 + _ ≤ _; exact Nat.le_of_eq rfl) (hb hby at_329) (fun _ _ => ⟨rfl, e104, (by decide : 0 + 6 + 6 + 1 + 2 + 1 + 2 + 0 + 0 + 0 ≤ _), (by decide : 0 + 16 + 16 + 5 + 28 + 5 + 28 + 0 + 0 + 0 ≤ _)⟩)
                        dsimp only [Pt.U, Pt.locs, Pt.cells, Pt.slots] at X106 l106 y106 z106 st106 hQ106
                        subst l106 y106 z106
                        obtain ⟨rfl, N106q, e106⟩ := hQ106
                        have N106 := Fr.app N104 N106q
                        refine Ends.st (S' := T106.setTop (mkF m 332 #[.val (.int v0), .val (.int v1), .val (.int v2), .val (.int v3), .val (.int v4), .val (.long v5), .second, .val (.int dl), .val (.ref xa), .val (.int (0 : Int32)), .val (.ref xb), .val (.int a2), .val (.int b2), .val (.int c2), .val (.int d2), .val (.ref b12), .val (.ref b46), .val (.int ((((v5.toUInt64 >>> ((5 : Int32) &&& 0x3f).toInt64.toUInt64).toInt64) &&& (3 : Int64)).toInt32)), .val (.int (0 : Int32))] [(.int (same9 (strs (((v5.toUInt64 >>> ((8 : Int32) &&& 0x3f).toInt64.toUInt64).toInt64).toInt32) (((v5.toUInt64 >>> ((10 : Int32) &&& 0x3f).toInt64.toUInt64).toInt64).toInt32) (((v5.toUInt64 >>> ((18 : Int32) &&& 0x3f).toInt64.toUInt64).toInt64).toInt32)) (strs v4 ((v4.toUInt32 >>> ((8 : Int32) &&& 31).toUInt32).toInt32) ((v4.toUInt32 >>> ((16 : Int32) &&& 31).toUInt32).toInt32)) a2 v0 b2 v1 c2 v2 d2 v3))])) (fun _ k => st106.trans k) ?_
                        refine Ends.st (S' := T106.setTop (mkF m 334 #[.val (.int v0), .val (.int v1), .val (.int v2), .val (.int v3), .val (.int v4), .val (.long v5), .second, .val (.int dl), .val (.ref xa), .val (.int (0 : Int32)), .val (.ref xb), .val (.int a2), .val (.int b2), .val (.int c2), .val (.int d2), .val (.ref b12), .val (.ref b46), .val (.int ((((v5.toUInt64 >>> ((5 : Int32) &&& 0x3f).toInt64.toUInt64).toInt64) &&& (3 : Int64)).toInt32)), .val (.int (0 : Int32))] [(.int (0 : Int32)), (.int (same9 (strs (((v5.toUInt64 >>> ((8 : Int32) &&& 0x3f).toInt64.toUInt64).toInt64).toInt32) (((v5.toUInt64 >>> ((10 : Int32) &&& 0x3f).toInt64.toUInt64).toInt64).toInt32) (((v5.toUInt64 >>> ((18 : Int32) &&& 0x3f).toInt64.toUInt64).toInt64).toInt32)) (strs v4 ((v4.toUInt32 >>> ((8 : Int32) &&& 31).toUInt32).toInt32) ((v4.toUInt32 >>> ((16 : Int32) &&& 31).toUInt32).toInt32)) a2 v0 b2 v1 c2 v2 d2 v3))])) (fun _ k => XS.iload X106.here hx rfl (hb hby at_332) rfl k) ?_
                        have hb107 : (same9 (strs (((v5.toUInt64 >>> ((8 : Int32) &&& 0x3f).toInt64.toUInt64).toInt64).toInt32) (((v5.toUInt64 >>> ((10 : Int32) &&& 0x3f).toInt64.toUInt64).toInt64).toInt32) (((v5.toUInt64 >>> ((18 : Int32) &&& 0x3f).toInt64.toUInt64).toInt64).toInt32)) (strs v4 ((v4.toUInt32 >>> ((8 : Int32) &&& 31).toUInt32).toInt32) ((v4.toUInt32 >>> ((16 : Int32) &&& 31).toUInt32).toInt32)) a2 v0 b2 v1 c2 v2 d2 v3) = (0 : Int32) := if_neg (fun q => hc99 ((own_all ha2 hb2 hc2 hd2).mpr ⟨q.2.1, q.2.2.1, q.2.2.2.1, q.2.2.2.2⟩))
                        refine Ends.st (S' := T106.setTop (mkF m 337 #[.val (.int v0), .val (.int v1), .val (.int v2), .val (.int v3), .val (.int v4), .val (.long v5), .second, .val (.int dl), .val (.ref xa), .val (.int (0 : Int32)), .val (.ref xb), .val (.int a2), .val (.int b2), .val (.int c2), .val (.int d2), .val (.ref b12), .val (.ref b46), .val (.int ((((v5.toUInt64 >>> ((5 : Int32) &&& 0x3f).toInt64.toUInt64).toInt64) &&& (3 : Int64)).toInt32)), .val (.int (0 : Int32))] [])) (fun _ k => XS.icmpNo X106.here hx rfl (hb hby at_334) rfl (teq hb107).2 k) ?_
                        refine Ends.st (S' := T106.setTop (mkF m 338 #[.val (.int v0), .val (.int v1), .val (.int v2), .val (.int v3), .val (.int v4), .val (.long v5), .second, .val (.int dl), .val (.ref xa), .val (.int (0 : Int32)), .val (.ref xb), .val (.int a2), .val (.int b2), .val (.int c2), .val (.int d2), .val (.ref b12), .val (.ref b46), .val (.int ((((v5.toUInt64 >>> ((5 : Int32) &&& 0x3f).toInt64.toUInt64).toInt64) &&& (3 : Int64)).toInt32)), .val (.int (0 : Int32))] [(.int (1 : Int32))])) (fun _ k => XS.iconst X106.here hx rfl (hb hby at_337) k) ?_
                        refine Ends.st (S' := T106.setTop (mkF m 342 #[.val (.int v0), .val (.int v1), .val (.int v2), .val (.int v3), .val (.int v4), .val (.long v5), .second, .val (.int dl), .val (.ref xa), .val (.int (0 : Int32)), .val (.ref xb), .val (.int a2), .val (.int b2), .val (.int c2), .val (.int d2), .val (.ref b12), .val (.ref b46), .val (.int ((((v5.toUInt64 >>> ((5 : Int32) &&& 0x3f).toInt64.toUInt64).toInt64) &&& (3 : Int64)).toInt32)), .val (.int (0 : Int32))] [(.int (1 : Int32))])) (fun _ k => XS.goto X106.here hx rfl (pc0 := 338) (pc' := 342) rfl (hb hby at_338) (by decide) (by decide) k) ?_
                        obtain ⟨fs, hr, hrun, hended, hRW⟩ := Stand.leaveW (s := s) (vm₁ := T74.vm) X106 hS74 (Nat.le_trans (Nat.le_refl T74.heap.size) (Nat.le_of_eq (congrArg Array.size (Eq.symm e106)))) (v := some (.int (1 : Int32))) (fun h => by rw [Bd.returns] at h; cases h)
                        exact ⟨_, _, retN X106 hx (t := .boolean) Bd.returns (by simp) (hb hby at_342) hr, hrun, hended, _, _, rfl, (by show Q0 Z  h0 n0 _ T106.heap _; rw [e106]; exact ⟨rfl, N106⟩), hRW.1, hRW.2.1, hRW.2.2.1, hRW.2.2.2.mono (by decide) (by decide)⟩
                    · refine Ends.st (S' := T98.setTop (mkF m 292 #[.val (.int v0), .val (.int v1), .val (.int v2), .val (.int v3), .val (.int v4), .val (.long v5), .second, .val (.int dl), .val (.ref xa), .val (.int (0 : Int32)), .val (.ref xb), .val (.int a2), .val (.int b2), .val (.int c2), .val (.int d2), .val (.ref b12), .val (.ref b46), .val (.int ((((v5.toUInt64 >>> ((5 : Int32) &&& 0x3f).toInt64.toUInt64).toInt64) &&& (3 : Int64)).toInt32)), .unset] [(.int (0 : Int32))])) (fun _ k => st98.trans k) ?_
                      refine Ends.st (S' := T98.setTop (mkF m 310 #[.val (.int v0), .val (.int v1), .val (.int v2), .val (.int v3), .val (.int v4), .val (.long v5), .second, .val (.int dl), .val (.ref xa), .val (.int (0 : Int32)), .val (.ref xb), .val (.int a2), .val (.int b2), .val (.int c2), .val (.int d2), .val (.ref b12), .val (.ref b46), .val (.int ((((v5.toUInt64 >>> ((5 : Int32) &&& 0x3f).toInt64.toUInt64).toInt64) &&& (3 : Int64)).toInt32)), .unset] [])) (fun _ k => XS.ifYes X98.here hx rfl (pc0 := 292) (pc' := 310) rfl (hb hby at_292) rfl ((if0 _ _).trans (teq (by decide : (0 : Int32) = (0 : Int32))).1) (by decide) (by decide) k) ?_
                      refine Ends.st (S' := T98.setTop (mkF m 311 #[.val (.int v0), .val (.int v1), .val (.int v2), .val (.int v3), .val (.int v4), .val (.long v5), .second, .val (.int dl), .val (.ref xa), .val (.int (0 : Int32)), .val (.ref xb), .val (.int a2), .val (.int b2), .val (.int c2), .val (.int d2), .val (.ref b12), .val (.ref b46), .val (.int ((((v5.toUInt64 >>> ((5 : Int32) &&& 0x3f).toInt64.toUInt64).toInt64) &&& (3 : Int64)).toInt32)), .unset] [(.int (0 : Int32))])) (fun _ k => XS.iconst X98.here hx rfl (hb hby at_310) k) ?_
                      refine Ends.st (S' := T98.setTop (mkF m 313 #[.val (.int v0), .val (.int v1), .val (.int v2), .val (.int v3), .val (.int v4), .val (.long v5), .second, .val (.int dl), .val (.ref xa), .val (.int (0 : Int32)), .val (.ref xb), .val (.int a2), .val (.int b2), .val (.int c2), .val (.int d2), .val (.ref b12), .val (.ref b46), .val (.int ((((v5.toUInt64 >>> ((5 : Int32) &&& 0x3f).toInt64.toUInt64).toInt64) &&& (3 : Int64)).toInt32)), .val (.int (0 : Int32))] [])) (fun _ k => XS.istore X98.here hx rfl (hb hby at_311) rfl (l' := #[.val (.int v0), .val (.int v1), .val (.int v2), .val (.int v3), .val (.int v4), .val (.long v5), .second, .val (.int dl), .val (.ref xa), .val (.int (0 : Int32)), .val (.ref xb), .val (.int a2), .val (.int b2), .val (.int c2), .val (.int d2), .val (.ref b12), .val (.ref b46), .val (.int ((((v5.toUInt64 >>> ((5 : Int32) &&& 0x3f).toInt64.toUInt64).toInt64) &&& (3 : Int64)).toInt32)), .val (.int (0 : Int32))]) rfl k) ?_
                      refine Ends.st (S' := T98.setTop (mkF m 315 #[.val (.int v0), .val (.int v1), .val (.int v2), .val (.int v3), .val (.int v4), .val (.long v5), .second, .val (.int dl), .val (.ref xa), .val (.int (0 : Int32)), .val (.ref xb), .val (.int a2), .val (.int b2), .val (.int c2), .val (.int d2), .val (.ref b12), .val (.ref b46), .val (.int ((((v5.toUInt64 >>> ((5 : Int32) &&& 0x3f).toInt64.toUInt64).toInt64) &&& (3 : Int64)).toInt32)), .val (.int (0 : Int32))] [(.ref b12)])) (fun _ k => XS.aload X98.here hx rfl (hb hby at_313) rfl rfl k) ?_
                      refine Ends.st (S' := T98.setTop (mkF m 317 #[.val (.int v0), .val (.int v1), .val (.int v2), .val (.int v3), .val (.int v4), .val (.long v5), .second, .val (.int dl), .val (.ref xa), .val (.int (0 : Int32)), .val (.ref xb), .val (.int a2), .val (.int b2), .val (.int c2), .val (.int d2), .val (.ref b12), .val (.ref b46), .val (.int ((((v5.toUInt64 >>> ((5 : Int32) &&& 0x3f).toInt64.toUInt64).toInt64) &&& (3 : Int64)).toInt32)), .val (.int (0 : Int32))] [(.ref b46), (.ref b12)])) (fun _ k => XS.aload X98.here hx rfl (hb hby at_315) rfl rfl k) ?_
                      obtain ⟨cq108, kq108, q108a, q108b, q108c⟩ := isOf hZ e98 (f85)
                      obtain ⟨_, _, ⟨T108, L108, k108, n108⟩, -, X108, ⟨Lc108, hQ108, l108, y108, z108⟩, st108⟩ := X98.virtualBack hx (y := (⟨"com/example/umpteenth_copy/umpteenthcopy/engine/Passage", "equals", "(Ljava/lang/Object;)Z"⟩ : MethodName)) (z := (⟨"com/example/umpteenth_copy/umpteenthcopy/engine/Passage", "equals", "(Ljava/lang/Object;)Z"⟩ : MethodName)) hown (mvT hZ (hw _ (List.mem_of_getElem? (i := 65) rfl))) (mvT hZ (hw _ (List.mem_of_getElem? (i := 66) rfl))) (notFace_of_selects (args := #[]) (mvT hZ (hw _ (List.mem_of_getElem? (i := 68) rfl)))) (mvT hZ (hw _ (List.mem_of_getElem? (i := 68) rfl))) (mvT hZ (hw _ (List.mem_of_getElem? (i := 67) rfl))) (by decide) (backOf (W := 0) (rm9a l Z a0 hw [] b12 b46 G xa ta ka _ Ma vsa v0 v1 v2 v3 xb tb kb _ Mb vsb a2 b2 c2 d2 T74.heap n0 f75 f91 f86 f87 f88 f89 f90 f77 f78 f79 f80 hca hba hla G74source G74start G74end G74sourceStart G74sourceEnd f81 f82 f83 f84 hcb hbb hlb (SC.ext f76.2) hG) hZ (hw _ (List.mem_of_getElem? (i := 69) rfl)) (hw _ (List.mem_of_getElem? (i := 31) rfl)) (by decide) (by decide)) q108a q108c (g := (mkF m 317 #[.val (.int v0), .val (.int v1), .val (.int v2), .val (.int v3), .val (.int v4), .val (.long v5), .second, .val (.int dl), .val (.ref xa), .val (.int (0 : Int32)), .val (.ref xb), .val (.int a2), .val (.int b2), .val (.int c2), .val (.int d2), .val (.ref b12), .val (.ref b46), .val (.int ((((v5.toUInt64 >>> ((5 : Int32) &&& 0x3f).toInt64.toUInt64).toInt64) &&& (3 : Int64)).toInt32)), .val (.int (0 : Int32))] [(.ref b46), (.ref b12)])) rfl (by rw [hml]; rfl) (Steps.refl _) (argsL := [(.ref b46)]) (rest := []) (lenOf pd_3 rfl) rfl (by show 2 * 0 + _ ≤ _; exact Nat.le_of_eq rfl) (hb hby at_317) (fun _ _ => ⟨rfl, e98, (by decide : 0 + 6 + 6 + 1 + 2 + 1 + 2 + 0 + 0 ≤ _), (by decide : 0 + 16 + 16 + 5 + 28 + 5 + 28 + 0 + 0 ≤ _)⟩)
                      dsimp only [Pt.U, Pt.locs, Pt.cells, Pt.slots] at X108 l108 y108 z108 st108 hQ108
                      subst l108 y108 z108
                      obtain ⟨rfl, N108q, e108⟩ := hQ108
                      have N108 := Fr.app N98 N108q
                      refine Ends.st (S' := T108.setTop (mkF m 320 #[.val (.int v0), .val (.int v1), .val (.int v2), .val (.int v3), .val (.int v4), .val (.long v5), .second, .val (.int dl), .val (.ref xa), .val (.int (0 : Int32)), .val (.ref xb), .val (.int a2), .val (.int b2), .val (.int c2), .val (.int d2), .val (.ref b12), .val (.ref b46), .val (.int ((((v5.toUInt64 >>> ((5 : Int32) &&& 0x3f).toInt64.toUInt64).toInt64) &&& (3 : Int64)).toInt32)), .val (.int (0 : Int32))] [(.int (same9 (strs v4 ((v4.toUInt32 >>> ((8 : Int32) &&& 31).toUInt32).toInt32) ((v4.toUInt32 >>> ((16 : Int32) &&& 31).toUInt32).toInt32)) (strs (((v5.toUInt64 >>> ((8 : Int32) &&& 0x3f).toInt64.toUInt64).toInt64).toInt32) (((v5.toUInt64 >>> ((10 : Int32) &&& 0x3f).toInt64.toUInt64).toInt64).toInt32) (((v5.toUInt64 >>> ((18 : Int32) &&& 0x3f).toInt64.toUInt64).toInt64).toInt32)) v0 a2 v1 b2 v2 c2 v3 d2))])) (fun _ k => st108.trans k) ?_
                      refine Ends.st (S' := T108.setTop (mkF m 322 #[.val (.int v0), .val (.int v1), .val (.int v2), .val (.int v3), .val (.int v4), .val (.long v5), .second, .val (.int dl), .val (.ref xa), .val (.int (0 : Int32)), .val (.ref xb), .val (.int a2), .val (.int b2), .val (.int c2), .val (.int d2), .val (.ref b12), .val (.ref b46), .val (.int ((((v5.toUInt64 >>> ((5 : Int32) &&& 0x3f).toInt64.toUInt64).toInt64) &&& (3 : Int64)).toInt32)), .val (.int (0 : Int32))] [(.int (0 : Int32)), (.int (same9 (strs v4 ((v4.toUInt32 >>> ((8 : Int32) &&& 31).toUInt32).toInt32) ((v4.toUInt32 >>> ((16 : Int32) &&& 31).toUInt32).toInt32)) (strs (((v5.toUInt64 >>> ((8 : Int32) &&& 0x3f).toInt64.toUInt64).toInt64).toInt32) (((v5.toUInt64 >>> ((10 : Int32) &&& 0x3f).toInt64.toUInt64).toInt64).toInt32) (((v5.toUInt64 >>> ((18 : Int32) &&& 0x3f).toInt64.toUInt64).toInt64).toInt32)) v0 a2 v1 b2 v2 c2 v3 d2))])) (fun _ k => XS.iload X108.here hx rfl (hb hby at_320) rfl k) ?_
                      have hb109 : (same9 (strs v4 ((v4.toUInt32 >>> ((8 : Int32) &&& 31).toUInt32).toInt32) ((v4.toUInt32 >>> ((16 : Int32) &&& 31).toUInt32).toInt32)) (strs (((v5.toUInt64 >>> ((8 : Int32) &&& 0x3f).toInt64.toUInt64).toInt64).toInt32) (((v5.toUInt64 >>> ((10 : Int32) &&& 0x3f).toInt64.toUInt64).toInt64).toInt32) (((v5.toUInt64 >>> ((18 : Int32) &&& 0x3f).toInt64.toUInt64).toInt64).toInt32)) v0 a2 v1 b2 v2 c2 v3 d2) = (0 : Int32) := if_neg (fun q => hcs98 q.1)
                      refine Ends.st (S' := T108.setTop (mkF m 325 #[.val (.int v0), .val (.int v1), .val (.int v2), .val (.int v3), .val (.int v4), .val (.long v5), .second, .val (.int dl), .val (.ref xa), .val (.int (0 : Int32)), .val (.ref xb), .val (.int a2), .val (.int b2), .val (.int c2), .val (.int d2), .val (.ref b12), .val (.ref b46), .val (.int ((((v5.toUInt64 >>> ((5 : Int32) &&& 0x3f).toInt64.toUInt64).toInt64) &&& (3 : Int64)).toInt32)), .val (.int (0 : Int32))] [])) (fun _ k => XS.icmpNo X108.here hx rfl (hb hby at_322) rfl (teq hb109).2 k) ?_
                      refine Ends.st (S' := T108.setTop (mkF m 327 #[.val (.int v0), .val (.int v1), .val (.int v2), .val (.int v3), .val (.int v4), .val (.long v5), .second, .val (.int dl), .val (.ref xa), .val (.int (0 : Int32)), .val (.ref xb), .val (.int a2), .val (.int b2), .val (.int c2), .val (.int d2), .val (.ref b12), .val (.ref b46), .val (.int ((((v5.toUInt64 >>> ((5 : Int32) &&& 0x3f).toInt64.toUInt64).toInt64) &&& (3 : Int64)).toInt32)), .val (.int (0 : Int32))] [(.ref b46)])) (fun _ k => XS.aload X108.here hx rfl (hb hby at_325) rfl rfl k) ?_
                      refine Ends.st (S' := T108.setTop (mkF m 329 #[.val (.int v0), .val (.int v1), .val (.int v2), .val (.int v3), .val (.int v4), .val (.long v5), .second, .val (.int dl), .val (.ref xa), .val (.int (0 : Int32)), .val (.ref xb), .val (.int a2), .val (.int b2), .val (.int c2), .val (.int d2), .val (.ref b12), .val (.ref b46), .val (.int ((((v5.toUInt64 >>> ((5 : Int32) &&& 0x3f).toInt64.toUInt64).toInt64) &&& (3 : Int64)).toInt32)), .val (.int (0 : Int32))] [(.ref b12), (.ref b46)])) (fun _ k => XS.aload X108.here hx rfl (hb hby at_327) rfl rfl k) ?_
                      obtain ⟨cq110, kq110, q110a, q110b, q110c⟩ := isOf hZ e108 (f91)
                      obtain ⟨_, _, ⟨T110, L110, k110, n110⟩, -, X110, ⟨Lc110, hQ110, l110, y110, z110⟩, st110⟩ := X108.virtualBack hx (y := (⟨"com/example/umpteenth_copy/umpteenthcopy/engine/Passage", "equals", "(Ljava/lang/Object;)Z"⟩ : MethodName)) (z := (⟨"com/example/umpteenth_copy/umpteenthcopy/engine/Passage", "equals", "(Ljava/lang/Object;)Z"⟩ : MethodName)) hown (mvT hZ (hw _ (List.mem_of_getElem? (i := 65) rfl))) (mvT hZ (hw _ (List.mem_of_getElem? (i := 66) rfl))) (notFace_of_selects (args := #[]) (mvT hZ (hw _ (List.mem_of_getElem? (i := 68) rfl)))) (mvT hZ (hw _ (List.mem_of_getElem? (i := 68) rfl))) (mvT hZ (hw _ (List.mem_of_getElem? (i := 67) rfl))) (by decide) (backOf (W := 0) (rm9a l Z a0 hw [] b46 b12 G xb tb kb _ Mb vsb a2 b2 c2 d2 xa ta ka _ Ma vsa v0 v1 v2 v3 T74.heap n0 f75 f85 G74source G74start G74end G74sourceStart G74sourceEnd f81 f82 f83 f84 hcb hbb hlb f86 f87 f88 f89 f90 f77 f78 f79 f80 hca hba hla (SC.ext f76.2) hG) hZ (hw _ (List.mem_of_getElem? (i := 69) rfl)) (hw _ (List.mem_of_getElem? (i := 31) rfl)) (by decide) (by decide)) q110a q110c (g := (mkF m 329 #[.val (.int v0), .val (.int v1), .val (.int v2), .val (.int v3), .val (.int v4), .val (.long v5), .second, .val (.int dl), .val (.ref xa), .val (.int (0 : Int32)), .val (.ref xb), .val (.int a2), .val (.int b2), .val (.int c2), .val (.int d2), .val (.ref b12), .val (.ref b46), .val (.int ((((v5.toUInt64 >>> ((5 : Int32) &&& 0x3f).toInt64.toUInt64).toInt64) &&& (3 : Int64)).toInt32)), .val (.int (0 : Int32))] [(.ref b12), (.ref b46)])) rfl (by rw [hml]; rfl) (Steps.refl _) (argsL := [(.ref b12)]) (rest := []) (lenOf pd_3 rfl) rfl (by show 2 * 0 + _ ≤ _; exact Nat.le_of_eq rfl) (hb hby at_329) (fun _ _ => ⟨rfl, e108, (by decide : 0 + 6 + 6 + 1 + 2 + 1 + 2 + 0 + 0 + 0 ≤ _), (by decide : 0 + 16 + 16 + 5 + 28 + 5 + 28 + 0 + 0 + 0 ≤ _)⟩)
                      dsimp only [Pt.U, Pt.locs, Pt.cells, Pt.slots] at X110 l110 y110 z110 st110 hQ110
                      subst l110 y110 z110
                      obtain ⟨rfl, N110q, e110⟩ := hQ110
                      have N110 := Fr.app N108 N110q
                      refine Ends.st (S' := T110.setTop (mkF m 332 #[.val (.int v0), .val (.int v1), .val (.int v2), .val (.int v3), .val (.int v4), .val (.long v5), .second, .val (.int dl), .val (.ref xa), .val (.int (0 : Int32)), .val (.ref xb), .val (.int a2), .val (.int b2), .val (.int c2), .val (.int d2), .val (.ref b12), .val (.ref b46), .val (.int ((((v5.toUInt64 >>> ((5 : Int32) &&& 0x3f).toInt64.toUInt64).toInt64) &&& (3 : Int64)).toInt32)), .val (.int (0 : Int32))] [(.int (same9 (strs (((v5.toUInt64 >>> ((8 : Int32) &&& 0x3f).toInt64.toUInt64).toInt64).toInt32) (((v5.toUInt64 >>> ((10 : Int32) &&& 0x3f).toInt64.toUInt64).toInt64).toInt32) (((v5.toUInt64 >>> ((18 : Int32) &&& 0x3f).toInt64.toUInt64).toInt64).toInt32)) (strs v4 ((v4.toUInt32 >>> ((8 : Int32) &&& 31).toUInt32).toInt32) ((v4.toUInt32 >>> ((16 : Int32) &&& 31).toUInt32).toInt32)) a2 v0 b2 v1 c2 v2 d2 v3))])) (fun _ k => st110.trans k) ?_
                      refine Ends.st (S' := T110.setTop (mkF m 334 #[.val (.int v0), .val (.int v1), .val (.int v2), .val (.int v3), .val (.int v4), .val (.long v5), .second, .val (.int dl), .val (.ref xa), .val (.int (0 : Int32)), .val (.ref xb), .val (.int a2), .val (.int b2), .val (.int c2), .val (.int d2), .val (.ref b12), .val (.ref b46), .val (.int ((((v5.toUInt64 >>> ((5 : Int32) &&& 0x3f).toInt64.toUInt64).toInt64) &&& (3 : Int64)).toInt32)), .val (.int (0 : Int32))] [(.int (0 : Int32)), (.int (same9 (strs (((v5.toUInt64 >>> ((8 : Int32) &&& 0x3f).toInt64.toUInt64).toInt64).toInt32) (((v5.toUInt64 >>> ((10 : Int32) &&& 0x3f).toInt64.toUInt64).toInt64).toInt32) (((v5.toUInt64 >>> ((18 : Int32) &&& 0x3f).toInt64.toUInt64).toInt64).toInt32)) (strs v4 ((v4.toUInt32 >>> ((8 : Int32) &&& 31).toUInt32).toInt32) ((v4.toUInt32 >>> ((16 : Int32) &&& 31).toUInt32).toInt32)) a2 v0 b2 v1 c2 v2 d2 v3))])) (fun _ k => XS.iload X110.here hx rfl (hb hby at_332) rfl k) ?_
                      have hb111 : (same9 (strs (((v5.toUInt64 >>> ((8 : Int32) &&& 0x3f).toInt64.toUInt64).toInt64).toInt32) (((v5.toUInt64 >>> ((10 : Int32) &&& 0x3f).toInt64.toUInt64).toInt64).toInt32) (((v5.toUInt64 >>> ((18 : Int32) &&& 0x3f).toInt64.toUInt64).toInt64).toInt32)) (strs v4 ((v4.toUInt32 >>> ((8 : Int32) &&& 31).toUInt32).toInt32) ((v4.toUInt32 >>> ((16 : Int32) &&& 31).toUInt32).toInt32)) a2 v0 b2 v1 c2 v2 d2 v3) = (0 : Int32) := if_neg (fun q => hcs98 q.1.symm)
                      refine Ends.st (S' := T110.setTop (mkF m 337 #[.val (.int v0), .val (.int v1), .val (.int v2), .val (.int v3), .val (.int v4), .val (.long v5), .second, .val (.int dl), .val (.ref xa), .val (.int (0 : Int32)), .val (.ref xb), .val (.int a2), .val (.int b2), .val (.int c2), .val (.int d2), .val (.ref b12), .val (.ref b46), .val (.int ((((v5.toUInt64 >>> ((5 : Int32) &&& 0x3f).toInt64.toUInt64).toInt64) &&& (3 : Int64)).toInt32)), .val (.int (0 : Int32))] [])) (fun _ k => XS.icmpNo X110.here hx rfl (hb hby at_334) rfl (teq hb111).2 k) ?_
                      refine Ends.st (S' := T110.setTop (mkF m 338 #[.val (.int v0), .val (.int v1), .val (.int v2), .val (.int v3), .val (.int v4), .val (.long v5), .second, .val (.int dl), .val (.ref xa), .val (.int (0 : Int32)), .val (.ref xb), .val (.int a2), .val (.int b2), .val (.int c2), .val (.int d2), .val (.ref b12), .val (.ref b46), .val (.int ((((v5.toUInt64 >>> ((5 : Int32) &&& 0x3f).toInt64.toUInt64).toInt64) &&& (3 : Int64)).toInt32)), .val (.int (0 : Int32))] [(.int (1 : Int32))])) (fun _ k => XS.iconst X110.here hx rfl (hb hby at_337) k) ?_
                      refine Ends.st (S' := T110.setTop (mkF m 342 #[.val (.int v0), .val (.int v1), .val (.int v2), .val (.int v3), .val (.int v4), .val (.long v5), .second, .val (.int dl), .val (.ref xa), .val (.int (0 : Int32)), .val (.ref xb), .val (.int a2), .val (.int b2), .val (.int c2), .val (.int d2), .val (.ref b12), .val (.ref b46), .val (.int ((((v5.toUInt64 >>> ((5 : Int32) &&& 0x3f).toInt64.toUInt64).toInt64) &&& (3 : Int64)).toInt32)), .val (.int (0 : Int32))] [(.int (1 : Int32))])) (fun _ k => XS.goto X110.here hx rfl (pc0 := 338) (pc' := 342) rfl (hb hby at_338) (by decide) (by decide) k) ?_
                      obtain ⟨fs, hr, hrun, hended, hRW⟩ := Stand.leaveW (s := s) (vm₁ := T74.vm) X110 hS74 (Nat.le_trans (Nat.le_refl T74.heap.size) (Nat.le_of_eq (congrArg Array.size (Eq.symm e110)))) (v := some (.int (1 : Int32))) (fun h => by rw [Bd.returns] at h; cases h)
                      exact ⟨_, _, retN X110 hx (t := .boolean) Bd.returns (by simp) (hb hby at_342) hr, hrun, hended, _, _, rfl, (by show Q0 Z  h0 n0 _ T110.heap _; rw [e110]; exact ⟨rfl, N110⟩), hRW.1, hRW.2.1, hRW.2.2.1, hRW.2.2.2.mono (by decide) (by decide)⟩
            refine Ends.st (S' := T5.setTop (mkF m 160 #[.val (.int v0), .val (.int v1), .val (.int v2), .val (.int v3), .val (.int v4), .val (.long v5), .second, .val (.int dl), .val (.ref xa), .val (.int (0 : Int32)), .val (.ref xb), .val (.int a2), .val (.int b2), .val (.int c2), .unset, .unset, .unset, .unset, .unset] [(.long v5)])) (fun _ k => XS.lload X5.here hx rfl (hb hby at_158) rfl k) ?_
            refine Ends.st (S' := T5.setTop (mkF m 163 #[.val (.int v0), .val (.int v1), .val (.int v2), .val (.int v3), .val (.int v4), .val (.long v5), .second, .val (.int dl), .val (.ref xa), .val (.int (0 : Int32)), .val (.ref xb), .val (.int a2), .val (.int b2), .val (.int c2), .unset, .unset, .unset, .unset, .unset] [(.long (8 : Int64)), (.long v5)])) (fun _ k => X5.ldc2Long hx hown (mvT hZ (hw _ (List.mem_of_getElem? (i := 28) rfl))) (g := (mkF m 160 #[.val (.int v0), .val (.int v1), .val (.int v2), .val (.int v3), .val (.int v4), .val (.long v5), .second, .val (.int dl), .val (.ref xa), .val (.int (0 : Int32)), .val (.ref xb), .val (.int a2), .val (.int b2), .val (.int c2), .unset, .unset, .unset, .unset, .unset] [(.long v5)])) rfl (hb hby at_160) _ k) ?_
            refine Ends.st (S' := T5.setTop (mkF m 164 #[.val (.int v0), .val (.int v1), .val (.int v2), .val (.int v3), .val (.int v4), .val (.long v5), .second, .val (.int dl), .val (.ref xa), .val (.int (0 : Int32)), .val (.ref xb), .val (.int a2), .val (.int b2), .val (.int c2), .unset, .unset, .unset, .unset, .unset] [(.long (v5 &&& (8 : Int64)))])) (fun _ k => XS.land X5.here hx rfl (hb hby at_163) rfl k) ?_
            refine Ends.st (S' := T5.setTop (mkF m 165 #[.val (.int v0), .val (.int v1), .val (.int v2), .val (.int v3), .val (.int v4), .val (.long v5), .second, .val (.int dl), .val (.ref xa), .val (.int (0 : Int32)), .val (.ref xb), .val (.int a2), .val (.int b2), .val (.int c2), .unset, .unset, .unset, .unset, .unset] [(.long (0 : Int64)), (.long (v5 &&& (8 : Int64)))])) (fun _ k => XS.lconst X5.here hx rfl (hb hby at_164) k) ?_
            refine Ends.st (S' := T5.setTop (mkF m 166 #[.val (.int v0), .val (.int v1), .val (.int v2), .val (.int v3), .val (.int v4), .val (.long v5), .second, .val (.int dl), .val (.ref xa), .val (.int (0 : Int32)), .val (.ref xb), .val (.int a2), .val (.int b2), .val (.int c2), .unset, .unset, .unset, .unset, .unset] [(.int (lcmpW (v5 &&& (8 : Int64)) (0 : Int64)))])) (fun _ k => XS.lcmp X5.here hx rfl (hb hby at_165) rfl k) ?_
            by_cases hc112 : (lcmpW (v5 &&& (8 : Int64)) (0 : Int64)) = (0 : Int32)
            · refine Ends.st (S' := T5.setTop (mkF m 176 #[.val (.int v0), .val (.int v1), .val (.int v2), .val (.int v3), .val (.int v4), .val (.long v5), .second, .val (.int dl), .val (.ref xa), .val (.int (0 : Int32)), .val (.ref xb), .val (.int a2), .val (.int b2), .val (.int c2), .unset, .unset, .unset, .unset, .unset] [])) (fun _ k => XS.ifYes X5.here hx rfl (pc0 := 166) (pc' := 176) rfl (hb hby at_166) rfl ((if0 _ _).trans (teq hc112).1) (by decide) (by decide) k) ?_
              refine Ends.st (S' := T5.setTop (mkF m 177 #[.val (.int v0), .val (.int v1), .val (.int v2), .val (.int v3), .val (.int v4), .val (.long v5), .second, .val (.int dl), .val (.ref xa), .val (.int (0 : Int32)), .val (.ref xb), .val (.int a2), .val (.int b2), .val (.int c2), .unset, .unset, .unset, .unset, .unset] [(.int v3)])) (fun _ k => XS.iloadN X5.here hx rfl (hb hby at_176) rfl k) ?_
              refine Ends.st (S' := T5.setTop (mkF m 179 #[.val (.int v0), .val (.int v1), .val (.int v2), .val (.int v3), .val (.int v4), .val (.long v5), .second, .val (.int dl), .val (.ref xa), .val (.int (0 : Int32)), .val (.ref xb), .val (.int a2), .val (.int b2), .val (.int c2), .val (.int v3), .unset, .unset, .unset, .unset] [])) (fun _ k => XS.istore X5.here hx rfl (hb hby at_177) rfl (l' := #[.val (.int v0), .val (.int v1), .val (.int v2), .val (.int v3), .val (.int v4), .val (.long v5), .second, .val (.int dl), .val (.ref xa), .val (.int (0 : Int32)), .val (.ref xb), .val (.int a2), .val (.int b2), .val (.int c2), .val (.int v3), .unset, .unset, .unset, .unset]) rfl k) ?_
              exact j179 _ ⟨fun _ => hc112, fun _ => rfl⟩
            · refine Ends.st (S' := T5.setTop (mkF m 169 #[.val (.int v0), .val (.int v1), .val (.int v2), .val (.int v3), .val (.int v4), .val (.long v5), .second, .val (.int dl), .val (.ref xa), .val (.int (0 : Int32)), .val (.ref xb), .val (.int a2), .val (.int b2), .val (.int c2), .unset, .unset, .unset, .unset, .unset] [])) (fun _ k => XS.ifNo X5.here hx rfl (hb hby at_166) rfl ((if0 _ _).trans (feq hc112).1) k) ?_
              refine Ends.st (S' := T5.setTop (mkF m 170 #[.val (.int v0), .val (.int v1), .val (.int v2), .val (.int v3), .val (.int v4), .val (.long v5), .second, .val (.int dl), .val (.ref xa), .val (.int (0 : Int32)), .val (.ref xb), .val (.int a2), .val (.int b2), .val (.int c2), .unset, .unset, .unset, .unset, .unset] [(.int v3)])) (fun _ k => XS.iloadN X5.here hx rfl (hb hby at_169) rfl k) ?_
              refine Ends.st (S' := T5.setTop (mkF m 172 #[.val (.int v0), .val (.int v1), .val (.int v2), .val (.int v3), .val (.int v4), .val (.long v5), .second, .val (.int dl), .val (.ref xa), .val (.int (0 : Int32)), .val (.ref xb), .val (.int a2), .val (.int b2), .val (.int c2), .unset, .unset, .unset, .unset, .unset] [(.int dl), (.int v3)])) (fun _ k => XS.iload X5.here hx rfl (hb hby at_170) rfl k) ?_
              refine Ends.st (S' := T5.setTop (mkF m 173 #[.val (.int v0), .val (.int v1), .val (.int v2), .val (.int v3), .val (.int v4), .val (.long v5), .second, .val (.int dl), .val (.ref xa), .val (.int (0 : Int32)), .val (.ref xb), .val (.int a2), .val (.int b2), .val (.int c2), .unset, .unset, .unset, .unset, .unset] [(.int (v3 + dl))])) (fun _ k => XS.iadd X5.here hx rfl (hb hby at_172) rfl k) ?_
              refine Ends.st (S' := T5.setTop (mkF m 177 #[.val (.int v0), .val (.int v1), .val (.int v2), .val (.int v3), .val (.int v4), .val (.long v5), .second, .val (.int dl), .val (.ref xa), .val (.int (0 : Int32)), .val (.ref xb), .val (.int a2), .val (.int b2), .val (.int c2), .unset, .unset, .unset, .unset, .unset] [(.int (v3 + dl))])) (fun _ k => XS.goto X5.here hx rfl (pc0 := 173) (pc' := 177) rfl (hb hby at_173) (by decide) (by decide) k) ?_
              refine Ends.st (S' := T5.setTop (mkF m 179 #[.val (.int v0), .val (.int v1), .val (.int v2), .val (.int v3), .val (.int v4), .val (.long v5), .second, .val (.int dl), .val (.ref xa), .val (.int (0 : Int32)), .val (.ref xb), .val (.int a2), .val (.int b2), .val (.int c2), .val (.int (v3 + dl)), .unset, .unset, .unset, .unset] [])) (fun _ k => XS.istore X5.here hx rfl (hb hby at_177) rfl (l' := #[.val (.int v0), .val (.int v1), .val (.int v2), .val (.int v3), .val (.int v4), .val (.long v5), .second, .val (.int dl), .val (.ref xa), .val (.int (0 : Int32)), .val (.ref xb), .val (.int a2), .val (.int b2), .val (.int c2), .val (.int (v3 + dl)), .unset, .unset, .unset, .unset]) rfl k) ?_
              exact j179 _ ⟨fun q => absurd q (own_ne hdl), fun q => absurd q hc112⟩
          refine Ends.st (S' := T5.setTop (mkF m 139 #[.val (.int v0), .val (.int v1), .val (.int v2), .val (.int v3), .val (.int v4), .val (.long v5), .second, .val (.int dl), .val (.ref xa), .val (.int (0 : Int32)), .val (.ref xb), .val (.int a2), .val (.int b2), .unset, .unset, .unset, .unset, .unset, .unset] [(.long v5)])) (fun _ k => XS.lload X5.here hx rfl (hb hby at_137) rfl k) ?_
          refine Ends.st (S' := T5.setTop (mkF m 142 #[.val (.int v0), .val (.int v1), .val (.int v2), .val (.int v3), .val (.int v4), .val (.long v5), .second, .val (.int dl), .val (.ref xa), .val (.int (0 : Int32)), .val (.ref xb), .val (.int a2), .val (.int b2), .unset, .unset, .unset, .unset, .unset, .unset] [(.long (4 : Int64)), (.long v5)])) (fun _ k => X5.ldc2Long hx hown (mvT hZ (hw _ (List.mem_of_getElem? (i := 27) rfl))) (g := (mkF m 139 #[.val (.int v0), .val (.int v1), .val (.int v2), .val (.int v3), .val (.int v4), .val (.long v5), .second, .val (.int dl), .val (.ref xa), .val (.int (0 : Int32)), .val (.ref xb), .val (.int a2), .val (.int b2), .unset, .unset, .unset, .unset, .unset, .unset] [(.long v5)])) rfl (hb hby at_139) _ k) ?_
          refine Ends.st (S' := T5.setTop (mkF m 143 #[.val (.int v0), .val (.int v1), .val (.int v2), .val (.int v3), .val (.int v4), .val (.long v5), .second, .val (.int dl), .val (.ref xa), .val (.int (0 : Int32)), .val (.ref xb), .val (.int a2), .val (.int b2), .unset, .unset, .unset, .unset, .unset, .unset] [(.long (v5 &&& (4 : Int64)))])) (fun _ k => XS.land X5.here hx rfl (hb hby at_142) rfl k) ?_
          refine Ends.st (S' := T5.setTop (mkF m 144 #[.val (.int v0), .val (.int v1), .val (.int v2), .val (.int v3), .val (.int v4), .val (.long v5), .second, .val (.int dl), .val (.ref xa), .val (.int (0 : Int32)), .val (.ref xb), .val (.int a2), .val (.int b2), .unset, .unset, .unset, .unset, .unset, .unset] [(.long (0 : Int64)), (.long (v5 &&& (4 : Int64)))])) (fun _ k => XS.lconst X5.here hx rfl (hb hby at_143) k) ?_
          refine Ends.st (S' := T5.setTop (mkF m 145 #[.val (.int v0), .val (.int v1), .val (.int v2), .val (.int v3), .val (.int v4), .val (.long v5), .second, .val (.int dl), .val (.ref xa), .val (.int (0 : Int32)), .val (.ref xb), .val (.int a2), .val (.int b2), .unset, .unset, .unset, .unset, .unset, .unset] [(.int (lcmpW (v5 &&& (4 : Int64)) (0 : Int64)))])) (fun _ k => XS.lcmp X5.here hx rfl (hb hby at_144) rfl k) ?_
          by_cases hc113 : (lcmpW (v5 &&& (4 : Int64)) (0 : Int64)) = (0 : Int32)
          · refine Ends.st (S' := T5.setTop (mkF m 155 #[.val (.int v0), .val (.int v1), .val (.int v2), .val (.int v3), .val (.int v4), .val (.long v5), .second, .val (.int dl), .val (.ref xa), .val (.int (0 : Int32)), .val (.ref xb), .val (.int a2), .val (.int b2), .unset, .unset, .unset, .unset, .unset, .unset] [])) (fun _ k => XS.ifYes X5.here hx rfl (pc0 := 145) (pc' := 155) rfl (hb hby at_145) rfl ((if0 _ _).trans (teq hc113).1) (by decide) (by decide) k) ?_
            refine Ends.st (S' := T5.setTop (mkF m 156 #[.val (.int v0), .val (.int v1), .val (.int v2), .val (.int v3), .val (.int v4), .val (.long v5), .second, .val (.int dl), .val (.ref xa), .val (.int (0 : Int32)), .val (.ref xb), .val (.int a2), .val (.int b2), .unset, .unset, .unset, .unset, .unset, .unset] [(.int v2)])) (fun _ k => XS.iloadN X5.here hx rfl (hb hby at_155) rfl k) ?_
            refine Ends.st (S' := T5.setTop (mkF m 158 #[.val (.int v0), .val (.int v1), .val (.int v2), .val (.int v3), .val (.int v4), .val (.long v5), .second, .val (.int dl), .val (.ref xa), .val (.int (0 : Int32)), .val (.ref xb), .val (.int a2), .val (.int b2), .val (.int v2), .unset, .unset, .unset, .unset, .unset] [])) (fun _ k => XS.istore X5.here hx rfl (hb hby at_156) rfl (l' := #[.val (.int v0), .val (.int v1), .val (.int v2), .val (.int v3), .val (.int v4), .val (.long v5), .second, .val (.int dl), .val (.ref xa), .val (.int (0 : Int32)), .val (.ref xb), .val (.int a2), .val (.int b2), .val (.int v2), .unset, .unset, .unset, .unset, .unset]) rfl k) ?_
            exact j158 _ ⟨fun _ => hc113, fun _ => rfl⟩
          · refine Ends.st (S' := T5.setTop (mkF m 148 #[.val (.int v0), .val (.int v1), .val (.int v2), .val (.int v3), .val (.int v4), .val (.long v5), .second, .val (.int dl), .val (.ref xa), .val (.int (0 : Int32)), .val (.ref xb), .val (.int a2), .val (.int b2), .unset, .unset, .unset, .unset, .unset, .unset] [])) (fun _ k => XS.ifNo X5.here hx rfl (hb hby at_145) rfl ((if0 _ _).trans (feq hc113).1) k) ?_
            refine Ends.st (S' := T5.setTop (mkF m 149 #[.val (.int v0), .val (.int v1), .val (.int v2), .val (.int v3), .val (.int v4), .val (.long v5), .second, .val (.int dl), .val (.ref xa), .val (.int (0 : Int32)), .val (.ref xb), .val (.int a2), .val (.int b2), .unset, .unset, .unset, .unset, .unset, .unset] [(.int v2)])) (fun _ k => XS.iloadN X5.here hx rfl (hb hby at_148) rfl k) ?_
            refine Ends.st (S' := T5.setTop (mkF m 151 #[.val (.int v0), .val (.int v1), .val (.int v2), .val (.int v3), .val (.int v4), .val (.long v5), .second, .val (.int dl), .val (.ref xa), .val (.int (0 : Int32)), .val (.ref xb), .val (.int a2), .val (.int b2), .unset, .unset, .unset, .unset, .unset, .unset] [(.int dl), (.int v2)])) (fun _ k => XS.iload X5.here hx rfl (hb hby at_149) rfl k) ?_
            refine Ends.st (S' := T5.setTop (mkF m 152 #[.val (.int v0), .val (.int v1), .val (.int v2), .val (.int v3), .val (.int v4), .val (.long v5), .second, .val (.int dl), .val (.ref xa), .val (.int (0 : Int32)), .val (.ref xb), .val (.int a2), .val (.int b2), .unset, .unset, .unset, .unset, .unset, .unset] [(.int (v2 + dl))])) (fun _ k => XS.iadd X5.here hx rfl (hb hby at_151) rfl k) ?_
            refine Ends.st (S' := T5.setTop (mkF m 156 #[.val (.int v0), .val (.int v1), .val (.int v2), .val (.int v3), .val (.int v4), .val (.long v5), .second, .val (.int dl), .val (.ref xa), .val (.int (0 : Int32)), .val (.ref xb), .val (.int a2), .val (.int b2), .unset, .unset, .unset, .unset, .unset, .unset] [(.int (v2 + dl))])) (fun _ k => XS.goto X5.here hx rfl (pc0 := 152) (pc' := 156) rfl (hb hby at_152) (by decide) (by decide) k) ?_
            refine Ends.st (S' := T5.setTop (mkF m 158 #[.val (.int v0), .val (.int v1), .val (.int v2), .val (.int v3), .val (.int v4), .val (.long v5), .second, .val (.int dl), .val (.ref xa), .val (.int (0 : Int32)), .val (.ref xb), .val (.int a2), .val (.int b2), .val (.int (v2 + dl)), .unset, .unset, .unset, .unset, .unset] [])) (fun _ k => XS.istore X5.here hx rfl (hb hby at_156) rfl (l' := #[.val (.int v0), .val (.int v1), .val (.int v2), .val (.int v3), .val (.int v4), .val (.long v5), .second, .val (.int dl), .val (.ref xa), .val (.int (0 : Int32)), .val (.ref xb), .val (.int a2), .val (.int b2), .val (.int (v2 + dl)), .unset, .unset, .unset, .unset, .unset]) rfl k) ?_
            exact j158 _ ⟨fun q => absurd q (own_ne hdl), fun q => absurd q hc113⟩
        refine Ends.st (S' := T5.setTop (mkF m 118 #[.val (.int v0), .val (.int v1), .val (.int v2), .val (.int v3), .val (.int v4), .val (.long v5), .second, .val (.int dl), .val (.ref xa), .val (.int (0 : Int32)), .val (.ref xb), .val (.int a2), .unset, .unset, .unset, .unset, .unset, .unset, .unset] [(.long v5)])) (fun _ k => XS.lload X5.here hx rfl (hb hby at_116) rfl k) ?_
        refine Ends.st (S' := T5.setTop (mkF m 121 #[.val (.int v0), .val (.int v1), .val (.int v2), .val (.int v3), .val (.int v4), .val (.long v5), .second, .val (.int dl), .val (.ref xa), .val (.int (0 : Int32)), .val (.ref xb), .val (.int a2), .unset, .unset, .unset, .unset, .unset, .unset, .unset] [(.long (2 : Int64)), (.long v5)])) (fun _ k => X5.ldc2Long hx hown (mvT hZ (hw _ (List.mem_of_getElem? (i := 26) rfl))) (g := (mkF m 118 #[.val (.int v0), .val (.int v1), .val (.int v2), .val (.int v3), .val (.int v4), .val (.long v5), .second, .val (.int dl), .val (.ref xa), .val (.int (0 : Int32)), .val (.ref xb), .val (.int a2), .unset, .unset, .unset, .unset, .unset, .unset, .unset] [(.long v5)])) rfl (hb hby at_118) _ k) ?_
        refine Ends.st (S' := T5.setTop (mkF m 122 #[.val (.int v0), .val (.int v1), .val (.int v2), .val (.int v3), .val (.int v4), .val (.long v5), .second, .val (.int dl), .val (.ref xa), .val (.int (0 : Int32)), .val (.ref xb), .val (.int a2), .unset, .unset, .unset, .unset, .unset, .unset, .unset] [(.long (v5 &&& (2 : Int64)))])) (fun _ k => XS.land X5.here hx rfl (hb hby at_121) rfl k) ?_
        refine Ends.st (S' := T5.setTop (mkF m 123 #[.val (.int v0), .val (.int v1), .val (.int v2), .val (.int v3), .val (.int v4), .val (.long v5), .second, .val (.int dl), .val (.ref xa), .val (.int (0 : Int32)), .val (.ref xb), .val (.int a2), .unset, .unset, .unset, .unset, .unset, .unset, .unset] [(.long (0 : Int64)), (.long (v5 &&& (2 : Int64)))])) (fun _ k => XS.lconst X5.here hx rfl (hb hby at_122) k) ?_
        refine Ends.st (S' := T5.setTop (mkF m 124 #[.val (.int v0), .val (.int v1), .val (.int v2), .val (.int v3), .val (.int v4), .val (.long v5), .second, .val (.int dl), .val (.ref xa), .val (.int (0 : Int32)), .val (.ref xb), .val (.int a2), .unset, .unset, .unset, .unset, .unset, .unset, .unset] [(.int (lcmpW (v5 &&& (2 : Int64)) (0 : Int64)))])) (fun _ k => XS.lcmp X5.here hx rfl (hb hby at_123) rfl k) ?_
        by_cases hc114 : (lcmpW (v5 &&& (2 : Int64)) (0 : Int64)) = (0 : Int32)
        · refine Ends.st (S' := T5.setTop (mkF m 134 #[.val (.int v0), .val (.int v1), .val (.int v2), .val (.int v3), .val (.int v4), .val (.long v5), .second, .val (.int dl), .val (.ref xa), .val (.int (0 : Int32)), .val (.ref xb), .val (.int a2), .unset, .unset, .unset, .unset, .unset, .unset, .unset] [])) (fun _ k => XS.ifYes X5.here hx rfl (pc0 := 124) (pc' := 134) rfl (hb hby at_124) rfl ((if0 _ _).trans (teq hc114).1) (by decide) (by decide) k) ?_
          refine Ends.st (S' := T5.setTop (mkF m 135 #[.val (.int v0), .val (.int v1), .val (.int v2), .val (.int v3), .val (.int v4), .val (.long v5), .second, .val (.int dl), .val (.ref xa), .val (.int (0 : Int32)), .val (.ref xb), .val (.int a2), .unset, .unset, .unset, .unset, .unset, .unset, .unset] [(.int v1)])) (fun _ k => XS.iloadN X5.here hx rfl (hb hby at_134) rfl k) ?_
          refine Ends.st (S' := T5.setTop (mkF m 137 #[.val (.int v0), .val (.int v1), .val (.int v2), .val (.int v3), .val (.int v4), .val (.long v5), .second, .val (.int dl), .val (.ref xa), .val (.int (0 : Int32)), .val (.ref xb), .val (.int a2), .val (.int v1), .unset, .unset, .unset, .unset, .unset, .unset] [])) (fun _ k => XS.istore X5.here hx rfl (hb hby at_135) rfl (l' := #[.val (.int v0), .val (.int v1), .val (.int v2), .val (.int v3), .val (.int v4), .val (.long v5), .second, .val (.int dl), .val (.ref xa), .val (.int (0 : Int32)), .val (.ref xb), .val (.int a2), .val (.int v1), .unset, .unset, .unset, .unset, .unset, .unset]) rfl k) ?_
          exact j137 _ ⟨fun _ => hc114, fun _ => rfl⟩
        · refine Ends.st (S' := T5.setTop (mkF m 127 #[.val (.int v0), .val (.int v1), .val (.int v2), .val (.int v3), .val (.int v4), .val (.long v5), .second, .val (.int dl), .val (.ref xa), .val (.int (0 : Int32)), .val (.ref xb), .val (.int a2), .unset, .unset, .unset, .unset, .unset, .unset, .unset] [])) (fun _ k => XS.ifNo X5.here hx rfl (hb hby at_124) rfl ((if0 _ _).trans (feq hc114).1) k) ?_
          refine Ends.st (S' := T5.setTop (mkF m 128 #[.val (.int v0), .val (.int v1), .val (.int v2), .val (.int v3), .val (.int v4), .val (.long v5), .second, .val (.int dl), .val (.ref xa), .val (.int (0 : Int32)), .val (.ref xb), .val (.int a2), .unset, .unset, .unset, .unset, .unset, .unset, .unset] [(.int v1)])) (fun _ k => XS.iloadN X5.here hx rfl (hb hby at_127) rfl k) ?_
          refine Ends.st (S' := T5.setTop (mkF m 130 #[.val (.int v0), .val (.int v1), .val (.int v2), .val (.int v3), .val (.int v4), .val (.long v5), .second, .val (.int dl), .val (.ref xa), .val (.int (0 : Int32)), .val (.ref xb), .val (.int a2), .unset, .unset, .unset, .unset, .unset, .unset, .unset] [(.int dl), (.int v1)])) (fun _ k => XS.iload X5.here hx rfl (hb hby at_128) rfl k) ?_
          refine Ends.st (S' := T5.setTop (mkF m 131 #[.val (.int v0), .val (.int v1), .val (.int v2), .val (.int v3), .val (.int v4), .val (.long v5), .second, .val (.int dl), .val (.ref xa), .val (.int (0 : Int32)), .val (.ref xb), .val (.int a2), .unset, .unset, .unset, .unset, .unset, .unset, .unset] [(.int (v1 + dl))])) (fun _ k => XS.iadd X5.here hx rfl (hb hby at_130) rfl k) ?_
          refine Ends.st (S' := T5.setTop (mkF m 135 #[.val (.int v0), .val (.int v1), .val (.int v2), .val (.int v3), .val (.int v4), .val (.long v5), .second, .val (.int dl), .val (.ref xa), .val (.int (0 : Int32)), .val (.ref xb), .val (.int a2), .unset, .unset, .unset, .unset, .unset, .unset, .unset] [(.int (v1 + dl))])) (fun _ k => XS.goto X5.here hx rfl (pc0 := 131) (pc' := 135) rfl (hb hby at_131) (by decide) (by decide) k) ?_
          refine Ends.st (S' := T5.setTop (mkF m 137 #[.val (.int v0), .val (.int v1), .val (.int v2), .val (.int v3), .val (.int v4), .val (.long v5), .second, .val (.int dl), .val (.ref xa), .val (.int (0 : Int32)), .val (.ref xb), .val (.int a2), .val (.int (v1 + dl)), .unset, .unset, .unset, .unset, .unset, .unset] [])) (fun _ k => XS.istore X5.here hx rfl (hb hby at_135) rfl (l' := #[.val (.int v0), .val (.int v1), .val (.int v2), .val (.int v3), .val (.int v4), .val (.long v5), .second, .val (.int dl), .val (.ref xa), .val (.int (0 : Int32)), .val (.ref xb), .val (.int a2), .val (.int (v1 + dl)), .unset, .unset, .unset, .unset, .unset, .unset]) rfl k) ?_
          exact j137 _ ⟨fun q => absurd q (own_ne hdl), fun q => absurd q hc114⟩
      refine Ends.st (S' := T5.setTop (mkF m 99 #[.val (.int v0), .val (.int v1), .val (.int v2), .val (.int v3), .val (.int v4), .val (.long v5), .second, .val (.int dl), .val (.ref xa), .val (.int (0 : Int32)), .val (.ref xb), .unset, .unset, .unset, .unset, .unset, .unset, .unset, .unset] [(.long v5)])) (fun _ k => XS.lload X5.here hx rfl (hb hby at_97) rfl k) ?_
      refine Ends.st (S' := T5.setTop (mkF m 100 #[.val (.int v0), .val (.int v1), .val (.int v2), .val (.int v3), .val (.int v4), .val (.long v5), .second, .val (.int dl), .val (.ref xa), .val (.int (0 : Int32)), .val (.ref xb), .unset, .unset, .unset, .unset, .unset, .unset, .unset, .unset] [(.long (1 : Int64)), (.long v5)])) (fun _ k => XS.lconst X5.here hx rfl (hb hby at_99) k) ?_
      refine Ends.st (S' := T5.setTop (mkF m 101 #[.val (.int v0), .val (.int v1), .val (.int v2), .val (.int v3), .val (.int v4), .val (.long v5), .second, .val (.int dl), .val (.ref xa), .val (.int (0 : Int32)), .val (.ref xb), .unset, .unset, .unset, .unset, .unset, .unset, .unset, .unset] [(.long (v5 &&& (1 : Int64)))])) (fun _ k => XS.land X5.here hx rfl (hb hby at_100) rfl k) ?_
      refine Ends.st (S' := T5.setTop (mkF m 102 #[.val (.int v0), .val (.int v1), .val (.int v2), .val (.int v3), .val (.int v4), .val (.long v5), .second, .val (.int dl), .val (.ref xa), .val (.int (0 : Int32)), .val (.ref xb), .unset, .unset, .unset, .unset, .unset, .unset, .unset, .unset] [(.long (0 : Int64)), (.long (v5 &&& (1 : Int64)))])) (fun _ k => XS.lconst X5.here hx rfl (hb hby at_101) k) ?_
      refine Ends.st (S' := T5.setTop (mkF m 103 #[.val (.int v0), .val (.int v1), .val (.int v2), .val (.int v3), .val (.int v4), .val (.long v5), .second, .val (.int dl), .val (.ref xa), .val (.int (0 : Int32)), .val (.ref xb), .unset, .unset, .unset, .unset, .unset, .unset, .unset, .unset] [(.int (lcmpW (v5 &&& (1 : Int64)) (0 : Int64)))])) (fun _ k => XS.lcmp X5.here hx rfl (hb hby at_102) rfl k) ?_
      by_cases hc115 : (lcmpW (v5 &&& (1 : Int64)) (0 : Int64)) = (0 : Int32)
      · refine Ends.st (S' := T5.setTop (mkF m 113 #[.val (.int v0), .val (.int v1), .val (.int v2), .val (.int v3), .val (.int v4), .val (.long v5), .second, .val (.int dl), .val (.ref xa), .val (.int (0 : Int32)), .val (.ref xb), .unset, .unset, .unset, .unset, .unset, .unset, .unset, .unset] [])) (fun _ k => XS.ifYes X5.here hx rfl (pc0 := 103) (pc' := 113) rfl (hb hby at_103) rfl ((if0 _ _).trans (teq hc115).1) (by decide) (by decide) k) ?_
        refine Ends.st (S' := T5.setTop (mkF m 114 #[.val (.int v0), .val (.int v1), .val (.int v2), .val (.int v3), .val (.int v4), .val (.long v5), .second, .val (.int dl), .val (.ref xa), .val (.int (0 : Int32)), .val (.ref xb), .unset, .unset, .unset, .unset, .unset, .unset, .unset, .unset] [(.int v0)])) (fun _ k => XS.iloadN X5.here hx rfl (hb hby at_113) rfl k) ?_
        refine Ends.st (S' := T5.setTop (mkF m 116 #[.val (.int v0), .val (.int v1), .val (.int v2), .val (.int v3), .val (.int v4), .val (.long v5), .second, .val (.int dl), .val (.ref xa), .val (.int (0 : Int32)), .val (.ref xb), .val (.int v0), .unset, .unset, .unset, .unset, .unset, .unset, .unset] [])) (fun _ k => XS.istore X5.here hx rfl (hb hby at_114) rfl (l' := #[.val (.int v0), .val (.int v1), .val (.int v2), .val (.int v3), .val (.int v4), .val (.long v5), .second, .val (.int dl), .val (.ref xa), .val (.int (0 : Int32)), .val (.ref xb), .val (.int v0), .unset, .unset, .unset, .unset, .unset, .unset, .unset]) rfl k) ?_
        exact j116 _ ⟨fun _ => hc115, fun _ => rfl⟩
      · refine Ends.st (S' := T5.setTop (mkF m 106 #[.val (.int v0), .val (.int v1), .val (.int v2), .val (.int v3), .val (.int v4), .val (.long v5), .second, .val (.int dl), .val (.ref xa), .val (.int (0 : Int32)), .val (.ref xb), .unset, .unset, .unset, .unset, .unset, .unset, .unset, .unset] [])) (fun _ k => XS.ifNo X5.here hx rfl (hb hby at_103) rfl ((if0 _ _).trans (feq hc115).1) k) ?_
        refine Ends.st (S' := T5.setTop (mkF m 107 #[.val (.int v0), .val (.int v1), .val (.int v2), .val (.int v3), .val (.int v4), .val (.long v5), .second, .val (.int dl), .val (.ref xa), .val (.int (0 : Int32)), .val (.ref xb), .unset, .unset, .unset, .unset, .unset, .unset, .unset, .unset] [(.int v0)])) (fun _ k => XS.iloadN X5.here hx rfl (hb hby at_106) rfl k) ?_
        refine Ends.st (S' := T5.setTop (mkF m 109 #[.val (.int v0), .val (.int v1), .val (.int v2), .val (.int v3), .val (.int v4), .val (.long v5), .second, .val (.int dl), .val (.ref xa), .val (.int (0 : Int32)), .val (.ref xb), .unset, .unset, .unset, .unset, .unset, .unset, .unset, .unset] [(.int dl), (.int v0)])) (fun _ k => XS.iload X5.here hx rfl (hb hby at_107) rfl k) ?_
        refine Ends.st (S' := T5.setTop (mkF m 110 #[.val (.int v0), .val (.int v1), .val (.int v2), .val (.int v3), .val (.int v4), .val (.long v5), .second, .val (.int dl), .val (.ref xa), .val (.int (0 : Int32)), .val (.ref xb), .unset, .unset, .unset, .unset, .unset, .unset, .unset, .unset] [(.int (v0 + dl))])) (fun _ k => XS.iadd X5.here hx rfl (hb hby at_109) rfl k) ?_
        refine Ends.st (S' := T5.setTop (mkF m 114 #[.val (.int v0), .val (.int v1), .val (.int v2), .val (.int v3), .val (.int v4), .val (.long v5), .second, .val (.int dl), .val (.ref xa), .val (.int (0 : Int32)), .val (.ref xb), .unset, .unset, .unset, .unset, .unset, .unset, .unset, .unset] [(.int (v0 + dl))])) (fun _ k => XS.goto X5.here hx rfl (pc0 := 110) (pc' := 114) rfl (hb hby at_110) (by decide) (by decide) k) ?_
        refine Ends.st (S' := T5.setTop (mkF m 116 #[.val (.int v0), .val (.int v1), .val (.int v2), .val (.int v3), .val (.int v4), .val (.long v5), .second, .val (.int dl), .val (.ref xa), .val (.int (0 : Int32)), .val (.ref xb), .val (.int (v0 + dl)), .unset, .unset, .unset, .unset, .unset, .unset, .unset] [])) (fun _ k => XS.istore X5.here hx rfl (hb hby at_114) rfl (l' := #[.val (.int v0), .val (.int v1), .val (.int v2), .val (.int v3), .val (.int v4), .val (.long v5), .second, .val (.int dl), .val (.ref xa), .val (.int (0 : Int32)), .val (.ref xb), .val (.int (v0 + dl)), .unset, .unset, .unset, .unset, .unset, .unset, .unset]) rfl k) ?_
        exact j116 _ ⟨fun q => absurd q (own_ne hdl), fun q => absurd q hc115⟩
    · refine Ends.st (S' := T1.setTop (mkF m 44 #[.val (.int v0), .val (.int v1), .val (.int v2), .val (.int v3), .val (.int v4), .val (.long v5), .second, .val (.int dl), .val (.ref xa), .unset, .unset, .unset, .unset, .unset, .unset, .unset, .unset, .unset, .unset] [])) (fun _ k => XS.ifNo X1.here hx rfl (hb hby at_41) rfl ((if0 _ _).trans (feq hc4).1) k) ?_
      refine Ends.st (S' := T1.setTop (mkF m 45 #[.val (.int v0), .val (.int v1), .val (.int v2), .val (.int v3), .val (.int v4), .val (.long v5), .second, .val (.int dl), .val (.ref xa), .unset, .unset, .unset, .unset, .unset, .unset, .unset, .unset, .unset, .unset] [(.int (1 : Int32))])) (fun _ k => XS.iconst X1.here hx rfl (hb hby at_44) k) ?_
      refine Ends.st (S' := T1.setTop (mkF m 49 #[.val (.int v0), .val (.int v1), .val (.int v2), .val (.int v3), .val (.int v4), .val (.long v5), .second, .val (.int dl), .val (.ref xa), .unset, .unset, .unset, .unset, .unset, .unset, .unset, .unset, .unset, .unset] [(.int (1 : Int32))])) (fun _ k => XS.goto X1.here hx rfl (pc0 := 45) (pc' := 49) rfl (hb hby at_45) (by decide) (by decide) k) ?_
      refine Ends.st (S' := T1.setTop (mkF m 51 #[.val (.int v0), .val (.int v1), .val (.int v2), .val (.int v3), .val (.int v4), .val (.long v5), .second, .val (.int dl), .val (.ref xa), .val (.int (1 : Int32)), .unset, .unset, .unset, .unset, .unset, .unset, .unset, .unset, .unset] [])) (fun _ k => XS.istore X1.here hx rfl (hb hby at_49) rfl (l' := #[.val (.int v0), .val (.int v1), .val (.int v2), .val (.int v3), .val (.int v4), .val (.long v5), .second, .val (.int dl), .val (.ref xa), .val (.int (1 : Int32)), .unset, .unset, .unset, .unset, .unset, .unset, .unset, .unset, .unset]) rfl k) ?_
      refine Ends.st (S' := T1.setTop (mkF m 53 #[.val (.int v0), .val (.int v1), .val (.int v2), .val (.int v3), .val (.int v4), .val (.long v5), .second, .val (.int dl), .val (.ref xa), .val (.int (1 : Int32)), .unset, .unset, .unset, .unset, .unset, .unset, .unset, .unset, .unset] [(.int (1 : Int32))])) (fun _ k => XS.iload X1.here hx rfl (hb hby at_51) rfl k) ?_
      refine Ends.st (S' := T1.setTop (mkF m 56 #[.val (.int v0), .val (.int v1), .val (.int v2), .val (.int v3), .val (.int v4), .val (.long v5), .second, .val (.int dl), .val (.ref xa), .val (.int (1 : Int32)), .unset, .unset, .unset, .unset, .unset, .unset, .unset, .unset, .unset] [])) (fun _ k => XS.ifNo X1.here hx rfl (hb hby at_53) rfl ((if0 _ _).trans (feq (by decide : ¬ ((1 : Int32) = (0 : Int32)))).1) k) ?_
      refine Ends.st (S' := T1.setTop (mkF m 58 #[.val (.int v0), .val (.int v1), .val (.int v2), .val (.int v3), .val (.int v4), .val (.long v5), .second, .val (.int dl), .val (.ref xa), .val (.int (1 : Int32)), .unset, .unset, .unset, .unset, .unset, .unset, .unset, .unset, .unset] [(.int v4)])) (fun _ k => XS.iload X1.here hx rfl (hb hby at_56) rfl k) ?_
      refine Ends.st (S' := T1.setTop (mkF m 60 #[.val (.int v0), .val (.int v1), .val (.int v2), .val (.int v3), .val (.int v4), .val (.long v5), .second, .val (.int dl), .val (.ref xa), .val (.int (1 : Int32)), .unset, .unset, .unset, .unset, .unset, .unset, .unset, .unset, .unset] [(.int v4), (.int v4)])) (fun _ k => XS.iload X1.here hx rfl (hb hby at_58) rfl k) ?_
      refine Ends.st (S' := T1.setTop (mkF m 62 #[.val (.int v0), .val (.int v1), .val (.int v2), .val (.int v3), .val (.int v4), .val (.long v5), .second, .val (.int dl), .val (.ref xa), .val (.int (1 : Int32)), .unset, .unset, .unset, .unset, .unset, .unset, .unset, .unset, .unset] [(.int (8 : Int32)), (.int v4), (.int v4)])) (fun _ k => XS.bipush X1.here hx rfl (hb hby at_60) k) ?_
      refine Ends.st (S' := T1.setTop (mkF m 63 #[.val (.int v0), .val (.int v1), .val (.int v2), .val (.int v3), .val (.int v4), .val (.long v5), .second, .val (.int dl), .val (.ref xa), .val (.int (1 : Int32)), .unset, .unset, .unset, .unset, .unset, .unset, .unset, .unset, .unset] [(.int ((v4.toUInt32 >>> ((8 : Int32) &&& 31).toUInt32).toInt32)), (.int v4)])) (fun _ k => XS.iushr X1.here hx rfl (hb hby at_62) rfl k) ?_
      refine Ends.st (S' := T1.setTop (mkF m 65 #[.val (.int v0), .val (.int v1), .val (.int v2), .val (.int v3), .val (.int v4), .val (.long v5), .second, .val (.int dl), .val (.ref xa), .val (.int (1 : Int32)), .unset, .unset, .unset, .unset, .unset, .unset, .unset, .unset, .unset] [(.int v4), (.int ((v4.toUInt32 >>> ((8 : Int32) &&& 31).toUInt32).toInt32)), (.int v4)])) (fun _ k => XS.iload X1.here hx rfl (hb hby at_63) rfl k) ?_
      refine Ends.st (S' := T1.setTop (mkF m 67 #[.val (.int v0), .val (.int v1), .val (.int v2), .val (.int v3), .val (.int v4), .val (.long v5), .second, .val (.int dl), .val (.ref xa), .val (.int (1 : Int32)), .unset, .unset, .unset, .unset, .unset, .unset, .unset, .unset, .unset] [(.int (16 : Int32)), (.int v4), (.int ((v4.toUInt32 >>> ((8 : Int32) &&& 31).toUInt32).toInt32)), (.int v4)])) (fun _ k => XS.bipush X1.here hx rfl (hb hby at_65) k) ?_
      refine Ends.st (S' := T1.setTop (mkF m 68 #[.val (.int v0), .val (.int v1), .val (.int v2), .val (.int v3), .val (.int v4), .val (.long v5), .second, .val (.int dl), .val (.ref xa), .val (.int (1 : Int32)), .unset, .unset, .unset, .unset, .unset, .unset, .unset, .unset, .unset] [(.int ((v4.toUInt32 >>> ((16 : Int32) &&& 31).toUInt32).toInt32)), (.int ((v4.toUInt32 >>> ((8 : Int32) &&& 31).toUInt32).toInt32)), (.int v4)])) (fun _ k => XS.iushr X1.here hx rfl (hb hby at_67) rfl k) ?_
      obtain ⟨_, _, ⟨T116, L116, k116, n116⟩, -, X116, hS116r, hgr116, ⟨Lc116, hQ116, l116, y116, z116, hC116⟩, st116⟩ := callSS (s := s.setVm T1.vm) X1 hx (y := (⟨"com/example/umpteenth_copy/umpteenthcopy/engine/PassageEqualsPinLaw", "str", "(III)Ljava/lang/String;"⟩ : MethodName)) hown (mvT hZ (hw _ (List.mem_of_getElem? (i := 0) rfl))) (mvT hZ (hw _ (List.mem_of_getElem? (i := 1) rfl))) (mvT hZ (hw _ (List.mem_of_getElem? (i := 2) rfl))) (mvT hZ (hw _ (List.mem_of_getElem? (i := 3) rfl))) (by decide) (backOfSH (s := s) (vm0 := T1.vm) (W := 0) (rm1 l Z a0 hw [] v4 ((v4.toUInt32 >>> ((8 : Int32) &&& 31).toUInt32).toInt32) ((v4.toUInt32 >>> ((16 : Int32) &&& 31).toUInt32).toInt32) G T1.heap n0 f2 f3 SC hG) hZ (hw _ (List.mem_of_getElem? (i := 3) rfl)) (hw _ (List.mem_of_getElem? (i := 2) rfl)) (by decide) (by decide) (own_EW hw) C1.1) (g := (mkF m 68 #[.val (.int v0), .val (.int v1), .val (.int v2), .val (.int v3), .val (.int v4), .val (.long v5), .second, .val (.int dl), .val (.ref xa), .val (.int (1 : Int32)), .unset, .unset, .unset, .unset, .unset, .unset, .unset, .unset, .unset] [(.int ((v4.toUInt32 >>> ((16 : Int32) &&& 31).toUInt32).toInt32)), (.int ((v4.toUInt32 >>> ((8 : Int32) &&& 31).toUInt32).toInt32)), (.int v4)])) rfl (by rw [hml]; rfl) (argsL := [(.int v4), (.int ((v4.toUInt32 >>> ((8 : Int32) &&& 31).toUInt32).toInt32)), (.int ((v4.toUInt32 >>> ((16 : Int32) &&& 31).toUInt32).toInt32))]) (rest := []) (lenOf pd_4 rfl) rfl (by show 2 * 0 + _ ≤ _; exact Nat.le_of_eq rfl) (hb hby at_68) (fun _ _ => ⟨rfl, rfl, (by decide : 0 + 6 + 6 ≤ _), (by decide : 0 + 16 + 16 ≤ _)⟩)
      dsimp only [Pt.U, Pt.locs, Pt.cells, Pt.slots] at X116 hS116r hgr116 l116 y116 z116 st116 hQ116 hC116
      subst l116 y116 z116
      obtain ⟨xb, tb, kb, Mb, vsb, rfl, N116q, K116, Esb, Vsb, Csb, Asb, hcb⟩ := hQ116
      have N116 := Fr.app N1 N116q
      have hown : (s.setVm T116.vm).vm.findClass "com/example/umpteenth_copy/umpteenthcopy/engine/PassageEqualsPinLaw" = some m.cls := by rw [show (s.setVm T116.vm).vm = T116.vm from rfl, hS116r.1.alike.findClass]; exact hown
      have hZ : Z.Warmed39 (s.setVm T116.vm).vm := State.Warmed39.trans (t := s.setVm T1.vm) hZ hS116r.1
      have X116 : Stand p l e room_1 (s.setVm T116.vm) m _ below meth c T116 _ _ _ := X116
      have hS116 : s.Since T116.vm T116.heap.size := State.Since.trans hS1 hS116r (Nat.le_trans (Nat.le_refl T1.heap.size) hgr116)
      have f117 := Nat.le_trans f2 K116.1
      have f118 := f3.keep K116 all0
      have f119 := Esa.keep K116
      have f120 := Vsa.keep K116 nin0
      have f121 := Csa.keep K116 nin0
      have f122 := Asa.keep K116 nin0
      have hbb := own_up16 _ (own_strsP v4 ((v4.toUInt32 >>> ((8 : Int32) &&& 31).toUInt32).toInt32) ((v4.toUInt32 >>> ((16 : Int32) &&& 31).toUInt32).toInt32))
      have hlb := own_strsL v4 ((v4.toUInt32 >>> ((8 : Int32) &&& 31).toUInt32).toInt32) ((v4.toUInt32 >>> ((16 : Int32) &&& 31).toUInt32).toInt32)
      have C116 := CHr.trans C1 hC116
      refine Ends.st (S' := T116.setTop (mkF m 71 #[.val (.int v0), .val (.int v1), .val (.int v2), .val (.int v3), .val (.int v4), .val (.long v5), .second, .val (.int dl), .val (.ref xa), .val (.int (1 : Int32)), .unset, .unset, .unset, .unset, .unset, .unset, .unset, .unset, .unset] [(.ref xb)])) (fun _ k => st116.trans k) ?_
      refine Ends.st (S' := T116.setTop (mkF m 95 #[.val (.int v0), .val (.int v1), .val (.int v2), .val (.int v3), .val (.int v4), .val (.long v5), .second, .val (.int dl), .val (.ref xa), .val (.int (1 : Int32)), .unset, .unset, .unset, .unset, .unset, .unset, .unset, .unset, .unset] [(.ref xb)])) (fun _ k => XS.goto X116.here hx rfl (pc0 := 71) (pc' := 95) rfl (hb hby at_71) (by decide) (by decide) k) ?_
      refine Ends.st (S' := T116.setTop (mkF m 97 #[.val (.int v0), .val (.int v1), .val (.int v2), .val (.int v3), .val (.int v4), .val (.long v5), .second, .val (.int dl), .val (.ref xa), .val (.int (1 : Int32)), .val (.ref xb), .unset, .unset, .unset, .unset, .unset, .unset, .unset, .unset] [])) (fun _ k => XS.astore X116.here hx rfl (hb hby at_95) rfl rfl (l' := #[.val (.int v0), .val (.int v1), .val (.int v2), .val (.int v3), .val (.int v4), .val (.long v5), .second, .val (.int dl), .val (.ref xa), .val (.int (1 : Int32)), .val (.ref xb), .unset, .unset, .unset, .unset, .unset, .unset, .unset, .unset]) rfl k) ?_
      have j116 : ∀ a2 : Int32, (a2 = v0 ↔ (lcmpW (v5 &&& (1 : Int64)) (0 : Int64)) = (0 : Int32)) → Ends p.tables e below (T116.setTop (mkF m 116 #[.val (.int v0), .val (.int v1), .val (.int v2), .val (.int v3), .val (.int v4), .val (.long v5), .second, .val (.int dl), .val (.ref xa), .val (.int (1 : Int32)), .val (.ref xb), .val (.int a2), .unset, .unset, .unset, .unset, .unset, .unset, .unset] [])) (fun (s₂ : State) (o : Outcome) => s₂.status = .running ∧ Ended s₂ below o ∧ ∃ v L, o = .returned v ∧ Q0 Z  h0 n0 v s₂.heap L ∧ ReturnedEndW s o s₂ L room_1.cells room_1.slots) := by
        intro a2 ha2
        have j137 : ∀ b2 : Int32, (b2 = v1 ↔ (lcmpW (v5 &&& (2 : Int64)) (0 : Int64)) = (0 : Int32)) → Ends p.tables e below (T116.setTop (mkF m 137 #[.val (.int v0), .val (.int v1), .val (.int v2), .val (.int v3), .val (.int v4), .val (.long v5), .second, .val (.int dl), .val (.ref xa), .val (.int (1 : Int32)), .val (.ref xb), .val (.int a2), .val (.int b2), .unset, .unset, .unset, .unset, .unset, .unset] [])) (fun (s₂ : State) (o : Outcome) => s₂.status = .running ∧ Ended s₂ below o ∧ ∃ v L, o = .returned v ∧ Q0 Z  h0 n0 v s₂.heap L ∧ ReturnedEndW s o s₂ L room_1.cells room_1.slots) := by
          intro b2 hb2
          have j158 : ∀ c2 : Int32, (c2 = v2 ↔ (lcmpW (v5 &&& (4 : Int64)) (0 : Int64)) = (0 : Int32)) → Ends p.tables e below (T116.setTop (mkF m 158 #[.val (.int v0), .val (.int v1), .val (.int v2), .val (.int v3), .val (.int v4), .val (.long v5), .second, .val (.int dl), .val (.ref xa), .val (.int (1 : Int32)), .val (.ref xb), .val (.int a2), .val (.int b2), .val (.int c2), .unset, .unset, .unset, .unset, .unset] [])) (fun (s₂ : State) (o : Outcome) => s₂.status = .running ∧ Ended s₂ below o ∧ ∃ v L, o = .returned v ∧ Q0 Z  h0 n0 v s₂.heap L ∧ ReturnedEndW s o s₂ L room_1.cells room_1.slots) := by
            intro c2 hc2
            have j179 : ∀ d2 : Int32, (d2 = v3 ↔ (lcmpW (v5 &&& (8 : Int64)) (0 : Int64)) = (0 : Int32)) → Ends p.tables e below (T116.setTop (mkF m 179 #[.val (.int v0), .val (.int v1), .val (.int v2), .val (.int v3), .val (.int v4), .val (.long v5), .second, .val (.int dl), .val (.ref xa), .val (.int (1 : Int32)), .val (.ref xb), .val (.int a2), .val (.int b2), .val (.int c2), .val (.int d2), .unset, .unset, .unset, .unset] [])) (fun (s₂ : State) (o : Outcome) => s₂.status = .running ∧ Ended s₂ below o ∧ ∃ v L, o = .returned v ∧ Q0 Z  h0 n0 v s₂.heap L ∧ ReturnedEndW s o s₂ L room_1.cells room_1.slots) := by
              intro d2 hd2
              obtain ⟨T123, h123, X123, e123, E123, A123, D123, -, st123⟩ := newO X116 hx hZ hown (hw _ (List.mem_of_getElem? (i := 29) rfl)) (hw _ (List.mem_of_getElem? (i := 30) rfl)) (hw _ (List.mem_of_getElem? (i := 31) rfl)) rfl (g := (mkF m 179 #[.val (.int v0), .val (.int v1), .val (.int v2), .val (.int v3), .val (.int v4), .val (.long v5), .second, .val (.int dl), .val (.ref xa), .val (.int (1 : Int32)), .val (.ref xb), .val (.int a2), .val (.int b2), .val (.int c2), .val (.int d2), .unset, .unset, .unset, .unset] [])) rfl (hb hby at_179) (by decide) (by decide)
              obtain ⟨b123, g123⟩ : ∃ z, z = T116.heap.size := ⟨_, rfl⟩
              rw [← g123] at A123 D123 st123
              have ne124 : xa ≠ b123 := Nat.ne_of_lt (Nat.lt_of_lt_of_le f119.lt (Nat.le_of_eq g123.symm))
              have ne125 : ta ≠ b123 := Nat.ne_of_lt (Nat.lt_of_lt_of_le f122.lt (Nat.le_of_eq g123.symm))
              have ne126 : xb ≠ b123 := Nat.ne_of_lt (Nat.lt_of_lt_of_le Esb.lt (Nat.le_of_eq g123.symm))
              have ne127 : tb ≠ b123 := Nat.ne_of_lt (Nat.lt_of_lt_of_le Asb.lt (Nat.le_of_eq g123.symm))
              have g_b123 : n0 ≤ b123 := Nat.le_trans f117 (Nat.le_of_eq g123.symm)
              have f128 := Nat.le_trans f117 E123.1
              have f129 := f118.ext E123
              have f130 := f119.ext E123
              have f131 := f120.ext E123
              have f132 := f121.ext E123
              have f133 := f122.ext E123
              have f134 := Esb.ext E123
              have f135 := Vsb.ext E123
              have f136 := Csb.ext E123
              have f137 := Asb.ext E123
              have f138 := Nat.le_trans (Nat.le_refl T116.heap.size) E123.1
              have f139 := CHr.trans C116 (CHr.ext E123 C116.1)
              have F140 : Fld Z h123 b123 "com/example/umpteenth_copy/umpteenthcopy/engine/Passage" "source" "Ljava/lang/String;" .null := D123 (Or.inr (hw _ (List.mem_of_getElem? (i := 43) rfl))) (ty := (.object "java/lang/String")) (by decide)
              have F141 : Fld Z h123 b123 "com/example/umpteenth_copy/umpteenthcopy/engine/Passage" "start" "I" (.int (0 : Int32)) := D123 (Or.inr (hw _ (List.mem_of_getElem? (i := 45) rfl))) (ty := .int) (by decide)
              have F142 : Fld Z h123 b123 "com/example/umpteenth_copy/umpteenthcopy/engine/Passage" "end" "I" (.int (0 : Int32)) := D123 (Or.inr (hw _ (List.mem_of_getElem? (i := 47) rfl))) (ty := .int) (by decide)
              have F143 : Fld Z h123 b123 "com/example/umpteenth_copy/umpteenthcopy/engine/Passage" "sourceStart" "I" (.int (0 : Int32)) := D123 (Or.inr (hw _ (List.mem_of_getElem? (i := 49) rfl))) (ty := .int) (by decide)
              have F144 : Fld Z h123 b123 "com/example/umpteenth_copy/umpteenthcopy/engine/Passage" "sourceEnd" "I" (.int (0 : Int32)) := D123 (Or.inr (hw _ (List.mem_of_getElem? (i := 51) rfl))) (ty := .int) (by decide)
              refine Ends.st (S' := T123.setTop (mkF m 182 #[.val (.int v0), .val (.int v1), .val (.int v2), .val (.int v3), .val (.int v4), .val (.long v5), .second, .val (.int dl), .val (.ref xa), .val (.int (1 : Int32)), .val (.ref xb), .val (.int a2), .val (.int b2), .val (.int c2), .val (.int d2), .unset, .unset, .unset, .unset] [(.ref b123)])) (fun _ k => st123 _ k) ?_
              refine Ends.st (S' := T123.setTop (mkF m 183 #[.val (.int v0), .val (.int v1), .val (.int v2), .val (.int v3), .val (.int v4), .val (.long v5), .second, .val (.int dl), .val (.ref xa), .val (.int (1 : Int32)), .val (.ref xb), .val (.int a2), .val (.int b2), .val (.int c2), .val (.int d2), .unset, .unset, .unset, .unset] [(.ref b123), (.ref b123)])) (fun _ k => XS.dup X123.here hx rfl (hb hby at_182) rfl rfl k) ?_
              refine Ends.st (S' := T123.setTop (mkF m 185 #[.val (.int v0), .val (.int v1), .val (.int v2), .val (.int v3), .val (.int v4), .val (.long v5), .second, .val (.int dl), .val (.ref xa), .val (.int (1 : Int32)), .val (.ref xb), .val (.int a2), .val (.int b2), .val (.int c2), .val (.int d2), .unset, .unset, .unset, .unset] [(.ref xa), (.ref b123), (.ref b123)])) (fun _ k => XS.aload X123.here hx rfl (hb hby at_183) rfl rfl k) ?_
              refine Ends.st (S' := T123.setTop (mkF m 186 #[.val (.int v0), .val (.int v1), .val (.int v2), .val (.int v3), .val (.int v4), .val (.long v5), .second, .val (.int dl), .val (.ref xa), .val (.int (1 : Int32)), .val (.ref xb), .val (.int a2), .val (.int b2), .val (.int c2), .val (.int d2), .unset, .unset, .unset, .unset] [(.int v0), (.ref xa), (.ref b123), (.ref b123)])) (fun _ k => XS.iloadN X123.here hx rfl (hb hby at_185) rfl k) ?_
              refine Ends.st (S' := T123.setTop (mkF m 187 #[.val (.int v0), .val (.int v1), .val (.int v2), .val (.int v3), .val (.int v4), .val (.long v5), .second, .val (.int dl), .val (.ref xa), .val (.int (1 : Int32)), .val (.ref xb), .val (.int a2), .val (.int b2), .val (.int c2), .val (.int d2), .unset, .unset, .unset, .unset] [(.int v1), (.int v0), (.ref xa), (.ref b123), (.ref b123)])) (fun _ k => XS.iloadN X123.here hx rfl (hb hby at_186) rfl k) ?_
              refine Ends.st (S' := T123.setTop (mkF m 188 #[.val (.int v0), .val (.int v1), .val (.int v2), .val (.int v3), .val (.int v4), .val (.long v5), .second, .val (.int dl), .val (.ref xa), .val (.int (1 : Int32)), .val (.ref xb), .val (.int a2), .val (.int b2), .val (.int c2), .val (.int d2), .unset, .unset, .unset, .unset] [(.int v2), (.int v1), (.int v0), (.ref xa), (.ref b123), (.ref b123)])) (fun _ k => XS.iloadN X123.here hx rfl (hb hby at_187) rfl k) ?_
              refine Ends.st (S' := T123.setTop (mkF m 189 #[.val (.int v0), .val (.int v1), .val (.int v2), .val (.int v3), .val (.int v4), .val (.long v5), .second, .val (.int dl), .val (.ref xa), .val (.int (1 : Int32)), .val (.ref xb), .val (.int a2), .val (.int b2), .val (.int c2), .val (.int d2), .unset, .unset, .unset, .unset] [(.int v3), (.int v2), (.int v1), (.int v0), (.ref xa), (.ref b123), (.ref b123)])) (fun _ k => XS.iloadN X123.here hx rfl (hb hby at_188) rfl k) ?_
              obtain ⟨_, _, ⟨T145, L145, k145, n145⟩, -, X145, hS145r, hgr145, ⟨Lc145, hQ145, l145, y145, z145⟩, st145⟩ := Stand.specialBackS (s := s.setVm T116.vm) X123 hx (y := (⟨"com/example/umpteenth_copy/umpteenthcopy/engine/Passage", "<init>", "(Ljava/lang/String;IIII)V"⟩ : MethodName)) rfl hown (mvT hZ (hw _ (List.mem_of_getElem? (i := 32) rfl))) (mvT hZ (hw _ (List.mem_of_getElem? (i := 33) rfl))) (mvT hZ (hw _ (List.mem_of_getElem? (i := 34) rfl))) (by decide) (backOfS (W := 1) (rm5 l Z a0 hw [] b123 xa v0 v1 v2 v3 h123 n0 f128 A123 F140 F141 F142 F143 F144 g_b123 f130 ne124) hZ (hw _ (List.mem_of_getElem? (i := 34) rfl)) (hw _ (List.mem_of_getElem? (i := 31) rfl)) (by decide) (by decide)) (g := (mkF m 189 #[.val (.int v0), .val (.int v1), .val (.int v2), .val (.int v3), .val (.int v4), .val (.long v5), .second, .val (.int dl), .val (.ref xa), .val (.int (1 : Int32)), .val (.ref xb), .val (.int a2), .val (.int b2), .val (.int c2), .val (.int d2), .unset, .unset, .unset, .unset] [(.int v3), (.int v2), (.int v1), (.int v0), (.ref xa), (.ref b123), (.ref b123)])) rfl (by rw [hml]; rfl) (Steps.refl _) (a := b123) (argsL := [(.ref xa), (.int v0), (.int v1), (.int v2), (.int v3)]) (rest := [(.ref b123)]) (lenOf pd_5 rfl) rfl (by show 2 * 0 + _ ≤ _; exact Nat.le_of_eq rfl) (hb hby at_189) (fun _ _ => ⟨rfl, e123, (by decide : 0 + 6 + 6 + 1 + 2 ≤ _), (by decide : 0 + 16 + 16 + 5 + 28 ≤ _)⟩)
              dsimp only [Pt.U, Pt.locs, Pt.cells, Pt.slots] at X145 hS145r hgr145 l145 y145 z145 st145 hQ145
              subst l145 y145 z145
              obtain ⟨rfl, N145q, K145, G145source, G145start, G145end, G145sourceStart, G145sourceEnd⟩ := hQ145
              have N145 := Fr.app N116 N145q
              have hown : (s.setVm T145.vm).vm.findClass "com/example/umpteenth_copy/umpteenthcopy/engine/PassageEqualsPinLaw" = some m.cls := by rw [show (s.setVm T145.vm).vm = T145.vm from rfl, hS145r.1.alike.findClass]; exact hown
              have hZ : Z.Warmed39 (s.setVm T145.vm).vm := State.Warmed39.trans (t := s.setVm T116.vm) hZ hS145r.1
              have X145 : Stand p l e room_1 (s.setVm T145.vm) m _ below meth c T145 _ _ _ := X145
              have hS145 : s.Since T145.vm T145.heap.size := State.Since.trans hS116 hS145r (Nat.le_trans f138 (by have q := hgr145; rw [e123] at q; exact q))
              have f146 := Nat.le_trans f128 K145.1
              have f147 := f129.keep K145 (allS g_b123 all0)
              have f148 := f130.keep K145
              have f149 := f131.keep K145 (ninS ne124 nin0)
              have f150 := f132.keep K145 (ninS ne124 nin0)
              have f151 := f133.keep K145 (ninS ne125 nin0)
              have f152 := f134.keep K145
              have f153 := f135.keep K145 (ninS ne126 nin0)
              have f154 := f136.keep K145 (ninS ne126 nin0)
              have f155 := f137.keep K145 (ninS ne127 nin0)
              have f156 := A123.keep K145
              refine Ends.st (S' := T145.setTop (mkF m 192 #[.val (.int v0), .val (.int v1), .val (.int v2), .val (.int v3), .val (.int v4), .val (.long v5), .second, .val (.int dl), .val (.ref xa), .val (.int (1 : Int32)), .val (.ref xb), .val (.int a2), .val (.int b2), .val (.int c2), .val (.int d2), .unset, .unset, .unset, .unset] [(.ref b123)])) (fun _ k => st145.trans k) ?_
              refine Ends.st (S' := T145.setTop (mkF m 194 #[.val (.int v0), .val (.int v1), .val (.int v2), .val (.int v3), .val (.int v4), .val (.long v5), .second, .val (.int dl), .val (.ref xa), .val (.int (1 : Int32)), .val (.ref xb), .val (.int a2), .val (.int b2), .val (.int c2), .val (.int d2), .val (.ref b123), .unset, .unset, .unset] [])) (fun _ k => XS.astore X145.here hx rfl (hb hby at_192) rfl rfl (l' := #[.val (.int v0), .val (.int v1), .val (.int v2), .val (.int v3), .val (.int v4), .val (.long v5), .second, .val (.int dl), .val (.ref xa), .val (.int (1 : Int32)), .val (.ref xb), .val (.int a2), .val (.int b2), .val (.int c2), .val (.int d2), .val (.ref b123), .unset, .unset, .unset]) rfl k) ?_
              obtain ⟨T157, h157, X157, e157, E157, A157, D157, -, st157⟩ := newO X145 hx hZ hown (hw _ (List.mem_of_getElem? (i := 29) rfl)) (hw _ (List.mem_of_getElem? (i := 30) rfl)) (hw _ (List.mem_of_getElem? (i := 31) rfl)) rfl (g := (mkF m 194 #[.val (.int v0), .val (.int v1), .val (.int v2), .val (.int v3), .val (.int v4), .val (.long v5), .second, .val (.int dl), .val (.ref xa), .val (.int (1 : Int32)), .val (.ref xb), .val (.int a2), .val (.int b2), .val (.int c2), .val (.int d2), .val (.ref b123), .unset, .unset, .unset] [])) rfl (hb hby at_194) (by decide) (by decide)
              obtain ⟨b157, g157⟩ : ∃ z, z = T145.heap.size := ⟨_, rfl⟩
              rw [← g157] at A157 D157 st157
              have ne158 : xa ≠ b157 := Nat.ne_of_lt (Nat.lt_of_lt_of_le f148.lt (Nat.le_of_eq g157.symm))
              have ne159 : ta ≠ b157 := Nat.ne_of_lt (Nat.lt_of_lt_of_le f151.lt (Nat.le_of_eq g157.symm))
              have ne160 : xb ≠ b157 := Nat.ne_of_lt (Nat.lt_of_lt_of_le f152.lt (Nat.le_of_eq g157.symm))
              have ne161 : tb ≠ b157 := Nat.ne_of_lt (Nat.lt_of_lt_of_le f155.lt (Nat.le_of_eq g157.symm))
              have ne162 : b123 ≠ b157 := Nat.ne_of_lt (Nat.lt_of_lt_of_le f156.lt (Nat.le_of_eq g157.symm))
              have g_b157 : n0 ≤ b157 := Nat.le_trans f146 (Nat.le_of_eq g157.symm)
              have f163 := Nat.le_trans f146 E157.1
              have f164 := f147.ext E157
              have f165 := f148.ext E157
              have f166 := f149.ext E157
              have f167 := f150.ext E157
              have f168 := f151.ext E157
              have f169 := f152.ext E157
              have f170 := f153.ext E157
              have f171 := f154.ext E157
              have f172 := f155.ext E157
              have f173 := f156.ext E157
              have f174 := G145source.ext E157
              have f175 := G145start.ext E157
              have f176 := G145end.ext E157
              have f177 := G145sourceStart.ext E157
              have f178 := G145sourceEnd.ext E157
              have f179 := Nat.le_trans (Nat.le_refl T145.heap.size) E157.1
              have F180 : Fld Z h157 b157 "com/example/umpteenth_copy/umpteenthcopy/engine/Passage" "source" "Ljava/lang/String;" .null := D157 (Or.inr (hw _ (List.mem_of_getElem? (i := 43) rfl))) (ty := (.object "java/lang/String")) (by decide)
              have F181 : Fld Z h157 b157 "com/example/umpteenth_copy/umpteenthcopy/engine/Passage" "start" "I" (.int (0 : Int32)) := D157 (Or.inr (hw _ (List.mem_of_getElem? (i := 45) rfl))) (ty := .int) (by decide)
              have F182 : Fld Z h157 b157 "com/example/umpteenth_copy/umpteenthcopy/engine/Passage" "end" "I" (.int (0 : Int32)) := D157 (Or.inr (hw _ (List.mem_of_getElem? (i := 47) rfl))) (ty := .int) (by decide)
              have F183 : Fld Z h157 b157 "com/example/umpteenth_copy/umpteenthcopy/engine/Passage" "sourceStart" "I" (.int (0 : Int32)) := D157 (Or.inr (hw _ (List.mem_of_getElem? (i := 49) rfl))) (ty := .int) (by decide)
              have F184 : Fld Z h157 b157 "com/example/umpteenth_copy/umpteenthcopy/engine/Passage" "sourceEnd" "I" (.int (0 : Int32)) := D157 (Or.inr (hw _ (List.mem_of_getElem? (i := 51) rfl))) (ty := .int) (by decide)
              refine Ends.st (S' := T157.setTop (mkF m 197 #[.val (.int v0), .val (.int v1), .val (.int v2), .val (.int v3), .val (.int v4), .val (.long v5), .second, .val (.int dl), .val (.ref xa), .val (.int (1 : Int32)), .val (.ref xb), .val (.int a2), .val (.int b2), .val (.int c2), .val (.int d2), .val (.ref b123), .unset, .unset, .unset] [(.ref b157)])) (fun _ k => st157 _ k) ?_
              refine Ends.st (S' := T157.setTop (mkF m 198 #[.val (.int v0), .val (.int v1), .val (.int v2), .val (.int v3), .val (.int v4), .val (.long v5), .second, .val (.int dl), .val (.ref xa), .val (.int (1 : Int32)), .val (.ref xb), .val (.int a2), .val (.int b2), .val (.int c2), .val (.int d2), .val (.ref b123), .unset, .unset, .unset] [(.ref b157), (.ref b157)])) (fun _ k => XS.dup X157.here hx rfl (hb hby at_197) rfl rfl k) ?_
              refine Ends.st (S' := T157.setTop (mkF m 200 #[.val (.int v0), .val (.int v1), .val (.int v2), .val (.int v3), .val (.int v4), .val (.long v5), .second, .val (.int dl), .val (.ref xa), .val (.int (1 : Int32)), .val (.ref xb), .val (.int a2), .val (.int b2), .val (.int c2), .val (.int d2), .val (.ref b123), .unset, .unset, .unset] [(.ref xb), (.ref b157), (.ref b157)])) (fun _ k => XS.aload X157.here hx rfl (hb hby at_198) rfl rfl k) ?_
              refine Ends.st (S' := T157.setTop (mkF m 202 #[.val (.int v0), .val (.int v1), .val (.int v2), .val (.int v3), .val (.int v4), .val (.long v5), .second, .val (.int dl), .val (.ref xa), .val (.int (1 : Int32)), .val (.ref xb), .val (.int a2), .val (.int b2), .val (.int c2), .val (.int d2), .val (.ref b123), .unset, .unset, .unset] [(.int a2), (.ref xb), (.ref b157), (.ref b157)])) (fun _ k => XS.iload X157.here hx rfl (hb hby at_200) rfl k) ?_
              refine Ends.st (S' := T157.setTop (mkF m 204 #[.val (.int v0), .val (.int v1), .val (.int v2), .val (.int v3), .val (.int v4), .val (.long v5), .second, .val (.int dl), .val (.ref xa), .val (.int (1 : Int32)), .val (.ref xb), .val (.int a2), .val (.int b2), .val (.int c2), .val (.int d2), .val (.ref b123), .unset, .unset, .unset] [(.int b2), (.int a2), (.ref xb), (.ref b157), (.ref b157)])) (fun _ k => XS.iload X157.here hx rfl (hb hby at_202) rfl k) ?_
              refine Ends.st (S' := T157.setTop (mkF m 206 #[.val (.int v0), .val (.int v1), .val (.int v2), .val (.int v3), .val (.int v4), .val (.long v5), .second, .val (.int dl), .val (.ref xa), .val (.int (1 : Int32)), .val (.ref xb), .val (.int a2), .val (.int b2), .val (.int c2), .val (.int d2), .val (.ref b123), .unset, .unset, .unset] [(.int c2), (.int b2), (.int a2), (.ref xb), (.ref b157), (.ref b157)])) (fun _ k => XS.iload X157.here hx rfl (hb hby at_204) rfl k) ?_
              refine Ends.st (S' := T157.setTop (mkF m 208 #[.val (.int v0), .val (.int v1), .val (.int v2), .val (.int v3), .val (.int v4), .val (.long v5), .second, .val (.int dl), .val (.ref xa), .val (.int (1 : Int32)), .val (.ref xb), .val (.int a2), .val (.int b2), .val (.int c2), .val (.int d2), .val (.ref b123), .unset, .unset, .unset] [(.int d2), (.int c2), (.int b2), (.int a2), (.ref xb), (.ref b157), (.ref b157)])) (fun _ k => XS.iload X157.here hx rfl (hb hby at_206) rfl k) ?_
              obtain ⟨_, _, ⟨T185, L185, k185, n185⟩, -, X185, hS185r, hgr185, ⟨Lc185, hQ185, l185, y185, z185⟩, st185⟩ := Stand.specialBackS (s := s.setVm T145.vm) X157 hx (y := (⟨"com/example/umpteenth_copy/umpteenthcopy/engine/Passage", "<init>", "(Ljava/lang/String;IIII)V"⟩ : MethodName)) rfl hown (mvT hZ (hw _ (List.mem_of_getElem? (i := 32) rfl))) (mvT hZ (hw _ (List.mem_of_getElem? (i := 33) rfl))) (mvT hZ (hw _ (List.mem_of_getElem? (i := 34) rfl))) (by decide) (backOfS (W := 1) (rm5 l Z a0 hw [] b157 xb a2 b2 c2 d2 h157 n0 f163 A157 F180 F181 F182 F183 F184 g_b157 f169 ne160) hZ (hw _ (List.mem_of_getElem? (i := 34) rfl)) (hw _ (List.mem_of_getElem? (i := 31) rfl)) (by decide) (by decide)) (g := (mkF m 208 #[.val (.int v0), .val (.int v1), .val (.int v2), .val (.int v3), .val (.int v4), .val (.long v5), .second, .val (.int dl), .val (.ref xa), .val (.int (1 : Int32)), .val (.ref xb), .val (.int a2), .val (.int b2), .val (.int c2), .val (.int d2), .val (.ref b123), .unset, .unset, .unset] [(.int d2), (.int c2), (.int b2), (.int a2), (.ref xb), (.ref b157), (.ref b157)])) rfl (by rw [hml]; rfl) (Steps.refl _) (a := b157) (argsL := [(.ref xb), (.int a2), (.int b2), (.int c2), (.int d2)]) (rest := [(.ref b157)]) (lenOf pd_5 rfl) rfl (by show 2 * 0 + _ ≤ _; exact Nat.le_of_eq rfl) (hb hby at_208) (fun _ _ => ⟨rfl, e157, (by decide : 0 + 6 + 6 + 1 + 2 + 1 + 2 ≤ _), (by decide : 0 + 16 + 16 + 5 + 28 + 5 + 28 ≤ _)⟩)
              dsimp only [Pt.U, Pt.locs, Pt.cells, Pt.slots] at X185 hS185r hgr185 l185 y185 z185 st185 hQ185
              subst l185 y185 z185
              obtain ⟨rfl, N185q, K185, G185source, G185start, G185end, G185sourceStart, G185sourceEnd⟩ := hQ185
              have N185 := Fr.app N145 N185q
              have hown : (s.setVm T185.vm).vm.findClass "com/example/umpteenth_copy/umpteenthcopy/engine/PassageEqualsPinLaw" = some m.cls := by rw [show (s.setVm T185.vm).vm = T185.vm from rfl, hS185r.1.alike.findClass]; exact hown
              have hZ : Z.Warmed39 (s.setVm T185.vm).vm := State.Warmed39.trans (t := s.setVm T145.vm) hZ hS185r.1
              have X185 : Stand p l e room_1 (s.setVm T185.vm) m _ below meth c T185 _ _ _ := X185
              have hS185 : s.Since T185.vm T185.heap.size := State.Since.trans hS145 hS185r (Nat.le_trans f179 (by have q := hgr185; rw [e157] at q; exact q))
              have f186 := Nat.le_trans f163 K185.1
              have f187 := f164.keep K185 (allS g_b157 all0)
              have f188 := f165.keep K185
              have f189 := f166.keep K185 (ninS ne158 nin0)
              have f190 := f167.keep K185 (ninS ne158 nin0)
              have f191 := f168.keep K185 (ninS ne159 nin0)
              have f192 := f169.keep K185
              have f193 := f170.keep K185 (ninS ne160 nin0)
              have f194 := f171.keep K185 (ninS ne160 nin0)
              have f195 := f172.keep K185 (ninS ne161 nin0)
              have f196 := f173.keep K185
              have f197 := f174.keep K185 (ninS ne162 nin0)
              have f198 := f175.keep K185 (ninS ne162 nin0)
              have f199 := f176.keep K185 (ninS ne162 nin0)
              have f200 := f177.keep K185 (ninS ne162 nin0)
              have f201 := f178.keep K185 (ninS ne162 nin0)
              have f202 := A157.keep K185
              refine Ends.st (S' := T185.setTop (mkF m 211 #[.val (.int v0), .val (.int v1), .val (.int v2), .val (.int v3), .val (.int v4), .val (.long v5), .second, .val (.int dl), .val (.ref xa), .val (.int (1 : Int32)), .val (.ref xb), .val (.int a2), .val (.int b2), .val (.int c2), .val (.int d2), .val (.ref b123), .unset, .unset, .unset] [(.ref b157)])) (fun _ k => st185.trans k) ?_
              refine Ends.st (S' := T185.setTop (mkF m 213 #[.val (.int v0), .val (.int v1), .val (.int v2), .val (.int v3), .val (.int v4), .val (.long v5), .second, .val (.int dl), .val (.ref xa), .val (.int (1 : Int32)), .val (.ref xb), .val (.int a2), .val (.int b2), .val (.int c2), .val (.int d2), .val (.ref b123), .val (.ref b157), .unset, .unset] [])) (fun _ k => XS.astore X185.here hx rfl (hb hby at_211) rfl rfl (l' := #[.val (.int v0), .val (.int v1), .val (.int v2), .val (.int v3), .val (.int v4), .val (.long v5), .second, .val (.int dl), .val (.ref xa), .val (.int (1 : Int32)), .val (.ref xb), .val (.int a2), .val (.int b2), .val (.int c2), .val (.int d2), .val (.ref b123), .val (.ref b157), .unset, .unset]) rfl k) ?_
              refine Ends.st (S' := T185.setTop (mkF m 215 #[.val (.int v0), .val (.int v1), .val (.int v2), .val (.int v3), .val (.int v4), .val (.long v5), .second, .val (.int dl), .val (.ref xa), .val (.int (1 : Int32)), .val (.ref xb), .val (.int a2), .val (.int b2), .val (.int c2), .val (.int d2), .val (.ref b123), .val (.ref b157), .unset, .unset] [(.long v5)])) (fun _ k => XS.lload X185.here hx rfl (hb hby at_213) rfl k) ?_
              refine Ends.st (S' := T185.setTop (mkF m 216 #[.val (.int v0), .val (.int v1), .val (.int v2), .val (.int v3), .val (.int v4), .val (.long v5), .second, .val (.int dl), .val (.ref xa), .val (.int (1 : Int32)), .val (.ref xb), .val (.int a2), .val (.int b2), .val (.int c2), .val (.int d2), .val (.ref b123), .val (.ref b157), .unset, .unset] [(.int (5 : Int32)), (.long v5)])) (fun _ k => XS.iconst X185.here hx rfl (hb hby at_215) k) ?_
              refine Ends.st (S' := T185.setTop (mkF m 217 #[.val (.int v0), .val (.int v1), .val (.int v2), .val (.int v3), .val (.int v4), .val (.long v5), .second, .val (.int dl), .val (.ref xa), .val (.int (1 : Int32)), .val (.ref xb), .val (.int a2), .val (.int b2), .val (.int c2), .val (.int d2), .val (.ref b123), .val (.ref b157), .unset, .unset] [(.long ((v5.toUInt64 >>> ((5 : Int32) &&& 0x3f).toInt64.toUInt64).toInt64))])) (fun _ k => XS.lushr X185.here hx rfl (hb hby at_216) rfl k) ?_
              refine Ends.st (S' := T185.setTop (mkF m 220 #[.val (.int v0), .val (.int v1), .val (.int v2), .val (.int v3), .val (.int v4), .val (.long v5), .second, .val (.int dl), .val (.ref xa), .val (.int (1 : Int32)), .val (.ref xb), .val (.int a2), .val (.int b2), .val (.int c2), .val (.int d2), .val (.ref b123), .val (.ref b157), .unset, .unset] [(.long (3 : Int64)), (.long ((v5.toUInt64 >>> ((5 : Int32) &&& 0x3f).toInt64.toUInt64).toInt64))])) (fun _ k => X185.ldc2Long hx hown (mvT hZ (hw _ (List.mem_of_getElem? (i := 52) rfl))) (g := (mkF m 217 #[.val (.int v0), .val (.int v1), .val (.int v2), .val (.int v3), .val (.int v4), .val (.long v5), .second, .val (.int dl), .val (.ref xa), .val (.int (1 : Int32)), .val (.ref xb), .val (.int a2), .val (.int b2), .val (.int c2), .val (.int d2), .val (.ref b123), .val (.ref b157), .unset, .unset] [(.long ((v5.toUInt64 >>> ((5 : Int32) &&& 0x3f).toInt64.toUInt64).toInt64))])) rfl (hb hby at_217) _ k) ?_
              refine Ends.st (S' := T185.setTop (mkF m 221 #[.val (.int v0), .val (.int v1), .val (.int v2), .val (.int v3), .val (.int v4), .val (.long v5), .second, .val (.int dl), .val (.ref xa), .val (.int (1 : Int32)), .val (.ref xb), .val (.int a2), .val (.int b2), .val (.int c2), .val (.int d2), .val (.ref b123), .val (.ref b157), .unset, .unset] [(.long (((v5.toUInt64 >>> ((5 : Int32) &&& 0x3f).toInt64.toUInt64).toInt64) &&& (3 : Int64)))])) (fun _ k => XS.land X185.here hx rfl (hb hby at_220) rfl k) ?_
              refine Ends.st (S' := T185.setTop (mkF m 222 #[.val (.int v0), .val (.int v1), .val (.int v2), .val (.int v3), .val (.int v4), .val (.long v5), .second, .val (.int dl), .val (.ref xa), .val (.int (1 : Int32)), .val (.ref xb), .val (.int a2), .val (.int b2), .val (.int c2), .val (.int d2), .val (.ref b123), .val (.ref b157), .unset, .unset] [(.int ((((v5.toUInt64 >>> ((5 : Int32) &&& 0x3f).toInt64.toUInt64).toInt64) &&& (3 : Int64)).toInt32))])) (fun _ k => XS.l2i X185.here hx rfl (hb hby at_221) rfl k) ?_
              refine Ends.st (S' := T185.setTop (mkF m 224 #[.val (.int v0), .val (.int v1), .val (.int v2), .val (.int v3), .val (.int v4), .val (.long v5), .second, .val (.int dl), .val (.ref xa), .val (.int (1 : Int32)), .val (.ref xb), .val (.int a2), .val (.int b2), .val (.int c2), .val (.int d2), .val (.ref b123), .val (.ref b157), .val (.int ((((v5.toUInt64 >>> ((5 : Int32) &&& 0x3f).toInt64.toUInt64).toInt64) &&& (3 : Int64)).toInt32)), .unset] [])) (fun _ k => XS.istore X185.here hx rfl (hb hby at_222) rfl (l' := #[.val (.int v0), .val (.int v1), .val (.int v2), .val (.int v3), .val (.int v4), .val (.long v5), .second, .val (.int dl), .val (.ref xa), .val (.int (1 : Int32)), .val (.ref xb), .val (.int a2), .val (.int b2), .val (.int c2), .val (.int d2), .val (.ref b123), .val (.ref b157), .val (.int ((((v5.toUInt64 >>> ((5 : Int32) &&& 0x3f).toInt64.toUInt64).toInt64) &&& (3 : Int64)).toInt32)), .unset]) rfl k) ?_
              refine Ends.st (S' := T185.setTop (mkF m 226 #[.val (.int v0), .val (.int v1), .val (.int v2), .val (.int v3), .val (.int v4), .val (.long v5), .second, .val (.int dl), .val (.ref xa), .val (.int (1 : Int32)), .val (.ref xb), .val (.int a2), .val (.int b2), .val (.int c2), .val (.int d2), .val (.ref b123), .val (.ref b157), .val (.int ((((v5.toUInt64 >>> ((5 : Int32) &&& 0x3f).toInt64.toUInt64).toInt64) &&& (3 : Int64)).toInt32)), .unset] [(.int ((((v5.toUInt64 >>> ((5 : Int32) &&& 0x3f).toInt64.toUInt64).toInt64) &&& (3 : Int64)).toInt32))])) (fun _ k => XS.iload X185.here hx rfl (hb hby at_224) rfl k) ?_
              refine Ends.st (S' := T185.setTop (mkF m 227 #[.val (.int v0), .val (.int v1), .val (.int v2), .val (.int v3), .val (.int v4), .val (.long v5), .second, .val (.int dl), .val (.ref xa), .val (.int (1 : Int32)), .val (.ref xb), .val (.int a2), .val (.int b2), .val (.int c2), .val (.int d2), .val (.ref b123), .val (.ref b157), .val (.int ((((v5.toUInt64 >>> ((5 : Int32) &&& 0x3f).toInt64.toUInt64).toInt64) &&& (3 : Int64)).toInt32)), .unset] [(.int (1 : Int32)), (.int ((((v5.toUInt64 >>> ((5 : Int32) &&& 0x3f).toInt64.toUInt64).toInt64) &&& (3 : Int64)).toInt32))])) (fun _ k => XS.iconst X185.here hx rfl (hb hby at_226) k) ?_
              by_cases hc203 : ((((v5.toUInt64 >>> ((5 : Int32) &&& 0x3f).toInt64.toUInt64).toInt64) &&& (3 : Int64)).toInt32) = (1 : Int32)
              · refine Ends.st (S' := T185.setTop (mkF m 230 #[.val (.int v0), .val (.int v1), .val (.int v2), .val (.int v3), .val (.int v4), .val (.long v5), .second, .val (.int dl), .val (.ref xa), .val (.int (1 : Int32)), .val (.ref xb), .val (.int a2), .val (.int b2), .val (.int c2), .val (.int d2), .val (.ref b123), .val (.ref b157), .val (.int ((((v5.toUInt64 >>> ((5 : Int32) &&& 0x3f).toInt64.toUInt64).toInt64) &&& (3 : Int64)).toInt32)), .unset] [])) (fun _ k => XS.icmpNo X185.here hx rfl (hb hby at_227) rfl (teq hc203).2 k) ?_
                refine Ends.st (S' := T185.setTop (mkF m 232 #[.val (.int v0), .val (.int v1), .val (.int v2), .val (.int v3), .val (.int v4), .val (.long v5), .second, .val (.int dl), .val (.ref xa), .val (.int (1 : Int32)), .val (.ref xb), .val (.int a2), .val (.int b2), .val (.int c2), .val (.int d2), .val (.ref b123), .val (.ref b157), .val (.int ((((v5.toUInt64 >>> ((5 : Int32) &&& 0x3f).toInt64.toUInt64).toInt64) &&& (3 : Int64)).toInt32)), .unset] [(.ref b123)])) (fun _ k => XS.aload X185.here hx rfl (hb hby at_230) rfl rfl k) ?_
                refine Ends.st (S' := T185.setTop (mkF m 234 #[.val (.int v0), .val (.int v1), .val (.int v2), .val (.int v3), .val (.int v4), .val (.long v5), .second, .val (.int dl), .val (.ref xa), .val (.int (1 : Int32)), .val (.ref xb), .val (.int a2), .val (.int b2), .val (.int c2), .val (.int d2), .val (.ref b123), .val (.ref b157), .val (.int ((((v5.toUInt64 >>> ((5 : Int32) &&& 0x3f).toInt64.toUInt64).toInt64) &&& (3 : Int64)).toInt32)), .unset] [(.ref b123), (.ref b123)])) (fun _ k => XS.aload X185.here hx rfl (hb hby at_232) rfl rfl k) ?_
                obtain ⟨cq204, kq204, q204a, q204b, q204c⟩ := isOf hZ rfl (f196)
                obtain ⟨_, _, ⟨T204, L204, k204, n204⟩, -, X204, ⟨Lc204, hQ204, l204, y204, z204⟩, st204⟩ := X185.virtualBack hx (y := (⟨"com/example/umpteenth_copy/umpteenthcopy/engine/Passage", "equals", "(Ljava/lang/Object;)Z"⟩ : MethodName)) (z := (⟨"com/example/umpteenth_copy/umpteenthcopy/engine/Passage", "equals", "(Ljava/lang/Object;)Z"⟩ : MethodName)) hown (mvT hZ (hw _ (List.mem_of_getElem? (i := 65) rfl))) (mvT hZ (hw _ (List.mem_of_getElem? (i := 66) rfl))) (notFace_of_selects (args := #[]) (mvT hZ (hw _ (List.mem_of_getElem? (i := 68) rfl)))) (mvT hZ (hw _ (List.mem_of_getElem? (i := 68) rfl))) (mvT hZ (hw _ (List.mem_of_getElem? (i := 67) rfl))) (by decide) (backOf (W := 0) (rm9a l Z a0 hw [] b123 b123 G xa ta ka _ Ma vsa v0 v1 v2 v3 xa ta ka _ Ma vsa v0 v1 v2 v3 T185.heap n0 f186 f196 f197 f198 f199 f200 f201 f188 f189 f190 f191 hca hba hla f197 f198 f199 f200 f201 f188 f189 f190 f191 hca hba hla (SC.ext f187.2) hG) hZ (hw _ (List.mem_of_getElem? (i := 69) rfl)) (hw _ (List.mem_of_getElem? (i := 31) rfl)) (by decide) (by decide)) q204a q204c (g := (mkF m 234 #[.val (.int v0), .val (.int v1), .val (.int v2), .val (.int v3), .val (.int v4), .val (.long v5), .second, .val (.int dl), .val (.ref xa), .val (.int (1 : Int32)), .val (.ref xb), .val (.int a2), .val (.int b2), .val (.int c2), .val (.int d2), .val (.ref b123), .val (.ref b157), .val (.int ((((v5.toUInt64 >>> ((5 : Int32) &&& 0x3f).toInt64.toUInt64).toInt64) &&& (3 : Int64)).toInt32)), .unset] [(.ref b123), (.ref b123)])) rfl (by rw [hml]; rfl) (Steps.refl _) (argsL := [(.ref b123)]) (rest := []) (lenOf pd_3 rfl) rfl (by show 2 * 0 + _ ≤ _; exact Nat.le_of_eq rfl) (hb hby at_234) (fun _ _ => ⟨rfl, rfl, (by decide : 0 + 6 + 6 + 1 + 2 + 1 + 2 + 0 ≤ _), (by decide : 0 + 16 + 16 + 5 + 28 + 5 + 28 + 0 ≤ _)⟩)
                dsimp only [Pt.U, Pt.locs, Pt.cells, Pt.slots] at X204 l204 y204 z204 st204 hQ204
                subst l204 y204 z204
                obtain ⟨rfl, N204q, e204⟩ := hQ204
                have N204 := Fr.app N185 N204q
                refine Ends.st (S' := T204.setTop (mkF m 237 #[.val (.int v0), .val (.int v1), .val (.int v2), .val (.int v3), .val (.int v4), .val (.long v5), .second, .val (.int dl), .val (.ref xa), .val (.int (1 : Int32)), .val (.ref xb), .val (.int a2), .val (.int b2), .val (.int c2), .val (.int d2), .val (.ref b123), .val (.ref b157), .val (.int ((((v5.toUInt64 >>> ((5 : Int32) &&& 0x3f).toInt64.toUInt64).toInt64) &&& (3 : Int64)).toInt32)), .unset] [(.int (same9 (strs v4 ((v4.toUInt32 >>> ((8 : Int32) &&& 31).toUInt32).toInt32) ((v4.toUInt32 >>> ((16 : Int32) &&& 31).toUInt32).toInt32)) (strs v4 ((v4.toUInt32 >>> ((8 : Int32) &&& 31).toUInt32).toInt32) ((v4.toUInt32 >>> ((16 : Int32) &&& 31).toUInt32).toInt32)) v0 v0 v1 v1 v2 v2 v3 v3))])) (fun _ k => st204.trans k) ?_
                rw [show (same9 (strs v4 ((v4.toUInt32 >>> ((8 : Int32) &&& 31).toUInt32).toInt32) ((v4.toUInt32 >>> ((16 : Int32) &&& 31).toUInt32).toInt32)) (strs v4 ((v4.toUInt32 >>> ((8 : Int32) &&& 31).toUInt32).toInt32) ((v4.toUInt32 >>> ((16 : Int32) &&& 31).toUInt32).toInt32)) v0 v0 v1 v1 v2 v2 v3 v3) = (1 : Int32) from if_pos ⟨rfl, rfl, rfl, rfl, rfl⟩]
                obtain ⟨fs, hr, hrun, hended, hRW⟩ := Stand.leaveW (s := s) (vm₁ := T185.vm) X204 hS185 (Nat.le_trans (Nat.le_refl T185.heap.size) (Nat.le_of_eq (congrArg Array.size (Eq.symm e204)))) (v := some (.int (1 : Int32))) (fun h => by rw [Bd.returns] at h; cases h)
                exact ⟨_, _, retN X204 hx (t := .boolean) Bd.returns (by simp) (hb hby at_237) hr, hrun, hended, _, _, rfl, (by show Q0 Z  h0 n0 _ T204.heap _; rw [e204]; exact ⟨rfl, N204⟩), hRW.1, hRW.2.1, hRW.2.2.1, hRW.2.2.2.mono (by decide) (by decide)⟩
              · refine Ends.st (S' := T185.setTop (mkF m 238 #[.val (.int v0), .val (.int v1), .val (.int v2), .val (.int v3), .val (.int v4), .val (.long v5), .second, .val (.int dl), .val (.ref xa), .val (.int (1 : Int32)), .val (.ref xb), .val (.int a2), .val (.int b2), .val (.int c2), .val (.int d2), .val (.ref b123), .val (.ref b157), .val (.int ((((v5.toUInt64 >>> ((5 : Int32) &&& 0x3f).toInt64.toUInt64).toInt64) &&& (3 : Int64)).toInt32)), .unset] [])) (fun _ k => XS.icmpYes X185.here hx rfl (pc0 := 227) (pc' := 238) rfl (hb hby at_227) rfl (feq hc203).2 (by decide) (by decide) k) ?_
                refine Ends.st (S' := T185.setTop (mkF m 240 #[.val (.int v0), .val (.int v1), .val (.int v2), .val (.int v3), .val (.int v4), .val (.long v5), .second, .val (.int dl), .val (.ref xa), .val (.int (1 : Int32)), .val (.ref xb), .val (.int a2), .val (.int b2), .val (.int c2), .val (.int d2), .val (.ref b123), .val (.ref b157), .val (.int ((((v5.toUInt64 >>> ((5 : Int32) &&& 0x3f).toInt64.toUInt64).toInt64) &&& (3 : Int64)).toInt32)), .unset] [(.int ((((v5.toUInt64 >>> ((5 : Int32) &&& 0x3f).toInt64.toUInt64).toInt64) &&& (3 : Int64)).toInt32))])) (fun _ k => XS.iload X185.here hx rfl (hb hby at_238) rfl k) ?_
                refine Ends.st (S' := T185.setTop (mkF m 241 #[.val (.int v0), .val (.int v1), .val (.int v2), .val (.int v3), .val (.int v4), .val (.long v5), .second, .val (.int dl), .val (.ref xa), .val (.int (1 : Int32)), .val (.ref xb), .val (.int a2), .val (.int b2), .val (.int c2), .val (.int d2), .val (.ref b123), .val (.ref b157), .val (.int ((((v5.toUInt64 >>> ((5 : Int32) &&& 0x3f).toInt64.toUInt64).toInt64) &&& (3 : Int64)).toInt32)), .unset] [(.int (2 : Int32)), (.int ((((v5.toUInt64 >>> ((5 : Int32) &&& 0x3f).toInt64.toUInt64).toInt64) &&& (3 : Int64)).toInt32))])) (fun _ k => XS.iconst X185.here hx rfl (hb hby at_240) k) ?_
                by_cases hc205 : ((((v5.toUInt64 >>> ((5 : Int32) &&& 0x3f).toInt64.toUInt64).toInt64) &&& (3 : Int64)).toInt32) = (2 : Int32)
                · refine Ends.st (S' := T185.setTop (mkF m 244 #[.val (.int v0), .val (.int v1), .val (.int v2), .val (.int v3), .val (.int v4), .val (.long v5), .second, .val (.int dl), .val (.ref xa), .val (.int (1 : Int32)), .val (.ref xb), .val (.int a2), .val (.int b2), .val (.int c2), .val (.int d2), .val (.ref b123), .val (.ref b157), .val (.int ((((v5.toUInt64 >>> ((5 : Int32) &&& 0x3f).toInt64.toUInt64).toInt64) &&& (3 : Int64)).toInt32)), .unset] [])) (fun _ k => XS.icmpNo X185.here hx rfl (hb hby at_241) rfl (teq hc205).2 k) ?_
                  refine Ends.st (S' := T185.setTop (mkF m 246 #[.val (.int v0), .val (.int v1), .val (.int v2), .val (.int v3), .val (.int v4), .val (.long v5), .second, .val (.int dl), .val (.ref xa), .val (.int (1 : Int32)), .val (.ref xb), .val (.int a2), .val (.int b2), .val (.int c2), .val (.int d2), .val (.ref b123), .val (.ref b157), .val (.int ((((v5.toUInt64 >>> ((5 : Int32) &&& 0x3f).toInt64.toUInt64).toInt64) &&& (3 : Int64)).toInt32)), .unset] [(.ref b123)])) (fun _ k => XS.aload X185.here hx rfl (hb hby at_244) rfl rfl k) ?_
                  refine Ends.st (S' := T185.setTop (mkF m 247 #[.val (.int v0), .val (.int v1), .val (.int v2), .val (.int v3), .val (.int v4), .val (.long v5), .second, .val (.int dl), .val (.ref xa), .val (.int (1 : Int32)), .val (.ref xb), .val (.int a2), .val (.int b2), .val (.int c2), .val (.int d2), .val (.ref b123), .val (.ref b157), .val (.int ((((v5.toUInt64 >>> ((5 : Int32) &&& 0x3f).toInt64.toUInt64).toInt64) &&& (3 : Int64)).toInt32)), .unset] [.null, (.ref b123)])) (fun _ k => XS.aconstNull X185.here hx rfl (hb hby at_246) k) ?_
                  obtain ⟨cq206, kq206, q206a, q206b, q206c⟩ := isOf hZ rfl (f196)
                  obtain ⟨_, _, ⟨T206, L206, k206, n206⟩, -, X206, ⟨Lc206, hQ206, l206, y206, z206⟩, st206⟩ := X185.virtualBack hx (y := (⟨"com/example/umpteenth_copy/umpteenthcopy/engine/Passage", "equals", "(Ljava/lang/Object;)Z"⟩ : MethodName)) (z := (⟨"com/example/umpteenth_copy/umpteenthcopy/engine/Passage", "equals", "(Ljava/lang/Object;)Z"⟩ : MethodName)) hown (mvT hZ (hw _ (List.mem_of_getElem? (i := 65) rfl))) (mvT hZ (hw _ (List.mem_of_getElem? (i := 66) rfl))) (notFace_of_selects (args := #[]) (mvT hZ (hw _ (List.mem_of_getElem? (i := 68) rfl)))) (mvT hZ (hw _ (List.mem_of_getElem? (i := 68) rfl))) (mvT hZ (hw _ (List.mem_of_getElem? (i := 67) rfl))) (by decide) (backOf (W := 0) (rm9b l Z a0 hw [] b123 T185.heap n0 f186) hZ (hw _ (List.mem_of_getElem? (i := 69) rfl)) (hw _ (List.mem_of_getElem? (i := 31) rfl)) (by decide) (by decide)) q206a q206c (g := (mkF m 247 #[.val (.int v0), .val (.int v1), .val (.int v2), .val (.int v3), .val (.int v4), .val (.long v5), .second, .val (.int dl), .val (.ref xa), .val (.int (1 : Int32)), .val (.ref xb), .val (.int a2), .val (.int b2), .val (.int c2), .val (.int d2), .val (.ref b123), .val (.ref b157), .val (.int ((((v5.toUInt64 >>> ((5 : Int32) &&& 0x3f).toInt64.toUInt64).toInt64) &&& (3 : Int64)).toInt32)), .unset] [.null, (.ref b123)])) rfl (by rw [hml]; rfl) (Steps.refl _) (argsL := [.null]) (rest := []) (lenOf pd_3 rfl) rfl (by show 2 * 0 + _ ≤ _; exact Nat.le_of_eq rfl) (hb hby at_247) (fun _ _ => ⟨rfl, rfl, (by decide : 0 + 6 + 6 + 1 + 2 + 1 + 2 + 0 ≤ _), (by decide : 0 + 16 + 16 + 5 + 28 + 5 + 28 + 0 ≤ _)⟩)
                  dsimp only [Pt.U, Pt.locs, Pt.cells, Pt.slots] at X206 l206 y206 z206 st206 hQ206
                  subst l206 y206 z206
                  obtain ⟨rfl, N206q, e206⟩ := hQ206
                  have N206 := Fr.app N185 N206q
                  refine Ends.st (S' := T206.setTop (mkF m 250 #[.val (.int v0), .val (.int v1), .val (.int v2), .val (.int v3), .val (.int v4), .val (.long v5), .second, .val (.int dl), .val (.ref xa), .val (.int (1 : Int32)), .val (.ref xb), .val (.int a2), .val (.int b2), .val (.int c2), .val (.int d2), .val (.ref b123), .val (.ref b157), .val (.int ((((v5.toUInt64 >>> ((5 : Int32) &&& 0x3f).toInt64.toUInt64).toInt64) &&& (3 : Int64)).toInt32)), .unset] [(.int (0 : Int32))])) (fun _ k => st206.trans k) ?_
                  refine Ends.st (S' := T206.setTop (mkF m 253 #[.val (.int v0), .val (.int v1), .val (.int v2), .val (.int v3), .val (.int v4), .val (.long v5), .second, .val (.int dl), .val (.ref xa), .val (.int (1 : Int32)), .val (.ref xb), .val (.int a2), .val (.int b2), .val (.int c2), .val (.int d2), .val (.ref b123), .val (.ref b157), .val (.int ((((v5.toUInt64 >>> ((5 : Int32) &&& 0x3f).toInt64.toUInt64).toInt64) &&& (3 : Int64)).toInt32)), .unset] [])) (fun _ k => XS.ifNo X206.here hx rfl (hb hby at_250) rfl ((if0 _ _).trans (teq (by decide : (0 : Int32) = (0 : Int32))).2) k) ?_
                  refine Ends.st (S' := T206.setTop (mkF m 254 #[.val (.int v0), .val (.int v1), .val (.int v2), .val (.int v3), .val (.int v4), .val (.long v5), .second, .val (.int dl), .val (.ref xa), .val (.int (1 : Int32)), .val (.ref xb), .val (.int a2), .val (.int b2), .val (.int c2), .val (.int d2), .val (.ref b123), .val (.ref b157), .val (.int ((((v5.toUInt64 >>> ((5 : Int32) &&& 0x3f).toInt64.toUInt64).toInt64) &&& (3 : Int64)).toInt32)), .unset] [(.int (1 : Int32))])) (fun _ k => XS.iconst X206.here hx rfl (hb hby at_253) k) ?_
                  refine Ends.st (S' := T206.setTop (mkF m 258 #[.val (.int v0), .val (.int v1), .val (.int v2), .val (.int v3), .val (.int v4), .val (.long v5), .second, .val (.int dl), .val (.ref xa), .val (.int (1 : Int32)), .val (.ref xb), .val (.int a2), .val (.int b2), .val (.int c2), .val (.int d2), .val (.ref b123), .val (.ref b157), .val (.int ((((v5.toUInt64 >>> ((5 : Int32) &&& 0x3f).toInt64.toUInt64).toInt64) &&& (3 : Int64)).toInt32)), .unset] [(.int (1 : Int32))])) (fun _ k => XS.goto X206.here hx rfl (pc0 := 254) (pc' := 258) rfl (hb hby at_254) (by decide) (by decide) k) ?_
                  obtain ⟨fs, hr, hrun, hended, hRW⟩ := Stand.leaveW (s := s) (vm₁ := T185.vm) X206 hS185 (Nat.le_trans (Nat.le_refl T185.heap.size) (Nat.le_of_eq (congrArg Array.size (Eq.symm e206)))) (v := some (.int (1 : Int32))) (fun h => by rw [Bd.returns] at h; cases h)
                  exact ⟨_, _, retN X206 hx (t := .boolean) Bd.returns (by simp) (hb hby at_258) hr, hrun, hended, _, _, rfl, (by show Q0 Z  h0 n0 _ T206.heap _; rw [e206]; exact ⟨rfl, N206⟩), hRW.1, hRW.2.1, hRW.2.2.1, hRW.2.2.2.mono (by decide) (by decide)⟩
                · refine Ends.st (S' := T185.setTop (mkF m 259 #[.val (.int v0), .val (.int v1), .val (.int v2), .val (.int v3), .val (.int v4), .val (.long v5), .second, .val (.int dl), .val (.ref xa), .val (.int (1 : Int32)), .val (.ref xb), .val (.int a2), .val (.int b2), .val (.int c2), .val (.int d2), .val (.ref b123), .val (.ref b157), .val (.int ((((v5.toUInt64 >>> ((5 : Int32) &&& 0x3f).toInt64.toUInt64).toInt64) &&& (3 : Int64)).toInt32)), .unset] [])) (fun _ k => XS.icmpYes X185.here hx rfl (pc0 := 241) (pc' := 259) rfl (hb hby at_241) rfl (feq hc205).2 (by decide) (by decide) k) ?_
                  refine Ends.st (S' := T185.setTop (mkF m 261 #[.val (.int v0), .val (.int v1), .val (.int v2), .val (.int v3), .val (.int v4), .val (.long v5), .second, .val (.int dl), .val (.ref xa), .val (.int (1 : Int32)), .val (.ref xb), .val (.int a2), .val (.int b2), .val (.int c2), .val (.int d2), .val (.ref b123), .val (.ref b157), .val (.int ((((v5.toUInt64 >>> ((5 : Int32) &&& 0x3f).toInt64.toUInt64).toInt64) &&& (3 : Int64)).toInt32)), .unset] [(.int ((((v5.toUInt64 >>> ((5 : Int32) &&& 0x3f).toInt64.toUInt64).toInt64) &&& (3 : Int64)).toInt32))])) (fun _ k => XS.iload X185.here hx rfl (hb hby at_259) rfl k) ?_
                  refine Ends.st (S' := T185.setTop (mkF m 262 #[.val (.int v0), .val (.int v1), .val (.int v2), .val (.int v3), .val (.int v4), .val (.long v5), .second, .val (.int dl), .val (.ref xa), .val (.int (1 : Int32)), .val (.ref xb), .val (.int a2), .val (.int b2), .val (.int c2), .val (.int d2), .val (.ref b123), .val (.ref b157), .val (.int ((((v5.toUInt64 >>> ((5 : Int32) &&& 0x3f).toInt64.toUInt64).toInt64) &&& (3 : Int64)).toInt32)), .unset] [(.int (3 : Int32)), (.int ((((v5.toUInt64 >>> ((5 : Int32) &&& 0x3f).toInt64.toUInt64).toInt64) &&& (3 : Int64)).toInt32))])) (fun _ k => XS.iconst X185.here hx rfl (hb hby at_261) k) ?_
                  by_cases hc207 : ((((v5.toUInt64 >>> ((5 : Int32) &&& 0x3f).toInt64.toUInt64).toInt64) &&& (3 : Int64)).toInt32) = (3 : Int32)
                  · refine Ends.st (S' := T185.setTop (mkF m 265 #[.val (.int v0), .val (.int v1), .val (.int v2), .val (.int v3), .val (.int v4), .val (.long v5), .second, .val (.int dl), .val (.ref xa), .val (.int (1 : Int32)), .val (.ref xb), .val (.int a2), .val (.int b2), .val (.int c2), .val (.int d2), .val (.ref b123), .val (.ref b157), .val (.int ((((v5.toUInt64 >>> ((5 : Int32) &&& 0x3f).toInt64.toUInt64).toInt64) &&& (3 : Int64)).toInt32)), .unset] [])) (fun _ k => XS.icmpNo X185.here hx rfl (hb hby at_262) rfl (teq hc207).2 k) ?_
                    refine Ends.st (S' := T185.setTop (mkF m 267 #[.val (.int v0), .val (.int v1), .val (.int v2), .val (.int v3), .val (.int v4), .val (.long v5), .second, .val (.int dl), .val (.ref xa), .val (.int (1 : Int32)), .val (.ref xb), .val (.int a2), .val (.int b2), .val (.int c2), .val (.int d2), .val (.ref b123), .val (.ref b157), .val (.int ((((v5.toUInt64 >>> ((5 : Int32) &&& 0x3f).toInt64.toUInt64).toInt64) &&& (3 : Int64)).toInt32)), .unset] [(.ref xa)])) (fun _ k => XS.aload X185.here hx rfl (hb hby at_265) rfl rfl k) ?_
                    refine Ends.st (S' := T185.setTop (mkF m 269 #[.val (.int v0), .val (.int v1), .val (.int v2), .val (.int v3), .val (.int v4), .val (.long v5), .second, .val (.int dl), .val (.ref xa), .val (.int (1 : Int32)), .val (.ref xb), .val (.int a2), .val (.int b2), .val (.int c2), .val (.int d2), .val (.ref b123), .val (.ref b157), .val (.int ((((v5.toUInt64 >>> ((5 : Int32) &&& 0x3f).toInt64.toUInt64).toInt64) &&& (3 : Int64)).toInt32)), .val (.ref xa)] [])) (fun _ k => XS.astore X185.here hx rfl (hb hby at_267) rfl rfl (l' := #[.val (.int v0), .val (.int v1), .val (.int v2), .val (.int v3), .val (.int v4), .val (.long v5), .second, .val (.int dl), .val (.ref xa), .val (.int (1 : Int32)), .val (.ref xb), .val (.int a2), .val (.int b2), .val (.int c2), .val (.int d2), .val (.ref b123), .val (.ref b157), .val (.int ((((v5.toUInt64 >>> ((5 : Int32) &&& 0x3f).toInt64.toUInt64).toInt64) &&& (3 : Int64)).toInt32)), .val (.ref xa)]) rfl k) ?_
                    refine Ends.st (S' := T185.setTop (mkF m 271 #[.val (.int v0), .val (.int v1), .val (.int v2), .val (.int v3), .val (.int v4), .val (.long v5), .second, .val (.int dl), .val (.ref xa), .val (.int (1 : Int32)), .val (.ref xb), .val (.int a2), .val (.int b2), .val (.int c2), .val (.int d2), .val (.ref b123), .val (.ref b157), .val (.int ((((v5.toUInt64 >>> ((5 : Int32) &&& 0x3f).toInt64.toUInt64).toInt64) &&& (3 : Int64)).toInt32)), .val (.ref xa)] [(.ref b123)])) (fun _ k => XS.aload X185.here hx rfl (hb hby at_269) rfl rfl k) ?_
                    refine Ends.st (S' := T185.setTop (mkF m 273 #[.val (.int v0), .val (.int v1), .val (.int v2), .val (.int v3), .val (.int v4), .val (.long v5), .second, .val (.int dl), .val (.ref xa), .val (.int (1 : Int32)), .val (.ref xb), .val (.int a2), .val (.int b2), .val (.int c2), .val (.int d2), .val (.ref b123), .val (.ref b157), .val (.int ((((v5.toUInt64 >>> ((5 : Int32) &&& 0x3f).toInt64.toUInt64).toInt64) &&& (3 : Int64)).toInt32)), .val (.ref xa)] [(.ref xa), (.ref b123)])) (fun _ k => XS.aload X185.here hx rfl (hb hby at_271) rfl rfl k) ?_
                    obtain ⟨cq208, kq208, q208a, q208b, q208c⟩ := isOf hZ rfl (f196)
                    obtain ⟨_, _, ⟨T208, L208, k208, n208⟩, -, X208, ⟨Lc208, hQ208, l208, y208, z208⟩, st208⟩ := X185.virtualBack hx (y := (⟨"com/example/umpteenth_copy/umpteenthcopy/engine/Passage", "equals", "(Ljava/lang/Object;)Z"⟩ : MethodName)) (z := (⟨"com/example/umpteenth_copy/umpteenthcopy/engine/Passage", "equals", "(Ljava/lang/Object;)Z"⟩ : MethodName)) hown (mvT hZ (hw _ (List.mem_of_getElem? (i := 65) rfl))) (mvT hZ (hw _ (List.mem_of_getElem? (i := 66) rfl))) (notFace_of_selects (args := #[]) (mvT hZ (hw _ (List.mem_of_getElem? (i := 68) rfl)))) (mvT hZ (hw _ (List.mem_of_getElem? (i := 68) rfl))) (mvT hZ (hw _ (List.mem_of_getElem? (i := 67) rfl))) (by decide) (backOf (W := 0) (rm9c l Z a0 hw [] b123 xa T185.heap n0 f186 f188) hZ (hw _ (List.mem_of_getElem? (i := 69) rfl)) (hw _ (List.mem_of_getElem? (i := 31) rfl)) (by decide) (by decide)) q208a q208c (g := (mkF m 273 #[.val (.int v0), .val (.int v1), .val (.int v2), .val (.int v3), .val (.int v4), .val (.long v5), .second, .val (.int dl), .val (.ref xa), .val (.int (1 : Int32)), .val (.ref xb), .val (.int a2), .val (.int b2), .val (.int c2), .val (.int d2), .val (.ref b123), .val (.ref b157), .val (.int ((((v5.toUInt64 >>> ((5 : Int32) &&& 0x3f).toInt64.toUInt64).toInt64) &&& (3 : Int64)).toInt32)), .val (.ref xa)] [(.ref xa), (.ref b123)])) rfl (by rw [hml]; rfl) (Steps.refl _) (argsL := [(.ref xa)]) (rest := []) (lenOf pd_3 rfl) rfl (by show 2 * 0 + _ ≤ _; exact Nat.le_of_eq rfl) (hb hby at_273) (fun _ _ => ⟨rfl, rfl, (by decide : 0 + 6 + 6 + 1 + 2 + 1 + 2 + 0 ≤ _), (by decide : 0 + 16 + 16 + 5 + 28 + 5 + 28 + 0 ≤ _)⟩)
                    dsimp only [Pt.U, Pt.locs, Pt.cells, Pt.slots] at X208 l208 y208 z208 st208 hQ208
                    subst l208 y208 z208
                    obtain ⟨rfl, N208q, e208⟩ := hQ208
                    have N208 := Fr.app N185 N208q
                    refine Ends.st (S' := T208.setTop (mkF m 276 #[.val (.int v0), .val (.int v1), .val (.int v2), .val (.int v3), .val (.int v4), .val (.long v5), .second, .val (.int dl), .val (.ref xa), .val (.int (1 : Int32)), .val (.ref xb), .val (.int a2), .val (.int b2), .val (.int c2), .val (.int d2), .val (.ref b123), .val (.ref b157), .val (.int ((((v5.toUInt64 >>> ((5 : Int32) &&& 0x3f).toInt64.toUInt64).toInt64) &&& (3 : Int64)).toInt32)), .val (.ref xa)] [(.int (0 : Int32))])) (fun _ k => st208.trans k) ?_
                    refine Ends.st (S' := T208.setTop (mkF m 279 #[.val (.int v0), .val (.int v1), .val (.int v2), .val (.int v3), .val (.int v4), .val (.long v5), .second, .val (.int dl), .val (.ref xa), .val (.int (1 : Int32)), .val (.ref xb), .val (.int a2), .val (.int b2), .val (.int c2), .val (.int d2), .val (.ref b123), .val (.ref b157), .val (.int ((((v5.toUInt64 >>> ((5 : Int32) &&& 0x3f).toInt64.toUInt64).toInt64) &&& (3 : Int64)).toInt32)), .val (.ref xa)] [])) (fun _ k => XS.ifNo X208.here hx rfl (hb hby at_276) rfl ((if0 _ _).trans (teq (by decide : (0 : Int32) = (0 : Int32))).2) k) ?_
                    refine Ends.st (S' := T208.setTop (mkF m 280 #[.val (.int v0), .val (.int v1), .val (.int v2), .val (.int v3), .val (.int v4), .val (.long v5), .second, .val (.int dl), .val (.ref xa), .val (.int (1 : Int32)), .val (.ref xb), .val (.int a2), .val (.int b2), .val (.int c2), .val (.int d2), .val (.ref b123), .val (.ref b157), .val (.int ((((v5.toUInt64 >>> ((5 : Int32) &&& 0x3f).toInt64.toUInt64).toInt64) &&& (3 : Int64)).toInt32)), .val (.ref xa)] [(.int (1 : Int32))])) (fun _ k => XS.iconst X208.here hx rfl (hb hby at_279) k) ?_
                    refine Ends.st (S' := T208.setTop (mkF m 284 #[.val (.int v0), .val (.int v1), .val (.int v2), .val (.int v3), .val (.int v4), .val (.long v5), .second, .val (.int dl), .val (.ref xa), .val (.int (1 : Int32)), .val (.ref xb), .val (.int a2), .val (.int b2), .val (.int c2), .val (.int d2), .val (.ref b123), .val (.ref b157), .val (.int ((((v5.toUInt64 >>> ((5 : Int32) &&& 0x3f).toInt64.toUInt64).toInt64) &&& (3 : Int64)).toInt32)), .val (.ref xa)] [(.int (1 : Int32))])) (fun _ k => XS.goto X208.here hx rfl (pc0 := 280) (pc' := 284) rfl (hb hby at_280) (by decide) (by decide) k) ?_
                    obtain ⟨fs, hr, hrun, hended, hRW⟩ := Stand.leaveW (s := s) (vm₁ := T185.vm) X208 hS185 (Nat.le_trans (Nat.le_refl T185.heap.size) (Nat.le_of_eq (congrArg Array.size (Eq.symm e208)))) (v := some (.int (1 : Int32))) (fun h => by rw [Bd.returns] at h; cases h)
                    exact ⟨_, _, retN X208 hx (t := .boolean) Bd.returns (by simp) (hb hby at_284) hr, hrun, hended, _, _, rfl, (by show Q0 Z  h0 n0 _ T208.heap _; rw [e208]; exact ⟨rfl, N208⟩), hRW.1, hRW.2.1, hRW.2.2.1, hRW.2.2.2.mono (by decide) (by decide)⟩
                  · refine Ends.st (S' := T185.setTop (mkF m 285 #[.val (.int v0), .val (.int v1), .val (.int v2), .val (.int v3), .val (.int v4), .val (.long v5), .second, .val (.int dl), .val (.ref xa), .val (.int (1 : Int32)), .val (.ref xb), .val (.int a2), .val (.int b2), .val (.int c2), .val (.int d2), .val (.ref b123), .val (.ref b157), .val (.int ((((v5.toUInt64 >>> ((5 : Int32) &&& 0x3f).toInt64.toUInt64).toInt64) &&& (3 : Int64)).toInt32)), .unset] [])) (fun _ k => XS.icmpYes X185.here hx rfl (pc0 := 262) (pc' := 285) rfl (hb hby at_262) rfl (feq hc207).2 (by decide) (by decide) k) ?_
                    refine Ends.st (S' := T185.setTop (mkF m 287 #[.val (.int v0), .val (.int v1), .val (.int v2), .val (.int v3), .val (.int v4), .val (.long v5), .second, .val (.int dl), .val (.ref xa), .val (.int (1 : Int32)), .val (.ref xb), .val (.int a2), .val (.int b2), .val (.int c2), .val (.int d2), .val (.ref b123), .val (.ref b157), .val (.int ((((v5.toUInt64 >>> ((5 : Int32) &&& 0x3f).toInt64.toUInt64).toInt64) &&& (3 : Int64)).toInt32)), .unset] [(.ref xa)])) (fun _ k => XS.aload X185.here hx rfl (hb hby at_285) rfl rfl k) ?_
                    refine Ends.st (S' := T185.setTop (mkF m 289 #[.val (.int v0), .val (.int v1), .val (.int v2), .val (.int v3), .val (.int v4), .val (.long v5), .second, .val (.int dl), .val (.ref xa), .val (.int (1 : Int32)), .val (.ref xb), .val (.int a2), .val (.int b2), .val (.int c2), .val (.int d2), .val (.ref b123), .val (.ref b157), .val (.int ((((v5.toUInt64 >>> ((5 : Int32) &&& 0x3f).toInt64.toUInt64).toInt64) &&& (3 : Int64)).toInt32)), .unset] [(.ref xb), (.ref xa)])) (fun _ k => XS.aload X185.here hx rfl (hb hby at_287) rfl rfl k) ?_
                    have heq : ∀ d ∈ StrChars.Road.wordsEq, d.before a0 Z = true := fun d hd => hw d ((by decide +kernel : ∀ d ∈ StrChars.Road.wordsEq, d ∈ tables_1) d hd)
                    obtain ⟨cq209, kq209, q209a, q209b, q209c⟩ := isOf hZ rfl (f188)
                    obtain ⟨_, _, ⟨T209, L209, k209, n209⟩, -, X209, ⟨Lc209, hQ209, l209, y209, z209⟩, st209⟩ := X185.virtualBack hx (y := (⟨"java/lang/String", "equals", "(Ljava/lang/Object;)Z"⟩ : MethodName)) (z := (⟨"java/lang/String", "equals", "(Ljava/lang/Object;)Z"⟩ : MethodName)) hown (mvT hZ (hw _ (List.mem_of_getElem? (i := 53) rfl))) (mvT hZ (hw _ (List.mem_of_getElem? (i := 54) rfl))) (notFace_of_selects (args := #[]) (mvT hZ (hw _ (List.mem_of_getElem? (i := 56) rfl)))) (mvT hZ (hw _ (List.mem_of_getElem? (i := 56) rfl))) (mvT hZ (hw _ (List.mem_of_getElem? (i := 55) rfl))) (by decide) (StrChars.Road.eqW (W := 0) hZ heq (kI := 4) (hw _ (List.mem_of_getElem? (i := 5) rfl)) f188 f189 f190 f191 hca hba hla f192 f193 f194 f195 hcb hbb hlb (SC.ext f187.2) hG (by decide) (by decide)) q209a q209c (g := (mkF m 289 #[.val (.int v0), .val (.int v1), .val (.int v2), .val (.int v3), .val (.int v4), .val (.long v5), .second, .val (.int dl), .val (.ref xa), .val (.int (1 : Int32)), .val (.ref xb), .val (.int a2), .val (.int b2), .val (.int c2), .val (.int d2), .val (.ref b123), .val (.ref b157), .val (.int ((((v5.toUInt64 >>> ((5 : Int32) &&& 0x3f).toInt64.toUInt64).toInt64) &&& (3 : Int64)).toInt32)), .unset] [(.ref xb), (.ref xa)])) rfl (by rw [hml]; rfl) (Steps.refl _) (argsL := [(.ref xb)]) (rest := []) (lenOf pd_3 rfl) rfl (by show 2 * 0 + _ ≤ _; exact Nat.le_of_eq rfl) (hb hby at_289) (fun _ _ => ⟨rfl, rfl, (by decide : 0 + 6 + 6 + 1 + 2 + 1 + 2 + 0 ≤ _), (by decide : 0 + 16 + 16 + 5 + 28 + 5 + 28 + 0 ≤ _)⟩)
                    dsimp only [Pt.U, Pt.locs, Pt.cells, Pt.slots] at X209 l209 y209 z209 st209 hQ209
                    subst l209 y209 z209
                    obtain ⟨hE209, rfl, e209⟩ := hQ209
                    have N209 := Fr.app N185 (Fr.nil n0)
                    rcases hE209 with ⟨rfl, hcs209⟩ | ⟨rfl, hcs209⟩
                    · refine Ends.st (S' := T209.setTop (mkF m 292 #[.val (.int v0), .val (.int v1), .val (.int v2), .val (.int v3), .val (.int v4), .val (.long v5), .second, .val (.int dl), .val (.ref xa), .val (.int (1 : Int32)), .val (.ref xb), .val (.int a2), .val (.int b2), .val (.int c2), .val (.int d2), .val (.ref b123), .val (.ref b157), .val (.int ((((v5.toUInt64 >>> ((5 : Int32) &&& 0x3f).toInt64.toUInt64).toInt64) &&& (3 : Int64)).toInt32)), .unset] [(.int (1 : Int32))])) (fun _ k => st209.trans k) ?_
                      refine Ends.st (S' := T209.setTop (mkF m 295 #[.val (.int v0), .val (.int v1), .val (.int v2), .val (.int v3), .val (.int v4), .val (.long v5), .second, .val (.int dl), .val (.ref xa), .val (.int (1 : Int32)), .val (.ref xb), .val (.int a2), .val (.int b2), .val (.int c2), .val (.int d2), .val (.ref b123), .val (.ref b157), .val (.int ((((v5.toUInt64 >>> ((5 : Int32) &&& 0x3f).toInt64.toUInt64).toInt64) &&& (3 : Int64)).toInt32)), .unset] [])) (fun _ k => XS.ifNo X209.here hx rfl (hb hby at_292) rfl ((if0 _ _).trans (feq (by decide : ¬ ((1 : Int32) = (0 : Int32)))).1) k) ?_
                      refine Ends.st (S' := T209.setTop (mkF m 297 #[.val (.int v0), .val (.int v1), .val (.int v2), .val (.int v3), .val (.int v4), .val (.long v5), .second, .val (.int dl), .val (.ref xa), .val (.int (1 : Int32)), .val (.ref xb), .val (.int a2), .val (.int b2), .val (.int c2), .val (.int d2), .val (.ref b123), .val (.ref b157), .val (.int ((((v5.toUInt64 >>> ((5 : Int32) &&& 0x3f).toInt64.toUInt64).toInt64) &&& (3 : Int64)).toInt32)), .unset] [(.long v5)])) (fun _ k => XS.lload X209.here hx rfl (hb hby at_295) rfl k) ?_
                      refine Ends.st (S' := T209.setTop (mkF m 300 #[.val (.int v0), .val (.int v1), .val (.int v2), .val (.int v3), .val (.int v4), .val (.long v5), .second, .val (.int dl), .val (.ref xa), .val (.int (1 : Int32)), .val (.ref xb), .val (.int a2), .val (.int b2), .val (.int c2), .val (.int d2), .val (.ref b123), .val (.ref b157), .val (.int ((((v5.toUInt64 >>> ((5 : Int32) &&& 0x3f).toInt64.toUInt64).toInt64) &&& (3 : Int64)).toInt32)), .unset] [(.long (15 : Int64)), (.long v5)])) (fun _ k => X209.ldc2Long hx hown (mvT hZ (hw _ (List.mem_of_getElem? (i := 64) rfl))) (g := (mkF m 297 #[.val (.int v0), .val (.int v1), .val (.int v2), .val (.int v3), .val (.int v4), .val (.long v5), .second, .val (.int dl), .val (.ref xa), .val (.int (1 : Int32)), .val (.ref xb), .val (.int a2), .val (.int b2), .val (.int c2), .val (.int d2), .val (.ref b123), .val (.ref b157), .val (.int ((((v5.toUInt64 >>> ((5 : Int32) &&& 0x3f).toInt64.toUInt64).toInt64) &&& (3 : Int64)).toInt32)), .unset] [(.long v5)])) rfl (hb hby at_297) _ k) ?_
                      refine Ends.st (S' := T209.setTop (mkF m 301 #[.val (.int v0), .val (.int v1), .val (.int v2), .val (.int v3), .val (.int v4), .val (.long v5), .second, .val (.int dl), .val (.ref xa), .val (.int (1 : Int32)), .val (.ref xb), .val (.int a2), .val (.int b2), .val (.int c2), .val (.int d2), .val (.ref b123), .val (.ref b157), .val (.int ((((v5.toUInt64 >>> ((5 : Int32) &&& 0x3f).toInt64.toUInt64).toInt64) &&& (3 : Int64)).toInt32)), .unset] [(.long (v5 &&& (15 : Int64)))])) (fun _ k => XS.land X209.here hx rfl (hb hby at_300) rfl k) ?_
                      refine Ends.st (S' := T209.setTop (mkF m 302 #[.val (.int v0), .val (.int v1), .val (.int v2), .val (.int v3), .val (.int v4), .val (.long v5), .second, .val (.int dl), .val (.ref xa), .val (.int (1 : Int32)), .val (.ref xb), .val (.int a2), .val (.int b2), .val (.int c2), .val (.int d2), .val (.ref b123), .val (.ref b157), .val (.int ((((v5.toUInt64 >>> ((5 : Int32) &&& 0x3f).toInt64.toUInt64).toInt64) &&& (3 : Int64)).toInt32)), .unset] [(.long (0 : Int64)), (.long (v5 &&& (15 : Int64)))])) (fun _ k => XS.lconst X209.here hx rfl (hb hby at_301) k) ?_
                      refine Ends.st (S' := T209.setTop (mkF m 303 #[.val (.int v0), .val (.int v1), .val (.int v2), .val (.int v3), .val (.int v4), .val (.long v5), .second, .val (.int dl), .val (.ref xa), .val (.int (1 : Int32)), .val (.ref xb), .val (.int a2), .val (.int b2), .val (.int c2), .val (.int d2), .val (.ref b123), .val (.ref b157), .val (.int ((((v5.toUInt64 >>> ((5 : Int32) &&& 0x3f).toInt64.toUInt64).toInt64) &&& (3 : Int64)).toInt32)), .unset] [(.int (lcmpW (v5 &&& (15 : Int64)) (0 : Int64)))])) (fun _ k => XS.lcmp X209.here hx rfl (hb hby at_302) rfl k) ?_
                      by_cases hc210 : (lcmpW (v5 &&& (15 : Int64)) (0 : Int64)) = (0 : Int32)
                      · refine Ends.st (S' := T209.setTop (mkF m 306 #[.val (.int v0), .val (.int v1), .val (.int v2), .val (.int v3), .val (.int v4), .val (.long v5), .second, .val (.int dl), .val (.ref xa), .val (.int (1 : Int32)), .val (.ref xb), .val (.int a2), .val (.int b2), .val (.int c2), .val (.int d2), .val (.ref b123), .val (.ref b157), .val (.int ((((v5.toUInt64 >>> ((5 : Int32) &&& 0x3f).toInt64.toUInt64).toInt64) &&& (3 : Int64)).toInt32)), .unset] [])) (fun _ k => XS.ifNo X209.here hx rfl (hb hby at_303) rfl ((if0 _ _).trans (teq hc210).2) k) ?_
                        refine Ends.st (S' := T209.setTop (mkF m 307 #[.val (.int v0), .val (.int v1), .val (.int v2), .val (.int v3), .val (.int v4), .val (.long v5), .second, .val (.int dl), .val (.ref xa), .val (.int (1 : Int32)), .val (.ref xb), .val (.int a2), .val (.int b2), .val (.int c2), .val (.int d2), .val (.ref b123), .val (.ref b157), .val (.int ((((v5.toUInt64 >>> ((5 : Int32) &&& 0x3f).toInt64.toUInt64).toInt64) &&& (3 : Int64)).toInt32)), .unset] [(.int (1 : Int32))])) (fun _ k => XS.iconst X209.here hx rfl (hb hby at_306) k) ?_
                        refine Ends.st (S' := T209.setTop (mkF m 311 #[.val (.int v0), .val (.int v1), .val (.int v2), .val (.int v3), .val (.int v4), .val (.long v5), .second, .val (.int dl), .val (.ref xa), .val (.int (1 : Int32)), .val (.ref xb), .val (.int a2), .val (.int b2), .val (.int c2), .val (.int d2), .val (.ref b123), .val (.ref b157), .val (.int ((((v5.toUInt64 >>> ((5 : Int32) &&& 0x3f).toInt64.toUInt64).toInt64) &&& (3 : Int64)).toInt32)), .unset] [(.int (1 : Int32))])) (fun _ k => XS.goto X209.here hx rfl (pc0 := 307) (pc' := 311) rfl (hb hby at_307) (by decide) (by decide) k) ?_
                        refine Ends.st (S' := T209.setTop (mkF m 313 #[.val (.int v0), .val (.int v1), .val (.int v2), .val (.int v3), .val (.int v4), .val (.long v5), .second, .val (.int dl), .val (.ref xa), .val (.int (1 : Int32)), .val (.ref xb), .val (.int a2), .val (.int b2), .val (.int c2), .val (.int d2), .val (.ref b123), .val (.ref b157), .val (.int ((((v5.toUInt64 >>> ((5 : Int32) &&& 0x3f).toInt64.toUInt64).toInt64) &&& (3 : Int64)).toInt32)), .val (.int (1 : Int32))] [])) (fun _ k => XS.istore X209.here hx rfl (hb hby at_311) rfl (l' := #[.val (.int v0), .val (.int v1), .val (.int v2), .val (.int v3), .val (.int v4), .val (.long v5), .second, .val (.int dl), .val (.ref xa), .val (.int (1 : Int32)), .val (.ref xb), .val (.int a2), .val (.int b2), .val (.int c2), .val (.int d2), .val (.ref b123), .val (.ref b157), .val (.int ((((v5.toUInt64 >>> ((5 : Int32) &&& 0x3f).toInt64.toUInt64).toInt64) &&& (3 : Int64)).toInt32)), .val (.int (1 : Int32))]) rfl k) ?_
                        refine Ends.st (S' := T209.setTop (mkF m 315 #[.val (.int v0), .val (.int v1), .val (.int v2), .val (.int v3), .val (.int v4), .val (.long v5), .second, .val (.int dl), .val (.ref xa), .val (.int (1 : Int32)), .val (.ref xb), .val (.int a2), .val (.int b2), .val (.int c2), .val (.int d2), .val (.ref b123), .val (.ref b157), .val (.int ((((v5.toUInt64 >>> ((5 : Int32) &&& 0x3f).toInt64.toUInt64).toInt64) &&& (3 : Int64)).toInt32)), .val (.int (1 : Int32))] [(.ref b123)])) (fun _ k => XS.aload X209.here hx rfl (hb hby at_313) rfl rfl k) ?_
                        refine Ends.st (S' := T209.setTop (mkF m 317 #[.val (.int v0), .val (.int v1), .val (.int v2), .val (.int v3), .val (.int v4), .val (.long v5), .second, .val (.int dl), .val (.ref xa), .val (.int (1 : Int32)), .val (.ref xb), .val (.int a2), .val (.int b2), .val (.int c2), .val (.int d2), .val (.ref b123), .val (.ref b157), .val (.int ((((v5.toUInt64 >>> ((5 : Int32) &&& 0x3f).toInt64.toUInt64).toInt64) &&& (3 : Int64)).toInt32)), .val (.int (1 : Int32))] [(.ref b157), (.ref b123)])) (fun _ k => XS.aload X209.here hx rfl (hb hby at_315) rfl rfl k) ?_
                        obtain ⟨cq211, kq211, q211a, q211b, q211c⟩ := isOf hZ e209 (f196)
                        obtain ⟨_, _, ⟨T211, L211, k211, n211⟩, -, X211, ⟨Lc211, hQ211, l211, y211, z211⟩, st211⟩ := X209.virtualBack hx (y := (⟨"com/example/umpteenth_copy/umpteenthcopy/engine/Passage", "equals", "(Ljava/lang/Object;)Z"⟩ : MethodName)) (z := (⟨"com/example/umpteenth_copy/umpteenthcopy/engine/Passage", "equals", "(Ljava/lang/Object;)Z"⟩ : MethodName)) hown (mvT hZ (hw _ (List.mem_of_getElem? (i := 65) rfl))) (mvT hZ (hw _ (List.mem_of_getElem? (i := 66) rfl))) (notFace_of_selects (args := #[]) (mvT hZ (hw _ (List.mem_of_getElem? (i := 68) rfl)))) (mvT hZ (hw _ (List.mem_of_getElem? (i := 68) rfl))) (mvT hZ (hw _ (List.mem_of_getElem? (i := 67) rfl))) (by decide) (backOf (W := 0) (rm9a l Z a0 hw [] b123 b157 G xa ta ka _ Ma vsa v0 v1 v2 v3 xb tb kb _ Mb vsb a2 b2 c2 d2 T185.heap n0 f186 f202 f197 f198 f199 f200 f201 f188 f189 f190 f191 hca hba hla G185source G185start G185end G185sourceStart G185sourceEnd f192 f193 f194 f195 hcb hbb hlb (SC.ext f187.2) hG) hZ (hw _ (List.mem_of_getElem? (i := 69) rfl)) (hw _ (List.mem_of_getElem? (i := 31) rfl)) (by decide) (by decide)) q211a q211c (g := (mkF m 317 #[.val (.int v0), .val (.int v1), .val (.int v2), .val (.int v3), .val (.int v4), .val (.long v5), .second, .val (.int dl), .val (.ref xa), .val (.int (1 : Int32)), .val (.ref xb), .val (.int a2), .val (.int b2), .val (.int c2), .val (.int d2), .val (.ref b123), .val (.ref b157), .val (.int ((((v5.toUInt64 >>> ((5 : Int32) &&& 0x3f).toInt64.toUInt64).toInt64) &&& (3 : Int64)).toInt32)), .val (.int (1 : Int32))] [(.ref b157), (.ref b123)])) rfl (by rw [hml]; rfl) (Steps.refl _) (argsL := [(.ref b157)]) (rest := []) (lenOf pd_3 rfl) rfl (by show 2 * 0 + _ ≤ _; exact Nat.le_of_eq rfl) (hb hby at_317) (fun _ _ => ⟨rfl, e209, (by decide : 0 + 6 + 6 + 1 + 2 + 1 + 2 + 0 + 0 ≤ _), (by decide : 0 + 16 + 16 + 5 + 28 + 5 + 28 + 0 + 0 ≤ _)⟩)
                        dsimp only [Pt.U, Pt.locs, Pt.cells, Pt.slots] at X211 l211 y211 z211 st211 hQ211
                        subst l211 y211 z211
                        obtain ⟨rfl, N211q, e211⟩ := hQ211
                        have N211 := Fr.app N209 N211q
                        refine Ends.st (S' := T211.setTop (mkF m 320 #[.val (.int v0), .val (.int v1), .val (.int v2), .val (.int v3), .val (.int v4), .val (.long v5), .second, .val (.int dl), .val (.ref xa), .val (.int (1 : Int32)), .val (.ref xb), .val (.int a2), .val (.int b2), .val (.int c2), .val (.int d2), .val (.ref b123), .val (.ref b157), .val (.int ((((v5.toUInt64 >>> ((5 : Int32) &&& 0x3f).toInt64.toUInt64).toInt64) &&& (3 : Int64)).toInt32)), .val (.int (1 : Int32))] [(.int (same9 (strs v4 ((v4.toUInt32 >>> ((8 : Int32) &&& 31).toUInt32).toInt32) ((v4.toUInt32 >>> ((16 : Int32) &&& 31).toUInt32).toInt32)) (strs v4 ((v4.toUInt32 >>> ((8 : Int32) &&& 31).toUInt32).toInt32) ((v4.toUInt32 >>> ((16 : Int32) &&& 31).toUInt32).toInt32)) v0 a2 v1 b2 v2 c2 v3 d2))])) (fun _ k => st211.trans k) ?_
                        refine Ends.st (S' := T211.setTop (mkF m 322 #[.val (.int v0), .val (.int v1), .val (.int v2), .val (.int v3), .val (.int v4), .val (.long v5), .second, .val (.int dl), .val (.ref xa), .val (.int (1 : Int32)), .val (.ref xb), .val (.int a2), .val (.int b2), .val (.int c2), .val (.int d2), .val (.ref b123), .val (.ref b157), .val (.int ((((v5.toUInt64 >>> ((5 : Int32) &&& 0x3f).toInt64.toUInt64).toInt64) &&& (3 : Int64)).toInt32)), .val (.int (1 : Int32))] [(.int (1 : Int32)), (.int (same9 (strs v4 ((v4.toUInt32 >>> ((8 : Int32) &&& 31).toUInt32).toInt32) ((v4.toUInt32 >>> ((16 : Int32) &&& 31).toUInt32).toInt32)) (strs v4 ((v4.toUInt32 >>> ((8 : Int32) &&& 31).toUInt32).toInt32) ((v4.toUInt32 >>> ((16 : Int32) &&& 31).toUInt32).toInt32)) v0 a2 v1 b2 v2 c2 v3 d2))])) (fun _ k => XS.iload X211.here hx rfl (hb hby at_320) rfl k) ?_
                        have hb212 : (same9 (strs v4 ((v4.toUInt32 >>> ((8 : Int32) &&& 31).toUInt32).toInt32) ((v4.toUInt32 >>> ((16 : Int32) &&& 31).toUInt32).toInt32)) (strs v4 ((v4.toUInt32 >>> ((8 : Int32) &&& 31).toUInt32).toInt32) ((v4.toUInt32 >>> ((16 : Int32) &&& 31).toUInt32).toInt32)) v0 a2 v1 b2 v2 c2 v3 d2) = (1 : Int32) := if_pos ⟨hcs209, ((own_all ha2 hb2 hc2 hd2).mp hc210).1.symm, ((own_all ha2 hb2 hc2 hd2).mp hc210).2.1.symm, ((own_all ha2 hb2 hc2 hd2).mp hc210).2.2.1.symm, ((own_all ha2 hb2 hc2 hd2).mp hc210).2.2.2.symm⟩
                        refine Ends.st (S' := T211.setTop (mkF m 325 #[.val (.int v0), .val (.int v1), .val (.int v2), .val (.int v3), .val (.int v4), .val (.long v5), .second, .val (.int dl), .val (.ref xa), .val (.int (1 : Int32)), .val (.ref xb), .val (.int a2), .val (.int b2), .val (.int c2), .val (.int d2), .val (.ref b123), .val (.ref b157), .val (.int ((((v5.toUInt64 >>> ((5 : Int32) &&& 0x3f).toInt64.toUInt64).toInt64) &&& (3 : Int64)).toInt32)), .val (.int (1 : Int32))] [])) (fun _ k => XS.icmpNo X211.here hx rfl (hb hby at_322) rfl (teq hb212).2 k) ?_
                        refine Ends.st (S' := T211.setTop (mkF m 327 #[.val (.int v0), .val (.int v1), .val (.int v2), .val (.int v3), .val (.int v4), .val (.long v5), .second, .val (.int dl), .val (.ref xa), .val (.int (1 : Int32)), .val (.ref xb), .val (.int a2), .val (.int b2), .val (.int c2), .val (.int d2), .val (.ref b123), .val (.ref b157), .val (.int ((((v5.toUInt64 >>> ((5 : Int32) &&& 0x3f).toInt64.toUInt64).toInt64) &&& (3 : Int64)).toInt32)), .val (.int (1 : Int32))] [(.ref b157)])) (fun _ k => XS.aload X211.here hx rfl (hb hby at_325) rfl rfl k) ?_
                        refine Ends.st (S' := T211.setTop (mkF m 329 #[.val (.int v0), .val (.int v1), .val (.int v2), .val (.int v3), .val (.int v4), .val (.long v5), .second, .val (.int dl), .val (.ref xa), .val (.int (1 : Int32)), .val (.ref xb), .val (.int a2), .val (.int b2), .val (.int c2), .val (.int d2), .val (.ref b123), .val (.ref b157), .val (.int ((((v5.toUInt64 >>> ((5 : Int32) &&& 0x3f).toInt64.toUInt64).toInt64) &&& (3 : Int64)).toInt32)), .val (.int (1 : Int32))] [(.ref b123), (.ref b157)])) (fun _ k => XS.aload X211.here hx rfl (hb hby at_327) rfl rfl k) ?_
                        obtain ⟨cq213, kq213, q213a, q213b, q213c⟩ := isOf hZ e211 (f202)
                        obtain ⟨_, _, ⟨T213, L213, k213, n213⟩, -, X213, ⟨Lc213, hQ213, l213, y213, z213⟩, st213⟩ := X211.virtualBack hx (y := (⟨"com/example/umpteenth_copy/umpteenthcopy/engine/Passage", "equals", "(Ljava/lang/Object;)Z"⟩ : MethodName)) (z := (⟨"com/example/umpteenth_copy/umpteenthcopy/engine/Passage", "equals", "(Ljava/lang/Object;)Z"⟩ : MethodName)) hown (mvT hZ (hw _ (List.mem_of_getElem? (i := 65) rfl))) (mvT hZ (hw _ (List.mem_of_getElem? (i := 66) rfl))) (notFace_of_selects (args := #[]) (mvT hZ (hw _ (List.mem_of_getElem? (i := 68) rfl)))) (mvT hZ (hw _ (List.mem_of_getElem? (i := 68) rfl))) (mvT hZ (hw _ (List.mem_of_getElem? (i := 67) rfl))) (by decide) (backOf (W := 0) (rm9a l Z a0 hw [] b157 b123 G xb tb kb _ Mb vsb a2 b2 c2 d2 xa ta ka _ Ma vsa v0 v1 v2 v3 T185.heap n0 f186 f196 G185source G185start G185end G185sourceStart G185sourceEnd f192 f193 f194 f195 hcb hbb hlb f197 f198 f199 f200 f201 f188 f189 f190 f191 hca hba hla (SC.ext f187.2) hG) hZ (hw _ (List.mem_of_getElem? (i := 69) rfl)) (hw _ (List.mem_of_getElem? (i := 31) rfl)) (by decide) (by decide)) q213a q213c (g := (mkF m 329 #[.val (.int v0), .val (.int v1), .val (.int v2), .val (.int v3), .val (.int v4), .val (.long v5), .second, .val (.int dl), .val (.ref xa), .val (.int (1 : Int32)), .val (.ref xb), .val (.int a2), .val (.int b2), .val (.int c2), .val (.int d2), .val (.ref b123), .val (.ref b157), .val (.int ((((v5.toUInt64 >>> ((5 : Int32) &&& 0x3f).toInt64.toUInt64).toInt64) &&& (3 : Int64)).toInt32)), .val (.int (1 : Int32))] [(.ref b123), (.ref b157)])) rfl (by rw [hml]; rfl) (Steps.refl _) (argsL := [(.ref b123)]) (rest := []) (lenOf pd_3 rfl) rfl (by show 2 * 0 + _ ≤ _; exact Nat.le_of_eq rfl) (hb hby at_329) (fun _ _ => ⟨rfl, e211, (by decide : 0 + 6 + 6 + 1 + 2 + 1 + 2 + 0 + 0 + 0 ≤ _), (by decide : 0 + 16 + 16 + 5 + 28 + 5 + 28 + 0 + 0 + 0 ≤ _)⟩)
                        dsimp only [Pt.U, Pt.locs, Pt.cells, Pt.slots] at X213 l213 y213 z213 st213 hQ213
                        subst l213 y213 z213
                        obtain ⟨rfl, N213q, e213⟩ := hQ213
                        have N213 := Fr.app N211 N213q
                        refine Ends.st (S' := T213.setTop (mkF m 332 #[.val (.int v0), .val (.int v1), .val (.int v2), .val (.int v3), .val (.int v4), .val (.long v5), .second, .val (.int dl), .val (.ref xa), .val (.int (1 : Int32)), .val (.ref xb), .val (.int a2), .val (.int b2), .val (.int c2), .val (.int d2), .val (.ref b123), .val (.ref b157), .val (.int ((((v5.toUInt64 >>> ((5 : Int32) &&& 0x3f).toInt64.toUInt64).toInt64) &&& (3 : Int64)).toInt32)), .val (.int (1 : Int32))] [(.int (same9 (strs v4 ((v4.toUInt32 >>> ((8 : Int32) &&& 31).toUInt32).toInt32) ((v4.toUInt32 >>> ((16 : Int32) &&& 31).toUInt32).toInt32)) (strs v4 ((v4.toUInt32 >>> ((8 : Int32) &&& 31).toUInt32).toInt32) ((v4.toUInt32 >>> ((16 : Int32) &&& 31).toUInt32).toInt32)) a2 v0 b2 v1 c2 v2 d2 v3))])) (fun _ k => st213.trans k) ?_
                        refine Ends.st (S' := T213.setTop (mkF m 334 #[.val (.int v0), .val (.int v1), .val (.int v2), .val (.int v3), .val (.int v4), .val (.long v5), .second, .val (.int dl), .val (.ref xa), .val (.int (1 : Int32)), .val (.ref xb), .val (.int a2), .val (.int b2), .val (.int c2), .val (.int d2), .val (.ref b123), .val (.ref b157), .val (.int ((((v5.toUInt64 >>> ((5 : Int32) &&& 0x3f).toInt64.toUInt64).toInt64) &&& (3 : Int64)).toInt32)), .val (.int (1 : Int32))] [(.int (1 : Int32)), (.int (same9 (strs v4 ((v4.toUInt32 >>> ((8 : Int32) &&& 31).toUInt32).toInt32) ((v4.toUInt32 >>> ((16 : Int32) &&& 31).toUInt32).toInt32)) (strs v4 ((v4.toUInt32 >>> ((8 : Int32) &&& 31).toUInt32).toInt32) ((v4.toUInt32 >>> ((16 : Int32) &&& 31).toUInt32).toInt32)) a2 v0 b2 v1 c2 v2 d2 v3))])) (fun _ k => XS.iload X213.here hx rfl (hb hby at_332) rfl k) ?_
                        have hb214 : (same9 (strs v4 ((v4.toUInt32 >>> ((8 : Int32) &&& 31).toUInt32).toInt32) ((v4.toUInt32 >>> ((16 : Int32) &&& 31).toUInt32).toInt32)) (strs v4 ((v4.toUInt32 >>> ((8 : Int32) &&& 31).toUInt32).toInt32) ((v4.toUInt32 >>> ((16 : Int32) &&& 31).toUInt32).toInt32)) a2 v0 b2 v1 c2 v2 d2 v3) = (1 : Int32) := if_pos ⟨hcs209.symm, ((own_all ha2 hb2 hc2 hd2).mp hc210).1, ((own_all ha2 hb2 hc2 hd2).mp hc210).2.1, ((own_all ha2 hb2 hc2 hd2).mp hc210).2.2.1, ((own_all ha2 hb2 hc2 hd2).mp hc210).2.2.2⟩
                        refine Ends.st (S' := T213.setTop (mkF m 337 #[.val (.int v0), .val (.int v1), .val (.int v2), .val (.int v3), .val (.int v4), .val (.long v5), .second, .val (.int dl), .val (.ref xa), .val (.int (1 : Int32)), .val (.ref xb), .val (.int a2), .val (.int b2), .val (.int c2), .val (.int d2), .val (.ref b123), .val (.ref b157), .val (.int ((((v5.toUInt64 >>> ((5 : Int32) &&& 0x3f).toInt64.toUInt64).toInt64) &&& (3 : Int64)).toInt32)), .val (.int (1 : Int32))] [])) (fun _ k => XS.icmpNo X213.here hx rfl (hb hby at_334) rfl (teq hb214).2 k) ?_
                        refine Ends.st (S' := T213.setTop (mkF m 338 #[.val (.int v0), .val (.int v1), .val (.int v2), .val (.int v3), .val (.int v4), .val (.long v5), .second, .val (.int dl), .val (.ref xa), .val (.int (1 : Int32)), .val (.ref xb), .val (.int a2), .val (.int b2), .val (.int c2), .val (.int d2), .val (.ref b123), .val (.ref b157), .val (.int ((((v5.toUInt64 >>> ((5 : Int32) &&& 0x3f).toInt64.toUInt64).toInt64) &&& (3 : Int64)).toInt32)), .val (.int (1 : Int32))] [(.int (1 : Int32))])) (fun _ k => XS.iconst X213.here hx rfl (hb hby at_337) k) ?_
                        refine Ends.st (S' := T213.setTop (mkF m 342 #[.val (.int v0), .val (.int v1), .val (.int v2), .val (.int v3), .val (.int v4), .val (.long v5), .second, .val (.int dl), .val (.ref xa), .val (.int (1 : Int32)), .val (.ref xb), .val (.int a2), .val (.int b2), .val (.int c2), .val (.int d2), .val (.ref b123), .val (.ref b157), .val (.int ((((v5.toUInt64 >>> ((5 : Int32) &&& 0x3f).toInt64.toUInt64).toInt64) &&& (3 : Int64)).toInt32)), .val (.int (1 : Int32))] [(.int (1 : Int32))])) (fun _ k => XS.goto X213.here hx rfl (pc0 := 338) (pc' := 342) rfl (hb hby at_338) (by decide) (by decide) k) ?_
                        obtain ⟨fs, hr, hrun, hended, hRW⟩ := Stand.leaveW (s := s) (vm₁ := T185.vm) X213 hS185 (Nat.le_trans (Nat.le_refl T185.heap.size) (Nat.le_of_eq (congrArg Array.size (Eq.symm e213)))) (v := some (.int (1 : Int32))) (fun h => by rw [Bd.returns] at h; cases h)
                        exact ⟨_, _, retN X213 hx (t := .boolean) Bd.returns (by simp) (hb hby at_342) hr, hrun, hended, _, _, rfl, (by show Q0 Z  h0 n0 _ T213.heap _; rw [e213]; exact ⟨rfl, N213⟩), hRW.1, hRW.2.1, hRW.2.2.1, hRW.2.2.2.mono (by decide) (by decide)⟩
                      · refine Ends.st (S' := T209.setTop (mkF m 310 #[.val (.int v0), .val (.int v1), .val (.int v2), .val (.int v3), .val (.int v4), .val (.long v5), .second, .val (.int dl), .val (.ref xa), .val (.int (1 : Int32)), .val (.ref xb), .val (.int a2), .val (.int b2), .val (.int c2), .val (.int d2), .val (.ref b123), .val (.ref b157), .val (.int ((((v5.toUInt64 >>> ((5 : Int32) &&& 0x3f).toInt64.toUInt64).toInt64) &&& (3 : Int64)).toInt32)), .unset] [])) (fun _ k => XS.ifYes X209.here hx rfl (pc0 := 303) (pc' := 310) rfl (hb hby at_303) rfl ((if0 _ _).trans (feq hc210).2) (by decide) (by decide) k) ?_
                        refine Ends.st (S' := T209.setTop (mkF m 311 #[.val (.int v0), .val (.int v1), .val (.int v2), .val (.int v3), .val (.int v4), .val (.long v5), .second, .val (.int dl), .val (.ref xa), .val (.int (1 : Int32)), .val (.ref xb), .val (.int a2), .val (.int b2), .val (.int c2), .val (.int d2), .val (.ref b123), .val (.ref b157), .val (.int ((((v5.toUInt64 >>> ((5 : Int32) &&& 0x3f).toInt64.toUInt64).toInt64) &&& (3 : Int64)).toInt32)), .unset] [(.int (0 : Int32))])) (fun _ k => XS.iconst X209.here hx rfl (hb hby at_310) k) ?_
                        refine Ends.st (S' := T209.setTop (mkF m 313 #[.val (.int v0), .val (.int v1), .val (.int v2), .val (.int v3), .val (.int v4), .val (.long v5), .second, .val (.int dl), .val (.ref xa), .val (.int (1 : Int32)), .val (.ref xb), .val (.int a2), .val (.int b2), .val (.int c2), .val (.int d2), .val (.ref b123), .val (.ref b157), .val (.int ((((v5.toUInt64 >>> ((5 : Int32) &&& 0x3f).toInt64.toUInt64).toInt64) &&& (3 : Int64)).toInt32)), .val (.int (0 : Int32))] [])) (fun _ k => XS.istore X209.here hx rfl (hb hby at_311) rfl (l' := #[.val (.int v0), .val (.int v1), .val (.int v2), .val (.int v3), .val (.int v4), .val (.long v5), .second, .val (.int dl), .val (.ref xa), .val (.int (1 : Int32)), .val (.ref xb), .val (.int a2), .val (.int b2), .val (.int c2), .val (.int d2), .val (.ref b123), .val (.ref b157), .val (.int ((((v5.toUInt64 >>> ((5 : Int32) &&& 0x3f).toInt64.toUInt64).toInt64) &&& (3 : Int64)).toInt32)), .val (.int (0 : Int32))]) rfl k) ?_
                        refine Ends.st (S' := T209.setTop (mkF m 315 #[.val (.int v0), .val (.int v1), .val (.int v2), .val (.int v3), .val (.int v4), .val (.long v5), .second, .val (.int dl), .val (.ref xa), .val (.int (1 : Int32)), .val (.ref xb), .val (.int a2), .val (.int b2), .val (.int c2), .val (.int d2), .val (.ref b123), .val (.ref b157), .val (.int ((((v5.toUInt64 >>> ((5 : Int32) &&& 0x3f).toInt64.toUInt64).toInt64) &&& (3 : Int64)).toInt32)), .val (.int (0 : Int32))] [(.ref b123)])) (fun _ k => XS.aload X209.here hx rfl (hb hby at_313) rfl rfl k) ?_
                        refine Ends.st (S' := T209.setTop (mkF m 317 #[.val (.int v0), .val (.int v1), .val (.int v2), .val (.int v3), .val (.int v4), .val (.long v5), .second, .val (.int dl), .val (.ref xa), .val (.int (1 : Int32)), .val (.ref xb), .val (.int a2), .val (.int b2), .val (.int c2), .val (.int d2), .val (.ref b123), .val (.ref b157), .val (.int ((((v5.toUInt64 >>> ((5 : Int32) &&& 0x3f).toInt64.toUInt64).toInt64) &&& (3 : Int64)).toInt32)), .val (.int (0 : Int32))] [(.ref b157), (.ref b123)])) (fun _ k => XS.aload X209.here hx rfl (hb hby at_315) rfl rfl k) ?_
                        obtain ⟨cq215, kq215, q215a, q215b, q215c⟩ := isOf hZ e209 (f196)
                        obtain ⟨_, _, ⟨T215, L215, k215, n215⟩, -, X215, ⟨Lc215, hQ215, l215, y215, z215⟩, st215⟩ := X209.virtualBack hx (y := (⟨"com/example/umpteenth_copy/umpteenthcopy/engine/Passage", "equals", "(Ljava/lang/Object;)Z"⟩ : MethodName)) (z := (⟨"com/example/umpteenth_copy/umpteenthcopy/engine/Passage", "equals", "(Ljava/lang/Object;)Z"⟩ : MethodName)) hown (mvT hZ (hw _ (List.mem_of_getElem? (i := 65) rfl))) (mvT hZ (hw _ (List.mem_of_getElem? (i := 66) rfl))) (notFace_of_selects (args := #[]) (mvT hZ (hw _ (List.mem_of_getElem? (i := 68) rfl)))) (mvT hZ (hw _ (List.mem_of_getElem? (i := 68) rfl))) (mvT hZ (hw _ (List.mem_of_getElem? (i := 67) rfl))) (by decide) (backOf (W := 0) (rm9a l Z a0 hw [] b123 b157 G xa ta ka _ Ma vsa v0 v1 v2 v3 xb tb kb _ Mb vsb a2 b2 c2 d2 T185.heap n0 f186 f202 f197 f198 f199 f200 f201 f188 f189 f190 f191 hca hba hla G185source G185start G185end G185sourceStart G185sourceEnd f192 f193 f194 f195 hcb hbb hlb (SC.ext f187.2) hG) hZ (hw _ (List.mem_of_getElem? (i := 69) rfl)) (hw _ (List.mem_of_getElem? (i := 31) rfl)) (by decide) (by decide)) q215a q215c (g := (mkF m 317 #[.val (.int v0), .val (.int v1), .val (.int v2), .val (.int v3), .val (.int v4), .val (.long v5), .second, .val (.int dl), .val (.ref xa), .val (.int (1 : Int32)), .val (.ref xb), .val (.int a2), .val (.int b2), .val (.int c2), .val (.int d2), .val (.ref b123), .val (.ref b157), .val (.int ((((v5.toUInt64 >>> ((5 : Int32) &&& 0x3f).toInt64.toUInt64).toInt64) &&& (3 : Int64)).toInt32)), .val (.int (0 : Int32))] [(.ref b157), (.ref b123)])) rfl (by rw [hml]; rfl) (Steps.refl _) (argsL := [(.ref b157)]) (rest := []) (lenOf pd_3 rfl) rfl (by show 2 * 0 + _ ≤ _; exact Nat.le_of_eq rfl) (hb hby at_317) (fun _ _ => ⟨rfl, e209, (by decide : 0 + 6 + 6 + 1 + 2 + 1 + 2 + 0 + 0 ≤ _), (by decide : 0 + 16 + 16 + 5 + 28 + 5 + 28 + 0 + 0 ≤ _)⟩)
                        dsimp only [Pt.U, Pt.locs, Pt.cells, Pt.slots] at X215 l215 y215 z215 st215 hQ215
                        subst l215 y215 z215
                        obtain ⟨rfl, N215q, e215⟩ := hQ215
                        have N215 := Fr.app N209 N215q
                        refine Ends.st (S' := T215.setTop (mkF m 320 #[.val (.int v0), .val (.int v1), .val (.int v2), .val (.int v3), .val (.int v4), .val (.long v5), .second, .val (.int dl), .val (.ref xa), .val (.int (1 : Int32)), .val (.ref xb), .val (.int a2), .val (.int b2), .val (.int c2), .val (.int d2), .val (.ref b123), .val (.ref b157), .val (.int ((((v5.toUInt64 >>> ((5 : Int32) &&& 0x3f).toInt64.toUInt64).toInt64) &&& (3 : Int64)).toInt32)), .val (.int (0 : Int32))] [(.int (same9 (strs v4 ((v4.toUInt32 >>> ((8 : Int32) &&& 31).toUInt32).toInt32) ((v4.toUInt32 >>> ((16 : Int32) &&& 31).toUInt32).toInt32)) (strs v4 ((v4.toUInt32 >>> ((8 : Int32) &&& 31).toUInt32).toInt32) ((v4.toUInt32 >>> ((16 : Int32) &&& 31).toUInt32).toInt32)) v0 a2 v1 b2 v2 c2 v3 d2))])) (fun _ k => st215.trans k) ?_
                        refine Ends.st (S' := T215.setTop (mkF m 322 #[.val (.int v0), .val (.int v1), .val (.int v2), .val (.int v3), .val (.int v4), .val (.long v5), .second, .val (.int dl), .val (.ref xa), .val (.int (1 : Int32)), .val (.ref xb), .val (.int a2), .val (.int b2), .val (.int c2), .val (.int d2), .val (.ref b123), .val (.ref b157), .val (.int ((((v5.toUInt64 >>> ((5 : Int32) &&& 0x3f).toInt64.toUInt64).toInt64) &&& (3 : Int64)).toInt32)), .val (.int (0 : Int32))] [(.int (0 : Int32)), (.int (same9 (strs v4 ((v4.toUInt32 >>> ((8 : Int32) &&& 31).toUInt32).toInt32) ((v4.toUInt32 >>> ((16 : Int32) &&& 31).toUInt32).toInt32)) (strs v4 ((v4.toUInt32 >>> ((8 : Int32) &&& 31).toUInt32).toInt32) ((v4.toUInt32 >>> ((16 : Int32) &&& 31).toUInt32).toInt32)) v0 a2 v1 b2 v2 c2 v3 d2))])) (fun _ k => XS.iload X215.here hx rfl (hb hby at_320) rfl k) ?_
                        have hb216 : (same9 (strs v4 ((v4.toUInt32 >>> ((8 : Int32) &&& 31).toUInt32).toInt32) ((v4.toUInt32 >>> ((16 : Int32) &&& 31).toUInt32).toInt32)) (strs v4 ((v4.toUInt32 >>> ((8 : Int32) &&& 31).toUInt32).toInt32) ((v4.toUInt32 >>> ((16 : Int32) &&& 31).toUInt32).toInt32)) v0 a2 v1 b2 v2 c2 v3 d2) = (0 : Int32) := if_neg (fun q => hc210 ((own_all ha2 hb2 hc2 hd2).mpr ⟨q.2.1.symm, q.2.2.1.symm, q.2.2.2.1.symm, q.2.2.2.2.symm⟩))
                        refine Ends.st (S' := T215.setTop (mkF m 325 #[.val (.int v0), .val (.int v1), .val (.int v2), .val (.int v3), .val (.int v4), .val (.long v5), .second, .val (.int dl), .val (.ref xa), .val (.int (1 : Int32)), .val (.ref xb), .val (.int a2), .val (.int b2), .val (.int c2), .val (.int d2), .val (.ref b123), .val (.ref b157), .val (.int ((((v5.toUInt64 >>> ((5 : Int32) &&& 0x3f).toInt64.toUInt64).toInt64) &&& (3 : Int64)).toInt32)), .val (.int (0 : Int32))] [])) (fun _ k => XS.icmpNo X215.here hx rfl (hb hby at_322) rfl (teq hb216).2 k) ?_
                        refine Ends.st (S' := T215.setTop (mkF m 327 #[.val (.int v0), .val (.int v1), .val (.int v2), .val (.int v3), .val (.int v4), .val (.long v5), .second, .val (.int dl), .val (.ref xa), .val (.int (1 : Int32)), .val (.ref xb), .val (.int a2), .val (.int b2), .val (.int c2), .val (.int d2), .val (.ref b123), .val (.ref b157), .val (.int ((((v5.toUInt64 >>> ((5 : Int32) &&& 0x3f).toInt64.toUInt64).toInt64) &&& (3 : Int64)).toInt32)), .val (.int (0 : Int32))] [(.ref b157)])) (fun _ k => XS.aload X215.here hx rfl (hb hby at_325) rfl rfl k) ?_
                        refine Ends.st (S' := T215.setTop (mkF m 329 #[.val (.int v0), .val (.int v1), .val (.int v2), .val (.int v3), .val (.int v4), .val (.long v5), .second, .val (.int dl), .val (.ref xa), .val (.int (1 : Int32)), .val (.ref xb), .val (.int a2), .val (.int b2), .val (.int c2), .val (.int d2), .val (.ref b123), .val (.ref b157), .val (.int ((((v5.toUInt64 >>> ((5 : Int32) &&& 0x3f).toInt64.toUInt64).toInt64) &&& (3 : Int64)).toInt32)), .val (.int (0 : Int32))] [(.ref b123), (.ref b157)])) (fun _ k => XS.aload X215.here hx rfl (hb hby at_327) rfl rfl k) ?_
                        obtain ⟨cq217, kq217, q217a, q217b, q217c⟩ := isOf hZ e215 (f202)
                        obtain ⟨_, _, ⟨T217, L217, k217, n217⟩, -, X217, ⟨Lc217, hQ217, l217, y217, z217⟩, st217⟩ := X215.virtualBack hx (y := (⟨"com/example/umpteenth_copy/umpteenthcopy/engine/Passage", "equals", "(Ljava/lang/Object;)Z"⟩ : MethodName)) (z := (⟨"com/example/umpteenth_copy/umpteenthcopy/engine/Passage", "equals", "(Ljava/lang/Object;)Z"⟩ : MethodName)) hown (mvT hZ (hw _ (List.mem_of_getElem? (i := 65) rfl))) (mvT hZ (hw _ (List.mem_of_getElem? (i := 66) rfl))) (notFace_of_selects (args := #[]) (mvT hZ (hw _ (List.mem_of_getElem? (i := 68) rfl)))) (mvT hZ (hw _ (List.mem_of_getElem? (i := 68) rfl))) (mvT hZ (hw _ (List.mem_of_getElem? (i := 67) rfl))) (by decide) (backOf (W := 0) (rm9a l Z a0 hw [] b157 b123 G xb tb kb _ Mb vsb a2 b2 c2 d2 xa ta ka _ Ma vsa v0 v1 v2 v3 T185.heap n0 f186 f196 G185source G185start G185end G185sourceStart G185sourceEnd f192 f193 f194 f195 hcb hbb hlb f197 f198 f199 f200 f201 f188 f189 f190 f191 hca hba hla (SC.ext f187.2) hG) hZ (hw _ (List.mem_of_getElem? (i := 69) rfl)) (hw _ (List.mem_of_getElem? (i := 31) rfl)) (by decide) (by decide)) q217a q217c (g := (mkF m 329 #[.val (.int v0), .val (.int v1), .val (.int v2), .val (.int v3), .val (.int v4), .val (.long v5), .second, .val (.int dl), .val (.ref xa), .val (.int (1 : Int32)), .val (.ref xb), .val (.int a2), .val (.int b2), .val (.int c2), .val (.int d2), .val (.ref b123), .val (.ref b157), .val (.int ((((v5.toUInt64 >>> ((5 : Int32) &&& 0x3f).toInt64.toUInt64).toInt64) &&& (3 : Int64)).toInt32)), .val (.int (0 : Int32))] [(.ref b123), (.ref b157)])) rfl (by rw [hml]; rfl) (Steps.refl _) (argsL := [(.ref b123)]) (rest := []) (lenOf pd_3 rfl) rfl (by show 2 * 0 + _ ≤ _; exact Nat.le_of_eq rfl) (hb hby at_329) (fun _ _ => ⟨rfl, e215, (by decide : 0 + 6 + 6 + 1 + 2 + 1 + 2 + 0 + 0 + 0 ≤ _), (by decide : 0 + 16 + 16 + 5 + 28 + 5 + 28 + 0 + 0 + 0 ≤ _)⟩)
                        dsimp only [Pt.U, Pt.locs, Pt.cells, Pt.slots] at X217 l217 y217 z217 st217 hQ217
                        subst l217 y217 z217
                        obtain ⟨rfl, N217q, e217⟩ := hQ217
                        have N217 := Fr.app N215 N217q
                        refine Ends.st (S' := T217.setTop (mkF m 332 #[.val (.int v0), .val (.int v1), .val (.int v2), .val (.int v3), .val (.int v4), .val (.long v5), .second, .val (.int dl), .val (.ref xa), .val (.int (1 : Int32)), .val (.ref xb), .val (.int a2), .val (.int b2), .val (.int c2), .val (.int d2), .val (.ref b123), .val (.ref b157), .val (.int ((((v5.toUInt64 >>> ((5 : Int32) &&& 0x3f).toInt64.toUInt64).toInt64) &&& (3 : Int64)).toInt32)), .val (.int (0 : Int32))] [(.int (same9 (strs v4 ((v4.toUInt32 >>> ((8 : Int32) &&& 31).toUInt32).toInt32) ((v4.toUInt32 >>> ((16 : Int32) &&& 31).toUInt32).toInt32)) (strs v4 ((v4.toUInt32 >>> ((8 : Int32) &&& 31).toUInt32).toInt32) ((v4.toUInt32 >>> ((16 : Int32) &&& 31).toUInt32).toInt32)) a2 v0 b2 v1 c2 v2 d2 v3))])) (fun _ k => st217.trans k) ?_
                        refine Ends.st (S' := T217.setTop (mkF m 334 #[.val (.int v0), .val (.int v1), .val (.int v2), .val (.int v3), .val (.int v4), .val (.long v5), .second, .val (.int dl), .val (.ref xa), .val (.int (1 : Int32)), .val (.ref xb), .val (.int a2), .val (.int b2), .val (.int c2), .val (.int d2), .val (.ref b123), .val (.ref b157), .val (.int ((((v5.toUInt64 >>> ((5 : Int32) &&& 0x3f).toInt64.toUInt64).toInt64) &&& (3 : Int64)).toInt32)), .val (.int (0 : Int32))] [(.int (0 : Int32)), (.int (same9 (strs v4 ((v4.toUInt32 >>> ((8 : Int32) &&& 31).toUInt32).toInt32) ((v4.toUInt32 >>> ((16 : Int32) &&& 31).toUInt32).toInt32)) (strs v4 ((v4.toUInt32 >>> ((8 : Int32) &&& 31).toUInt32).toInt32) ((v4.toUInt32 >>> ((16 : Int32) &&& 31).toUInt32).toInt32)) a2 v0 b2 v1 c2 v2 d2 v3))])) (fun _ k => XS.iload X217.here hx rfl (hb hby at_332) rfl k) ?_
                        have hb218 : (same9 (strs v4 ((v4.toUInt32 >>> ((8 : Int32) &&& 31).toUInt32).toInt32) ((v4.toUInt32 >>> ((16 : Int32) &&& 31).toUInt32).toInt32)) (strs v4 ((v4.toUInt32 >>> ((8 : Int32) &&& 31).toUInt32).toInt32) ((v4.toUInt32 >>> ((16 : Int32) &&& 31).toUInt32).toInt32)) a2 v0 b2 v1 c2 v2 d2 v3) = (0 : Int32) := if_neg (fun q => hc210 ((own_all ha2 hb2 hc2 hd2).mpr ⟨q.2.1, q.2.2.1, q.2.2.2.1, q.2.2.2.2⟩))
                        refine Ends.st (S' := T217.setTop (mkF m 337 #[.val (.int v0), .val (.int v1), .val (.int v2), .val (.int v3), .val (.int v4), .val (.long v5), .second, .val (.int dl), .val (.ref xa), .val (.int (1 : Int32)), .val (.ref xb), .val (.int a2), .val (.int b2), .val (.int c2), .val (.int d2), .val (.ref b123), .val (.ref b157), .val (.int ((((v5.toUInt64 >>> ((5 : Int32) &&& 0x3f).toInt64.toUInt64).toInt64) &&& (3 : Int64)).toInt32)), .val (.int (0 : Int32))] [])) (fun _ k => XS.icmpNo X217.here hx rfl (hb hby at_334) rfl (teq hb218).2 k) ?_
                        refine Ends.st (S' := T217.setTop (mkF m 338 #[.val (.int v0), .val (.int v1), .val (.int v2), .val (.int v3), .val (.int v4), .val (.long v5), .second, .val (.int dl), .val (.ref xa), .val (.int (1 : Int32)), .val (.ref xb), .val (.int a2), .val (.int b2), .val (.int c2), .val (.int d2), .val (.ref b123), .val (.ref b157), .val (.int ((((v5.toUInt64 >>> ((5 : Int32) &&& 0x3f).toInt64.toUInt64).toInt64) &&& (3 : Int64)).toInt32)), .val (.int (0 : Int32))] [(.int (1 : Int32))])) (fun _ k => XS.iconst X217.here hx rfl (hb hby at_337) k) ?_
                        refine Ends.st (S' := T217.setTop (mkF m 342 #[.val (.int v0), .val (.int v1), .val (.int v2), .val (.int v3), .val (.int v4), .val (.long v5), .second, .val (.int dl), .val (.ref xa), .val (.int (1 : Int32)), .val (.ref xb), .val (.int a2), .val (.int b2), .val (.int c2), .val (.int d2), .val (.ref b123), .val (.ref b157), .val (.int ((((v5.toUInt64 >>> ((5 : Int32) &&& 0x3f).toInt64.toUInt64).toInt64) &&& (3 : Int64)).toInt32)), .val (.int (0 : Int32))] [(.int (1 : Int32))])) (fun _ k => XS.goto X217.here hx rfl (pc0 := 338) (pc' := 342) rfl (hb hby at_338) (by decide) (by decide) k) ?_
                        obtain ⟨fs, hr, hrun, hended, hRW⟩ := Stand.leaveW (s := s) (vm₁ := T185.vm) X217 hS185 (Nat.le_trans (Nat.le_refl T185.heap.size) (Nat.le_of_eq (congrArg Array.size (Eq.symm e217)))) (v := some (.int (1 : Int32))) (fun h => by rw [Bd.returns] at h; cases h)
                        exact ⟨_, _, retN X217 hx (t := .boolean) Bd.returns (by simp) (hb hby at_342) hr, hrun, hended, _, _, rfl, (by show Q0 Z  h0 n0 _ T217.heap _; rw [e217]; exact ⟨rfl, N217⟩), hRW.1, hRW.2.1, hRW.2.2.1, hRW.2.2.2.mono (by decide) (by decide)⟩
                    · refine Ends.st (S' := T209.setTop (mkF m 292 #[.val (.int v0), .val (.int v1), .val (.int v2), .val (.int v3), .val (.int v4), .val (.long v5), .second, .val (.int dl), .val (.ref xa), .val (.int (1 : Int32)), .val (.ref xb), .val (.int a2), .val (.int b2), .val (.int c2), .val (.int d2), .val (.ref b123), .val (.ref b157), .val (.int ((((v5.toUInt64 >>> ((5 : Int32) &&& 0x3f).toInt64.toUInt64).toInt64) &&& (3 : Int64)).toInt32)), .unset] [(.int (0 : Int32))])) (fun _ k => st209.trans k) ?_
                      refine Ends.st (S' := T209.setTop (mkF m 310 #[.val (.int v0), .val (.int v1), .val (.int v2), .val (.int v3), .val (.int v4), .val (.long v5), .second, .val (.int dl), .val (.ref xa), .val (.int (1 : Int32)), .val (.ref xb), .val (.int a2), .val (.int b2), .val (.int c2), .val (.int d2), .val (.ref b123), .val (.ref b157), .val (.int ((((v5.toUInt64 >>> ((5 : Int32) &&& 0x3f).toInt64.toUInt64).toInt64) &&& (3 : Int64)).toInt32)), .unset] [])) (fun _ k => XS.ifYes X209.here hx rfl (pc0 := 292) (pc' := 310) rfl (hb hby at_292) rfl ((if0 _ _).trans (teq (by decide : (0 : Int32) = (0 : Int32))).1) (by decide) (by decide) k) ?_
                      refine Ends.st (S' := T209.setTop (mkF m 311 #[.val (.int v0), .val (.int v1), .val (.int v2), .val (.int v3), .val (.int v4), .val (.long v5), .second, .val (.int dl), .val (.ref xa), .val (.int (1 : Int32)), .val (.ref xb), .val (.int a2), .val (.int b2), .val (.int c2), .val (.int d2), .val (.ref b123), .val (.ref b157), .val (.int ((((v5.toUInt64 >>> ((5 : Int32) &&& 0x3f).toInt64.toUInt64).toInt64) &&& (3 : Int64)).toInt32)), .unset] [(.int (0 : Int32))])) (fun _ k => XS.iconst X209.here hx rfl (hb hby at_310) k) ?_
                      refine Ends.st (S' := T209.setTop (mkF m 313 #[.val (.int v0), .val (.int v1), .val (.int v2), .val (.int v3), .val (.int v4), .val (.long v5), .second, .val (.int dl), .val (.ref xa), .val (.int (1 : Int32)), .val (.ref xb), .val (.int a2), .val (.int b2), .val (.int c2), .val (.int d2), .val (.ref b123), .val (.ref b157), .val (.int ((((v5.toUInt64 >>> ((5 : Int32) &&& 0x3f).toInt64.toUInt64).toInt64) &&& (3 : Int64)).toInt32)), .val (.int (0 : Int32))] [])) (fun _ k => XS.istore X209.here hx rfl (hb hby at_311) rfl (l' := #[.val (.int v0), .val (.int v1), .val (.int v2), .val (.int v3), .val (.int v4), .val (.long v5), .second, .val (.int dl), .val (.ref xa), .val (.int (1 : Int32)), .val (.ref xb), .val (.int a2), .val (.int b2), .val (.int c2), .val (.int d2), .val (.ref b123), .val (.ref b157), .val (.int ((((v5.toUInt64 >>> ((5 : Int32) &&& 0x3f).toInt64.toUInt64).toInt64) &&& (3 : Int64)).toInt32)), .val (.int (0 : Int32))]) rfl k) ?_
                      refine Ends.st (S' := T209.setTop (mkF m 315 #[.val (.int v0), .val (.int v1), .val (.int v2), .val (.int v3), .val (.int v4), .val (.long v5), .second, .val (.int dl), .val (.ref xa), .val (.int (1 : Int32)), .val (.ref xb), .val (.int a2), .val (.int b2), .val (.int c2), .val (.int d2), .val (.ref b123), .val (.ref b157), .val (.int ((((v5.toUInt64 >>> ((5 : Int32) &&& 0x3f).toInt64.toUInt64).toInt64) &&& (3 : Int64)).toInt32)), .val (.int (0 : Int32))] [(.ref b123)])) (fun _ k => XS.aload X209.here hx rfl (hb hby at_313) rfl rfl k) ?_
                      refine Ends.st (S' := T209.setTop (mkF m 317 #[.val (.int v0), .val (.int v1), .val (.int v2), .val (.int v3), .val (.int v4), .val (.long v5), .second, .val (.int dl), .val (.ref xa), .val (.int (1 : Int32)), .val (.ref xb), .val (.int a2), .val (.int b2), .val (.int c2), .val (.int d2), .val (.ref b123), .val (.ref b157), .val (.int ((((v5.toUInt64 >>> ((5 : Int32) &&& 0x3f).toInt64.toUInt64).toInt64) &&& (3 : Int64)).toInt32)), .val (.int (0 : Int32))] [(.ref b157), (.ref b123)])) (fun _ k => XS.aload X209.here hx rfl (hb hby at_315) rfl rfl k) ?_
                      obtain ⟨cq219, kq219, q219a, q219b, q219c⟩ := isOf hZ e209 (f196)
                      obtain ⟨_, _, ⟨T219, L219, k219, n219⟩, -, X219, ⟨Lc219, hQ219, l219, y219, z219⟩, st219⟩ := X209.virtualBack hx (y := (⟨"com/example/umpteenth_copy/umpteenthcopy/engine/Passage", "equals", "(Ljava/lang/Object;)Z"⟩ : MethodName)) (z := (⟨"com/example/umpteenth_copy/umpteenthcopy/engine/Passage", "equals", "(Ljava/lang/Object;)Z"⟩ : MethodName)) hown (mvT hZ (hw _ (List.mem_of_getElem? (i := 65) rfl))) (mvT hZ (hw _ (List.mem_of_getElem? (i := 66) rfl))) (notFace_of_selects (args := #[]) (mvT hZ (hw _ (List.mem_of_getElem? (i := 68) rfl)))) (mvT hZ (hw _ (List.mem_of_getElem? (i := 68) rfl))) (mvT hZ (hw _ (List.mem_of_getElem? (i := 67) rfl))) (by decide) (backOf (W := 0) (rm9a l Z a0 hw [] b123 b157 G xa ta ka _ Ma vsa v0 v1 v2 v3 xb tb kb _ Mb vsb a2 b2 c2 d2 T185.heap n0 f186 f202 f197 f198 f199 f200 f201 f188 f189 f190 f191 hca hba hla G185source G185start G185end G185sourceStart G185sourceEnd f192 f193 f194 f195 hcb hbb hlb (SC.ext f187.2) hG) hZ (hw _ (List.mem_of_getElem? (i := 69) rfl)) (hw _ (List.mem_of_getElem? (i := 31) rfl)) (by decide) (by decide)) q219a q219c (g := (mkF m 317 #[.val (.int v0), .val (.int v1), .val (.int v2), .val (.int v3), .val (.int v4), .val (.long v5), .second, .val (.int dl), .val (.ref xa), .val (.int (1 : Int32)), .val (.ref xb), .val (.int a2), .val (.int b2), .val (.int c2), .val (.int d2), .val (.ref b123), .val (.ref b157), .val (.int ((((v5.toUInt64 >>> ((5 : Int32) &&& 0x3f).toInt64.toUInt64).toInt64) &&& (3 : Int64)).toInt32)), .val (.int (0 : Int32))] [(.ref b157), (.ref b123)])) rfl (by rw [hml]; rfl) (Steps.refl _) (argsL := [(.ref b157)]) (rest := []) (lenOf pd_3 rfl) rfl (by show 2 * 0 + _ ≤ _; exact Nat.le_of_eq rfl) (hb hby at_317) (fun _ _ => ⟨rfl, e209, (by decide : 0 + 6 + 6 + 1 + 2 + 1 + 2 + 0 + 0 ≤ _), (by decide : 0 + 16 + 16 + 5 + 28 + 5 + 28 + 0 + 0 ≤ _)⟩)
                      dsimp only [Pt.U, Pt.locs, Pt.cells, Pt.slots] at X219 l219 y219 z219 st219 hQ219
                      subst l219 y219 z219
                      obtain ⟨rfl, N219q, e219⟩ := hQ219
                      have N219 := Fr.app N209 N219q
                      refine Ends.st (S' := T219.setTop (mkF m 320 #[.val (.int v0), .val (.int v1), .val (.int v2), .val (.int v3), .val (.int v4), .val (.long v5), .second, .val (.int dl), .val (.ref xa), .val (.int (1 : Int32)), .val (.ref xb), .val (.int a2), .val (.int b2), .val (.int c2), .val (.int d2), .val (.ref b123), .val (.ref b157), .val (.int ((((v5.toUInt64 >>> ((5 : Int32) &&& 0x3f).toInt64.toUInt64).toInt64) &&& (3 : Int64)).toInt32)), .val (.int (0 : Int32))] [(.int (same9 (strs v4 ((v4.toUInt32 >>> ((8 : Int32) &&& 31).toUInt32).toInt32) ((v4.toUInt32 >>> ((16 : Int32) &&& 31).toUInt32).toInt32)) (strs v4 ((v4.toUInt32 >>> ((8 : Int32) &&& 31).toUInt32).toInt32) ((v4.toUInt32 >>> ((16 : Int32) &&& 31).toUInt32).toInt32)) v0 a2 v1 b2 v2 c2 v3 d2))])) (fun _ k => st219.trans k) ?_
                      refine Ends.st (S' := T219.setTop (mkF m 322 #[.val (.int v0), .val (.int v1), .val (.int v2), .val (.int v3), .val (.int v4), .val (.long v5), .second, .val (.int dl), .val (.ref xa), .val (.int (1 : Int32)), .val (.ref xb), .val (.int a2), .val (.int b2), .val (.int c2), .val (.int d2), .val (.ref b123), .val (.ref b157), .val (.int ((((v5.toUInt64 >>> ((5 : Int32) &&& 0x3f).toInt64.toUInt64).toInt64) &&& (3 : Int64)).toInt32)), .val (.int (0 : Int32))] [(.int (0 : Int32)), (.int (same9 (strs v4 ((v4.toUInt32 >>> ((8 : Int32) &&& 31).toUInt32).toInt32) ((v4.toUInt32 >>> ((16 : Int32) &&& 31).toUInt32).toInt32)) (strs v4 ((v4.toUInt32 >>> ((8 : Int32) &&& 31).toUInt32).toInt32) ((v4.toUInt32 >>> ((16 : Int32) &&& 31).toUInt32).toInt32)) v0 a2 v1 b2 v2 c2 v3 d2))])) (fun _ k => XS.iload X219.here hx rfl (hb hby at_320) rfl k) ?_
                      have hb220 : (same9 (strs v4 ((v4.toUInt32 >>> ((8 : Int32) &&& 31).toUInt32).toInt32) ((v4.toUInt32 >>> ((16 : Int32) &&& 31).toUInt32).toInt32)) (strs v4 ((v4.toUInt32 >>> ((8 : Int32) &&& 31).toUInt32).toInt32) ((v4.toUInt32 >>> ((16 : Int32) &&& 31).toUInt32).toInt32)) v0 a2 v1 b2 v2 c2 v3 d2) = (0 : Int32) := if_neg (fun q => hcs209 q.1)
                      refine Ends.st (S' := T219.setTop (mkF m 325 #[.val (.int v0), .val (.int v1), .val (.int v2), .val (.int v3), .val (.int v4), .val (.long v5), .second, .val (.int dl), .val (.ref xa), .val (.int (1 : Int32)), .val (.ref xb), .val (.int a2), .val (.int b2), .val (.int c2), .val (.int d2), .val (.ref b123), .val (.ref b157), .val (.int ((((v5.toUInt64 >>> ((5 : Int32) &&& 0x3f).toInt64.toUInt64).toInt64) &&& (3 : Int64)).toInt32)), .val (.int (0 : Int32))] [])) (fun _ k => XS.icmpNo X219.here hx rfl (hb hby at_322) rfl (teq hb220).2 k) ?_
                      refine Ends.st (S' := T219.setTop (mkF m 327 #[.val (.int v0), .val (.int v1), .val (.int v2), .val (.int v3), .val (.int v4), .val (.long v5), .second, .val (.int dl), .val (.ref xa), .val (.int (1 : Int32)), .val (.ref xb), .val (.int a2), .val (.int b2), .val (.int c2), .val (.int d2), .val (.ref b123), .val (.ref b157), .val (.int ((((v5.toUInt64 >>> ((5 : Int32) &&& 0x3f).toInt64.toUInt64).toInt64) &&& (3 : Int64)).toInt32)), .val (.int (0 : Int32))] [(.ref b157)])) (fun _ k => XS.aload X219.here hx rfl (hb hby at_325) rfl rfl k) ?_
                      refine Ends.st (S' := T219.setTop (mkF m 329 #[.val (.int v0), .val (.int v1), .val (.int v2), .val (.int v3), .val (.int v4), .val (.long v5), .second, .val (.int dl), .val (.ref xa), .val (.int (1 : Int32)), .val (.ref xb), .val (.int a2), .val (.int b2), .val (.int c2), .val (.int d2), .val (.ref b123), .val (.ref b157), .val (.int ((((v5.toUInt64 >>> ((5 : Int32) &&& 0x3f).toInt64.toUInt64).toInt64) &&& (3 : Int64)).toInt32)), .val (.int (0 : Int32))] [(.ref b123), (.ref b157)])) (fun _ k => XS.aload X219.here hx rfl (hb hby at_327) rfl rfl k) ?_
                      obtain ⟨cq221, kq221, q221a, q221b, q221c⟩ := isOf hZ e219 (f202)
                      obtain ⟨_, _, ⟨T221, L221, k221, n221⟩, -, X221, ⟨Lc221, hQ221, l221, y221, z221⟩, st221⟩ := X219.virtualBack hx (y := (⟨"com/example/umpteenth_copy/umpteenthcopy/engine/Passage", "equals", "(Ljava/lang/Object;)Z"⟩ : MethodName)) (z := (⟨"com/example/umpteenth_copy/umpteenthcopy/engine/Passage", "equals", "(Ljava/lang/Object;)Z"⟩ : MethodName)) hown (mvT hZ (hw _ (List.mem_of_getElem? (i := 65) rfl))) (mvT hZ (hw _ (List.mem_of_getElem? (i := 66) rfl))) (notFace_of_selects (args := #[]) (mvT hZ (hw _ (List.mem_of_getElem? (i := 68) rfl)))) (mvT hZ (hw _ (List.mem_of_getElem? (i := 68) rfl))) (mvT hZ (hw _ (List.mem_of_getElem? (i := 67) rfl))) (by decide) (backOf (W := 0) (rm9a l Z a0 hw [] b157 b123 G xb tb kb _ Mb vsb a2 b2 c2 d2 xa ta ka _ Ma vsa v0 v1 v2 v3 T185.heap n0 f186 f196 G185source G185start G185end G185sourceStart G185sourceEnd f192 f193 f194 f195 hcb hbb hlb f197 f198 f199 f200 f201 f188 f189 f190 f191 hca hba hla (SC.ext f187.2) hG) hZ (hw _ (List.mem_of_getElem? (i := 69) rfl)) (hw _ (List.mem_of_getElem? (i := 31) rfl)) (by decide) (by decide)) q221a q221c (g := (mkF m 329 #[.val (.int v0), .val (.int v1), .val (.int v2), .val (.int v3), .val (.int v4), .val (.long v5), .second, .val (.int dl), .val (.ref xa), .val (.int (1 : Int32)), .val (.ref xb), .val (.int a2), .val (.int b2), .val (.int c2), .val (.int d2), .val (.ref b123), .val (.ref b157), .val (.int ((((v5.toUInt64 >>> ((5 : Int32) &&& 0x3f).toInt64.toUInt64).toInt64) &&& (3 : Int64)).toInt32)), .val (.int (0 : Int32))] [(.ref b123), (.ref b157)])) rfl (by rw [hml]; rfl) (Steps.refl _) (argsL := [(.ref b123)]) (rest := []) (lenOf pd_3 rfl) rfl (by show 2 * 0 + _ ≤ _; exact Nat.le_of_eq rfl) (hb hby at_329) (fun _ _ => ⟨rfl, e219, (by decide : 0 + 6 + 6 + 1 + 2 + 1 + 2 + 0 + 0 + 0 ≤ _), (by decide : 0 + 16 + 16 + 5 + 28 + 5 + 28 + 0 + 0 + 0 ≤ _)⟩)
                      dsimp only [Pt.U, Pt.locs, Pt.cells, Pt.slots] at X221 l221 y221 z221 st221 hQ221
                      subst l221 y221 z221
                      obtain ⟨rfl, N221q, e221⟩ := hQ221
                      have N221 := Fr.app N219 N221q
                      refine Ends.st (S' := T221.setTop (mkF m 332 #[.val (.int v0), .val (.int v1), .val (.int v2), .val (.int v3), .val (.int v4), .val (.long v5), .second, .val (.int dl), .val (.ref xa), .val (.int (1 : Int32)), .val (.ref xb), .val (.int a2), .val (.int b2), .val (.int c2), .val (.int d2), .val (.ref b123), .val (.ref b157), .val (.int ((((v5.toUInt64 >>> ((5 : Int32) &&& 0x3f).toInt64.toUInt64).toInt64) &&& (3 : Int64)).toInt32)), .val (.int (0 : Int32))] [(.int (same9 (strs v4 ((v4.toUInt32 >>> ((8 : Int32) &&& 31).toUInt32).toInt32) ((v4.toUInt32 >>> ((16 : Int32) &&& 31).toUInt32).toInt32)) (strs v4 ((v4.toUInt32 >>> ((8 : Int32) &&& 31).toUInt32).toInt32) ((v4.toUInt32 >>> ((16 : Int32) &&& 31).toUInt32).toInt32)) a2 v0 b2 v1 c2 v2 d2 v3))])) (fun _ k => st221.trans k) ?_
                      refine Ends.st (S' := T221.setTop (mkF m 334 #[.val (.int v0), .val (.int v1), .val (.int v2), .val (.int v3), .val (.int v4), .val (.long v5), .second, .val (.int dl), .val (.ref xa), .val (.int (1 : Int32)), .val (.ref xb), .val (.int a2), .val (.int b2), .val (.int c2), .val (.int d2), .val (.ref b123), .val (.ref b157), .val (.int ((((v5.toUInt64 >>> ((5 : Int32) &&& 0x3f).toInt64.toUInt64).toInt64) &&& (3 : Int64)).toInt32)), .val (.int (0 : Int32))] [(.int (0 : Int32)), (.int (same9 (strs v4 ((v4.toUInt32 >>> ((8 : Int32) &&& 31).toUInt32).toInt32) ((v4.toUInt32 >>> ((16 : Int32) &&& 31).toUInt32).toInt32)) (strs v4 ((v4.toUInt32 >>> ((8 : Int32) &&& 31).toUInt32).toInt32) ((v4.toUInt32 >>> ((16 : Int32) &&& 31).toUInt32).toInt32)) a2 v0 b2 v1 c2 v2 d2 v3))])) (fun _ k => XS.iload X221.here hx rfl (hb hby at_332) rfl k) ?_
                      have hb222 : (same9 (strs v4 ((v4.toUInt32 >>> ((8 : Int32) &&& 31).toUInt32).toInt32) ((v4.toUInt32 >>> ((16 : Int32) &&& 31).toUInt32).toInt32)) (strs v4 ((v4.toUInt32 >>> ((8 : Int32) &&& 31).toUInt32).toInt32) ((v4.toUInt32 >>> ((16 : Int32) &&& 31).toUInt32).toInt32)) a2 v0 b2 v1 c2 v2 d2 v3) = (0 : Int32) := if_neg (fun q => hcs209 q.1.symm)
                      refine Ends.st (S' := T221.setTop (mkF m 337 #[.val (.int v0), .val (.int v1), .val (.int v2), .val (.int v3), .val (.int v4), .val (.long v5), .second, .val (.int dl), .val (.ref xa), .val (.int (1 : Int32)), .val (.ref xb), .val (.int a2), .val (.int b2), .val (.int c2), .val (.int d2), .val (.ref b123), .val (.ref b157), .val (.int ((((v5.toUInt64 >>> ((5 : Int32) &&& 0x3f).toInt64.toUInt64).toInt64) &&& (3 : Int64)).toInt32)), .val (.int (0 : Int32))] [])) (fun _ k => XS.icmpNo X221.here hx rfl (hb hby at_334) rfl (teq hb222).2 k) ?_
                      refine Ends.st (S' := T221.setTop (mkF m 338 #[.val (.int v0), .val (.int v1), .val (.int v2), .val (.int v3), .val (.int v4), .val (.long v5), .second, .val (.int dl), .val (.ref xa), .val (.int (1 : Int32)), .val (.ref xb), .val (.int a2), .val (.int b2), .val (.int c2), .val (.int d2), .val (.ref b123), .val (.ref b157), .val (.int ((((v5.toUInt64 >>> ((5 : Int32) &&& 0x3f).toInt64.toUInt64).toInt64) &&& (3 : Int64)).toInt32)), .val (.int (0 : Int32))] [(.int (1 : Int32))])) (fun _ k => XS.iconst X221.here hx rfl (hb hby at_337) k) ?_
                      refine Ends.st (S' := T221.setTop (mkF m 342 #[.val (.int v0), .val (.int v1), .val (.int v2), .val (.int v3), .val (.int v4), .val (.long v5), .second, .val (.int dl), .val (.ref xa), .val (.int (1 : Int32)), .val (.ref xb), .val (.int a2), .val (.int b2), .val (.int c2), .val (.int d2), .val (.ref b123), .val (.ref b157), .val (.int ((((v5.toUInt64 >>> ((5 : Int32) &&& 0x3f).toInt64.toUInt64).toInt64) &&& (3 : Int64)).toInt32)), .val (.int (0 : Int32))] [(.int (1 : Int32))])) (fun _ k => XS.goto X221.here hx rfl (pc0 := 338) (pc' := 342) rfl (hb hby at_338) (by decide) (by decide) k) ?_
                      obtain ⟨fs, hr, hrun, hended, hRW⟩ := Stand.leaveW (s := s) (vm₁ := T185.vm) X221 hS185 (Nat.le_trans (Nat.le_refl T185.heap.size) (Nat.le_of_eq (congrArg Array.size (Eq.symm e221)))) (v := some (.int (1 : Int32))) (fun h => by rw [Bd.returns] at h; cases h)
                      exact ⟨_, _, retN X221 hx (t := .boolean) Bd.returns (by simp) (hb hby at_342) hr, hrun, hended, _, _, rfl, (by show Q0 Z  h0 n0 _ T221.heap _; rw [e221]; exact ⟨rfl, N221⟩), hRW.1, hRW.2.1, hRW.2.2.1, hRW.2.2.2.mono (by decide) (by decide)⟩
            refine Ends.st (S' := T116.setTop (mkF m 160 #[.val (.int v0), .val (.int v1), .val (.int v2), .val (.int v3), .val (.int v4), .val (.long v5), .second, .val (.int dl), .val (.ref xa), .val (.int (1 : Int32)), .val (.ref xb), .val (.int a2), .val (.int b2), .val (.int c2), .unset, .unset, .unset, .unset, .unset] [(.long v5)])) (fun _ k => XS.lload X116.here hx rfl (hb hby at_158) rfl k) ?_
            refine Ends.st (S' := T116.setTop (mkF m 163 #[.val (.int v0), .val (.int v1), .val (.int v2), .val (.int v3), .val (.int v4), .val (.long v5), .second, .val (.int dl), .val (.ref xa), .val (.int (1 : Int32)), .val (.ref xb), .val (.int a2), .val (.int b2), .val (.int c2), .unset, .unset, .unset, .unset, .unset] [(.long (8 : Int64)), (.long v5)])) (fun _ k => X116.ldc2Long hx hown (mvT hZ (hw _ (List.mem_of_getElem? (i := 28) rfl))) (g := (mkF m 160 #[.val (.int v0), .val (.int v1), .val (.int v2), .val (.int v3), .val (.int v4), .val (.long v5), .second, .val (.int dl), .val (.ref xa), .val (.int (1 : Int32)), .val (.ref xb), .val (.int a2), .val (.int b2), .val (.int c2), .unset, .unset, .unset, .unset, .unset] [(.long v5)])) rfl (hb hby at_160) _ k) ?_
            refine Ends.st (S' := T116.setTop (mkF m 164 #[.val (.int v0), .val (.int v1), .val (.int v2), .val (.int v3), .val (.int v4), .val (.long v5), .second, .val (.int dl), .val (.ref xa), .val (.int (1 : Int32)), .val (.ref xb), .val (.int a2), .val (.int b2), .val (.int c2), .unset, .unset, .unset, .unset, .unset] [(.long (v5 &&& (8 : Int64)))])) (fun _ k => XS.land X116.here hx rfl (hb hby at_163) rfl k) ?_
            refine Ends.st (S' := T116.setTop (mkF m 165 #[.val (.int v0), .val (.int v1), .val (.int v2), .val (.int v3), .val (.int v4), .val (.long v5), .second, .val (.int dl), .val (.ref xa), .val (.int (1 : Int32)), .val (.ref xb), .val (.int a2), .val (.int b2), .val (.int c2), .unset, .unset, .unset, .unset, .unset] [(.long (0 : Int64)), (.long (v5 &&& (8 : Int64)))])) (fun _ k => XS.lconst X116.here hx rfl (hb hby at_164) k) ?_
            refine Ends.st (S' := T116.setTop (mkF m 166 #[.val (.int v0), .val (.int v1), .val (.int v2), .val (.int v3), .val (.int v4), .val (.long v5), .second, .val (.int dl), .val (.ref xa), .val (.int (1 : Int32)), .val (.ref xb), .val (.int a2), .val (.int b2), .val (.int c2), .unset, .unset, .unset, .unset, .unset] [(.int (lcmpW (v5 &&& (8 : Int64)) (0 : Int64)))])) (fun _ k => XS.lcmp X116.here hx rfl (hb hby at_165) rfl k) ?_
            by_cases hc223 : (lcmpW (v5 &&& (8 : Int64)) (0 : Int64)) = (0 : Int32)
            · refine Ends.st (S' := T116.setTop (mkF m 176 #[.val (.int v0), .val (.int v1), .val (.int v2), .val (.int v3), .val (.int v4), .val (.long v5), .second, .val (.int dl), .val (.ref xa), .val (.int (1 : Int32)), .val (.ref xb), .val (.int a2), .val (.int b2), .val (.int c2), .unset, .unset, .unset, .unset, .unset] [])) (fun _ k => XS.ifYes X116.here hx rfl (pc0 := 166) (pc' := 176) rfl (hb hby at_166) rfl ((if0 _ _).trans (teq hc223).1) (by decide) (by decide) k) ?_
              refine Ends.st (S' := T116.setTop (mkF m 177 #[.val (.int v0), .val (.int v1), .val (.int v2), .val (.int v3), .val (.int v4), .val (.long v5), .second, .val (.int dl), .val (.ref xa), .val (.int (1 : Int32)), .val (.ref xb), .val (.int a2), .val (.int b2), .val (.int c2), .unset, .unset, .unset, .unset, .unset] [(.int v3)])) (fun _ k => XS.iloadN X116.here hx rfl (hb hby at_176) rfl k) ?_
              refine Ends.st (S' := T116.setTop (mkF m 179 #[.val (.int v0), .val (.int v1), .val (.int v2), .val (.int v3), .val (.int v4), .val (.long v5), .second, .val (.int dl), .val (.ref xa), .val (.int (1 : Int32)), .val (.ref xb), .val (.int a2), .val (.int b2), .val (.int c2), .val (.int v3), .unset, .unset, .unset, .unset] [])) (fun _ k => XS.istore X116.here hx rfl (hb hby at_177) rfl (l' := #[.val (.int v0), .val (.int v1), .val (.int v2), .val (.int v3), .val (.int v4), .val (.long v5), .second, .val (.int dl), .val (.ref xa), .val (.int (1 : Int32)), .val (.ref xb), .val (.int a2), .val (.int b2), .val (.int c2), .val (.int v3), .unset, .unset, .unset, .unset]) rfl k) ?_
              exact j179 _ ⟨fun _ => hc223, fun _ => rfl⟩
            · refine Ends.st (S' := T116.setTop (mkF m 169 #[.val (.int v0), .val (.int v1), .val (.int v2), .val (.int v3), .val (.int v4), .val (.long v5), .second, .val (.int dl), .val (.ref xa), .val (.int (1 : Int32)), .val (.ref xb), .val (.int a2), .val (.int b2), .val (.int c2), .unset, .unset, .unset, .unset, .unset] [])) (fun _ k => XS.ifNo X116.here hx rfl (hb hby at_166) rfl ((if0 _ _).trans (feq hc223).1) k) ?_
              refine Ends.st (S' := T116.setTop (mkF m 170 #[.val (.int v0), .val (.int v1), .val (.int v2), .val (.int v3), .val (.int v4), .val (.long v5), .second, .val (.int dl), .val (.ref xa), .val (.int (1 : Int32)), .val (.ref xb), .val (.int a2), .val (.int b2), .val (.int c2), .unset, .unset, .unset, .unset, .unset] [(.int v3)])) (fun _ k => XS.iloadN X116.here hx rfl (hb hby at_169) rfl k) ?_
              refine Ends.st (S' := T116.setTop (mkF m 172 #[.val (.int v0), .val (.int v1), .val (.int v2), .val (.int v3), .val (.int v4), .val (.long v5), .second, .val (.int dl), .val (.ref xa), .val (.int (1 : Int32)), .val (.ref xb), .val (.int a2), .val (.int b2), .val (.int c2), .unset, .unset, .unset, .unset, .unset] [(.int dl), (.int v3)])) (fun _ k => XS.iload X116.here hx rfl (hb hby at_170) rfl k) ?_
              refine Ends.st (S' := T116.setTop (mkF m 173 #[.val (.int v0), .val (.int v1), .val (.int v2), .val (.int v3), .val (.int v4), .val (.long v5), .second, .val (.int dl), .val (.ref xa), .val (.int (1 : Int32)), .val (.ref xb), .val (.int a2), .val (.int b2), .val (.int c2), .unset, .unset, .unset, .unset, .unset] [(.int (v3 + dl))])) (fun _ k => XS.iadd X116.here hx rfl (hb hby at_172) rfl k) ?_
              refine Ends.st (S' := T116.setTop (mkF m 177 #[.val (.int v0), .val (.int v1), .val (.int v2), .val (.int v3), .val (.int v4), .val (.long v5), .second, .val (.int dl), .val (.ref xa), .val (.int (1 : Int32)), .val (.ref xb), .val (.int a2), .val (.int b2), .val (.int c2), .unset, .unset, .unset, .unset, .unset] [(.int (v3 + dl))])) (fun _ k => XS.goto X116.here hx rfl (pc0 := 173) (pc' := 177) rfl (hb hby at_173) (by decide) (by decide) k) ?_
              refine Ends.st (S' := T116.setTop (mkF m 179 #[.val (.int v0), .val (.int v1), .val (.int v2), .val (.int v3), .val (.int v4), .val (.long v5), .second, .val (.int dl), .val (.ref xa), .val (.int (1 : Int32)), .val (.ref xb), .val (.int a2), .val (.int b2), .val (.int c2), .val (.int (v3 + dl)), .unset, .unset, .unset, .unset] [])) (fun _ k => XS.istore X116.here hx rfl (hb hby at_177) rfl (l' := #[.val (.int v0), .val (.int v1), .val (.int v2), .val (.int v3), .val (.int v4), .val (.long v5), .second, .val (.int dl), .val (.ref xa), .val (.int (1 : Int32)), .val (.ref xb), .val (.int a2), .val (.int b2), .val (.int c2), .val (.int (v3 + dl)), .unset, .unset, .unset, .unset]) rfl k) ?_
              exact j179 _ ⟨fun q => absurd q (own_ne hdl), fun q => absurd q hc223⟩
          refine Ends.st (S' := T116.setTop (mkF m 139 #[.val (.int v0), .val (.int v1), .val (.int v2), .val (.int v3), .val (.int v4), .val (.long v5), .second, .val (.int dl), .val (.ref xa), .val (.int (1 : Int32)), .val (.ref xb), .val (.int a2), .val (.int b2), .unset, .unset, .unset, .unset, .unset, .unset] [(.long v5)])) (fun _ k => XS.lload X116.here hx rfl (hb hby at_137) rfl k) ?_
          refine Ends.st (S' := T116.setTop (mkF m 142 #[.val (.int v0), .val (.int v1), .val (.int v2), .val (.int v3), .val (.int v4), .val (.long v5), .second, .val (.int dl), .val (.ref xa), .val (.int (1 : Int32)), .val (.ref xb), .val (.int a2), .val (.int b2), .unset, .unset, .unset, .unset, .unset, .unset] [(.long (4 : Int64)), (.long v5)])) (fun _ k => X116.ldc2Long hx hown (mvT hZ (hw _ (List.mem_of_getElem? (i := 27) rfl))) (g := (mkF m 139 #[.val (.int v0), .val (.int v1), .val (.int v2), .val (.int v3), .val (.int v4), .val (.long v5), .second, .val (.int dl), .val (.ref xa), .val (.int (1 : Int32)), .val (.ref xb), .val (.int a2), .val (.int b2), .unset, .unset, .unset, .unset, .unset, .unset] [(.long v5)])) rfl (hb hby at_139) _ k) ?_
          refine Ends.st (S' := T116.setTop (mkF m 143 #[.val (.int v0), .val (.int v1), .val (.int v2), .val (.int v3), .val (.int v4), .val (.long v5), .second, .val (.int dl), .val (.ref xa), .val (.int (1 : Int32)), .val (.ref xb), .val (.int a2), .val (.int b2), .unset, .unset, .unset, .unset, .unset, .unset] [(.long (v5 &&& (4 : Int64)))])) (fun _ k => XS.land X116.here hx rfl (hb hby at_142) rfl k) ?_
          refine Ends.st (S' := T116.setTop (mkF m 144 #[.val (.int v0), .val (.int v1), .val (.int v2), .val (.int v3), .val (.int v4), .val (.long v5), .second, .val (.int dl), .val (.ref xa), .val (.int (1 : Int32)), .val (.ref xb), .val (.int a2), .val (.int b2), .unset, .unset, .unset, .unset, .unset, .unset] [(.long (0 : Int64)), (.long (v5 &&& (4 : Int64)))])) (fun _ k => XS.lconst X116.here hx rfl (hb hby at_143) k) ?_
          refine Ends.st (S' := T116.setTop (mkF m 145 #[.val (.int v0), .val (.int v1), .val (.int v2), .val (.int v3), .val (.int v4), .val (.long v5), .second, .val (.int dl), .val (.ref xa), .val (.int (1 : Int32)), .val (.ref xb), .val (.int a2), .val (.int b2), .unset, .unset, .unset, .unset, .unset, .unset] [(.int (lcmpW (v5 &&& (4 : Int64)) (0 : Int64)))])) (fun _ k => XS.lcmp X116.here hx rfl (hb hby at_144) rfl k) ?_
          by_cases hc224 : (lcmpW (v5 &&& (4 : Int64)) (0 : Int64)) = (0 : Int32)
          · refine Ends.st (S' := T116.setTop (mkF m 155 #[.val (.int v0), .val (.int v1), .val (.int v2), .val (.int v3), .val (.int v4), .val (.long v5), .second, .val (.int dl), .val (.ref xa), .val (.int (1 : Int32)), .val (.ref xb), .val (.int a2), .val (.int b2), .unset, .unset, .unset, .unset, .unset, .unset] [])) (fun _ k => XS.ifYes X116.here hx rfl (pc0 := 145) (pc' := 155) rfl (hb hby at_145) rfl ((if0 _ _).trans (teq hc224).1) (by decide) (by decide) k) ?_
            refine Ends.st (S' := T116.setTop (mkF m 156 #[.val (.int v0), .val (.int v1), .val (.int v2), .val (.int v3), .val (.int v4), .val (.long v5), .second, .val (.int dl), .val (.ref xa), .val (.int (1 : Int32)), .val (.ref xb), .val (.int a2), .val (.int b2), .unset, .unset, .unset, .unset, .unset, .unset] [(.int v2)])) (fun _ k => XS.iloadN X116.here hx rfl (hb hby at_155) rfl k) ?_
            refine Ends.st (S' := T116.setTop (mkF m 158 #[.val (.int v0), .val (.int v1), .val (.int v2), .val (.int v3), .val (.int v4), .val (.long v5), .second, .val (.int dl), .val (.ref xa), .val (.int (1 : Int32)), .val (.ref xb), .val (.int a2), .val (.int b2), .val (.int v2), .unset, .unset, .unset, .unset, .unset] [])) (fun _ k => XS.istore X116.here hx rfl (hb hby at_156) rfl (l' := #[.val (.int v0), .val (.int v1), .val (.int v2), .val (.int v3), .val (.int v4), .val (.long v5), .second, .val (.int dl), .val (.ref xa), .val (.int (1 : Int32)), .val (.ref xb), .val (.int a2), .val (.int b2), .val (.int v2), .unset, .unset, .unset, .unset, .unset]) rfl k) ?_
            exact j158 _ ⟨fun _ => hc224, fun _ => rfl⟩
          · refine Ends.st (S' := T116.setTop (mkF m 148 #[.val (.int v0), .val (.int v1), .val (.int v2), .val (.int v3), .val (.int v4), .val (.long v5), .second, .val (.int dl), .val (.ref xa), .val (.int (1 : Int32)), .val (.ref xb), .val (.int a2), .val (.int b2), .unset, .unset, .unset, .unset, .unset, .unset] [])) (fun _ k => XS.ifNo X116.here hx rfl (hb hby at_145) rfl ((if0 _ _).trans (feq hc224).1) k) ?_
            refine Ends.st (S' := T116.setTop (mkF m 149 #[.val (.int v0), .val (.int v1), .val (.int v2), .val (.int v3), .val (.int v4), .val (.long v5), .second, .val (.int dl), .val (.ref xa), .val (.int (1 : Int32)), .val (.ref xb), .val (.int a2), .val (.int b2), .unset, .unset, .unset, .unset, .unset, .unset] [(.int v2)])) (fun _ k => XS.iloadN X116.here hx rfl (hb hby at_148) rfl k) ?_
            refine Ends.st (S' := T116.setTop (mkF m 151 #[.val (.int v0), .val (.int v1), .val (.int v2), .val (.int v3), .val (.int v4), .val (.long v5), .second, .val (.int dl), .val (.ref xa), .val (.int (1 : Int32)), .val (.ref xb), .val (.int a2), .val (.int b2), .unset, .unset, .unset, .unset, .unset, .unset] [(.int dl), (.int v2)])) (fun _ k => XS.iload X116.here hx rfl (hb hby at_149) rfl k) ?_
            refine Ends.st (S' := T116.setTop (mkF m 152 #[.val (.int v0), .val (.int v1), .val (.int v2), .val (.int v3), .val (.int v4), .val (.long v5), .second, .val (.int dl), .val (.ref xa), .val (.int (1 : Int32)), .val (.ref xb), .val (.int a2), .val (.int b2), .unset, .unset, .unset, .unset, .unset, .unset] [(.int (v2 + dl))])) (fun _ k => XS.iadd X116.here hx rfl (hb hby at_151) rfl k) ?_
            refine Ends.st (S' := T116.setTop (mkF m 156 #[.val (.int v0), .val (.int v1), .val (.int v2), .val (.int v3), .val (.int v4), .val (.long v5), .second, .val (.int dl), .val (.ref xa), .val (.int (1 : Int32)), .val (.ref xb), .val (.int a2), .val (.int b2), .unset, .unset, .unset, .unset, .unset, .unset] [(.int (v2 + dl))])) (fun _ k => XS.goto X116.here hx rfl (pc0 := 152) (pc' := 156) rfl (hb hby at_152) (by decide) (by decide) k) ?_
            refine Ends.st (S' := T116.setTop (mkF m 158 #[.val (.int v0), .val (.int v1), .val (.int v2), .val (.int v3), .val (.int v4), .val (.long v5), .second, .val (.int dl), .val (.ref xa), .val (.int (1 : Int32)), .val (.ref xb), .val (.int a2), .val (.int b2), .val (.int (v2 + dl)), .unset, .unset, .unset, .unset, .unset] [])) (fun _ k => XS.istore X116.here hx rfl (hb hby at_156) rfl (l' := #[.val (.int v0), .val (.int v1), .val (.int v2), .val (.int v3), .val (.int v4), .val (.long v5), .second, .val (.int dl), .val (.ref xa), .val (.int (1 : Int32)), .val (.ref xb), .val (.int a2), .val (.int b2), .val (.int (v2 + dl)), .unset, .unset, .unset, .unset, .unset]) rfl k) ?_
            exact j158 _ ⟨fun q => absurd q (own_ne hdl), fun q => absurd q hc224⟩
        refine Ends.st (S' := T116.setTop (mkF m 118 #[.val (.int v0), .val (.int v1), .val (.int v2), .val (.int v3), .val (.int v4), .val (.long v5), .second, .val (.int dl), .val (.ref xa), .val (.int (1 : Int32)), .val (.ref xb), .val (.int a2), .unset, .unset, .unset, .unset, .unset, .unset, .unset] [(.long v5)])) (fun _ k => XS.lload X116.here hx rfl (hb hby at_116) rfl k) ?_
        refine Ends.st (S' := T116.setTop (mkF m 121 #[.val (.int v0), .val (.int v1), .val (.int v2), .val (.int v3), .val (.int v4), .val (.long v5), .second, .val (.int dl), .val (.ref xa), .val (.int (1 : Int32)), .val (.ref xb), .val (.int a2), .unset, .unset, .unset, .unset, .unset, .unset, .unset] [(.long (2 : Int64)), (.long v5)])) (fun _ k => X116.ldc2Long hx hown (mvT hZ (hw _ (List.mem_of_getElem? (i := 26) rfl))) (g := (mkF m 118 #[.val (.int v0), .val (.int v1), .val (.int v2), .val (.int v3), .val (.int v4), .val (.long v5), .second, .val (.int dl), .val (.ref xa), .val (.int (1 : Int32)), .val (.ref xb), .val (.int a2), .unset, .unset, .unset, .unset, .unset, .unset, .unset] [(.long v5)])) rfl (hb hby at_118) _ k) ?_
        refine Ends.st (S' := T116.setTop (mkF m 122 #[.val (.int v0), .val (.int v1), .val (.int v2), .val (.int v3), .val (.int v4), .val (.long v5), .second, .val (.int dl), .val (.ref xa), .val (.int (1 : Int32)), .val (.ref xb), .val (.int a2), .unset, .unset, .unset, .unset, .unset, .unset, .unset] [(.long (v5 &&& (2 : Int64)))])) (fun _ k => XS.land X116.here hx rfl (hb hby at_121) rfl k) ?_
        refine Ends.st (S' := T116.setTop (mkF m 123 #[.val (.int v0), .val (.int v1), .val (.int v2), .val (.int v3), .val (.int v4), .val (.long v5), .second, .val (.int dl), .val (.ref xa), .val (.int (1 : Int32)), .val (.ref xb), .val (.int a2), .unset, .unset, .unset, .unset, .unset, .unset, .unset] [(.long (0 : Int64)), (.long (v5 &&& (2 : Int64)))])) (fun _ k => XS.lconst X116.here hx rfl (hb hby at_122) k) ?_
        refine Ends.st (S' := T116.setTop (mkF m 124 #[.val (.int v0), .val (.int v1), .val (.int v2), .val (.int v3), .val (.int v4), .val (.long v5), .second, .val (.int dl), .val (.ref xa), .val (.int (1 : Int32)), .val (.ref xb), .val (.int a2), .unset, .unset, .unset, .unset, .unset, .unset, .unset] [(.int (lcmpW (v5 &&& (2 : Int64)) (0 : Int64)))])) (fun _ k => XS.lcmp X116.here hx rfl (hb hby at_123) rfl k) ?_
        by_cases hc225 : (lcmpW (v5 &&& (2 : Int64)) (0 : Int64)) = (0 : Int32)
        · refine Ends.st (S' := T116.setTop (mkF m 134 #[.val (.int v0), .val (.int v1), .val (.int v2), .val (.int v3), .val (.int v4), .val (.long v5), .second, .val (.int dl), .val (.ref xa), .val (.int (1 : Int32)), .val (.ref xb), .val (.int a2), .unset, .unset, .unset, .unset, .unset, .unset, .unset] [])) (fun _ k => XS.ifYes X116.here hx rfl (pc0 := 124) (pc' := 134) rfl (hb hby at_124) rfl ((if0 _ _).trans (teq hc225).1) (by decide) (by decide) k) ?_
          refine Ends.st (S' := T116.setTop (mkF m 135 #[.val (.int v0), .val (.int v1), .val (.int v2), .val (.int v3), .val (.int v4), .val (.long v5), .second, .val (.int dl), .val (.ref xa), .val (.int (1 : Int32)), .val (.ref xb), .val (.int a2), .unset, .unset, .unset, .unset, .unset, .unset, .unset] [(.int v1)])) (fun _ k => XS.iloadN X116.here hx rfl (hb hby at_134) rfl k) ?_
          refine Ends.st (S' := T116.setTop (mkF m 137 #[.val (.int v0), .val (.int v1), .val (.int v2), .val (.int v3), .val (.int v4), .val (.long v5), .second, .val (.int dl), .val (.ref xa), .val (.int (1 : Int32)), .val (.ref xb), .val (.int a2), .val (.int v1), .unset, .unset, .unset, .unset, .unset, .unset] [])) (fun _ k => XS.istore X116.here hx rfl (hb hby at_135) rfl (l' := #[.val (.int v0), .val (.int v1), .val (.int v2), .val (.int v3), .val (.int v4), .val (.long v5), .second, .val (.int dl), .val (.ref xa), .val (.int (1 : Int32)), .val (.ref xb), .val (.int a2), .val (.int v1), .unset, .unset, .unset, .unset, .unset, .unset]) rfl k) ?_
          exact j137 _ ⟨fun _ => hc225, fun _ => rfl⟩
        · refine Ends.st (S' := T116.setTop (mkF m 127 #[.val (.int v0), .val (.int v1), .val (.int v2), .val (.int v3), .val (.int v4), .val (.long v5), .second, .val (.int dl), .val (.ref xa), .val (.int (1 : Int32)), .val (.ref xb), .val (.int a2), .unset, .unset, .unset, .unset, .unset, .unset, .unset] [])) (fun _ k => XS.ifNo X116.here hx rfl (hb hby at_124) rfl ((if0 _ _).trans (feq hc225).1) k) ?_
          refine Ends.st (S' := T116.setTop (mkF m 128 #[.val (.int v0), .val (.int v1), .val (.int v2), .val (.int v3), .val (.int v4), .val (.long v5), .second, .val (.int dl), .val (.ref xa), .val (.int (1 : Int32)), .val (.ref xb), .val (.int a2), .unset, .unset, .unset, .unset, .unset, .unset, .unset] [(.int v1)])) (fun _ k => XS.iloadN X116.here hx rfl (hb hby at_127) rfl k) ?_
          refine Ends.st (S' := T116.setTop (mkF m 130 #[.val (.int v0), .val (.int v1), .val (.int v2), .val (.int v3), .val (.int v4), .val (.long v5), .second, .val (.int dl), .val (.ref xa), .val (.int (1 : Int32)), .val (.ref xb), .val (.int a2), .unset, .unset, .unset, .unset, .unset, .unset, .unset] [(.int dl), (.int v1)])) (fun _ k => XS.iload X116.here hx rfl (hb hby at_128) rfl k) ?_
          refine Ends.st (S' := T116.setTop (mkF m 131 #[.val (.int v0), .val (.int v1), .val (.int v2), .val (.int v3), .val (.int v4), .val (.long v5), .second, .val (.int dl), .val (.ref xa), .val (.int (1 : Int32)), .val (.ref xb), .val (.int a2), .unset, .unset, .unset, .unset, .unset, .unset, .unset] [(.int (v1 + dl))])) (fun _ k => XS.iadd X116.here hx rfl (hb hby at_130) rfl k) ?_
          refine Ends.st (S' := T116.setTop (mkF m 135 #[.val (.int v0), .val (.int v1), .val (.int v2), .val (.int v3), .val (.int v4), .val (.long v5), .second, .val (.int dl), .val (.ref xa), .val (.int (1 : Int32)), .val (.ref xb), .val (.int a2), .unset, .unset, .unset, .unset, .unset, .unset, .unset] [(.int (v1 + dl))])) (fun _ k => XS.goto X116.here hx rfl (pc0 := 131) (pc' := 135) rfl (hb hby at_131) (by decide) (by decide) k) ?_
          refine Ends.st (S' := T116.setTop (mkF m 137 #[.val (.int v0), .val (.int v1), .val (.int v2), .val (.int v3), .val (.int v4), .val (.long v5), .second, .val (.int dl), .val (.ref xa), .val (.int (1 : Int32)), .val (.ref xb), .val (.int a2), .val (.int (v1 + dl)), .unset, .unset, .unset, .unset, .unset, .unset] [])) (fun _ k => XS.istore X116.here hx rfl (hb hby at_135) rfl (l' := #[.val (.int v0), .val (.int v1), .val (.int v2), .val (.int v3), .val (.int v4), .val (.long v5), .second, .val (.int dl), .val (.ref xa), .val (.int (1 : Int32)), .val (.ref xb), .val (.int a2), .val (.int (v1 + dl)), .unset, .unset, .unset, .unset, .unset, .unset]) rfl k) ?_
          exact j137 _ ⟨fun q => absurd q (own_ne hdl), fun q => absurd q hc225⟩
      refine Ends.st (S' := T116.setTop (mkF m 99 #[.val (.int v0), .val (.int v1), .val (.int v2), .val (.int v3), .val (.int v4), .val (.long v5), .second, .val (.int dl), .val (.ref xa), .val (.int (1 : Int32)), .val (.ref xb), .unset, .unset, .unset, .unset, .unset, .unset, .unset, .unset] [(.long v5)])) (fun _ k => XS.lload X116.here hx rfl (hb hby at_97) rfl k) ?_
      refine Ends.st (S' := T116.setTop (mkF m 100 #[.val (.int v0), .val (.int v1), .val (.int v2), .val (.int v3), .val (.int v4), .val (.long v5), .second, .val (.int dl), .val (.ref xa), .val (.int (1 : Int32)), .val (.ref xb), .unset, .unset, .unset, .unset, .unset, .unset, .unset, .unset] [(.long (1 : Int64)), (.long v5)])) (fun _ k => XS.lconst X116.here hx rfl (hb hby at_99) k) ?_
      refine Ends.st (S' := T116.setTop (mkF m 101 #[.val (.int v0), .val (.int v1), .val (.int v2), .val (.int v3), .val (.int v4), .val (.long v5), .second, .val (.int dl), .val (.ref xa), .val (.int (1 : Int32)), .val (.ref xb), .unset, .unset, .unset, .unset, .unset, .unset, .unset, .unset] [(.long (v5 &&& (1 : Int64)))])) (fun _ k => XS.land X116.here hx rfl (hb hby at_100) rfl k) ?_
      refine Ends.st (S' := T116.setTop (mkF m 102 #[.val (.int v0), .val (.int v1), .val (.int v2), .val (.int v3), .val (.int v4), .val (.long v5), .second, .val (.int dl), .val (.ref xa), .val (.int (1 : Int32)), .val (.ref xb), .unset, .unset, .unset, .unset, .unset, .unset, .unset, .unset] [(.long (0 : Int64)), (.long (v5 &&& (1 : Int64)))])) (fun _ k => XS.lconst X116.here hx rfl (hb hby at_101) k) ?_
      refine Ends.st (S' := T116.setTop (mkF m 103 #[.val (.int v0), .val (.int v1), .val (.int v2), .val (.int v3), .val (.int v4), .val (.long v5), .second, .val (.int dl), .val (.ref xa), .val (.int (1 : Int32)), .val (.ref xb), .unset, .unset, .unset, .unset, .unset, .unset, .unset, .unset] [(.int (lcmpW (v5 &&& (1 : Int64)) (0 : Int64)))])) (fun _ k => XS.lcmp X116.here hx rfl (hb hby at_102) rfl k) ?_
      by_cases hc226 : (lcmpW (v5 &&& (1 : Int64)) (0 : Int64)) = (0 : Int32)
      · refine Ends.st (S' := T116.setTop (mkF m 113 #[.val (.int v0), .val (.int v1), .val (.int v2), .val (.int v3), .val (.int v4), .val (.long v5), .second, .val (.int dl), .val (.ref xa), .val (.int (1 : Int32)), .val (.ref xb), .unset, .unset, .unset, .unset, .unset, .unset, .unset, .unset] [])) (fun _ k => XS.ifYes X116.here hx rfl (pc0 := 103) (pc' := 113) rfl (hb hby at_103) rfl ((if0 _ _).trans (teq hc226).1) (by decide) (by decide) k) ?_
        refine Ends.st (S' := T116.setTop (mkF m 114 #[.val (.int v0), .val (.int v1), .val (.int v2), .val (.int v3), .val (.int v4), .val (.long v5), .second, .val (.int dl), .val (.ref xa), .val (.int (1 : Int32)), .val (.ref xb), .unset, .unset, .unset, .unset, .unset, .unset, .unset, .unset] [(.int v0)])) (fun _ k => XS.iloadN X116.here hx rfl (hb hby at_113) rfl k) ?_
        refine Ends.st (S' := T116.setTop (mkF m 116 #[.val (.int v0), .val (.int v1), .val (.int v2), .val (.int v3), .val (.int v4), .val (.long v5), .second, .val (.int dl), .val (.ref xa), .val (.int (1 : Int32)), .val (.ref xb), .val (.int v0), .unset, .unset, .unset, .unset, .unset, .unset, .unset] [])) (fun _ k => XS.istore X116.here hx rfl (hb hby at_114) rfl (l' := #[.val (.int v0), .val (.int v1), .val (.int v2), .val (.int v3), .val (.int v4), .val (.long v5), .second, .val (.int dl), .val (.ref xa), .val (.int (1 : Int32)), .val (.ref xb), .val (.int v0), .unset, .unset, .unset, .unset, .unset, .unset, .unset]) rfl k) ?_
        exact j116 _ ⟨fun _ => hc226, fun _ => rfl⟩
      · refine Ends.st (S' := T116.setTop (mkF m 106 #[.val (.int v0), .val (.int v1), .val (.int v2), .val (.int v3), .val (.int v4), .val (.long v5), .second, .val (.int dl), .val (.ref xa), .val (.int (1 : Int32)), .val (.ref xb), .unset, .unset, .unset, .unset, .unset, .unset, .unset, .unset] [])) (fun _ k => XS.ifNo X116.here hx rfl (hb hby at_103) rfl ((if0 _ _).trans (feq hc226).1) k) ?_
        refine Ends.st (S' := T116.setTop (mkF m 107 #[.val (.int v0), .val (.int v1), .val (.int v2), .val (.int v3), .val (.int v4), .val (.long v5), .second, .val (.int dl), .val (.ref xa), .val (.int (1 : Int32)), .val (.ref xb), .unset, .unset, .unset, .unset, .unset, .unset, .unset, .unset] [(.int v0)])) (fun _ k => XS.iloadN X116.here hx rfl (hb hby at_106) rfl k) ?_
        refine Ends.st (S' := T116.setTop (mkF m 109 #[.val (.int v0), .val (.int v1), .val (.int v2), .val (.int v3), .val (.int v4), .val (.long v5), .second, .val (.int dl), .val (.ref xa), .val (.int (1 : Int32)), .val (.ref xb), .unset, .unset, .unset, .unset, .unset, .unset, .unset, .unset] [(.int dl), (.int v0)])) (fun _ k => XS.iload X116.here hx rfl (hb hby at_107) rfl k) ?_
        refine Ends.st (S' := T116.setTop (mkF m 110 #[.val (.int v0), .val (.int v1), .val (.int v2), .val (.int v3), .val (.int v4), .val (.long v5), .second, .val (.int dl), .val (.ref xa), .val (.int (1 : Int32)), .val (.ref xb), .unset, .unset, .unset, .unset, .unset, .unset, .unset, .unset] [(.int (v0 + dl))])) (fun _ k => XS.iadd X116.here hx rfl (hb hby at_109) rfl k) ?_
        refine Ends.st (S' := T116.setTop (mkF m 114 #[.val (.int v0), .val (.int v1), .val (.int v2), .val (.int v3), .val (.int v4), .val (.long v5), .second, .val (.int dl), .val (.ref xa), .val (.int (1 : Int32)), .val (.ref xb), .unset, .unset, .unset, .unset, .unset, .unset, .unset, .unset] [(.int (v0 + dl))])) (fun _ k => XS.goto X116.here hx rfl (pc0 := 110) (pc' := 114) rfl (hb hby at_110) (by decide) (by decide) k) ?_
        refine Ends.st (S' := T116.setTop (mkF m 116 #[.val (.int v0), .val (.int v1), .val (.int v2), .val (.int v3), .val (.int v4), .val (.long v5), .second, .val (.int dl), .val (.ref xa), .val (.int (1 : Int32)), .val (.ref xb), .val (.int (v0 + dl)), .unset, .unset, .unset, .unset, .unset, .unset, .unset] [])) (fun _ k => XS.istore X116.here hx rfl (hb hby at_114) rfl (l' := #[.val (.int v0), .val (.int v1), .val (.int v2), .val (.int v3), .val (.int v4), .val (.long v5), .second, .val (.int dl), .val (.ref xa), .val (.int (1 : Int32)), .val (.ref xb), .val (.int (v0 + dl)), .unset, .unset, .unset, .unset, .unset, .unset, .unset]) rfl k) ?_
        exact j116 _ ⟨fun q => absurd q (own_ne hdl), fun q => absurd q hc226⟩
  refine Ends.st (S' := s₁.setTop (mkF m 10 #[.val (.int v0), .val (.int v1), .val (.int v2), .val (.int v3), .val (.int v4), .val (.long v5), .second, .val (.int (((v5.toUInt64 >>> ((32 : Int32) &&& 0x3f).toInt64.toUInt64).toInt64).toInt32)), .unset, .unset, .unset, .unset, .unset, .unset, .unset, .unset, .unset, .unset, .unset] [(.int (((v5.toUInt64 >>> ((32 : Int32) &&& 0x3f).toInt64.toUInt64).toInt64).toInt32))])) (fun _ k => XS.iload X0.here hx rfl (hb hby at_8) rfl k) ?_
  by_cases hc227 : (((v5.toUInt64 >>> ((32 : Int32) &&& 0x3f).toInt64.toUInt64).toInt64).toInt32) = (0 : Int32)
  · refine Ends.st (S' := s₁.setTop (mkF m 13 #[.val (.int v0), .val (.int v1), .val (.int v2), .val (.int v3), .val (.int v4), .val (.long v5), .second, .val (.int (((v5.toUInt64 >>> ((32 : Int32) &&& 0x3f).toInt64.toUInt64).toInt64).toInt32)), .unset, .unset, .unset, .unset, .unset, .unset, .unset, .unset, .unset, .unset, .unset] [])) (fun _ k => XS.ifNo X0.here hx rfl (hb hby at_10) rfl ((if0 _ _).trans (teq hc227).2) k) ?_
    refine Ends.st (S' := s₁.setTop (mkF m 14 #[.val (.int v0), .val (.int v1), .val (.int v2), .val (.int v3), .val (.int v4), .val (.long v5), .second, .val (.int (((v5.toUInt64 >>> ((32 : Int32) &&& 0x3f).toInt64.toUInt64).toInt64).toInt32)), .unset, .unset, .unset, .unset, .unset, .unset, .unset, .unset, .unset, .unset, .unset] [(.int (1 : Int32))])) (fun _ k => XS.iconst X0.here hx rfl (hb hby at_13) k) ?_
    refine Ends.st (S' := s₁.setTop (mkF m 16 #[.val (.int v0), .val (.int v1), .val (.int v2), .val (.int v3), .val (.int v4), .val (.long v5), .second, .val (.int (1 : Int32)), .unset, .unset, .unset, .unset, .unset, .unset, .unset, .unset, .unset, .unset, .unset] [])) (fun _ k => XS.istore X0.here hx rfl (hb hby at_14) rfl (l' := #[.val (.int v0), .val (.int v1), .val (.int v2), .val (.int v3), .val (.int v4), .val (.long v5), .second, .val (.int (1 : Int32)), .unset, .unset, .unset, .unset, .unset, .unset, .unset, .unset, .unset, .unset, .unset]) rfl k) ?_
    exact j16 _ (by decide)
  · refine Ends.st (S' := s₁.setTop (mkF m 16 #[.val (.int v0), .val (.int v1), .val (.int v2), .val (.int v3), .val (.int v4), .val (.long v5), .second, .val (.int (((v5.toUInt64 >>> ((32 : Int32) &&& 0x3f).toInt64.toUInt64).toInt64).toInt32)), .unset, .unset, .unset, .unset, .unset, .unset, .unset, .unset, .unset, .unset, .unset] [])) (fun _ k => XS.ifYes X0.here hx rfl (pc0 := 10) (pc' := 16) rfl (hb hby at_10) rfl ((if0 _ _).trans (feq hc227).2) (by decide) (by decide) k) ?_
    exact j16 _ hc227
set_option maxRecDepth 65536 in
set_option maxHeartbeats 40000000 in
theorem comes_1 {Post : Tables → Env → Array Value → State → Outcome → State → Prop} (hpost : ∀ tb e args s v u, (limb_1_1.after args s (.returned v) u = true ∧ limb_1_2.after args s (.returned v) u = true ∧ True) → ReturnedEndW s (.returned v) u (Jvm.fieldLocs frame_1_writes args s ++ Jvm.arrayLocs frame_1_arrays args s ++ Jvm.staticLocs frame_1_statics s) 32 2240 → Post tb e args s (.returned v) u) :
    ArmFor flags0 classFile x code maxLocals ret World_1 tables_1 room_1 Calls_1 rest_1 Pre_1 Post := by
  intro l hfl _ _ p e ha hc hk s m args below hf hA hF happ hP
  obtain ⟨hcalls, hrest, hpre⟩ := hP
  obtain ⟨-, -, -, hnamed, -, -, -, hat⟩ := (Spec.applies_iff hf).mp happ
  obtain ⟨hg, hn⟩ := and_e (Cond.before_iff.mp (show (Jvm.Cond.and given_1 narrow_1).before args s = true from hpre))
  obtain ⟨gc, gr0⟩ := and_e hg
  obtain ⟨ga0, gr1⟩ := and_e gr0
  obtain ⟨ga1, gr2⟩ := and_e gr1
  obtain ⟨ga2, gr3⟩ := and_e gr2
  obtain ⟨ga3, gr4⟩ := and_e gr3
  obtain ⟨ga4, gr5⟩ := and_e gr4
  obtain ⟨w0, w1, w2, w3, w4, w5, rfl⟩ : ∃ w0 w1 w2 w3 w4 w5 : Value, args = #[w0, w1, w2, w3, w4, w5] := by
    have hs : args.size = 6 := by simpa [Cond.value, given_1] using gc
    obtain ⟨L⟩ := args
    match L, hs with
    | [w0, w1, w2, w3, w4, w5], _ => exact ⟨w0, w1, w2, w3, w4, w5, rfl⟩
  have hw := fun d (hd : d ∈ tables_1) => atoms_spec (ws := Jvm.Cond.code x code maxLocals ret :: tables_1) hat d (List.mem_cons_of_mem _ hd)
  have hfit : Fit s := fun {y c} hc i hi => by
    obtain ⟨ha, rfl⟩ := Array.getElem?_eq_some_iff.mp hc
    have q := List.all_eq_true.mp ((Array.all_eq_true_iff_forall_mem.mp hF) _ (Array.getElem_mem ha)) i (List.mem_range.mpr hi)
    simpa [Array.getElem?_eq_getElem hi] using q
  obtain ⟨i0, ei0⟩ := is_v ga0
  obtain rfl : w0 = (.int i0) := Option.some.inj ei0
  obtain ⟨i1, ei1⟩ := is_v ga1
  obtain rfl : w1 = (.int i1) := Option.some.inj ei1
  obtain ⟨i2, ei2⟩ := is_v ga2
  obtain rfl : w2 = (.int i2) := Option.some.inj ei2
  obtain ⟨i3, ei3⟩ := is_v ga3
  obtain rfl : w3 = (.int i3) := Option.some.inj ei3
  obtain ⟨i4, ei4⟩ := is_v ga4
  obtain rfl : w4 = (.int i4) := Option.some.inj ei4
  obtain ⟨i5, ei5⟩ := isL_v gr5
  obtain rfl : w5 = (.long i5) := Option.some.inj ei5
  obtain ⟨hsets, hown0⟩ := atoms_of _ (rest_1_c_eq ▸ (show rest_1_c.before _ s = true from hrest))
  obtain ⟨G, eG⟩ := is_v (Cond.before_iff.mp (hsets _ (List.mem_of_getElem? (i := 1) rfl)))
  have SC : Sta s s.heap "java/lang/String" "COMPACT_STRINGS" "Z" (.int G) := Sta.start eG (Or.inl (hsets _ (List.mem_of_getElem? (i := 0) rfl)))
  have hG : ¬ (G = (0 : Int32)) := gotF (Cond.eq_ints eG (Term.int_eval (0))) (not_v (Cond.before_iff.mp (hsets _ (List.mem_of_getElem? (i := 2) rfl))))
  have hCH : CHv s EL0 s.vm s.heap := CHv.start (own_EW hw) (fun q hq => hcalls.1 q (List.mem_cons_of_mem _ hq)) (hsets _ (List.mem_of_getElem? (i := 2) rfl)) (hw _ (List.mem_of_getElem? (i := 19) rfl)) (hw _ (List.mem_of_getElem? (i := 5) rfl))
  obtain ⟨n, o, h1, h2, h3, _, L, rfl, ⟨rfl, N⟩, hq⟩ := rm0 l s _ hw tables_1 i0 i1 i2 i3 i4 i5 G s.heap s.heap.size (Nat.le_refl _) (Old.start s) SC hG p e ha hc hk s m _ below hf ((Spec.applies_iff_loose hf).mp happ).1 ⟨rfl, State.Warmed39.refl s, rfl, hCH⟩ trivial
  refine ⟨n, _, h1, h2, h3, hpost _ _ _ _ _ _ ⟨Cond.after_iff.mpr rfl, Cond.after_iff.mpr (eq_i res_at (Term.int_eval (1)) rfl), trivial⟩ ⟨hq.1, hq.2.1, hq.2.2.1, (hq.2.2.2.sift fun y hy => Or.inr (N y hy)).mono (by decide) (by decide)⟩⟩
theorem main_1_1 : Claimed_1_1 := comes_1 fun _ _ _ _ _ _ h hF => ⟨h.1, hF⟩
theorem main_1_2 : Claimed_1_2 := comes_1 fun _ _ _ _ _ _ h hF => ⟨h.2.1, hF⟩
end Jvm.Pilot.@@N@@
namespace Jvm.Pilot.@@N@@
open Jvm Jvm.ClassFile Sem Op Lib Jvm.Free Jvm.Stand Jvm.Pilot.@@N@@.Jvm.D
/-! MADE BY PROGRAM (witnessworld.py) out of the Statement's table words and the real class files: 21 classes; the members and pool entries that the words name. The judged class is class 1, her method 2. -/
namespace start1
open Jvm.ClassFile
def u (s : String) : CpInfo := .utf8 (stringToUtf16 s)
/-- a pool by its gaps: so many unusable entries, then the entry; so many at the end -/
def gap : Nat → List CpInfo → List CpInfo
  | 0, r => r
  | n + 1, r => .unusable :: gap n r
def poolList (es : List (Nat × CpInfo)) (last : Nat) : List CpInfo := es.foldr (fun e r => gap e.1 (e.2 :: r)) (gap last [])
def pool (es : List (Nat × CpInfo)) (last : Nat) : Array CpInfo := ⟨poolList es last⟩
def fileOf (pool : Array CpInfo) (this : Nat) (attrs : Array Attribute := #[]) (ms : Array MethodInfo := #[]) (fl : Nat := 33) (sup : Nat := 0) (ifs : Array Nat := #[]) (fds : Array FieldInfo := #[]) : ClassFile where
  minorVersion := 0
  majorVersion := 65
  constantPool := pool
  accessFlags := fl
  thisClass := this
  superClass := sup
  interfaces := ifs
  fields := fds
  methods := ms
  attributes := attrs
def plain (name : String) (sup : Option ClassId) : Class where
  name := name
  kind := .ordinary
  loader := none
  accessFlags := 33
  super := sup
  interfaces := #[]
  cf := none
  fields := #[]
  methods := #[]
  instanceTypes := #[]
  staticTypes := #[]
  resolved := #[]
  callSites := []
  init := .initialized
  statics := none
  mirror := none

def pool0 : Array CpInfo := pool [(5, u "<init>"), (0, u "()V"), (1, .class_ 10), (1, u "java/lang/Object")] 113

def k0c0 : Code := { maxStack := 0, maxLocals := 1, code := object_method_1_code, exceptionTable := #[], attributes := #[] }
def k0m0 : Method := { name := "<init>", desc := "()V", sig := { parameters := [], returnType := none }, accessFlags := 1, code := some k0c0 }
/-- java/lang/Object -/
def k0 : Class := { plain "java/lang/Object" none with
  accessFlags := 33
  interfaces := #[]
  cf := some (fileOf pool0 8 #[] #[{ accessFlags := 1, nameIndex := 5, descriptorIndex := 6, attributes := #[] }] 33 0 #[] #[])
  fields := #[]
  methods := #[k0m0]
  instanceTypes := #[]
  staticTypes := #[]
  resolved := Array.replicate 124 none
  statics := none }

def pool1 : Array CpInfo := pool [(2, .class_ 4), (1, u "java/lang/Object"), (0, u "<init>"), (0, u "()V"), (0, .class_ 8), (0, u "java/lang/String"), (0, .methodref 7 10), (0, .nameAndType 5 11), (0, u "([C)V"), (0, .methodref 13 14), (0, .class_ 15), (0, .nameAndType 16 17), (0, u "com/example/umpteenth_copy/umpteenthcopy/engine/PassageEqualsPinLaw"), (0, u "str"), (0, u "(III)Ljava/lang/String;"), (0, .long 2), (1, .long 4), (1, .long 8), (1, .class_ 25), (0, u "com/example/umpteenth_copy/umpteenthcopy/engine/Passage"), (0, .methodref 24 27), (0, .nameAndType 5 28), (0, u "(Ljava/lang/String;IIII)V"), (0, .long 3), (1, .methodref 24 32), (0, .nameAndType 33 34), (0, u "equals"), (0, u "(Ljava/lang/Object;)Z"), (0, .methodref 7 32), (0, .long 15), (4, u "law"), (0, u "(IIIIIJ)Z")] 2

def k1m0 : Method := { name := "<init>", desc := "()V", sig := { parameters := [], returnType := none }, accessFlags := 1, code := none }
def k1c1 : Code := { maxStack := 6, maxLocals := 6, code := method_2_code, exceptionTable := #[], attributes := #[] }
def k1m1 : Method := { name := "str", desc := "(III)Ljava/lang/String;", sig := { parameters := [.int, .int, .int], returnType := some (.object "java/lang/String") }, accessFlags := 10, code := some k1c1 }
def k1c2 : Code := { maxStack := 7, maxLocals := 19, code := code, exceptionTable := #[], attributes := #[] }
def k1m2 : Method := { name := "law", desc := "(IIIIIJ)Z", sig := { parameters := [.int, .int, .int, .int, .int, .long], returnType := some .boolean }, accessFlags := 9, code := some k1c2 }
/-- com/example/umpteenth_copy/umpteenthcopy/engine/PassageEqualsPinLaw -/
def k1 : Class := { plain "com/example/umpteenth_copy/umpteenthcopy/engine/PassageEqualsPinLaw" (some 0) with
  accessFlags := 49
  interfaces := #[]
  cf := some (fileOf pool1 13 #[] #[{ accessFlags := 1, nameIndex := 5, descriptorIndex := 6, attributes := #[] }, { accessFlags := 10, nameIndex := 16, descriptorIndex := 17, attributes := #[] }, { accessFlags := 9, nameIndex := 41, descriptorIndex := 42, attributes := #[] }] 49 2 #[] #[])
  fields := #[]
  methods := #[k1m0, k1m1, k1m2]
  instanceTypes := #[]
  staticTypes := #[]
  resolved := Array.replicate 45 none
  statics := none }

def pool2 : Array CpInfo := pool [(1, .class_ 2), (0, u "java/io/Serializable"), (0, .class_ 4), (0, u "java/lang/Object")] 2

/-- java/io/Serializable -/
def k2 : Class := { plain "java/io/Serializable" (some 0) with
  accessFlags := 1537
  interfaces := #[]
  cf := some (fileOf pool2 1 #[] #[] 1537 3 #[] #[])
  fields := #[]
  methods := #[]
  instanceTypes := #[]
  staticTypes := #[]
  resolved := Array.replicate 7 none
  statics := none }

def pool3 : Array CpInfo := pool [(1, .class_ 2), (0, u "java/lang/Comparable"), (0, .class_ 4), (0, u "java/lang/Object")] 7

/-- java/lang/Comparable -/
def k3 : Class := { plain "java/lang/Comparable" (some 0) with
  accessFlags := 1537
  interfaces := #[]
  cf := some (fileOf pool3 1 #[] #[] 1537 3 #[] #[])
  fields := #[]
  methods := #[]
  instanceTypes := #[]
  staticTypes := #[]
  resolved := Array.replicate 12 none
  statics := none }

def pool4 : Array CpInfo := pool [(2, .class_ 4), (1, u "java/lang/CharSequence"), (42, .class_ 48), (0, u "java/lang/CharSequence$1CodePointIterator"), (10, .class_ 60), (0, u "java/lang/CharSequence$1CharIterator"), (5, .class_ 67), (0, u "java/lang/Object")] 63

/-- java/lang/CharSequence -/
def k4 : Class := { plain "java/lang/CharSequence" (some 0) with
  accessFlags := 1537
  interfaces := #[]
  cf := some (fileOf pool4 2 #[.nestMembers #[47, 59]] #[] 1537 66 #[] #[])
  fields := #[]
  methods := #[]
  instanceTypes := #[]
  staticTypes := #[]
  resolved := Array.replicate 131 none
  statics := none }

def pool5 : Array CpInfo := pool [(1, .class_ 2), (0, u "java/lang/constant/Constable"), (0, .class_ 4), (0, u "java/lang/Object")] 6

/-- java/lang/constant/Constable -/
def k5 : Class := { plain "java/lang/constant/Constable" (some 0) with
  accessFlags := 1537
  interfaces := #[]
  cf := some (fileOf pool5 1 #[] #[] 1537 3 #[] #[])
  fields := #[]
  methods := #[]
  instanceTypes := #[]
  staticTypes := #[]
  resolved := Array.replicate 11 none
  statics := none }

def pool6 : Array CpInfo := pool [(1, .class_ 2), (0, u "java/lang/constant/ConstantDesc"), (0, .class_ 4), (0, u "java/lang/Object")] 32

/-- java/lang/constant/ConstantDesc -/
def k6 : Class := { plain "java/lang/constant/ConstantDesc" (some 0) with
  accessFlags := 1537
  interfaces := #[]
  cf := some (fileOf pool6 1 #[] #[] 1537 3 #[] #[])
  fields := #[]
  methods := #[]
  instanceTypes := #[]
  staticTypes := #[]
  resolved := Array.replicate 37 none
  statics := none }

def pool7 : Array CpInfo := pool [(1, .methodref 2 3), (0, .class_ 4), (0, .nameAndType 5 6), (0, u "java/lang/Object"), (0, u "<init>"), (0, u "()V"), (0, .string 8), (0, u ""), (0, .fieldref 10 11), (0, .class_ 12), (0, .nameAndType 13 14), (0, u "java/lang/String"), (0, u "value"), (0, u "[B"), (0, .fieldref 10 16), (0, .nameAndType 17 18), (0, u "coder"), (0, u "B"), (2, u "hash"), (0, u "I"), (2, u "hashIsZero"), (0, u "Z"), (0, .methodref 10 28), (0, .nameAndType 5 29), (0, u "([CIILjava/lang/Void;)V"), (8, .fieldref 10 39), (0, .nameAndType 40 26), (0, u "COMPACT_STRINGS"), (1, .class_ 44), (1, u "java/lang/StringUTF16"), (0, u "compress"), (1, .methodref 42 48), (0, .nameAndType 49 50), (0, u "coderFromArrayLen"), (0, u "([BI)B"), (56, .class_ 109), (1, u "java/lang/StringLatin1"), (67, .methodref 42 178), (0, .nameAndType 45 179), (0, u "([CII)[B"), (361, .methodref 107 542), (0, .nameAndType 543 544), (0, u "equals"), (0, u "([B[B)Z"), (28, u "(Ljava/lang/Object;)Z"), (1, .class_ 576), (0, u "java/lang/CharSequence"), (22, u "CASE_INSENSITIVE_ORDER"), (0, u "Ljava/util/Comparator;"), (409, u "([C)V"), (90, u "serialPersistentFields"), (0, u "[Ljava/io/ObjectStreamField;"), (0, .class_ 1104), (0, u "java/lang/String$CaseInsensitiveComparator"), (1, .class_ 1107), (0, u "java/io/Serializable"), (0, .class_ 1109), (0, u "java/lang/Comparable"), (0, .class_ 1111), (0, u "java/lang/constant/Constable"), (0, .class_ 1113), (0, u "java/lang/constant/ConstantDesc"), (2, u "serialVersionUID"), (0, u "J"), (3, u "REPL"), (0, u "C"), (2, u "LATIN1"), (1, u "UTF16")] 323

def k7m0 : Method := { name := "<init>", desc := "()V", sig := { parameters := [], returnType := none }, accessFlags := 1, code := none }
def k7c1 : Code := { maxStack := 5, maxLocals := 2, code := jdk_42_method_3_code, exceptionTable := #[], attributes := #[] }
def k7m1 : Method := { name := "<init>", desc := "([C)V", sig := { parameters := [(.array .char)], returnType := none }, accessFlags := 1, code := some k7c1 }
def k7c2 : Code := { maxStack := 2, maxLocals := 3, code := jdk_42_method_66_code, exceptionTable := #[], attributes := #[] }
def k7m2 : Method := { name := "equals", desc := "(Ljava/lang/Object;)Z", sig := { parameters := [(.object "java/lang/Object")], returnType := some .boolean }, accessFlags := 1, code := some k7c2 }
def k7c3 : Code := { maxStack := 4, maxLocals := 6, code := jdk_42_method_149_code, exceptionTable := #[], attributes := #[] }
def k7m3 : Method := { name := "<init>", desc := "([CIILjava/lang/Void;)V", sig := { parameters := [(.array .char), .int, .int, (.object "java/lang/Void")], returnType := none }, accessFlags := 2, code := some k7c3 }
/-- java/lang/String -/
def k7 : Class := { plain "java/lang/String" (some 0) with
  accessFlags := 49
  interfaces := #[2, 3, 4, 5, 6]
  cf := some (fileOf pool7 10 #[.nestMembers #[1103]] #[{ accessFlags := 1, nameIndex := 5, descriptorIndex := 6, attributes := #[] }, { accessFlags := 1, nameIndex := 5, descriptorIndex := 1010, attributes := #[] }, { accessFlags := 1, nameIndex := 543, descriptorIndex := 573, attributes := #[] }, { accessFlags := 2, nameIndex := 5, descriptorIndex := 29, attributes := #[] }] 49 2 #[1106, 1108, 575, 1110, 1112] #[{ accessFlags := 18, nameIndex := 13, descriptorIndex := 14, attributes := #[] }, { accessFlags := 18, nameIndex := 17, descriptorIndex := 18, attributes := #[] }, { accessFlags := 2, nameIndex := 21, descriptorIndex := 22, attributes := #[] }, { accessFlags := 2, nameIndex := 25, descriptorIndex := 26, attributes := #[] }, { accessFlags := 26, nameIndex := 1116, descriptorIndex := 1117, attributes := #[] }, { accessFlags := 24, nameIndex := 40, descriptorIndex := 26, attributes := #[] }, { accessFlags := 26, nameIndex := 1101, descriptorIndex := 1102, attributes := #[] }, { accessFlags := 26, nameIndex := 1121, descriptorIndex := 1122, attributes := #[] }, { accessFlags := 25, nameIndex := 599, descriptorIndex := 600, attributes := #[] }, { accessFlags := 24, nameIndex := 1125, descriptorIndex := 18, attributes := #[] }, { accessFlags := 24, nameIndex := 1127, descriptorIndex := 18, attributes := #[] }])
  fields := #[{ name := "value", type := (.array .byte), accessFlags := 18, slot := 0, constantValue := 0 }, { name := "coder", type := .byte, accessFlags := 18, slot := 1, constantValue := 0 }, { name := "hash", type := .int, accessFlags := 2, slot := 2, constantValue := 0 }, { name := "hashIsZero", type := .boolean, accessFlags := 2, slot := 3, constantValue := 0 }, { name := "serialVersionUID", type := .long, accessFlags := 26, slot := 0, constantValue := 0 }, { name := "COMPACT_STRINGS", type := .boolean, accessFlags := 24, slot := 1, constantValue := 0 }, { name := "serialPersistentFields", type := (.array (.object "java/io/ObjectStreamField")), accessFlags := 26, slot := 2, constantValue := 0 }, { name := "REPL", type := .char, accessFlags := 26, slot := 3, constantValue := 0 }, { name := "CASE_INSENSITIVE_ORDER", type := (.object "java/util/Comparator"), accessFlags := 25, slot := 4, constantValue := 0 }, { name := "LATIN1", type := .byte, accessFlags := 24, slot := 5, constantValue := 0 }, { name := "UTF16", type := .byte, accessFlags := 24, slot := 6, constantValue := 0 }]
  methods := #[k7m0, k7m1, k7m2, k7m3]
  instanceTypes := #[(.array .byte), .byte, .int, .boolean]
  staticTypes := #[.long, .boolean, (.array (.object "java/io/ObjectStreamField")), .char, (.object "java/util/Comparator"), .byte, .byte]
  resolved := Array.replicate 1451 none
  statics := some 0 }

def pool8 : Array CpInfo := pool [(1, .methodref 2 3), (0, .class_ 4), (0, .nameAndType 5 6), (0, u "java/lang/Object"), (0, u "<init>"), (0, u "()V"), (0, .string 8), (0, u "source"), (0, .methodref 10 11), (0, .class_ 12), (0, .nameAndType 13 14), (0, u "java/util/Objects"), (0, u "requireNonNull"), (0, u "(Ljava/lang/Object;Ljava/lang/String;)Ljava/lang/Object;"), (0, .class_ 16), (0, u "java/lang/String"), (0, .fieldref 18 19), (0, .class_ 20), (0, .nameAndType 8 21), (0, u "com/example/umpteenth_copy/umpteenthcopy/engine/Passage"), (0, u "Ljava/lang/String;"), (0, .fieldref 18 23), (0, .nameAndType 24 25), (0, u "start"), (0, u "I"), (0, .fieldref 18 27), (0, .nameAndType 28 25), (0, u "end"), (0, .fieldref 18 30), (0, .nameAndType 31 25), (0, u "sourceStart"), (0, .fieldref 18 33), (0, .nameAndType 34 25), (0, u "sourceEnd"), (0, .methodref 15 36), (0, .nameAndType 37 38), (0, u "equals"), (0, u "(Ljava/lang/Object;)Z"), (14, u "(Ljava/lang/String;IIII)V")] 24

def k8c0 : Code := { maxStack := 3, maxLocals := 6, code := prog_16_method_1_code, exceptionTable := #[], attributes := #[] }
def k8m0 : Method := { name := "<init>", desc := "(Ljava/lang/String;IIII)V", sig := { parameters := [(.object "java/lang/String"), .int, .int, .int, .int], returnType := none }, accessFlags := 1, code := some k8c0 }
def k8c1 : Code := { maxStack := 2, maxLocals := 3, code := prog_16_method_7_code, exceptionTable := #[], attributes := #[] }
def k8m1 : Method := { name := "equals", desc := "(Ljava/lang/Object;)Z", sig := { parameters := [(.object "java/lang/Object")], returnType := some .boolean }, accessFlags := 1, code := some k8c1 }
/-- com/example/umpteenth_copy/umpteenthcopy/engine/Passage -/
def k8 : Class := { plain "com/example/umpteenth_copy/umpteenthcopy/engine/Passage" (some 0) with
  accessFlags := 33
  interfaces := #[]
  cf := some (fileOf pool8 18 #[] #[{ accessFlags := 1, nameIndex := 5, descriptorIndex := 53, attributes := #[] }, { accessFlags := 1, nameIndex := 37, descriptorIndex := 38, attributes := #[] }] 33 2 #[] #[{ accessFlags := 18, nameIndex := 8, descriptorIndex := 21, attributes := #[] }, { accessFlags := 18, nameIndex := 24, descriptorIndex := 25, attributes := #[] }, { accessFlags := 18, nameIndex := 28, descriptorIndex := 25, attributes := #[] }, { accessFlags := 18, nameIndex := 31, descriptorIndex := 25, attributes := #[] }, { accessFlags := 18, nameIndex := 34, descriptorIndex := 25, attributes := #[] }])
  fields := #[{ name := "source", type := (.object "java/lang/String"), accessFlags := 18, slot := 0, constantValue := 0 }, { name := "start", type := .int, accessFlags := 18, slot := 1, constantValue := 0 }, { name := "end", type := .int, accessFlags := 18, slot := 2, constantValue := 0 }, { name := "sourceStart", type := .int, accessFlags := 18, slot := 3, constantValue := 0 }, { name := "sourceEnd", type := .int, accessFlags := 18, slot := 4, constantValue := 0 }]
  methods := #[k8m0, k8m1]
  instanceTypes := #[(.object "java/lang/String"), .int, .int, .int, .int]
  staticTypes := #[]
  resolved := Array.replicate 78 none
  statics := none }

def pool9 : Array CpInfo := pool [(2, .class_ 4), (1, u "java/lang/Object"), (0, u "<init>"), (0, u "()V"), (35, .class_ 44), (1, u "java/util/Objects"), (0, u "requireNonNull"), (48, u "(Ljava/lang/Object;Ljava/lang/String;)Ljava/lang/Object;")] 89

def k9m0 : Method := { name := "<init>", desc := "()V", sig := { parameters := [], returnType := none }, accessFlags := 2, code := none }
def k9c1 : Code := { maxStack := 3, maxLocals := 2, code := jdk_31_method_11_code, exceptionTable := #[], attributes := #[] }
def k9m1 : Method := { name := "requireNonNull", desc := "(Ljava/lang/Object;Ljava/lang/String;)Ljava/lang/Object;", sig := { parameters := [(.object "java/lang/Object"), (.object "java/lang/String")], returnType := some (.object "java/lang/Object") }, accessFlags := 9, code := some k9c1 }
/-- java/util/Objects -/
def k9 : Class := { plain "java/util/Objects" (some 0) with
  accessFlags := 49
  interfaces := #[]
  cf := some (fileOf pool9 42 #[] #[{ accessFlags := 2, nameIndex := 5, descriptorIndex := 6, attributes := #[] }, { accessFlags := 9, nameIndex := 45, descriptorIndex := 94, attributes := #[] }] 49 2 #[] #[])
  fields := #[]
  methods := #[k9m0, k9m1]
  instanceTypes := #[]
  staticTypes := #[]
  resolved := Array.replicate 184 none
  statics := none }

def pool10 : Array CpInfo := pool [(4, .class_ 6), (1, u "java/lang/Object"), (0, u "<init>"), (0, u "()V"), (5, .class_ 16), (1, u "java/lang/StringLatin1"), (104, u "$assertionsDisabled"), (0, u "Z"), (98, .class_ 223), (1, u "java/lang/StringLatin1$LinesSpliterator"), (57, u "equals"), (0, u "([B[B)Z"), (107, .class_ 391), (0, u "java/lang/StringLatin1$CharsSpliterator")] 3

def k10m0 : Method := { name := "<init>", desc := "()V", sig := { parameters := [], returnType := none }, accessFlags := 0, code := none }
def k10c1 : Code := { maxStack := 3, maxLocals := 3, code := jdk_43_method_13_code, exceptionTable := #[], attributes := #[] }
def k10m1 : Method := { name := "equals", desc := "([B[B)Z", sig := { parameters := [(.array .byte), (.array .byte)], returnType := some .boolean }, accessFlags := 9, code := some k10c1 }
/-- java/lang/StringLatin1 -/
def k10 : Class := { plain "java/lang/StringLatin1" (some 0) with
  accessFlags := 48
  interfaces := #[]
  cf := some (fileOf pool10 14 #[.nestMembers #[390, 221]] #[{ accessFlags := 0, nameIndex := 7, descriptorIndex := 8, attributes := #[] }, { accessFlags := 9, nameIndex := 281, descriptorIndex := 282, attributes := #[] }] 48 4 #[] #[{ accessFlags := 4120, nameIndex := 121, descriptorIndex := 122, attributes := #[] }])
  fields := #[{ name := "$assertionsDisabled", type := .boolean, accessFlags := 4120, slot := 0, constantValue := 0 }]
  methods := #[k10m0, k10m1]
  instanceTypes := #[]
  staticTypes := #[.boolean]
  resolved := Array.replicate 395 none
  statics := none }

def pool11 : Array CpInfo := pool [(6, .class_ 8), (1, u "java/lang/Object"), (0, u "<init>"), (0, u "()V"), (1, .class_ 14), (1, u "java/lang/StringUTF16"), (31, u "$assertionsDisabled"), (0, u "Z"), (13, u "HI_BYTE_SHIFT"), (0, u "I"), (2, u "LO_BYTE_SHIFT"), (49, .methodref 12 116), (0, .nameAndType 117 118), (0, u "compress"), (0, u "([CI[BII)I"), (3, u "([CII)[B"), (138, u "coderFromArrayLen"), (0, u "([BI)B"), (106, .class_ 371), (1, u "java/lang/StringUTF16$LinesSpliterator"), (58, u "MAX_LENGTH"), (196, .class_ 628), (0, u "java/lang/StringUTF16$CodePointsSpliterator"), (0, .class_ 630), (0, u "java/lang/StringUTF16$CharsSpliterator")] 4

def k11m0 : Method := { name := "<init>", desc := "()V", sig := { parameters := [], returnType := none }, accessFlags := 0, code := none }
def k11c1 : Code := { maxStack := 2, maxLocals := 2, code := jdk_52_method_15_code, exceptionTable := #[], attributes := #[] }
def k11m1 : Method := { name := "coderFromArrayLen", desc := "([BI)B", sig := { parameters := [(.array .byte), .int], returnType := some .byte }, accessFlags := 8, code := some k11c1 }
def k11c2 : Code := { maxStack := 5, maxLocals := 6, code := jdk_52_method_16_code, exceptionTable := #[], attributes := #[] }
def k11m2 : Method := { name := "compress", desc := "([CII)[B", sig := { parameters := [(.array .char), .int, .int], returnType := some (.array .byte) }, accessFlags := 9, code := some k11c2 }
def k11c3 : Code := { maxStack := 3, maxLocals := 7, code := jdk_52_method_21_code, exceptionTable := #[], attributes := #[] }
def k11m3 : Method := { name := "compress", desc := "([CI[BII)I", sig := { parameters := [(.array .char), .int, (.array .byte), .int, .int], returnType := some .int }, accessFlags := 9, code := some k11c3 }
/-- java/lang/StringUTF16 -/
def k11 : Class := { plain "java/lang/StringUTF16" (some 0) with
  accessFlags := 48
  interfaces := #[]
  cf := some (fileOf pool11 12 #[.nestMembers #[627, 629, 369]] #[{ accessFlags := 0, nameIndex := 9, descriptorIndex := 10, attributes := #[] }, { accessFlags := 8, nameIndex := 261, descriptorIndex := 262, attributes := #[] }, { accessFlags := 9, nameIndex := 117, descriptorIndex := 122, attributes := #[] }, { accessFlags := 9, nameIndex := 117, descriptorIndex := 118, attributes := #[] }] 48 6 #[] #[{ accessFlags := 26, nameIndex := 61, descriptorIndex := 62, attributes := #[] }, { accessFlags := 26, nameIndex := 65, descriptorIndex := 62, attributes := #[] }, { accessFlags := 24, nameIndex := 430, descriptorIndex := 62, attributes := #[] }, { accessFlags := 4120, nameIndex := 46, descriptorIndex := 47, attributes := #[] }])
  fields := #[{ name := "HI_BYTE_SHIFT", type := .int, accessFlags := 26, slot := 0, constantValue := 0 }, { name := "LO_BYTE_SHIFT", type := .int, accessFlags := 26, slot := 1, constantValue := 0 }, { name := "MAX_LENGTH", type := .int, accessFlags := 24, slot := 2, constantValue := 0 }, { name := "$assertionsDisabled", type := .boolean, accessFlags := 4120, slot := 3, constantValue := 0 }]
  methods := #[k11m0, k11m1, k11m2, k11m3]
  instanceTypes := #[]
  staticTypes := #[.int, .int, .int, .boolean]
  resolved := Array.replicate 635 none
  statics := none }

def pool12 : Array CpInfo := pool [(2, .class_ 4), (1, u "java/lang/Object"), (0, u "<init>"), (0, u "()V"), (17, .class_ 26), (1, u "jdk/internal/util/Preconditions"), (28, .class_ 56), (0, u "jdk/internal/util/Preconditions$4"), (57, .class_ 115), (0, u "jdk/internal/util/Preconditions$1"), (7, u "SIOOBE_FORMATTER"), (0, u "Ljava/util/function/BiFunction;"), (0, .class_ 126), (0, u "jdk/internal/util/Preconditions$2"), (3, u "AIOOBE_FORMATTER"), (0, .class_ 132), (0, u "jdk/internal/util/Preconditions$3"), (3, u "IOOBE_FORMATTER")] 57

def k12m0 : Method := { name := "<init>", desc := "()V", sig := { parameters := [], returnType := none }, accessFlags := 1, code := none }
/-- jdk/internal/util/Preconditions -/
def k12 : Class := { plain "jdk/internal/util/Preconditions" (some 0) with
  accessFlags := 33
  interfaces := #[]
  cf := some (fileOf pool12 24 #[.nestMembers #[55, 131, 125, 114]] #[{ accessFlags := 1, nameIndex := 5, descriptorIndex := 6, attributes := #[] }] 33 2 #[] #[{ accessFlags := 25, nameIndex := 123, descriptorIndex := 124, attributes := #[] }, { accessFlags := 25, nameIndex := 130, descriptorIndex := 124, attributes := #[] }, { accessFlags := 25, nameIndex := 136, descriptorIndex := 124, attributes := #[] }])
  fields := #[{ name := "SIOOBE_FORMATTER", type := (.object "java/util/function/BiFunction"), accessFlags := 25, slot := 0, constantValue := 0 }, { name := "AIOOBE_FORMATTER", type := (.object "java/util/function/BiFunction"), accessFlags := 25, slot := 1, constantValue := 0 }, { name := "IOOBE_FORMATTER", type := (.object "java/util/function/BiFunction"), accessFlags := 25, slot := 2, constantValue := 0 }]
  methods := #[k12m0]
  instanceTypes := #[]
  staticTypes := #[(.object "java/util/function/BiFunction"), (.object "java/util/function/BiFunction"), (.object "java/util/function/BiFunction")]
  resolved := Array.replicate 194 none
  statics := some 1 }

def pool13 : Array CpInfo := pool [(9, u "<init>"), (6, .class_ 18), (1, u "java/lang/Object"), (0, u "()V"), (1, .class_ 23), (1, u "jdk/internal/util/ArraysSupport"), (0, u "LOG2_ARRAY_LONG_INDEX_SCALE"), (0, u "I"), (2, u "U"), (0, u "Ljdk/internal/misc/Unsafe;"), (8, u "BIG_ENDIAN"), (0, u "Z"), (8, u "LOG2_BYTE_BIT_SIZE"), (4, u "LOG2_ARRAY_INT_INDEX_SCALE"), (54, u "JLA"), (0, u "Ljdk/internal/access/JavaLangAccess;"), (11, u "LOG2_ARRAY_BOOLEAN_INDEX_SCALE"), (9, u "LOG2_ARRAY_BYTE_INDEX_SCALE"), (5, u "LOG2_ARRAY_CHAR_INDEX_SCALE"), (5, u "LOG2_ARRAY_SHORT_INDEX_SCALE"), (18, u "LOG2_ARRAY_FLOAT_INDEX_SCALE"), (24, u "LOG2_ARRAY_DOUBLE_INDEX_SCALE"), (89, u "T_BOOLEAN"), (2, u "T_CHAR"), (1, u "T_FLOAT"), (1, u "T_DOUBLE"), (1, u "T_BYTE"), (1, u "T_SHORT"), (1, u "T_INT"), (1, u "T_LONG"), (1, u "SOFT_MAX_ARRAY_LENGTH")] 83

def k13m0 : Method := { name := "<init>", desc := "()V", sig := { parameters := [], returnType := none }, accessFlags := 2, code := none }
/-- jdk/internal/util/ArraysSupport -/
def k13 : Class := { plain "jdk/internal/util/ArraysSupport" (some 0) with
  accessFlags := 33
  interfaces := #[]
  cf := some (fileOf pool13 21 #[] #[{ accessFlags := 2, nameIndex := 9, descriptorIndex := 19, attributes := #[] }] 33 16 #[] #[{ accessFlags := 24, nameIndex := 28, descriptorIndex := 29, attributes := #[] }, { accessFlags := 26, nameIndex := 38, descriptorIndex := 39, attributes := #[] }, { accessFlags := 25, nameIndex := 121, descriptorIndex := 25, attributes := #[] }, { accessFlags := 25, nameIndex := 131, descriptorIndex := 25, attributes := #[] }, { accessFlags := 25, nameIndex := 137, descriptorIndex := 25, attributes := #[] }, { accessFlags := 25, nameIndex := 143, descriptorIndex := 25, attributes := #[] }, { accessFlags := 25, nameIndex := 53, descriptorIndex := 25, attributes := #[] }, { accessFlags := 25, nameIndex := 24, descriptorIndex := 25, attributes := #[] }, { accessFlags := 25, nameIndex := 162, descriptorIndex := 25, attributes := #[] }, { accessFlags := 25, nameIndex := 187, descriptorIndex := 25, attributes := #[] }, { accessFlags := 26, nameIndex := 48, descriptorIndex := 25, attributes := #[] }, { accessFlags := 25, nameIndex := 277, descriptorIndex := 25, attributes := #[] }, { accessFlags := 25, nameIndex := 280, descriptorIndex := 25, attributes := #[] }, { accessFlags := 25, nameIndex := 282, descriptorIndex := 25, attributes := #[] }, { accessFlags := 25, nameIndex := 284, descriptorIndex := 25, attributes := #[] }, { accessFlags := 25, nameIndex := 286, descriptorIndex := 25, attributes := #[] }, { accessFlags := 25, nameIndex := 288, descriptorIndex := 25, attributes := #[] }, { accessFlags := 25, nameIndex := 290, descriptorIndex := 25, attributes := #[] }, { accessFlags := 25, nameIndex := 292, descriptorIndex := 25, attributes := #[] }, { accessFlags := 26, nameIndex := 108, descriptorIndex := 109, attributes := #[] }, { accessFlags := 25, nameIndex := 294, descriptorIndex := 25, attributes := #[] }])
  fields := #[{ name := "U", type := (.object "jdk/internal/misc/Unsafe"), accessFlags := 24, slot := 0, constantValue := 0 }, { name := "BIG_ENDIAN", type := .boolean, accessFlags := 26, slot := 1, constantValue := 0 }, { name := "LOG2_ARRAY_BOOLEAN_INDEX_SCALE", type := .int, accessFlags := 25, slot := 2, constantValue := 0 }, { name := "LOG2_ARRAY_BYTE_INDEX_SCALE", type := .int, accessFlags := 25, slot := 3, constantValue := 0 }, { name := "LOG2_ARRAY_CHAR_INDEX_SCALE", type := .int, accessFlags := 25, slot := 4, constantValue := 0 }, { name := "LOG2_ARRAY_SHORT_INDEX_SCALE", type := .int, accessFlags := 25, slot := 5, constantValue := 0 }, { name := "LOG2_ARRAY_INT_INDEX_SCALE", type := .int, accessFlags := 25, slot := 6, constantValue := 0 }, { name := "LOG2_ARRAY_LONG_INDEX_SCALE", type := .int, accessFlags := 25, slot := 7, constantValue := 0 }, { name := "LOG2_ARRAY_FLOAT_INDEX_SCALE", type := .int, accessFlags := 25, slot := 8, constantValue := 0 }, { name := "LOG2_ARRAY_DOUBLE_INDEX_SCALE", type := .int, accessFlags := 25, slot := 9, constantValue := 0 }, { name := "LOG2_BYTE_BIT_SIZE", type := .int, accessFlags := 26, slot := 10, constantValue := 0 }, { name := "T_BOOLEAN", type := .int, accessFlags := 25, slot := 11, constantValue := 0 }, { name := "T_CHAR", type := .int, accessFlags := 25, slot := 12, constantValue := 0 }, { name := "T_FLOAT", type := .int, accessFlags := 25, slot := 13, constantValue := 0 }, { name := "T_DOUBLE", type := .int, accessFlags := 25, slot := 14, constantValue := 0 }, { name := "T_BYTE", type := .int, accessFlags := 25, slot := 15, constantValue := 0 }, { name := "T_SHORT", type := .int, accessFlags := 25, slot := 16, constantValue := 0 }, { name := "T_INT", type := .int, accessFlags := 25, slot := 17, constantValue := 0 }, { name := "T_LONG", type := .int, accessFlags := 25, slot := 18, constantValue := 0 }, { name := "JLA", type := (.object "jdk/internal/access/JavaLangAccess"), accessFlags := 26, slot := 19, constantValue := 0 }, { name := "SOFT_MAX_ARRAY_LENGTH", type := .int, accessFlags := 25, slot := 20, constantValue := 0 }]
  methods := #[k13m0]
  instanceTypes := #[]
  staticTypes := #[(.object "jdk/internal/misc/Unsafe"), .boolean, .int, .int, .int, .int, .int, .int, .int, .int, .int, .int, .int, .int, .int, .int, .int, .int, .int, (.object "jdk/internal/access/JavaLangAccess"), .int]
  resolved := Array.replicate 378 none
  statics := none }

def pool14 : Array CpInfo := pool [(1, u "java/lang/Cloneable"), (0, .class_ 1), (0, u "java/lang/Object"), (0, .class_ 3)] 3

/-- java/lang/Cloneable -/
def k14 : Class := { plain "java/lang/Cloneable" (some 0) with
  accessFlags := 1537
  interfaces := #[]
  cf := some (fileOf pool14 2 #[] #[] 1537 4 #[] #[])
  fields := #[]
  methods := #[]
  instanceTypes := #[]
  staticTypes := #[]
  resolved := Array.replicate 8 none
  statics := none }

/-- the primitive byte -/
def k15 : Class := { plain "byte" none with kind := .primitive 'B', accessFlags := 0x411 }
/-- [B -/
def k16 : Class := { plain "[B" (some 0) with kind := .array 15 .byte, interfaces := #[14, 2], accessFlags := 1041 }

/-- the primitive char -/
def k17 : Class := { plain "char" none with kind := .primitive 'C', accessFlags := 0x411 }
/-- [C -/
def k18 : Class := { plain "[C" (some 0) with kind := .array 17 .char, interfaces := #[14, 2], accessFlags := 1041 }

/-- the primitive int -/
def k19 : Class := { plain "int" none with kind := .primitive 'I', accessFlags := 0x411 }
/-- [I -/
def k20 : Class := { plain "[I" (some 0) with kind := .array 19 .int, interfaces := #[14, 2], accessFlags := 1041 }

def heap : Heap := #[{ cls := 7, slots := #[.long 0, .int 1, .null, .int 0, .null, .int 0, .int 0], vm := .statics 7 },
  { cls := 12, slots := #[.null, .null, .null], vm := .statics 12 }]
def classes : Array Class := #[k0, k1, k2, k3, k4, k5, k6, k7, k8, k9, k10, k11, k12, k13, k14, k15, k16, k17, k18, k19, k20]
def interned : List (Array UInt16 × Addr) := []
def slotsUsed : Nat := 10
def theMethod : MethodId := ⟨1, 2⟩
def args0 : Array Value := #[.int 3, .int 5, .int 1, .int 2, .int 3, .long 0]
def aboutOver (below : List Frame) : State where
  vm := { classes := classes, interned := interned.toArray }
  heap := heap
  slotsUsed := slotsUsed
  threads := #[{ frames := .invoking theMethod args0 :: below }]
def below0 : List Frame := [.native { method := ⟨0, 0⟩, args := #[] }]
def about1 : State := aboutOver below0
def p0 : Program := .bare "" "" ""
def e0 : Env := launch0.env 0 0 0
theorem w_frames : about1.frames = Frame.invoking theMethod args0 :: below0 := rfl
set_option maxRecDepth 65536 in
theorem w_args : argsFit about1.vm theMethod args0 = true := by decide +kernel
set_option maxRecDepth 65536 in
theorem w_heap : heapFits about1 = true := by decide +kernel
set_option maxRecDepth 65536 in
theorem w_runnable : about1.curStatus? = some .runnable := by decide +kernel
set_option maxRecDepth 65536 in
theorem w_alone : about1.alone = true := by decide +kernel
set_option maxRecDepth 65536 in
theorem w_named : about1.methodNamed? x = some theMethod := by decide +kernel
set_option maxRecDepth 65536 in
theorem w_hears : about1.hears theMethod below0 = true := by decide +kernel
set_option maxRecDepth 65536 in
theorem w_ripe : about1.ripe theMethod args0 below0 = true := by decide +kernel
theorem w_running : about1.status = .running := rfl
set_option maxRecDepth 65536 in
theorem w_room : about1.hasRoom e0.platform room_1 = true :=
  launch0.hasRoom_least _ room_1 (by decide +kernel) (by decide +kernel) (by decide +kernel) (by decide +kernel) (by decide +kernel) (by decide +kernel)
theorem allAtoms_all (ts : List Jvm.Cond) (a : Array Jvm.Value) (st : Jvm.State) : (allAtoms ts).before a st = ts.all (fun c => c.before a st) := by
  induction ts with
  | nil => rfl
  | cons c t ih =>
    show (Jvm.Cond.and c (allAtoms t)).before a st = _
    rw [Jvm.Cond.before_and, ih, List.all_cons]
def words1 : List Jvm.Cond := Jvm.Cond.code x code maxLocals ret :: tables_1
/-- a 'code' word, met by the world's own term for the bytes: nothing is compared byte by byte -/
theorem code_word {y : MethodName} {bytes : ByteArray} {mx : Nat} {rt : Option FieldType} {a : Array Value} {s : State} {m : MethodId} {meth : Method} {c : Code} (h1 : s.methodNamed? y = some m) (h2 : s.vm.method? m = some meth) (h3 : meth.code = some c) (h4 : c.code = bytes)
    (h5 : (c.maxLocals == mx && c.exceptionTable.isEmpty && decide (c.maxStack ≤ mostOperands) && decide (meth.sig.returnType = rt) && !meth.locks && decide (parseMethodDescriptor y.desc = some meth.sig)) = true) : (Jvm.Cond.code y bytes mx rt).before a s = true := by
  simp only [Bool.and_eq_true, beq_iff_eq, Bool.not_eq_true', decide_eq_true_eq] at h5
  obtain ⟨⟨⟨⟨⟨g1, g2⟩, g3⟩, g4⟩, g5⟩, g6⟩ := h5
  simp [Cond.before, Cond.holds, Cond.value, h1, h2, h3, h4, g1, g2, g3, g4, g5, g6]
def isCode : Jvm.Cond → Bool
  | .code _ _ _ _ => true
  | _ => false
theorem all_split {L : List Jvm.Cond} {P : Jvm.Cond → Bool} (h1 : L.all (fun c => isCode c || P c) = true) (h2 : ∀ c ∈ L.filter isCode, P c = true) : L.all P = true := by
  refine List.all_eq_true.mpr fun c hc => ?_
  have h := List.all_eq_true.mp h1 c hc
  rcases Bool.eq_false_or_eq_true (isCode c) with hi | hi
  · exact h2 c (List.mem_filter.mpr ⟨hc, hi⟩)
  · simpa [hi] using h
set_option maxRecDepth 65536 in
theorem w_c0 : (Jvm.Cond.code x code maxLocals ret).before args0 about1 = true := code_word (m := ⟨1, 2⟩) (meth := k1m2) (c := k1c2) (by decide +kernel) rfl rfl rfl (by decide +kernel)
set_option maxRecDepth 65536 in
theorem w_c1 : (Jvm.Cond.code ({ cls := "com/example/umpteenth_copy/umpteenthcopy/engine/PassageEqualsPinLaw", name := "str", desc := "(III)Ljava/lang/String;" } : Jvm.MethodName) method_2_code (6 : Nat) (Option.some (Jvm.ClassFile.FieldType.object "java/lang/String"))).before args0 about1 = true := code_word (m := ⟨1, 1⟩) (meth := k1m1) (c := k1c1) (by decide +kernel) rfl rfl rfl (by decide +kernel)
set_option maxRecDepth 65536 in
theorem w_c2 : (Jvm.Cond.code ({ cls := "java/lang/String", name := "<init>", desc := "([C)V" } : Jvm.MethodName) jdk_42_method_3_code (2 : Nat) (Option.none : Option Jvm.ClassFile.FieldType)).before args0 about1 = true := code_word (m := ⟨7, 1⟩) (meth := k7m1) (c := k7c1) (by decide +kernel) rfl rfl rfl (by decide +kernel)
set_option maxRecDepth 65536 in
theorem w_c3 : (Jvm.Cond.code ({ cls := "java/lang/String", name := "<init>", desc := "([CIILjava/lang/Void;)V" } : Jvm.MethodName) jdk_42_method_149_code (6 : Nat) (Option.none : Option Jvm.ClassFile.FieldType)).before args0 about1 = true := code_word (m := ⟨7, 3⟩) (meth := k7m3) (c := k7c3) (by decide +kernel) rfl rfl rfl (by decide +kernel)
set_option maxRecDepth 65536 in
theorem w_c4 : (Jvm.Cond.code ({ cls := "java/lang/Object", name := "<init>", desc := "()V" } : Jvm.MethodName) object_method_1_code (1 : Nat) (Option.none : Option Jvm.ClassFile.FieldType)).before args0 about1 = true := code_word (m := ⟨0, 0⟩) (meth := k0m0) (c := k0c0) (by decide +kernel) rfl rfl rfl (by decide +kernel)
set_option maxRecDepth 65536 in
theorem w_c5 : (Jvm.Cond.code ({ cls := "com/example/umpteenth_copy/umpteenthcopy/engine/Passage", name := "<init>", desc := "(Ljava/lang/String;IIII)V" } : Jvm.MethodName) prog_16_method_1_code (6 : Nat) (Option.none : Option Jvm.ClassFile.FieldType)).before args0 about1 = true := code_word (m := ⟨8, 0⟩) (meth := k8m0) (c := k8c0) (by decide +kernel) rfl rfl rfl (by decide +kernel)
set_option maxRecDepth 65536 in
theorem w_c6 : (Jvm.Cond.code ({ cls := "java/util/Objects", name := "requireNonNull", desc := "(Ljava/lang/Object;Ljava/lang/String;)Ljava/lang/Object;" } : Jvm.MethodName) jdk_31_method_11_code (2 : Nat) (Option.some (Jvm.ClassFile.FieldType.object "java/lang/Object"))).before args0 about1 = true := code_word (m := ⟨9, 1⟩) (meth := k9m1) (c := k9c1) (by decide +kernel) rfl rfl rfl (by decide +kernel)
set_option maxRecDepth 65536 in
theorem w_c7 : (Jvm.Cond.code ({ cls := "java/lang/String", name := "equals", desc := "(Ljava/lang/Object;)Z" } : Jvm.MethodName) jdk_42_method_66_code (3 : Nat) (Option.some Jvm.ClassFile.FieldType.boolean)).before args0 about1 = true := code_word (m := ⟨7, 2⟩) (meth := k7m2) (c := k7c2) (by decide +kernel) rfl rfl rfl (by decide +kernel)
set_option maxRecDepth 65536 in
theorem w_c8 : (Jvm.Cond.code ({ cls := "java/lang/StringLatin1", name := "equals", desc := "([B[B)Z" } : Jvm.MethodName) jdk_43_method_13_code (3 : Nat) (Option.some Jvm.ClassFile.FieldType.boolean)).before args0 about1 = true := code_word (m := ⟨10, 1⟩) (meth := k10m1) (c := k10c1) (by decide +kernel) rfl rfl rfl (by decide +kernel)
set_option maxRecDepth 65536 in
theorem w_c9 : (Jvm.Cond.code ({ cls := "com/example/umpteenth_copy/umpteenthcopy/engine/Passage", name := "equals", desc := "(Ljava/lang/Object;)Z" } : Jvm.MethodName) prog_16_method_7_code (3 : Nat) (Option.some Jvm.ClassFile.FieldType.boolean)).before args0 about1 = true := code_word (m := ⟨8, 1⟩) (meth := k8m1) (c := k8c1) (by decide +kernel) rfl rfl rfl (by decide +kernel)
set_option maxRecDepth 65536 in
theorem w_c10 : (Jvm.Cond.code ({ cls := "java/lang/StringUTF16", name := "compress", desc := "([CII)[B" } : Jvm.MethodName) jdk_52_method_16_code (6 : Nat) (Option.some (Jvm.ClassFile.FieldType.array Jvm.ClassFile.FieldType.byte))).before args0 about1 = true := code_word (m := ⟨11, 2⟩) (meth := k11m2) (c := k11c2) (by decide +kernel) rfl rfl rfl (by decide +kernel)
set_option maxRecDepth 65536 in
theorem w_c11 : (Jvm.Cond.code ({ cls := "java/lang/StringUTF16", name := "compress", desc := "([CI[BII)I" } : Jvm.MethodName) jdk_52_method_21_code (7 : Nat) (Option.some Jvm.ClassFile.FieldType.int)).before args0 about1 = true := code_word (m := ⟨11, 3⟩) (meth := k11m3) (c := k11c3) (by decide +kernel) rfl rfl rfl (by decide +kernel)
set_option maxRecDepth 65536 in
theorem w_c12 : (Jvm.Cond.code ({ cls := "java/lang/StringUTF16", name := "coderFromArrayLen", desc := "([BI)B" } : Jvm.MethodName) jdk_52_method_15_code (2 : Nat) (Option.some Jvm.ClassFile.FieldType.byte)).before args0 about1 = true := code_word (m := ⟨11, 1⟩) (meth := k11m1) (c := k11c1) (by decide +kernel) rfl rfl rfl (by decide +kernel)
def codes1 : List Jvm.Cond := [Jvm.Cond.code x code maxLocals ret, Jvm.Cond.code ({ cls := "com/example/umpteenth_copy/umpteenthcopy/engine/PassageEqualsPinLaw", name := "str", desc := "(III)Ljava/lang/String;" } : Jvm.MethodName) method_2_code (6 : Nat) (Option.some (Jvm.ClassFile.FieldType.object "java/lang/String")), Jvm.Cond.code ({ cls := "java/lang/String", name := "<init>", desc := "([C)V" } : Jvm.MethodName) jdk_42_method_3_code (2 : Nat) (Option.none : Option Jvm.ClassFile.FieldType), Jvm.Cond.code ({ cls := "java/lang/String", name := "<init>", desc := "([CIILjava/lang/Void;)V" } : Jvm.MethodName) jdk_42_method_149_code (6 : Nat) (Option.none : Option Jvm.ClassFile.FieldType), Jvm.Cond.code ({ cls := "java/lang/Object", name := "<init>", desc := "()V" } : Jvm.MethodName) object_method_1_code (1 : Nat) (Option.none : Option Jvm.ClassFile.FieldType), Jvm.Cond.code ({ cls := "com/example/umpteenth_copy/umpteenthcopy/engine/Passage", name := "<init>", desc := "(Ljava/lang/String;IIII)V" } : Jvm.MethodName) prog_16_method_1_code (6 : Nat) (Option.none : Option Jvm.ClassFile.FieldType), Jvm.Cond.code ({ cls := "java/util/Objects", name := "requireNonNull", desc := "(Ljava/lang/Object;Ljava/lang/String;)Ljava/lang/Object;" } : Jvm.MethodName) jdk_31_method_11_code (2 : Nat) (Option.some (Jvm.ClassFile.FieldType.object "java/lang/Object")), Jvm.Cond.code ({ cls := "java/lang/String", name := "equals", desc := "(Ljava/lang/Object;)Z" } : Jvm.MethodName) jdk_42_method_66_code (3 : Nat) (Option.some Jvm.ClassFile.FieldType.boolean), Jvm.Cond.code ({ cls := "java/lang/StringLatin1", name := "equals", desc := "([B[B)Z" } : Jvm.MethodName) jdk_43_method_13_code (3 : Nat) (Option.some Jvm.ClassFile.FieldType.boolean), Jvm.Cond.code ({ cls := "com/example/umpteenth_copy/umpteenthcopy/engine/Passage", name := "equals", desc := "(Ljava/lang/Object;)Z" } : Jvm.MethodName) prog_16_method_7_code (3 : Nat) (Option.some Jvm.ClassFile.FieldType.boolean), Jvm.Cond.code ({ cls := "java/lang/StringUTF16", name := "compress", desc := "([CII)[B" } : Jvm.MethodName) jdk_52_method_16_code (6 : Nat) (Option.some (Jvm.ClassFile.FieldType.array Jvm.ClassFile.FieldType.byte)), Jvm.Cond.code ({ cls := "java/lang/StringUTF16", name := "compress", desc := "([CI[BII)I" } : Jvm.MethodName) jdk_52_method_21_code (7 : Nat) (Option.some Jvm.ClassFile.FieldType.int), Jvm.Cond.code ({ cls := "java/lang/StringUTF16", name := "coderFromArrayLen", desc := "([BI)B" } : Jvm.MethodName) jdk_52_method_15_code (2 : Nat) (Option.some Jvm.ClassFile.FieldType.byte)]
set_option maxRecDepth 65536 in
theorem codes_eq : words1.filter isCode = codes1 := rfl
theorem w_codes : ∀ c ∈ words1.filter isCode, c.before args0 about1 = true := by
  rw [codes_eq]
  intro c hc
  simp only [codes1, List.mem_cons, List.not_mem_nil, or_false] at hc
  rcases hc with rfl | rfl | rfl | rfl | rfl | rfl | rfl | rfl | rfl | rfl | rfl | rfl | rfl
  · exact w_c0
  · exact w_c1
  · exact w_c2
  · exact w_c3
  · exact w_c4
  · exact w_c5
  · exact w_c6
  · exact w_c7
  · exact w_c8
  · exact w_c9
  · exact w_c10
  · exact w_c11
  · exact w_c12
set_option maxRecDepth 65536 in
theorem w_t1 : (words1.take 24).all (fun c => isCode c || c.before args0 about1) = true := by decide +kernel
set_option maxRecDepth 65536 in
theorem w_t2 : ((words1.drop 24).take 24).all (fun c => isCode c || c.before args0 about1) = true := by decide +kernel
set_option maxRecDepth 65536 in
theorem w_t3 : (((words1.drop 24).drop 24).take 24).all (fun c => isCode c || c.before args0 about1) = true := by decide +kernel
set_option maxRecDepth 65536 in
theorem w_t4 : (((words1.drop 24).drop 24).drop 24).all (fun c => isCode c || c.before args0 about1) = true := by decide +kernel
theorem w_tables : (allAtoms (Jvm.Cond.code x code maxLocals ret :: tables_1)).before args0 about1 = true := by
  rw [allAtoms_all]
  show words1.all (fun c => c.before args0 about1) = true
  refine all_split ?_ w_codes
  rw [← List.take_append_drop 24 words1, List.all_append, w_t1, ← List.take_append_drop 24 (words1.drop 24), List.all_append, w_t2, ← List.take_append_drop 24 ((words1.drop 24).drop 24), List.all_append, w_t3, w_t4]
  rfl
set_option maxRecDepth 65536 in
theorem w_rest : rest_1_c.before args0 about1 = true := by decide +kernel
set_option maxRecDepth 65536 in
theorem w_case : (Jvm.Cond.and given_1 narrow_1).before args0 about1 = true := by decide +kernel
set_option maxRecDepth 65536 in
theorem w_consts : constsHeld consts_1 about1 := Jvm.Lit.constsHeldB_iff.mp (by decide +kernel)
theorem w_applies : (headSpec (Jvm.Cond.code x code maxLocals ret :: tables_1) room_1).applies x e0.platform about1 = true :=
  (Spec.applies_iff w_frames).mpr ⟨w_running, w_runnable, w_alone, w_named, w_hears, w_ripe, w_room, w_tables⟩
theorem atStart : AtStart classFile x code maxLocals ret World_1 tables_1 room_1 Calls_1 rest_1 Pre_1 launch0 p0 e0 about1 theMethod args0 below0 :=
  ⟨lists_1, trivial, launch0.admits_env _ _ _, launch0.least_env, fairChoices_fair.cas, fairChoices_fair.clock, w_frames, w_args, w_heap, w_applies, ⟨w_consts, trivial⟩, w_rest, w_case⟩
end start1
theorem witness_1 : WitnessClaimed_1 := ⟨start1.p0, start1.e0, start1.about1, start1.theMethod, start1.args0, start1.below0, start1.atStart⟩
end Jvm.Pilot.@@N@@
