import JvmDerived
import JvmDerived.Pilot.@@N@@Statement
import JvmDerived.Pilot.@@N@@Code
set_option linter.unusedVariables false
set_option linter.unusedSimpArgs false
@@BLOCK:NumsL.lean.txt@@
namespace Jvm.RoadKit
open Sem ClassFile Op Lib Jvm.Stand Jvm.Free Jvm.LawKit
section New
variable {p : Program} {l : Launch} {e : Env} {R : Room} {s : State} {m : MethodId} {args : Array Value} {below : List Frame} {meth : Method} {c : Code} {T : State} {locs : List Loc} {cells slots : Nat}
theorem retI (X : Stand p l e R s m args below meth c T locs cells slots) (hx : p.tables.exec = Jvm.exec) {pc : Nat} {Ls : Array Slot} {z : Int32} {rest : List Value} (hret : meth.sig.returnType = some .int) (hd : decode c.code pc = .ok (.ireturn, 1)) {fs : List Frame}
    (hl : ∀ (f : JFrame) (acts : List Action), f.method = m → f.locked = none → f.entered = [] → (doReturn e (T.setTop f) acts (some (.int z))).1 = T.setFrames fs) : Steps p.tables e below (T.setTop (mkF m pc Ls (.int z :: rest))) (T.setFrames fs) := by
  have hm' : T.vm.method? m = some meth := X.method'
  have hn : narrow .int (.int z) = .int z := rfl
  show Steps p.tables e below (T.setTop { method := m, pc := pc, locals := Ls, stack := _ :: rest, locked := none }) _
  jvm_step X.here [X.here.top, hx, hd, hm', hret, hn]
  first | (intro acts; rw [hl _ acts rfl rfl rfl]) | rw [hl _ _ rfl rfl rfl]
  exact Steps.refl _
end New
end Jvm.RoadKit
namespace Jvm.OwnFP
open Jvm Jvm.ClassFile Sem Op Lib Jvm.FP Jvm.FP.Core
theorem own_quot {n d : Int} {x y : Datum} (hd : d ≠ 0) (hn : n.natAbs ≤ 2 ^ 53) (hx : Whole (n * d) x) (hy : Whole d y) : Whole n (quotient b64 x y) := by
  cases x with
  | nan => exact hx.elim
  | inf => exact hx.elim
  | fin s c q =>
    cases y with
    | nan => exact hy.elim
    | inf => exact hy.elim
    | fin t c' r =>
      have hc' : c' ≠ 0 := fun z => hd ((whole_zero hy).mp z)
      have ex := whole_natAbs hx
      have ey := whole_natAbs hy
      have hw : Whole n (.fin (s != t) n.natAbs 0) := by
        by_cases h0 : n = 0
        · subst h0
          show signed _ _ = _
          simp [signed]
        · have hs := whole_sign hx (Int.mul_ne_zero h0 hd)
          have ht := whole_sign hy hd
          have e : (s != t) = decide (n < 0) := by
            rw [hs, ht]
            by_cases hn0 : n < 0
            · by_cases hd0 : d < 0
              · have : ¬ n * d < 0 := Int.not_lt.mpr (Int.le_of_lt (Int.mul_pos_of_neg_of_neg hn0 hd0))
                simp [hn0, hd0, this]
              · have : n * d < 0 := Int.mul_neg_of_neg_of_pos hn0 (by omega)
                simp [hn0, hd0, this]
            · by_cases hd0 : d < 0
              · have : n * d < 0 := Int.mul_neg_of_pos_of_neg (by omega) hd0
                simp [hn0, hd0, this]
              · have : ¬ n * d < 0 := Int.not_lt.mpr (Int.mul_nonneg (by omega) (by omega))
                simp [hn0, hd0, this]
          rw [e]
          show signed _ _ = _
          simp only [signed]
          by_cases hn0 : n < 0
          · simp [hn0]; omega
          · simp [hn0]; omega
      have key : quotient b64 (.fin s c q) (.fin t c' r) = round b64 (.fin (s != t) n.natAbs 0) := by
        show (if c' = 0 then _ else roundRatio b64 (s != t) c c' (q - r)) = roundRatio b64 (s != t) n.natAbs 1 0
        rw [if_neg hc']
        refine roundRatio_congr (Nat.pos_of_ne_zero hc') (by decide) ?_
        rw [Int.natAbs_mul] at ex
        have h1 : c * 2 ^ (q.toNat + (-r).toNat) = n.natAbs * c' * 2 ^ (r.toNat + (-q).toNat) := by
          rw [Nat.pow_add, Nat.pow_add]
          calc c * (2 ^ q.toNat * 2 ^ (-r).toNat) = (c * 2 ^ q.toNat) * 2 ^ (-r).toNat := by rw [Nat.mul_assoc]
            _ = (n.natAbs * d.natAbs * 2 ^ (-q).toNat) * 2 ^ (-r).toNat := by rw [ex]
            _ = n.natAbs * (d.natAbs * 2 ^ (-r).toNat) * 2 ^ (-q).toNat := by simp only [Nat.mul_assoc, Nat.mul_comm, Nat.mul_left_comm]
            _ = n.natAbs * (c' * 2 ^ r.toNat) * 2 ^ (-q).toNat := by rw [ey]
            _ = n.natAbs * c' * (2 ^ r.toNat * 2 ^ (-q).toNat) := by simp only [Nat.mul_assoc]
        rw [Nat.mul_one]
        by_cases hle : r ≤ q
        · have a1 : q.toNat + (-r).toNat = (q - r - 0).toNat + (r.toNat + (-q).toNat) := by omega
          have a2 : (0 - (q - r)).toNat = 0 := by omega
          rw [a1, Nat.pow_add, ← Nat.mul_assoc] at h1
          rw [a2, Nat.pow_zero, Nat.mul_one]
          exact Nat.eq_of_mul_eq_mul_right (Nat.two_pow_pos _) h1
        · have a1 : r.toNat + (-q).toNat = (0 - (q - r)).toNat + (q.toNat + (-r).toNat) := by omega
          have a2 : (q - r - 0).toNat = 0 := by omega
          rw [a1, Nat.pow_add 2 (0 - (q - r)).toNat _, ← Nat.mul_assoc] at h1
          rw [a2, Nat.pow_zero, Nat.mul_one]
          exact Nat.eq_of_mul_eq_mul_right (Nat.two_pow_pos _) h1
      rw [key]
      exact whole_round good_b64 wide_b64 hn hw

theorem own_div {n d : Int32} (hd : ¬ d = 0) (n1 : -1048576 ≤ n.toInt) (n2 : n.toInt < 1048576) (d1 : -1048576 ≤ d.toInt) (d2 : d.toInt < 1048576) :
    Jvm.Free.Fl.NoNaN64 (FP.ddiv (FP.l2d (n.toInt64 * d.toInt64)) (FP.i2d d)) ∧ cmpValue (FP.dcmp (FP.ddiv (FP.l2d (n.toInt64 * d.toInt64)) (FP.i2d d)) (FP.i2d n)) .l = 0 := by
  have hd' : d.toInt ≠ 0 := fun z => hd (Int32.toInt_inj.mp z)
  have b1 : n.toInt * d.toInt ≤ 1048576 * 1048576 ∧ -(1048576 * 1048576) ≤ n.toInt * d.toInt := by
    have m1 : (n.toInt * d.toInt).natAbs ≤ 1048576 * 1048576 := by
      rw [Int.natAbs_mul]
      exact Nat.mul_le_mul (by omega) (by omega)
    omega
  have ep : (n.toInt64 * d.toInt64).toInt = n.toInt * d.toInt := by
    rw [Int64.toInt_mul, Int32.toInt_toInt64, Int32.toInt_toInt64]
    exact Int.bmod_eq_of_le (by omega) (by omega)
  have wp : Whole (n.toInt * d.toInt) (val64 (FP.l2d (n.toInt64 * d.toInt64))) := by
    have := l2d_whole (a := n.toInt64 * d.toInt64) (by unfold Small53; rw [ep]; omega)
    rw [ep] at this
    exact this
  have wi : ∀ z : Int32, -2147483648 ≤ z.toInt → Whole z.toInt (val64 (FP.i2d z)) := fun z _ => by
    have e : FP.i2d z = FP.l2d z.toInt64 := Core.i2d_l2d z
    rw [e]
    have z1 := z.le_toInt
    have z2 := z.toInt_lt
    have := l2d_whole (a := z.toInt64) (by unfold Small53; rw [Int32.toInt_toInt64]; omega)
    rw [Int32.toInt_toInt64] at this
    exact this
  have wd := wi d (by omega)
  have wn := wi n (by omega)
  have wq : Whole n.toInt (val64 (FP.ddiv (FP.l2d (n.toInt64 * d.toInt64)) (FP.i2d d))) := by
    show Whole n.toInt (val64 (Core.ddiv _ _))
    rw [val64_ddiv]
    exact own_quot hd' (by omega) wp wd
  refine ⟨Jvm.Free.Fl.noNaN64_no.mpr ?_, ?_⟩
  · cases hq : Core.dIsNaN (FP.ddiv (FP.l2d (n.toInt64 * d.toInt64)) (FP.i2d d)) with
    | false => rfl
    | true =>
      have z := (dIsNaN_iff _).mp hq
      rw [z] at wq
      exact wq.elim
  · have e : FP.dcmp (FP.ddiv (FP.l2d (n.toInt64 * d.toInt64)) (FP.i2d d)) (FP.i2d n) = some (compare n.toInt n.toInt) := dcmp_int wq wn
    rw [e]
    have : compare n.toInt n.toInt = .eq := by simp [compare, compareOfLessAndEq]
    rw [this]
    rfl
end Jvm.OwnFP
namespace Jvm.Pilot.@@N@@
open Jvm Jvm.ClassFile Sem Op Lib Jvm.Free Jvm.Stand Jvm.LawKit Jvm.RoadKit Bundle Jvm.Pilot.@@N@@.Jvm.D
def OwnQ (v0 : Value) (h0 : Heap) (n0 : Nat) (v : Option Value) (h : Heap) (L : List Loc) : Prop := v = some v0 ∧ Fr n0 L ∧ h = h0
abbrev OwnPure (l : Launch) (Z : State) (h0 : Heap) (n0 : Nat) (y : MethodName) (cd : ByteArray) (ml : Nat) (rt : Option FieldType) (rm : Room) (A : Array Value) (v0 : Value) : Prop := ∀ ws : List Jvm.Cond, MetFree l y (head1 (Jvm.Cond.code y cd ml rt :: ws) rm) (fun a U => a = A ∧ Z.Warmed39 U.vm ∧ U.heap = h0) (fun _ _ _ _ _ => True) (fun _ U o U' => ∃ v L, o = .returned v ∧ OwnQ v0 h0 n0 v U'.heap L ∧ FrameEnd U o U' L rm.cells rm.slots)
theorem own_z0 {Z : State} {n0 : Nat} {h : Heap} (X : Old Z n0 h) : n0 ≤ h.size := by
  have e := X.1
  have q := X.2.1
  omega
theorem d2_0 : decode method_2_code 0 = .ok (.lload_n 0, 1) := by decide +kernel
theorem d2_1 : decode method_2_code 1 = .ok (.bipush 32, 2) := by decide +kernel
theorem d2_3 : decode method_2_code 3 = .ok (.lshr, 1) := by decide +kernel
theorem d2_4 : decode method_2_code 4 = .ok (.l2i, 1) := by decide +kernel
theorem d2_5 : decode method_2_code 5 = .ok (.bipush 11, 2) := by decide +kernel
theorem d2_7 : decode method_2_code 7 = .ok (.ishr, 1) := by decide +kernel
theorem d2_8 : decode method_2_code 8 = .ok (.ireturn, 1) := by decide +kernel
theorem pn_com_example_huron_huron_testing_TimedTurnsRatiosPinLaw : plainName "com/example/huron/huron/testing/TimedTurnsRatiosPinLaw" = true := by first | (simp [plainName, overriddenIn]; done) | decide +kernel
def Q_rmN (Z : State) (xx : Int64) (rr : Int32) (h0 : Heap) (n0 : Nat) (v : Option Value) (h : Heap) (L : List Loc) : Prop := v = some (.int rr) ∧ Fr n0 L ∧ h = h0
theorem ef_rmN (m : MethodId) (xx : Int64) : entryFrame m #[(.long xx)] 2 = mkF m 0 #[.val (.long xx), .second] [] := by first | (simp [entryFrame, mkF, argsToLocals, Value.category]; done) | rfl
set_option maxRecDepth 65536 in
set_option maxHeartbeats 40000000 in
theorem rmN (l : Launch) (Z : State) (a0 : Array Value) (hw : ∀ d ∈ tables_1, d.before a0 Z = true) (ws : List Jvm.Cond) (xx : Int64) (rr : Int32) (h0 : Heap) (n0 : Nat) (Z0 : n0 ≤ h0.size) (hrr : (((xx >>> ((32 : Int32) &&& 0x3f).toInt64).toInt32) >>> ((11 : Int32) &&& 31)) = rr) :
    MetFree l (⟨"com/example/huron/huron/testing/TimedTurnsRatiosPinLaw", "num", "(J)I"⟩ : MethodName) (head1 (Jvm.Cond.code (⟨"com/example/huron/huron/testing/TimedTurnsRatiosPinLaw", "num", "(J)I"⟩ : MethodName) method_2_code 2 (some .int) :: ws) ({ frames := 0, cells := 0, slots := 0, locals := 0 } : Room)) (fun aa U => aa = #[(.long xx)] ∧ Z.Warmed39 U.vm ∧ U.heap = h0) (fun _ _ _ _ _ => True) (fun _ U o U' => ∃ v L, o = .returned v ∧ Q_rmN Z xx rr h0 n0 v U'.heap L ∧ FrameEnd U o U' L ({ frames := 0, cells := 0, slots := 0, locals := 0 } : Room).cells ({ frames := 0, cells := 0, slots := 0, locals := 0 } : Room).slots) := by
  refine MetFree.of_bodySF (plainFor_of_name pn_com_example_huron_huron_testing_TimedTurnsRatiosPinLaw) hisR ?_
  intro p e s m args below meth c s₁ Bd hml0 hP hK
  obtain ⟨rfl, hZ, hh⟩ := hP
  have hx := Bd.exec
  have hby := Bd.bytes
  have hml : c.maxLocals = 2 := hml0
  have hown : s.vm.findClass "com/example/huron/huron/testing/TimedTurnsRatiosPinLaw" = some m.cls := findClass_of_methodNamed Bd.named
  have hnm := (name_of_methodNamed Bd.named Bd.method).1
  have X0 : Stand p l e ({ frames := 0, cells := 0, slots := 0, locals := 0 } : Room) s m #[(.long xx)] below meth c s₁ [] 0 0 := Stand.of_body Bd
  have e0 : s₁.heap = h0 := by rw [← hh, Bd.state]; rfl
  have N0 := Fr.nil n0
  have pre0 : ∀ t, Steps p.tables e below (s₁.setTop (mkF m 0 #[.val (.long xx), .second] [])) t → Steps p.tables e below (s₁.setTop (entryFrame m #[(.long xx)] 2)) t := fun t k => castTop (ef_rmN m xx) k
  obtain ⟨fs, hr, hrun, hended, hW, hsame⟩ := X0.leave (v := some (.int rr)) (fun h => by rw [Bd.returns] at h; cases h)
  refine ⟨_, _, pre0 _ ?_, hrun, hended, _, _, rfl, ?_, ⟨_, rfl⟩, hW, hsame.mono (by decide) (by decide)⟩
  · show Steps p.tables e below (s₁.setTop (mkF m 0 #[.val (.long xx), .second] [])) _
    refine XS.lloadN X0.here hx rfl (hb hby d2_0) rfl ?_
    show Steps p.tables e below (s₁.setTop (mkF m 1 #[.val (.long xx), .second] [(.long xx)])) _
    refine XS.bipush X0.here hx rfl (hb hby d2_1) ?_
    show Steps p.tables e below (s₁.setTop (mkF m 3 #[.val (.long xx), .second] [(.int (32 : Int32)), (.long xx)])) _
    refine XS.lshr X0.here hx rfl (hb hby d2_3) rfl ?_
    show Steps p.tables e below (s₁.setTop (mkF m 4 #[.val (.long xx), .second] [(.long (xx >>> ((32 : Int32) &&& 0x3f).toInt64))])) _
    refine XS.l2i X0.here hx rfl (hb hby d2_4) rfl ?_
    show Steps p.tables e below (s₁.setTop (mkF m 5 #[.val (.long xx), .second] [(.int ((xx >>> ((32 : Int32) &&& 0x3f).toInt64).toInt32))])) _
    refine XS.bipush X0.here hx rfl (hb hby d2_5) ?_
    show Steps p.tables e below (s₁.setTop (mkF m 7 #[.val (.long xx), .second] [(.int (11 : Int32)), (.int ((xx >>> ((32 : Int32) &&& 0x3f).toInt64).toInt32))])) _
    refine XS.ishr X0.here hx rfl (hb hby d2_7) rfl ?_
    show Steps p.tables e below (s₁.setTop (mkF m 8 #[.val (.long xx), .second] [(.int (((xx >>> ((32 : Int32) &&& 0x3f).toInt64).toInt32) >>> ((11 : Int32) &&& 31)))])) _
    rw [hrr]
    exact retI X0 hx Bd.returns (hb hby d2_8) hr
  · show Q_rmN Z xx rr h0 n0 _ s₁.heap _
    rw [e0]
    exact ⟨rfl, N0, rfl⟩
theorem d3_0 : decode method_3_code 0 = .ok (.lload_n 0, 1) := by decide +kernel
theorem d3_1 : decode method_3_code 1 = .ok (.l2i, 1) := by decide +kernel
theorem d3_2 : decode method_3_code 2 = .ok (.bipush 11, 2) := by decide +kernel
theorem d3_4 : decode method_3_code 4 = .ok (.ishr, 1) := by decide +kernel
theorem d3_5 : decode method_3_code 5 = .ok (.istore_n 2, 1) := by decide +kernel
theorem d3_6 : decode method_3_code 6 = .ok (.iload_n 2, 1) := by decide +kernel
theorem d3_7 : decode method_3_code 7 = .ok (.ifCond .ne 7, 3) := by decide +kernel
theorem d3_10 : decode method_3_code 10 = .ok (.iconst 1, 1) := by decide +kernel
theorem d3_11 : decode method_3_code 11 = .ok (.goto 4, 3) := by decide +kernel
theorem d3_15 : decode method_3_code 15 = .ok (.ireturn, 1) := by decide +kernel
def Q_rmDa (Z : State) (xx : Int64) (h0 : Heap) (n0 : Nat) (v : Option Value) (h : Heap) (L : List Loc) : Prop := v = some (.int (1 : Int32)) ∧ Fr n0 L ∧ h = h0
theorem ef_rmDa (m : MethodId) (xx : Int64) : entryFrame m #[(.long xx)] 3 = mkF m 0 #[.val (.long xx), .second, .unset] [] := by first | (simp [entryFrame, mkF, argsToLocals, Value.category]; done) | rfl
set_option maxRecDepth 65536 in
set_option maxHeartbeats 40000000 in
theorem rmDa (l : Launch) (Z : State) (a0 : Array Value) (hw : ∀ d ∈ tables_1, d.before a0 Z = true) (ws : List Jvm.Cond) (xx : Int64) (h0 : Heap) (n0 : Nat) (Z0 : n0 ≤ h0.size) (hc7 : ((xx.toInt32) >>> ((11 : Int32) &&& 31)) = (0 : Int32)) :
    MetFree l (⟨"com/example/huron/huron/testing/TimedTurnsRatiosPinLaw", "den", "(J)I"⟩ : MethodName) (head1 (Jvm.Cond.code (⟨"com/example/huron/huron/testing/TimedTurnsRatiosPinLaw", "den", "(J)I"⟩ : MethodName) method_3_code 3 (some .int) :: ws) ({ frames := 0, cells := 0, slots := 0, locals := 0 } : Room)) (fun aa U => aa = #[(.long xx)] ∧ Z.Warmed39 U.vm ∧ U.heap = h0) (fun _ _ _ _ _ => True) (fun _ U o U' => ∃ v L, o = .returned v ∧ Q_rmDa Z xx h0 n0 v U'.heap L ∧ FrameEnd U o U' L ({ frames := 0, cells := 0, slots := 0, locals := 0 } : Room).cells ({ frames := 0, cells := 0, slots := 0, locals := 0 } : Room).slots) := by
  refine MetFree.of_bodySF (plainFor_of_name pn_com_example_huron_huron_testing_TimedTurnsRatiosPinLaw) hisR ?_
  intro p e s m args below meth c s₁ Bd hml0 hP hK
  obtain ⟨rfl, hZ, hh⟩ := hP
  have hx := Bd.exec
  have hby := Bd.bytes
  have hml : c.maxLocals = 3 := hml0
  have hown : s.vm.findClass "com/example/huron/huron/testing/TimedTurnsRatiosPinLaw" = some m.cls := findClass_of_methodNamed Bd.named
  have hnm := (name_of_methodNamed Bd.named Bd.method).1
  have X0 : Stand p l e ({ frames := 0, cells := 0, slots := 0, locals := 0 } : Room) s m #[(.long xx)] below meth c s₁ [] 0 0 := Stand.of_body Bd
  have e0 : s₁.heap = h0 := by rw [← hh, Bd.state]; rfl
  have N0 := Fr.nil n0
  have pre0 : ∀ t, Steps p.tables e below (s₁.setTop (mkF m 0 #[.val (.long xx), .second, .unset] [])) t → Steps p.tables e below (s₁.setTop (entryFrame m #[(.long xx)] 3)) t := fun t k => castTop (ef_rmDa m xx) k
  obtain ⟨fs, hr, hrun, hended, hW, hsame⟩ := X0.leave (v := some (.int (1 : Int32))) (fun h => by rw [Bd.returns] at h; cases h)
  refine ⟨_, _, pre0 _ ?_, hrun, hended, _, _, rfl, ?_, ⟨_, rfl⟩, hW, hsame.mono (by decide) (by decide)⟩
  · show Steps p.tables e below (s₁.setTop (mkF m 0 #[.val (.long xx), .second, .unset] [])) _
    refine XS.lloadN X0.here hx rfl (hb hby d3_0) rfl ?_
    show Steps p.tables e below (s₁.setTop (mkF m 1 #[.val (.long xx), .second, .unset] [(.long xx)])) _
    refine XS.l2i X0.here hx rfl (hb hby d3_1) rfl ?_
    show Steps p.tables e below (s₁.setTop (mkF m 2 #[.val (.long xx), .second, .unset] [(.int (xx.toInt32))])) _
    refine XS.bipush X0.here hx rfl (hb hby d3_2) ?_
    show Steps p.tables e below (s₁.setTop (mkF m 4 #[.val (.long xx), .second, .unset] [(.int (11 : Int32)), (.int (xx.toInt32))])) _
    refine XS.ishr X0.here hx rfl (hb hby d3_4) rfl ?_
    show Steps p.tables e below (s₁.setTop (mkF m 5 #[.val (.long xx), .second, .unset] [(.int ((xx.toInt32) >>> ((11 : Int32) &&& 31)))])) _
    refine XS.istoreN X0.here hx rfl (hb hby d3_5) rfl (l' := #[.val (.long xx), .second, .val (.int ((xx.toInt32) >>> ((11 : Int32) &&& 31)))]) rfl ?_
    show Steps p.tables e below (s₁.setTop (mkF m 6 #[.val (.long xx), .second, .val (.int ((xx.toInt32) >>> ((11 : Int32) &&& 31)))] [])) _
    refine XS.iloadN X0.here hx rfl (hb hby d3_6) rfl ?_
    show Steps p.tables e below (s₁.setTop (mkF m 7 #[.val (.long xx), .second, .val (.int ((xx.toInt32) >>> ((11 : Int32) &&& 31)))] [(.int ((xx.toInt32) >>> ((11 : Int32) &&& 31)))])) _
    refine XS.ifNo X0.here hx rfl (hb hby d3_7) rfl ((if0 _ _).trans (teq hc7).2) ?_
    show Steps p.tables e below (s₁.setTop (mkF m 10 #[.val (.long xx), .second, .val (.int ((xx.toInt32) >>> ((11 : Int32) &&& 31)))] [])) _
    refine XS.iconst X0.here hx rfl (hb hby d3_10) ?_
    show Steps p.tables e below (s₁.setTop (mkF m 11 #[.val (.long xx), .second, .val (.int ((xx.toInt32) >>> ((11 : Int32) &&& 31)))] [(.int (1 : Int32))])) _
    refine XS.goto X0.here hx rfl (pc0 := 11) (pc' := 15) rfl (hb hby d3_11) (by decide) (by decide) ?_
    show Steps p.tables e below (s₁.setTop (mkF m 15 #[.val (.long xx), .second, .val (.int ((xx.toInt32) >>> ((11 : Int32) &&& 31)))] [(.int (1 : Int32))])) _
    exact retI X0 hx Bd.returns (hb hby d3_15) hr
  · show Q_rmDa Z xx h0 n0 _ s₁.heap _
    rw [e0]
    exact ⟨rfl, N0, rfl⟩
theorem d3_14 : decode method_3_code 14 = .ok (.iload_n 2, 1) := by decide +kernel
def Q_rmDb (Z : State) (xx : Int64) (rr : Int32) (h0 : Heap) (n0 : Nat) (v : Option Value) (h : Heap) (L : List Loc) : Prop := v = some (.int rr) ∧ Fr n0 L ∧ h = h0
theorem ef_rmDb (m : MethodId) (xx : Int64) : entryFrame m #[(.long xx)] 3 = mkF m 0 #[.val (.long xx), .second, .unset] [] := by first | (simp [entryFrame, mkF, argsToLocals, Value.category]; done) | rfl
set_option maxRecDepth 65536 in
set_option maxHeartbeats 40000000 in
theorem rmDb (l : Launch) (Z : State) (a0 : Array Value) (hw : ∀ d ∈ tables_1, d.before a0 Z = true) (ws : List Jvm.Cond) (xx : Int64) (rr : Int32) (h0 : Heap) (n0 : Nat) (Z0 : n0 ≤ h0.size) (hrr : ((xx.toInt32) >>> ((11 : Int32) &&& 31)) = rr) (hc7 : ¬ (((xx.toInt32) >>> ((11 : Int32) &&& 31)) = (0 : Int32))) :
    MetFree l (⟨"com/example/huron/huron/testing/TimedTurnsRatiosPinLaw", "den", "(J)I"⟩ : MethodName) (head1 (Jvm.Cond.code (⟨"com/example/huron/huron/testing/TimedTurnsRatiosPinLaw", "den", "(J)I"⟩ : MethodName) method_3_code 3 (some .int) :: ws) ({ frames := 0, cells := 0, slots := 0, locals := 0 } : Room)) (fun aa U => aa = #[(.long xx)] ∧ Z.Warmed39 U.vm ∧ U.heap = h0) (fun _ _ _ _ _ => True) (fun _ U o U' => ∃ v L, o = .returned v ∧ Q_rmDb Z xx rr h0 n0 v U'.heap L ∧ FrameEnd U o U' L ({ frames := 0, cells := 0, slots := 0, locals := 0 } : Room).cells ({ frames := 0, cells := 0, slots := 0, locals := 0 } : Room).slots) := by
  refine MetFree.of_bodySF (plainFor_of_name pn_com_example_huron_huron_testing_TimedTurnsRatiosPinLaw) hisR ?_
  intro p e s m args below meth c s₁ Bd hml0 hP hK
  obtain ⟨rfl, hZ, hh⟩ := hP
  have hx := Bd.exec
  have hby := Bd.bytes
  have hml : c.maxLocals = 3 := hml0
  have hown : s.vm.findClass "com/example/huron/huron/testing/TimedTurnsRatiosPinLaw" = some m.cls := findClass_of_methodNamed Bd.named
  have hnm := (name_of_methodNamed Bd.named Bd.method).1
  have X0 : Stand p l e ({ frames := 0, cells := 0, slots := 0, locals := 0 } : Room) s m #[(.long xx)] below meth c s₁ [] 0 0 := Stand.of_body Bd
  have e0 : s₁.heap = h0 := by rw [← hh, Bd.state]; rfl
  have N0 := Fr.nil n0
  have pre0 : ∀ t, Steps p.tables e below (s₁.setTop (mkF m 0 #[.val (.long xx), .second, .unset] [])) t → Steps p.tables e below (s₁.setTop (entryFrame m #[(.long xx)] 3)) t := fun t k => castTop (ef_rmDb m xx) k
  obtain ⟨fs, hr, hrun, hended, hW, hsame⟩ := X0.leave (v := some (.int rr)) (fun h => by rw [Bd.returns] at h; cases h)
  refine ⟨_, _, pre0 _ ?_, hrun, hended, _, _, rfl, ?_, ⟨_, rfl⟩, hW, hsame.mono (by decide) (by decide)⟩
  · show Steps p.tables e below (s₁.setTop (mkF m 0 #[.val (.long xx), .second, .unset] [])) _
    refine XS.lloadN X0.here hx rfl (hb hby d3_0) rfl ?_
    show Steps p.tables e below (s₁.setTop (mkF m 1 #[.val (.long xx), .second, .unset] [(.long xx)])) _
    refine XS.l2i X0.here hx rfl (hb hby d3_1) rfl ?_
    show Steps p.tables e below (s₁.setTop (mkF m 2 #[.val (.long xx), .second, .unset] [(.int (xx.toInt32))])) _
    refine XS.bipush X0.here hx rfl (hb hby d3_2) ?_
    show Steps p.tables e below (s₁.setTop (mkF m 4 #[.val (.long xx), .second, .unset] [(.int (11 : Int32)), (.int (xx.toInt32))])) _
    refine XS.ishr X0.here hx rfl (hb hby d3_4) rfl ?_
    show Steps p.tables e below (s₁.setTop (mkF m 5 #[.val (.long xx), .second, .unset] [(.int ((xx.toInt32) >>> ((11 : Int32) &&& 31)))])) _
    refine XS.istoreN X0.here hx rfl (hb hby d3_5) rfl (l' := #[.val (.long xx), .second, .val (.int ((xx.toInt32) >>> ((11 : Int32) &&& 31)))]) rfl ?_
    show Steps p.tables e below (s₁.setTop (mkF m 6 #[.val (.long xx), .second, .val (.int ((xx.toInt32) >>> ((11 : Int32) &&& 31)))] [])) _
    refine XS.iloadN X0.here hx rfl (hb hby d3_6) rfl ?_
    show Steps p.tables e below (s₁.setTop (mkF m 7 #[.val (.long xx), .second, .val (.int ((xx.toInt32) >>> ((11 : Int32) &&& 31)))] [(.int ((xx.toInt32) >>> ((11 : Int32) &&& 31)))])) _
    refine XS.ifYes X0.here hx rfl (pc0 := 7) (pc' := 14) rfl (hb hby d3_7) rfl ((if0 _ _).trans (feq hc7).2) (by decide) (by decide) ?_
    show Steps p.tables e below (s₁.setTop (mkF m 14 #[.val (.long xx), .second, .val (.int ((xx.toInt32) >>> ((11 : Int32) &&& 31)))] [])) _
    refine XS.iloadN X0.here hx rfl (hb hby d3_14) rfl ?_
    show Steps p.tables e below (s₁.setTop (mkF m 15 #[.val (.long xx), .second, .val (.int ((xx.toInt32) >>> ((11 : Int32) &&& 31)))] [(.int ((xx.toInt32) >>> ((11 : Int32) &&& 31)))])) _
    rw [hrr]
    exact retI X0 hx Bd.returns (hb hby d3_15) hr
  · show Q_rmDb Z xx rr h0 n0 _ s₁.heap _
    rw [e0]
    exact ⟨rfl, N0, rfl⟩
theorem d1_0 : decode prog_70_method_7_code 0 = .ok (.aload_n 0, 1) := by decide +kernel
theorem d1_1 : decode prog_70_method_7_code 1 = .ok (.arraylength, 1) := by decide +kernel
theorem d1_2 : decode prog_70_method_7_code 2 = .ok (.newarray .double, 2) := by decide +kernel
theorem d1_4 : decode prog_70_method_7_code 4 = .ok (.astore_n 2, 1) := by decide +kernel
theorem d1_5 : decode prog_70_method_7_code 5 = .ok (.iconst 0, 1) := by decide +kernel
theorem d1_6 : decode prog_70_method_7_code 6 = .ok (.istore_n 3, 1) := by decide +kernel
theorem d1_7 : decode prog_70_method_7_code 7 = .ok (.iload_n 3, 1) := by decide +kernel
theorem d1_8 : decode prog_70_method_7_code 8 = .ok (.aload_n 0, 1) := by decide +kernel
theorem d1_9 : decode prog_70_method_7_code 9 = .ok (.arraylength, 1) := by decide +kernel
theorem d1_10 : decode prog_70_method_7_code 10 = .ok (.if_icmp .ge 19, 3) := by decide +kernel
theorem d1_29 : decode prog_70_method_7_code 29 = .ok (.aload_n 2, 1) := by decide +kernel
theorem d1_30 : decode prog_70_method_7_code 30 = .ok (.areturn, 1) := by decide +kernel
theorem pn_com_example_huron_huron_testing_TimedTurns : plainName "com/example/huron/huron/testing/TimedTurns" = true := by first | (simp [plainName, overriddenIn]; done) | decide +kernel
def Q_rmR0 (Z : State) (a1 : Addr) (a2 : Addr) (k1 : ClassId) (k2 : ClassId) (h0 : Heap) (n0 : Nat) (v : Option Value) (h : Heap) (L : List Loc) : Prop := ∃ nb : Addr, ∃ nk : ClassId, v = some (.ref nb) ∧ Fr n0 L ∧ Keep h0 h [] ∧ h0.size ≤ nb ∧ Arv Z h nb nk .double (0 : Int32) [] (.double (FP.l2d 0))
theorem ef_rmR0 (m : MethodId) (a1 : Addr) (a2 : Addr) : entryFrame m #[(.ref a1), (.ref a2)] 4 = mkF m 0 #[.val (.ref a1), .val (.ref a2), .unset, .unset] [] := by first | (simp [entryFrame, mkF, argsToLocals, Value.category]; done) | rfl
set_option maxRecDepth 65536 in
set_option maxHeartbeats 40000000 in
theorem rmR0 (l : Launch) (Z : State) (a0 : Array Value) (hw : ∀ d ∈ tables_1, d.before a0 Z = true) (ws : List Jvm.Cond) (a1 : Addr) (a2 : Addr) (k1 : ClassId) (k2 : ClassId) (h0 : Heap) (n0 : Nat) (X00 : Old Z n0 h0) (V_a1 : Arv Z h0 a1 k1 .double (0 : Int32) [] (.double (FP.l2d 0))) (V_a2 : Arv Z h0 a2 k2 .double (0 : Int32) [] (.double (FP.l2d 0))) :
    MetFree l (⟨"com/example/huron/huron/testing/TimedTurns", "ratios", "([D[D)[D"⟩ : MethodName) (head1 (Jvm.Cond.code (⟨"com/example/huron/huron/testing/TimedTurns", "ratios", "([D[D)[D"⟩ : MethodName) prog_70_method_7_code 4 (some (.array .double)) :: ws) ({ frames := 0, cells := 1, slots := 0, locals := 0 } : Room)) (fun aa U => aa = #[(.ref a1), (.ref a2)] ∧ Z.Warmed39 U.vm ∧ U.heap = h0) (fun _ _ _ _ _ => True) (fun _ U o U' => ∃ v L, o = .returned v ∧ Q_rmR0 Z a1 a2 k1 k2 h0 n0 v U'.heap L ∧ FrameEnd U o U' L ({ frames := 0, cells := 1, slots := 0, locals := 0 } : Room).cells ({ frames := 0, cells := 1, slots := 0, locals := 0 } : Room).slots) := by
  refine MetFree.of_bodySF (plainFor_of_name pn_com_example_huron_huron_testing_TimedTurns) hisR ?_
  intro p e s m args below meth c s₁ Bd hml0 hP hK
  obtain ⟨rfl, hZ, hh⟩ := hP
  have hx := Bd.exec
  have hby := Bd.bytes
  have hml : c.maxLocals = 4 := hml0
  have hown : s.vm.findClass "com/example/huron/huron/testing/TimedTurns" = some m.cls := findClass_of_methodNamed Bd.named
  have hnm := (name_of_methodNamed Bd.named Bd.method).1
  have X0 : Stand p l e ({ frames := 0, cells := 1, slots := 0, locals := 0 } : Room) s m #[(.ref a1), (.ref a2)] below meth c s₁ [] 0 0 := Stand.of_body Bd
  have e0 : s₁.heap = h0 := by rw [← hh, Bd.state]; rfl
  have N0 := Fr.nil n0
  have Z0 : n0 ≤ h0.size := own_z0 X00
  have pre0 : ∀ t, Steps p.tables e below (s₁.setTop (mkF m 0 #[.val (.ref a1), .val (.ref a2), .unset, .unset] [])) t → Steps p.tables e below (s₁.setTop (entryFrame m #[(.ref a1), (.ref a2)] 4)) t := fun t k => castTop (ef_rmR0 m a1 a2) k
  obtain ⟨cl1, Ar1, -, S1, NN1, -, -⟩ := id V_a1
  obtain ⟨T2, h2, kA2, X2, e2, E2, A2, st2⟩ := newP X0 hx hZ (hw _ (List.mem_of_getElem? (i := 0) rfl)) e0 (g := (mkF m 2 #[.val (.ref a1), .val (.ref a2), .unset, .unset] [(.int (0 : Int32))])) rfl (hb hby d1_2) rfl (by decide) (cap := 0) (by decide) (by decide) (by decide) (by decide)
  obtain ⟨b2, gb2⟩ : ∃ z, z = h0.size := ⟨_, rfl⟩
  rw [← gb2] at A2 st2
  have ne_a1_b2 : a1 ≠ b2 := Nat.ne_of_lt (Nat.lt_of_lt_of_le V_a1.lt (Nat.le_of_eq gb2.symm))
  have ne_a2_b2 : a2 ≠ b2 := Nat.ne_of_lt (Nat.lt_of_lt_of_le V_a2.lt (Nat.le_of_eq gb2.symm))
  have g_b2 : n0 ≤ b2 := Nat.le_trans (own_z0 X00) (Nat.le_of_eq gb2.symm)
  have sz_b2 : h0.size ≤ b2 := Nat.le_trans (Nat.le_refl _) (Nat.le_of_eq gb2.symm)
  have V_a1__2 := V_a1.ext E2
  have V_a2__2 := V_a2.ext E2
  have X00__2 := X00.ext E2
  have K0_2 : Keep h0 h2 [] := (Keep.refl h0 []).ext E2
  have V_b2 : Arv Z h2 b2 kA2 .double (0 : Int32) [] (.double (FP.l2d 0)) := (Arv.newD A2 (by decide)).pad (pad_rep [] (.double (FP.l2d 0)) 0)
  obtain ⟨cl3, Ar3, -, S3, NN3, -, -⟩ := id V_a1__2
  obtain ⟨fs, hr, hrun, hended, hW, hsame⟩ := X2.leave (v := some (.ref b2)) (fun h => by rw [Bd.returns] at h; cases h)
  refine ⟨_, _, pre0 _ ?_, hrun, hended, _, _, rfl, ?_, ⟨_, rfl⟩, hW, hsame.mono (by decide) (by decide)⟩
  · show Steps p.tables e below (s₁.setTop (mkF m 0 #[.val (.ref a1), .val (.ref a2), .unset, .unset] [])) _
    refine XS.aloadN X0.here hx rfl (hb hby d1_0) rfl rfl ?_
    show Steps p.tables e below (s₁.setTop (mkF m 1 #[.val (.ref a1), .val (.ref a2), .unset, .unset] [(.ref a1)])) _
    refine X0.arraylength hx (by rw [e0]; exact Ar1.1) (State.isArrayOf_alike hZ.alike Ar1.2.1) (g := (mkF m 1 #[.val (.ref a1), .val (.ref a2), .unset, .unset] [(.ref a1)])) rfl rfl (hb hby d1_1) _ ?_
    rw [len_of S1 NN1]
    show Steps p.tables e below (s₁.setTop (mkF m 2 #[.val (.ref a1), .val (.ref a2), .unset, .unset] [(.int (0 : Int32))])) _
    refine st2 _ ?_
    show Steps p.tables e below (T2.setTop (mkF m 4 #[.val (.ref a1), .val (.ref a2), .unset, .unset] [(.ref b2)])) _
    refine XS.astoreN X2.here hx rfl (hb hby d1_4) rfl rfl (l' := #[.val (.ref a1), .val (.ref a2), .val (.ref b2), .unset]) rfl ?_
    show Steps p.tables e below (T2.setTop (mkF m 5 #[.val (.ref a1), .val (.ref a2), .val (.ref b2), .unset] [])) _
    refine XS.iconst X2.here hx rfl (hb hby d1_5) ?_
    show Steps p.tables e below (T2.setTop (mkF m 6 #[.val (.ref a1), .val (.ref a2), .val (.ref b2), .unset] [(.int (0 : Int32))])) _
    refine XS.istoreN X2.here hx rfl (hb hby d1_6) rfl (l' := #[.val (.ref a1), .val (.ref a2), .val (.ref b2), .val (.int (0 : Int32))]) rfl ?_
    show Steps p.tables e below (T2.setTop (mkF m 7 #[.val (.ref a1), .val (.ref a2), .val (.ref b2), .val (.int (0 : Int32))] [])) _
    refine XS.iloadN X2.here hx rfl (hb hby d1_7) rfl ?_
    show Steps p.tables e below (T2.setTop (mkF m 8 #[.val (.ref a1), .val (.ref a2), .val (.ref b2), .val (.int (0 : Int32))] [(.int (0 : Int32))])) _
    refine XS.aloadN X2.here hx rfl (hb hby d1_8) rfl rfl ?_
    show Steps p.tables e below (T2.setTop (mkF m 9 #[.val (.ref a1), .val (.ref a2), .val (.ref b2), .val (.int (0 : Int32))] [(.ref a1), (.int (0 : Int32))])) _
    refine X2.arraylength hx (by rw [e2]; exact Ar3.1) (State.isArrayOf_alike hZ.alike Ar3.2.1) (g := (mkF m 9 #[.val (.ref a1), .val (.ref a2), .val (.ref b2), .val (.int (0 : Int32))] [(.ref a1), (.int (0 : Int32))])) rfl rfl (hb hby d1_9) _ ?_
    rw [len_of S3 NN3]
    show Steps p.tables e below (T2.setTop (mkF m 10 #[.val (.ref a1), .val (.ref a2), .val (.ref b2), .val (.int (0 : Int32))] [(.int (0 : Int32)), (.int (0 : Int32))])) _
    refine XS.icmpYes X2.here hx rfl (pc0 := 10) (pc' := 29) rfl (hb hby d1_10) rfl (flt (by decide : ¬ ((0 : Int32) < (0 : Int32)))).2.1 (by decide) (by decide) ?_
    show Steps p.tables e below (T2.setTop (mkF m 29 #[.val (.ref a1), .val (.ref a2), .val (.ref b2), .val (.int (0 : Int32))] [])) _
    refine XS.aloadN X2.here hx rfl (hb hby d1_29) rfl rfl ?_
    show Steps p.tables e below (T2.setTop (mkF m 30 #[.val (.ref a1), .val (.ref a2), .val (.ref b2), .val (.int (0 : Int32))] [(.ref b2)])) _
    jvm_step X2.here [X2.here.top, hx, (hb hby d1_30), X2.method', Bd.returns, Value.isRef, FieldType.isReference]
    first | (intro acts; rw [hr _ acts rfl rfl rfl]) | rw [hr _ _ rfl rfl rfl]
    exact Steps.refl _
  · show Q_rmR0 Z a1 a2 k1 k2 h0 n0 _ T2.heap _
    rw [e2]
    exact ⟨b2, kA2, rfl, N0, K0_2, sz_b2, V_b2⟩
theorem d1_13 : decode prog_70_method_7_code 13 = .ok (.aload_n 2, 1) := by decide +kernel
theorem d1_14 : decode prog_70_method_7_code 14 = .ok (.iload_n 3, 1) := by decide +kernel
theorem d1_15 : decode prog_70_method_7_code 15 = .ok (.aload_n 0, 1) := by decide +kernel
theorem d1_16 : decode prog_70_method_7_code 16 = .ok (.iload_n 3, 1) := by decide +kernel
theorem d1_17 : decode prog_70_method_7_code 17 = .ok (.daload, 1) := by decide +kernel
theorem d1_18 : decode prog_70_method_7_code 18 = .ok (.aload_n 1, 1) := by decide +kernel
theorem d1_19 : decode prog_70_method_7_code 19 = .ok (.iload_n 3, 1) := by decide +kernel
theorem d1_20 : decode prog_70_method_7_code 20 = .ok (.daload, 1) := by decide +kernel
theorem d1_21 : decode prog_70_method_7_code 21 = .ok (.ddiv, 1) := by decide +kernel
theorem d1_22 : decode prog_70_method_7_code 22 = .ok (.dastore, 1) := by decide +kernel
theorem d1_23 : decode prog_70_method_7_code 23 = .ok (.iinc 3 1, 3) := by decide +kernel
theorem d1_26 : decode prog_70_method_7_code 26 = .ok (.goto (-19), 3) := by decide +kernel
def Q_rmR1 (Z : State) (a1 : Addr) (a2 : Addr) (k1 : ClassId) (k2 : ClassId) (f0 : UInt64) (g0 : UInt64) (h0 : Heap) (n0 : Nat) (v : Option Value) (h : Heap) (L : List Loc) : Prop := ∃ nb : Addr, ∃ nk : ClassId, v = some (.ref nb) ∧ Fr n0 L ∧ Keep h0 h [] ∧ h0.size ≤ nb ∧ Arv Z h nb nk .double (1 : Int32) [(.double (FP.ddiv f0 g0))] (.double (FP.l2d 0))
theorem ef_rmR1 (m : MethodId) (a1 : Addr) (a2 : Addr) : entryFrame m #[(.ref a1), (.ref a2)] 4 = mkF m 0 #[.val (.ref a1), .val (.ref a2), .unset, .unset] [] := by first | (simp [entryFrame, mkF, argsToLocals, Value.category]; done) | rfl
set_option maxRecDepth 65536 in
set_option maxHeartbeats 40000000 in
theorem rmR1 (l : Launch) (Z : State) (a0 : Array Value) (hw : ∀ d ∈ tables_1, d.before a0 Z = true) (ws : List Jvm.Cond) (a1 : Addr) (a2 : Addr) (k1 : ClassId) (k2 : ClassId) (f0 : UInt64) (g0 : UInt64) (h0 : Heap) (n0 : Nat) (X00 : Old Z n0 h0) (V_a1 : Arv Z h0 a1 k1 .double (1 : Int32) [(.double f0)] (.double (FP.l2d 0))) (V_a2 : Arv Z h0 a2 k2 .double (1 : Int32) [(.double g0)] (.double (FP.l2d 0))) (nn0 : Jvm.Free.Fl.NoNaN64 (FP.ddiv f0 g0)) :
    MetFree l (⟨"com/example/huron/huron/testing/TimedTurns", "ratios", "([D[D)[D"⟩ : MethodName) (head1 (Jvm.Cond.code (⟨"com/example/huron/huron/testing/TimedTurns", "ratios", "([D[D)[D"⟩ : MethodName) prog_70_method_7_code 4 (some (.array .double)) :: ws) ({ frames := 0, cells := 1, slots := 1, locals := 0 } : Room)) (fun aa U => aa = #[(.ref a1), (.ref a2)] ∧ Z.Warmed39 U.vm ∧ U.heap = h0) (fun _ _ _ _ _ => True) (fun _ U o U' => ∃ v L, o = .returned v ∧ Q_rmR1 Z a1 a2 k1 k2 f0 g0 h0 n0 v U'.heap L ∧ FrameEnd U o U' L ({ frames := 0, cells := 1, slots := 1, locals := 0 } : Room).cells ({ frames := 0, cells := 1, slots := 1, locals := 0 } : Room).slots) := by
  refine MetFree.of_bodySF (plainFor_of_name pn_com_example_huron_huron_testing_TimedTurns) hisR ?_
  intro p e s m args below meth c s₁ Bd hml0 hP hK
  obtain ⟨rfl, hZ, hh⟩ := hP
  have hx := Bd.exec
  have hby := Bd.bytes
  have hml : c.maxLocals = 4 := hml0
  have hown : s.vm.findClass "com/example/huron/huron/testing/TimedTurns" = some m.cls := findClass_of_methodNamed Bd.named
  have hnm := (name_of_methodNamed Bd.named Bd.method).1
  have X0 : Stand p l e ({ frames := 0, cells := 1, slots := 1, locals := 0 } : Room) s m #[(.ref a1), (.ref a2)] below meth c s₁ [] 0 0 := Stand.of_body Bd
  have e0 : s₁.heap = h0 := by rw [← hh, Bd.state]; rfl
  have N0 := Fr.nil n0
  have Z0 : n0 ≤ h0.size := own_z0 X00
  have pre0 : ∀ t, Steps p.tables e below (s₁.setTop (mkF m 0 #[.val (.ref a1), .val (.ref a2), .unset, .unset] [])) t → Steps p.tables e below (s₁.setTop (entryFrame m #[(.ref a1), (.ref a2)] 4)) t := fun t k => castTop (ef_rmR1 m a1 a2) k
  obtain ⟨cl1, Ar1, -, S1, NN1, -, -⟩ := id V_a1
  obtain ⟨T2, h2, kA2, X2, e2, E2, A2, st2⟩ := newP X0 hx hZ (hw _ (List.mem_of_getElem? (i := 0) rfl)) e0 (g := (mkF m 2 #[.val (.ref a1), .val (.ref a2), .unset, .unset] [(.int (1 : Int32))])) rfl (hb hby d1_2) rfl (by decide) (cap := 1) (by decide) (by decide) (by decide) (by decide)
  obtain ⟨b2, gb2⟩ : ∃ z, z = h0.size := ⟨_, rfl⟩
  rw [← gb2] at A2 st2
  have ne_a1_b2 : a1 ≠ b2 := Nat.ne_of_lt (Nat.lt_of_lt_of_le V_a1.lt (Nat.le_of_eq gb2.symm))
  have ne_a2_b2 : a2 ≠ b2 := Nat.ne_of_lt (Nat.lt_of_lt_of_le V_a2.lt (Nat.le_of_eq gb2.symm))
  have g_b2 : n0 ≤ b2 := Nat.le_trans (own_z0 X00) (Nat.le_of_eq gb2.symm)
  have sz_b2 : h0.size ≤ b2 := Nat.le_trans (Nat.le_refl _) (Nat.le_of_eq gb2.symm)
  have V_a1__2 := V_a1.ext E2
  have V_a2__2 := V_a2.ext E2
  have X00__2 := X00.ext E2
  have K0_2 : Keep h0 h2 [] := (Keep.refl h0 []).ext E2
  have V_b2 : Arv Z h2 b2 kA2 .double (1 : Int32) [(.double (FP.l2d 0))] (.double (FP.l2d 0)) := (Arv.newD A2 (by decide)).pad (pad_rep [] (.double (FP.l2d 0)) 1)
  obtain ⟨cl3, Ar3, -, S3, NN3, -, -⟩ := id V_a1__2
  obtain ⟨cl4, Ar4, -, S4, -, HH4, -⟩ := id V_a1__2
  have hin4 : ¬ ((0 : Int32) < 0 ∨ cl4.slots.size ≤ ((0 : Int32)).toNatClampNeg) := inb_of S4 ⟨by decide, by decide⟩
  have hat4 : cl4.slots[((0 : Int32)).toNatClampNeg]? = some (.double f0) := HH4 _ (Nat.lt_of_not_le fun q => hin4 (Or.inr q))
  obtain ⟨cl5, Ar5, -, S5, -, HH5, -⟩ := id V_a2__2
  have hin5 : ¬ ((0 : Int32) < 0 ∨ cl5.slots.size ≤ ((0 : Int32)).toNatClampNeg) := inb_of S5 ⟨by decide, by decide⟩
  have hat5 : cl5.slots[((0 : Int32)).toNatClampNeg]? = some (.double g0) := HH5 _ (Nat.lt_of_not_le fun q => hin5 (Or.inr q))
  obtain ⟨cl6, Ar6, q6, S6, NN6, HH6, G6⟩ := id V_b2
  have hin6 : ¬ ((0 : Int32) < 0 ∨ cl6.slots.size ≤ ((0 : Int32)).toNatClampNeg) := inb_of S6 ⟨by decide, by decide⟩
  obtain ⟨T6, h6, X6, e6, W6, st6⟩ := stD X2 hx hZ e2 Ar6 (j := (0 : Int32)) hin6 (g := (mkF m 22 #[.val (.ref a1), .val (.ref a2), .val (.ref b2), .val (.int (0 : Int32))] [(.double (FP.ddiv f0 g0)), (.int (0 : Int32)), (.ref b2)])) rfl rfl (hb hby d1_22)
  have V_a1__6 := V_a1__2.other W6 ne_a1_b2
  have V_a2__6 := V_a2__2.other W6 ne_a2_b2
  have X00__6 := X00__2.wr W6 g_b2
  have K0_6 : Keep h0 h6 [] := K0_2.wr W6 (Or.inr sz_b2)
  have N6 := Fr.snoc X6 N0 g_b2
  have V_b2__6 : Arv Z h6 b2 kA2 .double (1 : Int32) [(.double (FP.ddiv f0 g0))] (.double (FP.l2d 0)) := Arv.set Ar6 q6 S6 NN6 HH6 G6 rfl W6 0 rfl (Nat.le_of_ble_eq_true rfl)
  obtain ⟨cl7, Ar7, -, S7, NN7, -, -⟩ := id V_a1__6
  obtain ⟨fs, hr, hrun, hended, hW, hsame⟩ := X6.leave (v := some (.ref b2)) (fun h => by rw [Bd.returns] at h; cases h)
  refine ⟨_, _, pre0 _ ?_, hrun, hended, _, _, rfl, ?_, ⟨_, rfl⟩, hW, hsame.mono (by decide) (by decide)⟩
  · show Steps p.tables e below (s₁.setTop (mkF m 0 #[.val (.ref a1), .val (.ref a2), .unset, .unset] [])) _
    refine XS.aloadN X0.here hx rfl (hb hby d1_0) rfl rfl ?_
    show Steps p.tables e below (s₁.setTop (mkF m 1 #[.val (.ref a1), .val (.ref a2), .unset, .unset] [(.ref a1)])) _
    refine X0.arraylength hx (by rw [e0]; exact Ar1.1) (State.isArrayOf_alike hZ.alike Ar1.2.1) (g := (mkF m 1 #[.val (.ref a1), .val (.ref a2), .unset, .unset] [(.ref a1)])) rfl rfl (hb hby d1_1) _ ?_
    rw [len_of S1 NN1]
    show Steps p.tables e below (s₁.setTop (mkF m 2 #[.val (.ref a1), .val (.ref a2), .unset, .unset] [(.int (1 : Int32))])) _
    refine st2 _ ?_
    show Steps p.tables e below (T2.setTop (mkF m 4 #[.val (.ref a1), .val (.ref a2), .unset, .unset] [(.ref b2)])) _
    refine XS.astoreN X2.here hx rfl (hb hby d1_4) rfl rfl (l' := #[.val (.ref a1), .val (.ref a2), .val (.ref b2), .unset]) rfl ?_
    show Steps p.tables e below (T2.setTop (mkF m 5 #[.val (.ref a1), .val (.ref a2), .val (.ref b2), .unset] [])) _
    refine XS.iconst X2.here hx rfl (hb hby d1_5) ?_
    show Steps p.tables e below (T2.setTop (mkF m 6 #[.val (.ref a1), .val (.ref a2), .val (.ref b2), .unset] [(.int (0 : Int32))])) _
    refine XS.istoreN X2.here hx rfl (hb hby d1_6) rfl (l' := #[.val (.ref a1), .val (.ref a2), .val (.ref b2), .val (.int (0 : Int32))]) rfl ?_
    show Steps p.tables e below (T2.setTop (mkF m 7 #[.val (.ref a1), .val (.ref a2), .val (.ref b2), .val (.int (0 : Int32))] [])) _
    refine XS.iloadN X2.here hx rfl (hb hby d1_7) rfl ?_
    show Steps p.tables e below (T2.setTop (mkF m 8 #[.val (.ref a1), .val (.ref a2), .val (.ref b2), .val (.int (0 : Int32))] [(.int (0 : Int32))])) _
    refine XS.aloadN X2.here hx rfl (hb hby d1_8) rfl rfl ?_
    show Steps p.tables e below (T2.setTop (mkF m 9 #[.val (.ref a1), .val (.ref a2), .val (.ref b2), .val (.int (0 : Int32))] [(.ref a1), (.int (0 : Int32))])) _
    refine X2.arraylength hx (by rw [e2]; exact Ar3.1) (State.isArrayOf_alike hZ.alike Ar3.2.1) (g := (mkF m 9 #[.val (.ref a1), .val (.ref a2), .val (.ref b2), .val (.int (0 : Int32))] [(.ref a1), (.int (0 : Int32))])) rfl rfl (hb hby d1_9) _ ?_
    rw [len_of S3 NN3]
    show Steps p.tables e below (T2.setTop (mkF m 10 #[.val (.ref a1), .val (.ref a2), .val (.ref b2), .val (.int (0 : Int32))] [(.int (1 : Int32)), (.int (0 : Int32))])) _
    refine XS.icmpNo X2.here hx rfl (hb hby d1_10) rfl (tlt (by decide : (0 : Int32) < (1 : Int32))).2.1 ?_
    show Steps p.tables e below (T2.setTop (mkF m 13 #[.val (.ref a1), .val (.ref a2), .val (.ref b2), .val (.int (0 : Int32))] [])) _
    refine XS.aloadN X2.here hx rfl (hb hby d1_13) rfl rfl ?_
    show Steps p.tables e below (T2.setTop (mkF m 14 #[.val (.ref a1), .val (.ref a2), .val (.ref b2), .val (.int (0 : Int32))] [(.ref b2)])) _
    refine XS.iloadN X2.here hx rfl (hb hby d1_14) rfl ?_
    show Steps p.tables e below (T2.setTop (mkF m 15 #[.val (.ref a1), .val (.ref a2), .val (.ref b2), .val (.int (0 : Int32))] [(.int (0 : Int32)), (.ref b2)])) _
    refine XS.aloadN X2.here hx rfl (hb hby d1_15) rfl rfl ?_
    show Steps p.tables e below (T2.setTop (mkF m 16 #[.val (.ref a1), .val (.ref a2), .val (.ref b2), .val (.int (0 : Int32))] [(.ref a1), (.int (0 : Int32)), (.ref b2)])) _
    refine XS.iloadN X2.here hx rfl (hb hby d1_16) rfl ?_
    show Steps p.tables e below (T2.setTop (mkF m 17 #[.val (.ref a1), .val (.ref a2), .val (.ref b2), .val (.int (0 : Int32))] [(.int (0 : Int32)), (.ref a1), (.int (0 : Int32)), (.ref b2)])) _
    refine X2.daload hx (j := (0 : Int32)) (v := (.double f0)) (by rw [e2]; exact Ar4.1) (State.isArrayOf_alike hZ.alike Ar4.2.1) Ar4.2.2 hin4 hat4 (g := (mkF m 17 #[.val (.ref a1), .val (.ref a2), .val (.ref b2), .val (.int (0 : Int32))] [(.int (0 : Int32)), (.ref a1), (.int (0 : Int32)), (.ref b2)])) rfl rfl (hb hby d1_17) _ ?_
    show Steps p.tables e below (T2.setTop (mkF m 18 #[.val (.ref a1), .val (.ref a2), .val (.ref b2), .val (.int (0 : Int32))] [(.double f0), (.int (0 : Int32)), (.ref b2)])) _
    refine XS.aloadN X2.here hx rfl (hb hby d1_18) rfl rfl ?_
    show Steps p.tables e below (T2.setTop (mkF m 19 #[.val (.ref a1), .val (.ref a2), .val (.ref b2), .val (.int (0 : Int32))] [(.ref a2), (.double f0), (.int (0 : Int32)), (.ref b2)])) _
    refine XS.iloadN X2.here hx rfl (hb hby d1_19) rfl ?_
    show Steps p.tables e below (T2.setTop (mkF m 20 #[.val (.ref a1), .val (.ref a2), .val (.ref b2), .val (.int (0 : Int32))] [(.int (0 : Int32)), (.ref a2), (.double f0), (.int (0 : Int32)), (.ref b2)])) _
    refine X2.daload hx (j := (0 : Int32)) (v := (.double g0)) (by rw [e2]; exact Ar5.1) (State.isArrayOf_alike hZ.alike Ar5.2.1) Ar5.2.2 hin5 hat5 (g := (mkF m 20 #[.val (.ref a1), .val (.ref a2), .val (.ref b2), .val (.int (0 : Int32))] [(.int (0 : Int32)), (.ref a2), (.double f0), (.int (0 : Int32)), (.ref b2)])) rfl rfl (hb hby d1_20) _ ?_
    show Steps p.tables e below (T2.setTop (mkF m 21 #[.val (.ref a1), .val (.ref a2), .val (.ref b2), .val (.int (0 : Int32))] [(.double g0), (.double f0), (.int (0 : Int32)), (.ref b2)])) _
    refine Jvm.Free.XS.ddivS X2.here hx rfl (hb hby d1_21) rfl nn0 rfl ?_
    show Steps p.tables e below (T2.setTop (mkF m 22 #[.val (.ref a1), .val (.ref a2), .val (.ref b2), .val (.int (0 : Int32))] [(.double (FP.ddiv f0 g0)), (.int (0 : Int32)), (.ref b2)])) _
    refine st6 _ ?_
    show Steps p.tables e below (T6.setTop (mkF m 23 #[.val (.ref a1), .val (.ref a2), .val (.ref b2), .val (.int (0 : Int32))] [])) _
    refine XS.iinc X6.here hx rfl (hb hby d1_23) rfl (l' := #[.val (.ref a1), .val (.ref a2), .val (.ref b2), .val (.int (1 : Int32))]) rfl ?_
    show Steps p.tables e below (T6.setTop (mkF m 26 #[.val (.ref a1), .val (.ref a2), .val (.ref b2), .val (.int (1 : Int32))] [])) _
    refine XS.goto X6.here hx rfl (pc0 := 26) (pc' := 7) rfl (hb hby d1_26) (by decide) (by decide) ?_
    show Steps p.tables e below (T6.setTop (mkF m 7 #[.val (.ref a1), .val (.ref a2), .val (.ref b2), .val (.int (1 : Int32))] [])) _
    refine XS.iloadN X6.here hx rfl (hb hby d1_7) rfl ?_
    show Steps p.tables e below (T6.setTop (mkF m 8 #[.val (.ref a1), .val (.ref a2), .val (.ref b2), .val (.int (1 : Int32))] [(.int (1 : Int32))])) _
    refine XS.aloadN X6.here hx rfl (hb hby d1_8) rfl rfl ?_
    show Steps p.tables e below (T6.setTop (mkF m 9 #[.val (.ref a1), .val (.ref a2), .val (.ref b2), .val (.int (1 : Int32))] [(.ref a1), (.int (1 : Int32))])) _
    refine X6.arraylength hx (by rw [e6]; exact Ar7.1) (State.isArrayOf_alike hZ.alike Ar7.2.1) (g := (mkF m 9 #[.val (.ref a1), .val (.ref a2), .val (.ref b2), .val (.int (1 : Int32))] [(.ref a1), (.int (1 : Int32))])) rfl rfl (hb hby d1_9) _ ?_
    rw [len_of S7 NN7]
    show Steps p.tables e below (T6.setTop (mkF m 10 #[.val (.ref a1), .val (.ref a2), .val (.ref b2), .val (.int (1 : Int32))] [(.int (1 : Int32)), (.int (1 : Int32))])) _
    refine XS.icmpYes X6.here hx rfl (pc0 := 10) (pc' := 29) rfl (hb hby d1_10) rfl (flt (by decide : ¬ ((1 : Int32) < (1 : Int32)))).2.1 (by decide) (by decide) ?_
    show Steps p.tables e below (T6.setTop (mkF m 29 #[.val (.ref a1), .val (.ref a2), .val (.ref b2), .val (.int (1 : Int32))] [])) _
    refine XS.aloadN X6.here hx rfl (hb hby d1_29) rfl rfl ?_
    show Steps p.tables e below (T6.setTop (mkF m 30 #[.val (.ref a1), .val (.ref a2), .val (.ref b2), .val (.int (1 : Int32))] [(.ref b2)])) _
    jvm_step X6.here [X6.here.top, hx, (hb hby d1_30), X6.method', Bd.returns, Value.isRef, FieldType.isReference]
    first | (intro acts; rw [hr _ acts rfl rfl rfl]) | rw [hr _ _ rfl rfl rfl]
    exact Steps.refl _
  · show Q_rmR1 Z a1 a2 k1 k2 f0 g0 h0 n0 _ T6.heap _
    rw [e6]
    exact ⟨b2, kA2, rfl, N6, K0_6, sz_b2, V_b2__6⟩
def Q_rmR2 (Z : State) (a1 : Addr) (a2 : Addr) (k1 : ClassId) (k2 : ClassId) (f0 : UInt64) (f1 : UInt64) (g0 : UInt64) (g1 : UInt64) (h0 : Heap) (n0 : Nat) (v : Option Value) (h : Heap) (L : List Loc) : Prop := ∃ nb : Addr, ∃ nk : ClassId, v = some (.ref nb) ∧ Fr n0 L ∧ Keep h0 h [] ∧ h0.size ≤ nb ∧ Arv Z h nb nk .double (2 : Int32) [(.double (FP.ddiv f0 g0)), (.double (FP.ddiv f1 g1))] (.double (FP.l2d 0))
theorem ef_rmR2 (m : MethodId) (a1 : Addr) (a2 : Addr) : entryFrame m #[(.ref a1), (.ref a2)] 4 = mkF m 0 #[.val (.ref a1), .val (.ref a2), .unset, .unset] [] := by first | (simp [entryFrame, mkF, argsToLocals, Value.category]; done) | rfl
set_option maxRecDepth 65536 in
set_option maxHeartbeats 40000000 in
theorem rmR2 (l : Launch) (Z : State) (a0 : Array Value) (hw : ∀ d ∈ tables_1, d.before a0 Z = true) (ws : List Jvm.Cond) (a1 : Addr) (a2 : Addr) (k1 : ClassId) (k2 : ClassId) (f0 : UInt64) (f1 : UInt64) (g0 : UInt64) (g1 : UInt64) (h0 : Heap) (n0 : Nat) (X00 : Old Z n0 h0) (V_a1 : Arv Z h0 a1 k1 .double (2 : Int32) [(.double f0), (.double f1)] (.double (FP.l2d 0))) (V_a2 : Arv Z h0 a2 k2 .double (2 : Int32) [(.double g0), (.double g1)] (.double (FP.l2d 0))) (nn0 : Jvm.Free.Fl.NoNaN64 (FP.ddiv f0 g0)) (nn1 : Jvm.Free.Fl.NoNaN64 (FP.ddiv f1 g1)) :
    MetFree l (⟨"com/example/huron/huron/testing/TimedTurns", "ratios", "([D[D)[D"⟩ : MethodName) (head1 (Jvm.Cond.code (⟨"com/example/huron/huron/testing/TimedTurns", "ratios", "([D[D)[D"⟩ : MethodName) prog_70_method_7_code 4 (some (.array .double)) :: ws) ({ frames := 0, cells := 1, slots := 2, locals := 0 } : Room)) (fun aa U => aa = #[(.ref a1), (.ref a2)] ∧ Z.Warmed39 U.vm ∧ U.heap = h0) (fun _ _ _ _ _ => True) (fun _ U o U' => ∃ v L, o = .returned v ∧ Q_rmR2 Z a1 a2 k1 k2 f0 f1 g0 g1 h0 n0 v U'.heap L ∧ FrameEnd U o U' L ({ frames := 0, cells := 1, slots := 2, locals := 0 } : Room).cells ({ frames := 0, cells := 1, slots := 2, locals := 0 } : Room).slots) := by
  refine MetFree.of_bodySF (plainFor_of_name pn_com_example_huron_huron_testing_TimedTurns) hisR ?_
  intro p e s m args below meth c s₁ Bd hml0 hP hK
  obtain ⟨rfl, hZ, hh⟩ := hP
  have hx := Bd.exec
  have hby := Bd.bytes
  have hml : c.maxLocals = 4 := hml0
  have hown : s.vm.findClass "com/example/huron/huron/testing/TimedTurns" = some m.cls := findClass_of_methodNamed Bd.named
  have hnm := (name_of_methodNamed Bd.named Bd.method).1
  have X0 : Stand p l e ({ frames := 0, cells := 1, slots := 2, locals := 0 } : Room) s m #[(.ref a1), (.ref a2)] below meth c s₁ [] 0 0 := Stand.of_body Bd
  have e0 : s₁.heap = h0 := by rw [← hh, Bd.state]; rfl
  have N0 := Fr.nil n0
  have Z0 : n0 ≤ h0.size := own_z0 X00
  have pre0 : ∀ t, Steps p.tables e below (s₁.setTop (mkF m 0 #[.val (.ref a1), .val (.ref a2), .unset, .unset] [])) t → Steps p.tables e below (s₁.setTop (entryFrame m #[(.ref a1), (.ref a2)] 4)) t := fun t k => castTop (ef_rmR2 m a1 a2) k
  obtain ⟨cl1, Ar1, -, S1, NN1, -, -⟩ := id V_a1
  obtain ⟨T2, h2, kA2, X2, e2, E2, A2, st2⟩ := newP X0 hx hZ (hw _ (List.mem_of_getElem? (i := 0) rfl)) e0 (g := (mkF m 2 #[.val (.ref a1), .val (.ref a2), .unset, .unset] [(.int (2 : Int32))])) rfl (hb hby d1_2) rfl (by decide) (cap := 2) (by decide) (by decide) (by decide) (by decide)
  obtain ⟨b2, gb2⟩ : ∃ z, z = h0.size := ⟨_, rfl⟩
  rw [← gb2] at A2 st2
  have ne_a1_b2 : a1 ≠ b2 := Nat.ne_of_lt (Nat.lt_of_lt_of_le V_a1.lt (Nat.le_of_eq gb2.symm))
  have ne_a2_b2 : a2 ≠ b2 := Nat.ne_of_lt (Nat.lt_of_lt_of_le V_a2.lt (Nat.le_of_eq gb2.symm))
  have g_b2 : n0 ≤ b2 := Nat.le_trans (own_z0 X00) (Nat.le_of_eq gb2.symm)
  have sz_b2 : h0.size ≤ b2 := Nat.le_trans (Nat.le_refl _) (Nat.le_of_eq gb2.symm)
  have V_a1__2 := V_a1.ext E2
  have V_a2__2 := V_a2.ext E2
  have X00__2 := X00.ext E2
  have K0_2 : Keep h0 h2 [] := (Keep.refl h0 []).ext E2
  have V_b2 : Arv Z h2 b2 kA2 .double (2 : Int32) [(.double (FP.l2d 0)), (.double (FP.l2d 0))] (.double (FP.l2d 0)) := (Arv.newD A2 (by decide)).pad (pad_rep [] (.double (FP.l2d 0)) 2)
  obtain ⟨cl3, Ar3, -, S3, NN3, -, -⟩ := id V_a1__2
  obtain ⟨cl4, Ar4, -, S4, -, HH4, -⟩ := id V_a1__2
  have hin4 : ¬ ((0 : Int32) < 0 ∨ cl4.slots.size ≤ ((0 : Int32)).toNatClampNeg) := inb_of S4 ⟨by decide, by decide⟩
  have hat4 : cl4.slots[((0 : Int32)).toNatClampNeg]? = some (.double f0) := HH4 _ (Nat.lt_of_not_le fun q => hin4 (Or.inr q))
  obtain ⟨cl5, Ar5, -, S5, -, HH5, -⟩ := id V_a2__2
  have hin5 : ¬ ((0 : Int32) < 0 ∨ cl5.slots.size ≤ ((0 : Int32)).toNatClampNeg) := inb_of S5 ⟨by decide, by decide⟩
  have hat5 : cl5.slots[((0 : Int32)).toNatClampNeg]? = some (.double g0) := HH5 _ (Nat.lt_of_not_le fun q => hin5 (Or.inr q))
  obtain ⟨cl6, Ar6, q6, S6, NN6, HH6, G6⟩ := id V_b2
  have hin6 : ¬ ((0 : Int32) < 0 ∨ cl6.slots.size ≤ ((0 : Int32)).toNatClampNeg) := inb_of S6 ⟨by decide, by decide⟩
  obtain ⟨T6, h6, X6, e6, W6, st6⟩ := stD X2 hx hZ e2 Ar6 (j := (0 : Int32)) hin6 (g := (mkF m 22 #[.val (.ref a1), .val (.ref a2), .val (.ref b2), .val (.int (0 : Int32))] [(.double (FP.ddiv f0 g0)), (.int (0 : Int32)), (.ref b2)])) rfl rfl (hb hby d1_22)
  have V_a1__6 := V_a1__2.other W6 ne_a1_b2
  have V_a2__6 := V_a2__2.other W6 ne_a2_b2
  have X00__6 := X00__2.wr W6 g_b2
  have K0_6 : Keep h0 h6 [] := K0_2.wr W6 (Or.inr sz_b2)
  have N6 := Fr.snoc X6 N0 g_b2
  have V_b2__6 : Arv Z h6 b2 kA2 .double (2 : Int32) [(.double (FP.ddiv f0 g0)), (.double (FP.l2d 0))] (.double (FP.l2d 0)) := Arv.set Ar6 q6 S6 NN6 HH6 G6 rfl W6 0 rfl (Nat.le_of_ble_eq_true rfl)
  obtain ⟨cl7, Ar7, -, S7, NN7, -, -⟩ := id V_a1__6
  obtain ⟨cl8, Ar8, -, S8, -, HH8, -⟩ := id V_a1__6
  have hin8 : ¬ ((1 : Int32) < 0 ∨ cl8.slots.size ≤ ((1 : Int32)).toNatClampNeg) := inb_of S8 ⟨by decide, by decide⟩
  have hat8 : cl8.slots[((1 : Int32)).toNatClampNeg]? = some (.double f1) := HH8 _ (Nat.lt_of_not_le fun q => hin8 (Or.inr q))
  obtain ⟨cl9, Ar9, -, S9, -, HH9, -⟩ := id V_a2__6
  have hin9 : ¬ ((1 : Int32) < 0 ∨ cl9.slots.size ≤ ((1 : Int32)).toNatClampNeg) := inb_of S9 ⟨by decide, by decide⟩
  have hat9 : cl9.slots[((1 : Int32)).toNatClampNeg]? = some (.double g1) := HH9 _ (Nat.lt_of_not_le fun q => hin9 (Or.inr q))
  obtain ⟨cl10, Ar10, q10, S10, NN10, HH10, G10⟩ := id V_b2__6
  have hin10 : ¬ ((1 : Int32) < 0 ∨ cl10.slots.size ≤ ((1 : Int32)).toNatClampNeg) := inb_of S10 ⟨by decide, by decide⟩
  obtain ⟨T10, h10, X10, e10, W10, st10⟩ := stD X6 hx hZ e6 Ar10 (j := (1 : Int32)) hin10 (g := (mkF m 22 #[.val (.ref a1), .val (.ref a2), .val (.ref b2), .val (.int (1 : Int32))] [(.double (FP.ddiv f1 g1)), (.int (1 : Int32)), (.ref b2)])) rfl rfl (hb hby d1_22)
  have V_a1__10 := V_a1__6.other W10 ne_a1_b2
  have V_a2__10 := V_a2__6.other W10 ne_a2_b2
  have X00__10 := X00__6.wr W10 g_b2
  have K0_10 : Keep h0 h10 [] := K0_6.wr W10 (Or.inr sz_b2)
  have N10 := Fr.snoc X10 N6 g_b2
  have V_b2__10 : Arv Z h10 b2 kA2 .double (2 : Int32) [(.double (FP.ddiv f0 g0)), (.double (FP.ddiv f1 g1))] (.double (FP.l2d 0)) := Arv.set Ar10 q10 S10 NN10 HH10 G10 rfl W10 1 rfl (Nat.le_of_ble_eq_true rfl)
  obtain ⟨cl11, Ar11, -, S11, NN11, -, -⟩ := id V_a1__10
  obtain ⟨fs, hr, hrun, hended, hW, hsame⟩ := X10.leave (v := some (.ref b2)) (fun h => by rw [Bd.returns] at h; cases h)
  refine ⟨_, _, pre0 _ ?_, hrun, hended, _, _, rfl, ?_, ⟨_, rfl⟩, hW, hsame.mono (by decide) (by decide)⟩
  · show Steps p.tables e below (s₁.setTop (mkF m 0 #[.val (.ref a1), .val (.ref a2), .unset, .unset] [])) _
    refine XS.aloadN X0.here hx rfl (hb hby d1_0) rfl rfl ?_
    show Steps p.tables e below (s₁.setTop (mkF m 1 #[.val (.ref a1), .val (.ref a2), .unset, .unset] [(.ref a1)])) _
    refine X0.arraylength hx (by rw [e0]; exact Ar1.1) (State.isArrayOf_alike hZ.alike Ar1.2.1) (g := (mkF m 1 #[.val (.ref a1), .val (.ref a2), .unset, .unset] [(.ref a1)])) rfl rfl (hb hby d1_1) _ ?_
    rw [len_of S1 NN1]
    show Steps p.tables e below (s₁.setTop (mkF m 2 #[.val (.ref a1), .val (.ref a2), .unset, .unset] [(.int (2 : Int32))])) _
    refine st2 _ ?_
    show Steps p.tables e below (T2.setTop (mkF m 4 #[.val (.ref a1), .val (.ref a2), .unset, .unset] [(.ref b2)])) _
    refine XS.astoreN X2.here hx rfl (hb hby d1_4) rfl rfl (l' := #[.val (.ref a1), .val (.ref a2), .val (.ref b2), .unset]) rfl ?_
    show Steps p.tables e below (T2.setTop (mkF m 5 #[.val (.ref a1), .val (.ref a2), .val (.ref b2), .unset] [])) _
    refine XS.iconst X2.here hx rfl (hb hby d1_5) ?_
    show Steps p.tables e below (T2.setTop (mkF m 6 #[.val (.ref a1), .val (.ref a2), .val (.ref b2), .unset] [(.int (0 : Int32))])) _
    refine XS.istoreN X2.here hx rfl (hb hby d1_6) rfl (l' := #[.val (.ref a1), .val (.ref a2), .val (.ref b2), .val (.int (0 : Int32))]) rfl ?_
    show Steps p.tables e below (T2.setTop (mkF m 7 #[.val (.ref a1), .val (.ref a2), .val (.ref b2), .val (.int (0 : Int32))] [])) _
    refine XS.iloadN X2.here hx rfl (hb hby d1_7) rfl ?_
    show Steps p.tables e below (T2.setTop (mkF m 8 #[.val (.ref a1), .val (.ref a2), .val (.ref b2), .val (.int (0 : Int32))] [(.int (0 : Int32))])) _
    refine XS.aloadN X2.here hx rfl (hb hby d1_8) rfl rfl ?_
    show Steps p.tables e below (T2.setTop (mkF m 9 #[.val (.ref a1), .val (.ref a2), .val (.ref b2), .val (.int (0 : Int32))] [(.ref a1), (.int (0 : Int32))])) _
    refine X2.arraylength hx (by rw [e2]; exact Ar3.1) (State.isArrayOf_alike hZ.alike Ar3.2.1) (g := (mkF m 9 #[.val (.ref a1), .val (.ref a2), .val (.ref b2), .val (.int (0 : Int32))] [(.ref a1), (.int (0 : Int32))])) rfl rfl (hb hby d1_9) _ ?_
    rw [len_of S3 NN3]
    show Steps p.tables e below (T2.setTop (mkF m 10 #[.val (.ref a1), .val (.ref a2), .val (.ref b2), .val (.int (0 : Int32))] [(.int (2 : Int32)), (.int (0 : Int32))])) _
    refine XS.icmpNo X2.here hx rfl (hb hby d1_10) rfl (tlt (by decide : (0 : Int32) < (2 : Int32))).2.1 ?_
    show Steps p.tables e below (T2.setTop (mkF m 13 #[.val (.ref a1), .val (.ref a2), .val (.ref b2), .val (.int (0 : Int32))] [])) _
    refine XS.aloadN X2.here hx rfl (hb hby d1_13) rfl rfl ?_
    show Steps p.tables e below (T2.setTop (mkF m 14 #[.val (.ref a1), .val (.ref a2), .val (.ref b2), .val (.int (0 : Int32))] [(.ref b2)])) _
    refine XS.iloadN X2.here hx rfl (hb hby d1_14) rfl ?_
    show Steps p.tables e below (T2.setTop (mkF m 15 #[.val (.ref a1), .val (.ref a2), .val (.ref b2), .val (.int (0 : Int32))] [(.int (0 : Int32)), (.ref b2)])) _
    refine XS.aloadN X2.here hx rfl (hb hby d1_15) rfl rfl ?_
    show Steps p.tables e below (T2.setTop (mkF m 16 #[.val (.ref a1), .val (.ref a2), .val (.ref b2), .val (.int (0 : Int32))] [(.ref a1), (.int (0 : Int32)), (.ref b2)])) _
    refine XS.iloadN X2.here hx rfl (hb hby d1_16) rfl ?_
    show Steps p.tables e below (T2.setTop (mkF m 17 #[.val (.ref a1), .val (.ref a2), .val (.ref b2), .val (.int (0 : Int32))] [(.int (0 : Int32)), (.ref a1), (.int (0 : Int32)), (.ref b2)])) _
    refine X2.daload hx (j := (0 : Int32)) (v := (.double f0)) (by rw [e2]; exact Ar4.1) (State.isArrayOf_alike hZ.alike Ar4.2.1) Ar4.2.2 hin4 hat4 (g := (mkF m 17 #[.val (.ref a1), .val (.ref a2), .val (.ref b2), .val (.int (0 : Int32))] [(.int (0 : Int32)), (.ref a1), (.int (0 : Int32)), (.ref b2)])) rfl rfl (hb hby d1_17) _ ?_
    show Steps p.tables e below (T2.setTop (mkF m 18 #[.val (.ref a1), .val (.ref a2), .val (.ref b2), .val (.int (0 : Int32))] [(.double f0), (.int (0 : Int32)), (.ref b2)])) _
    refine XS.aloadN X2.here hx rfl (hb hby d1_18) rfl rfl ?_
    show Steps p.tables e below (T2.setTop (mkF m 19 #[.val (.ref a1), .val (.ref a2), .val (.ref b2), .val (.int (0 : Int32))] [(.ref a2), (.double f0), (.int (0 : Int32)), (.ref b2)])) _
    refine XS.iloadN X2.here hx rfl (hb hby d1_19) rfl ?_
    show Steps p.tables e below (T2.setTop (mkF m 20 #[.val (.ref a1), .val (.ref a2), .val (.ref b2), .val (.int (0 : Int32))] [(.int (0 : Int32)), (.ref a2), (.double f0), (.int (0 : Int32)), (.ref b2)])) _
    refine X2.daload hx (j := (0 : Int32)) (v := (.double g0)) (by rw [e2]; exact Ar5.1) (State.isArrayOf_alike hZ.alike Ar5.2.1) Ar5.2.2 hin5 hat5 (g := (mkF m 20 #[.val (.ref a1), .val (.ref a2), .val (.ref b2), .val (.int (0 : Int32))] [(.int (0 : Int32)), (.ref a2), (.double f0), (.int (0 : Int32)), (.ref b2)])) rfl rfl (hb hby d1_20) _ ?_
    show Steps p.tables e below (T2.setTop (mkF m 21 #[.val (.ref a1), .val (.ref a2), .val (.ref b2), .val (.int (0 : Int32))] [(.double g0), (.double f0), (.int (0 : Int32)), (.ref b2)])) _
    refine Jvm.Free.XS.ddivS X2.here hx rfl (hb hby d1_21) rfl nn0 rfl ?_
    show Steps p.tables e below (T2.setTop (mkF m 22 #[.val (.ref a1), .val (.ref a2), .val (.ref b2), .val (.int (0 : Int32))] [(.double (FP.ddiv f0 g0)), (.int (0 : Int32)), (.ref b2)])) _
    refine st6 _ ?_
    show Steps p.tables e below (T6.setTop (mkF m 23 #[.val (.ref a1), .val (.ref a2), .val (.ref b2), .val (.int (0 : Int32))] [])) _
    refine XS.iinc X6.here hx rfl (hb hby d1_23) rfl (l' := #[.val (.ref a1), .val (.ref a2), .val (.ref b2), .val (.int (1 : Int32))]) rfl ?_
    show Steps p.tables e below (T6.setTop (mkF m 26 #[.val (.ref a1), .val (.ref a2), .val (.ref b2), .val (.int (1 : Int32))] [])) _
    refine XS.goto X6.here hx rfl (pc0 := 26) (pc' := 7) rfl (hb hby d1_26) (by decide) (by decide) ?_
    show Steps p.tables e below (T6.setTop (mkF m 7 #[.val (.ref a1), .val (.ref a2), .val (.ref b2), .val (.int (1 : Int32))] [])) _
    refine XS.iloadN X6.here hx rfl (hb hby d1_7) rfl ?_
    show Steps p.tables e below (T6.setTop (mkF m 8 #[.val (.ref a1), .val (.ref a2), .val (.ref b2), .val (.int (1 : Int32))] [(.int (1 : Int32))])) _
    refine XS.aloadN X6.here hx rfl (hb hby d1_8) rfl rfl ?_
    show Steps p.tables e below (T6.setTop (mkF m 9 #[.val (.ref a1), .val (.ref a2), .val (.ref b2), .val (.int (1 : Int32))] [(.ref a1), (.int (1 : Int32))])) _
    refine X6.arraylength hx (by rw [e6]; exact Ar7.1) (State.isArrayOf_alike hZ.alike Ar7.2.1) (g := (mkF m 9 #[.val (.ref a1), .val (.ref a2), .val (.ref b2), .val (.int (1 : Int32))] [(.ref a1), (.int (1 : Int32))])) rfl rfl (hb hby d1_9) _ ?_
    rw [len_of S7 NN7]
    show Steps p.tables e below (T6.setTop (mkF m 10 #[.val (.ref a1), .val (.ref a2), .val (.ref b2), .val (.int (1 : Int32))] [(.int (2 : Int32)), (.int (1 : Int32))])) _
    refine XS.icmpNo X6.here hx rfl (hb hby d1_10) rfl (tlt (by decide : (1 : Int32) < (2 : Int32))).2.1 ?_
    show Steps p.tables e below (T6.setTop (mkF m 13 #[.val (.ref a1), .val (.ref a2), .val (.ref b2), .val (.int (1 : Int32))] [])) _
    refine XS.aloadN X6.here hx rfl (hb hby d1_13) rfl rfl ?_
    show Steps p.tables e below (T6.setTop (mkF m 14 #[.val (.ref a1), .val (.ref a2), .val (.ref b2), .val (.int (1 : Int32))] [(.ref b2)])) _
    refine XS.iloadN X6.here hx rfl (hb hby d1_14) rfl ?_
    show Steps p.tables e below (T6.setTop (mkF m 15 #[.val (.ref a1), .val (.ref a2), .val (.ref b2), .val (.int (1 : Int32))] [(.int (1 : Int32)), (.ref b2)])) _
    refine XS.aloadN X6.here hx rfl (hb hby d1_15) rfl rfl ?_
    show Steps p.tables e below (T6.setTop (mkF m 16 #[.val (.ref a1), .val (.ref a2), .val (.ref b2), .val (.int (1 : Int32))] [(.ref a1), (.int (1 : Int32)), (.ref b2)])) _
    refine XS.iloadN X6.here hx rfl (hb hby d1_16) rfl ?_
    show Steps p.tables e below (T6.setTop (mkF m 17 #[.val (.ref a1), .val (.ref a2), .val (.ref b2), .val (.int (1 : Int32))] [(.int (1 : Int32)), (.ref a1), (.int (1 : Int32)), (.ref b2)])) _
    refine X6.daload hx (j := (1 : Int32)) (v := (.double f1)) (by rw [e6]; exact Ar8.1) (State.isArrayOf_alike hZ.alike Ar8.2.1) Ar8.2.2 hin8 hat8 (g := (mkF m 17 #[.val (.ref a1), .val (.ref a2), .val (.ref b2), .val (.int (1 : Int32))] [(.int (1 : Int32)), (.ref a1), (.int (1 : Int32)), (.ref b2)])) rfl rfl (hb hby d1_17) _ ?_
    show Steps p.tables e below (T6.setTop (mkF m 18 #[.val (.ref a1), .val (.ref a2), .val (.ref b2), .val (.int (1 : Int32))] [(.double f1), (.int (1 : Int32)), (.ref b2)])) _
    refine XS.aloadN X6.here hx rfl (hb hby d1_18) rfl rfl ?_
    show Steps p.tables e below (T6.setTop (mkF m 19 #[.val (.ref a1), .val (.ref a2), .val (.ref b2), .val (.int (1 : Int32))] [(.ref a2), (.double f1), (.int (1 : Int32)), (.ref b2)])) _
    refine XS.iloadN X6.here hx rfl (hb hby d1_19) rfl ?_
    show Steps p.tables e below (T6.setTop (mkF m 20 #[.val (.ref a1), .val (.ref a2), .val (.ref b2), .val (.int (1 : Int32))] [(.int (1 : Int32)), (.ref a2), (.double f1), (.int (1 : Int32)), (.ref b2)])) _
    refine X6.daload hx (j := (1 : Int32)) (v := (.double g1)) (by rw [e6]; exact Ar9.1) (State.isArrayOf_alike hZ.alike Ar9.2.1) Ar9.2.2 hin9 hat9 (g := (mkF m 20 #[.val (.ref a1), .val (.ref a2), .val (.ref b2), .val (.int (1 : Int32))] [(.int (1 : Int32)), (.ref a2), (.double f1), (.int (1 : Int32)), (.ref b2)])) rfl rfl (hb hby d1_20) _ ?_
    show Steps p.tables e below (T6.setTop (mkF m 21 #[.val (.ref a1), .val (.ref a2), .val (.ref b2), .val (.int (1 : Int32))] [(.double g1), (.double f1), (.int (1 : Int32)), (.ref b2)])) _
    refine Jvm.Free.XS.ddivS X6.here hx rfl (hb hby d1_21) rfl nn1 rfl ?_
    show Steps p.tables e below (T6.setTop (mkF m 22 #[.val (.ref a1), .val (.ref a2), .val (.ref b2), .val (.int (1 : Int32))] [(.double (FP.ddiv f1 g1)), (.int (1 : Int32)), (.ref b2)])) _
    refine st10 _ ?_
    show Steps p.tables e below (T10.setTop (mkF m 23 #[.val (.ref a1), .val (.ref a2), .val (.ref b2), .val (.int (1 : Int32))] [])) _
    refine XS.iinc X10.here hx rfl (hb hby d1_23) rfl (l' := #[.val (.ref a1), .val (.ref a2), .val (.ref b2), .val (.int (2 : Int32))]) rfl ?_
    show Steps p.tables e below (T10.setTop (mkF m 26 #[.val (.ref a1), .val (.ref a2), .val (.ref b2), .val (.int (2 : Int32))] [])) _
    refine XS.goto X10.here hx rfl (pc0 := 26) (pc' := 7) rfl (hb hby d1_26) (by decide) (by decide) ?_
    show Steps p.tables e below (T10.setTop (mkF m 7 #[.val (.ref a1), .val (.ref a2), .val (.ref b2), .val (.int (2 : Int32))] [])) _
    refine XS.iloadN X10.here hx rfl (hb hby d1_7) rfl ?_
    show Steps p.tables e below (T10.setTop (mkF m 8 #[.val (.ref a1), .val (.ref a2), .val (.ref b2), .val (.int (2 : Int32))] [(.int (2 : Int32))])) _
    refine XS.aloadN X10.here hx rfl (hb hby d1_8) rfl rfl ?_
    show Steps p.tables e below (T10.setTop (mkF m 9 #[.val (.ref a1), .val (.ref a2), .val (.ref b2), .val (.int (2 : Int32))] [(.ref a1), (.int (2 : Int32))])) _
    refine X10.arraylength hx (by rw [e10]; exact Ar11.1) (State.isArrayOf_alike hZ.alike Ar11.2.1) (g := (mkF m 9 #[.val (.ref a1), .val (.ref a2), .val (.ref b2), .val (.int (2 : Int32))] [(.ref a1), (.int (2 : Int32))])) rfl rfl (hb hby d1_9) _ ?_
    rw [len_of S11 NN11]
    show Steps p.tables e below (T10.setTop (mkF m 10 #[.val (.ref a1), .val (.ref a2), .val (.ref b2), .val (.int (2 : Int32))] [(.int (2 : Int32)), (.int (2 : Int32))])) _
    refine XS.icmpYes X10.here hx rfl (pc0 := 10) (pc' := 29) rfl (hb hby d1_10) rfl (flt (by decide : ¬ ((2 : Int32) < (2 : Int32)))).2.1 (by decide) (by decide) ?_
    show Steps p.tables e below (T10.setTop (mkF m 29 #[.val (.ref a1), .val (.ref a2), .val (.ref b2), .val (.int (2 : Int32))] [])) _
    refine XS.aloadN X10.here hx rfl (hb hby d1_29) rfl rfl ?_
    show Steps p.tables e below (T10.setTop (mkF m 30 #[.val (.ref a1), .val (.ref a2), .val (.ref b2), .val (.int (2 : Int32))] [(.ref b2)])) _
    jvm_step X10.here [X10.here.top, hx, (hb hby d1_30), X10.method', Bd.returns, Value.isRef, FieldType.isReference]
    first | (intro acts; rw [hr _ acts rfl rfl rfl]) | rw [hr _ _ rfl rfl rfl]
    exact Steps.refl _
  · show Q_rmR2 Z a1 a2 k1 k2 f0 f1 g0 g1 h0 n0 _ T10.heap _
    rw [e10]
    exact ⟨b2, kA2, rfl, N10, K0_10, sz_b2, V_b2__10⟩
def Q_rmR3 (Z : State) (a1 : Addr) (a2 : Addr) (k1 : ClassId) (k2 : ClassId) (f0 : UInt64) (f1 : UInt64) (f2 : UInt64) (g0 : UInt64) (g1 : UInt64) (g2 : UInt64) (h0 : Heap) (n0 : Nat) (v : Option Value) (h : Heap) (L : List Loc) : Prop := ∃ nb : Addr, ∃ nk : ClassId, v = some (.ref nb) ∧ Fr n0 L ∧ Keep h0 h [] ∧ h0.size ≤ nb ∧ Arv Z h nb nk .double (3 : Int32) [(.double (FP.ddiv f0 g0)), (.double (FP.ddiv f1 g1)), (.double (FP.ddiv f2 g2))] (.double (FP.l2d 0))
theorem ef_rmR3 (m : MethodId) (a1 : Addr) (a2 : Addr) : entryFrame m #[(.ref a1), (.ref a2)] 4 = mkF m 0 #[.val (.ref a1), .val (.ref a2), .unset, .unset] [] := by first | (simp [entryFrame, mkF, argsToLocals, Value.category]; done) | rfl
set_option maxRecDepth 65536 in
set_option maxHeartbeats 40000000 in
theorem rmR3 (l : Launch) (Z : State) (a0 : Array Value) (hw : ∀ d ∈ tables_1, d.before a0 Z = true) (ws : List Jvm.Cond) (a1 : Addr) (a2 : Addr) (k1 : ClassId) (k2 : ClassId) (f0 : UInt64) (f1 : UInt64) (f2 : UInt64) (g0 : UInt64) (g1 : UInt64) (g2 : UInt64) (h0 : Heap) (n0 : Nat) (X00 : Old Z n0 h0) (V_a1 : Arv Z h0 a1 k1 .double (3 : Int32) [(.double f0), (.double f1), (.double f2)] (.double (FP.l2d 0))) (V_a2 : Arv Z h0 a2 k2 .double (3 : Int32) [(.double g0), (.double g1), (.double g2)] (.double (FP.l2d 0))) (nn0 : Jvm.Free.Fl.NoNaN64 (FP.ddiv f0 g0)) (nn1 : Jvm.Free.Fl.NoNaN64 (FP.ddiv f1 g1)) (nn2 : Jvm.Free.Fl.NoNaN64 (FP.ddiv f2 g2)) :
    MetFree l (⟨"com/example/huron/huron/testing/TimedTurns", "ratios", "([D[D)[D"⟩ : MethodName) (head1 (Jvm.Cond.code (⟨"com/example/huron/huron/testing/TimedTurns", "ratios", "([D[D)[D"⟩ : MethodName) prog_70_method_7_code 4 (some (.array .double)) :: ws) ({ frames := 0, cells := 1, slots := 3, locals := 0 } : Room)) (fun aa U => aa = #[(.ref a1), (.ref a2)] ∧ Z.Warmed39 U.vm ∧ U.heap = h0) (fun _ _ _ _ _ => True) (fun _ U o U' => ∃ v L, o = .returned v ∧ Q_rmR3 Z a1 a2 k1 k2 f0 f1 f2 g0 g1 g2 h0 n0 v U'.heap L ∧ FrameEnd U o U' L ({ frames := 0, cells := 1, slots := 3, locals := 0 } : Room).cells ({ frames := 0, cells := 1, slots := 3, locals := 0 } : Room).slots) := by
  refine MetFree.of_bodySF (plainFor_of_name pn_com_example_huron_huron_testing_TimedTurns) hisR ?_
  intro p e s m args below meth c s₁ Bd hml0 hP hK
  obtain ⟨rfl, hZ, hh⟩ := hP
  have hx := Bd.exec
  have hby := Bd.bytes
  have hml : c.maxLocals = 4 := hml0
  have hown : s.vm.findClass "com/example/huron/huron/testing/TimedTurns" = some m.cls := findClass_of_methodNamed Bd.named
  have hnm := (name_of_methodNamed Bd.named Bd.method).1
  have X0 : Stand p l e ({ frames := 0, cells := 1, slots := 3, locals := 0 } : Room) s m #[(.ref a1), (.ref a2)] below meth c s₁ [] 0 0 := Stand.of_body Bd
  have e0 : s₁.heap = h0 := by rw [← hh, Bd.state]; rfl
  have N0 := Fr.nil n0
  have Z0 : n0 ≤ h0.size := own_z0 X00
  have pre0 : ∀ t, Steps p.tables e below (s₁.setTop (mkF m 0 #[.val (.ref a1), .val (.ref a2), .unset, .unset] [])) t → Steps p.tables e below (s₁.setTop (entryFrame m #[(.ref a1), (.ref a2)] 4)) t := fun t k => castTop (ef_rmR3 m a1 a2) k
  obtain ⟨cl1, Ar1, -, S1, NN1, -, -⟩ := id V_a1
  obtain ⟨T2, h2, kA2, X2, e2, E2, A2, st2⟩ := newP X0 hx hZ (hw _ (List.mem_of_getElem? (i := 0) rfl)) e0 (g := (mkF m 2 #[.val (.ref a1), .val (.ref a2), .unset, .unset] [(.int (3 : Int32))])) rfl (hb hby d1_2) rfl (by decide) (cap := 3) (by decide) (by decide) (by decide) (by decide)
  obtain ⟨b2, gb2⟩ : ∃ z, z = h0.size := ⟨_, rfl⟩
  rw [← gb2] at A2 st2
  have ne_a1_b2 : a1 ≠ b2 := Nat.ne_of_lt (Nat.lt_of_lt_of_le V_a1.lt (Nat.le_of_eq gb2.symm))
  have ne_a2_b2 : a2 ≠ b2 := Nat.ne_of_lt (Nat.lt_of_lt_of_le V_a2.lt (Nat.le_of_eq gb2.symm))
  have g_b2 : n0 ≤ b2 := Nat.le_trans (own_z0 X00) (Nat.le_of_eq gb2.symm)
  have sz_b2 : h0.size ≤ b2 := Nat.le_trans (Nat.le_refl _) (Nat.le_of_eq gb2.symm)
  have V_a1__2 := V_a1.ext E2
  have V_a2__2 := V_a2.ext E2
  have X00__2 := X00.ext E2
  have K0_2 : Keep h0 h2 [] := (Keep.refl h0 []).ext E2
  have V_b2 : Arv Z h2 b2 kA2 .double (3 : Int32) [(.double (FP.l2d 0)), (.double (FP.l2d 0)), (.double (FP.l2d 0))] (.double (FP.l2d 0)) := (Arv.newD A2 (by decide)).pad (pad_rep [] (.double (FP.l2d 0)) 3)
  obtain ⟨cl3, Ar3, -, S3, NN3, -, -⟩ := id V_a1__2
  obtain ⟨cl4, Ar4, -, S4, -, HH4, -⟩ := id V_a1__2
  have hin4 : ¬ ((0 : Int32) < 0 ∨ cl4.slots.size ≤ ((0 : Int32)).toNatClampNeg) := inb_of S4 ⟨by decide, by decide⟩
  have hat4 : cl4.slots[((0 : Int32)).toNatClampNeg]? = some (.double f0) := HH4 _ (Nat.lt_of_not_le fun q => hin4 (Or.inr q))
  obtain ⟨cl5, Ar5, -, S5, -, HH5, -⟩ := id V_a2__2
  have hin5 : ¬ ((0 : Int32) < 0 ∨ cl5.slots.size ≤ ((0 : Int32)).toNatClampNeg) := inb_of S5 ⟨by decide, by decide⟩
  have hat5 : cl5.slots[((0 : Int32)).toNatClampNeg]? = some (.double g0) := HH5 _ (Nat.lt_of_not_le fun q => hin5 (Or.inr q))
  obtain ⟨cl6, Ar6, q6, S6, NN6, HH6, G6⟩ := id V_b2
  have hin6 : ¬ ((0 : Int32) < 0 ∨ cl6.slots.size ≤ ((0 : Int32)).toNatClampNeg) := inb_of S6 ⟨by decide, by decide⟩
  obtain ⟨T6, h6, X6, e6, W6, st6⟩ := stD X2 hx hZ e2 Ar6 (j := (0 : Int32)) hin6 (g := (mkF m 22 #[.val (.ref a1), .val (.ref a2), .val (.ref b2), .val (.int (0 : Int32))] [(.double (FP.ddiv f0 g0)), (.int (0 : Int32)), (.ref b2)])) rfl rfl (hb hby d1_22)
  have V_a1__6 := V_a1__2.other W6 ne_a1_b2
  have V_a2__6 := V_a2__2.other W6 ne_a2_b2
  have X00__6 := X00__2.wr W6 g_b2
  have K0_6 : Keep h0 h6 [] := K0_2.wr W6 (Or.inr sz_b2)
  have N6 := Fr.snoc X6 N0 g_b2
  have V_b2__6 : Arv Z h6 b2 kA2 .double (3 : Int32) [(.double (FP.ddiv f0 g0)), (.double (FP.l2d 0)), (.double (FP.l2d 0))] (.double (FP.l2d 0)) := Arv.set Ar6 q6 S6 NN6 HH6 G6 rfl W6 0 rfl (Nat.le_of_ble_eq_true rfl)
  obtain ⟨cl7, Ar7, -, S7, NN7, -, -⟩ := id V_a1__6
  obtain ⟨cl8, Ar8, -, S8, -, HH8, -⟩ := id V_a1__6
  have hin8 : ¬ ((1 : Int32) < 0 ∨ cl8.slots.size ≤ ((1 : Int32)).toNatClampNeg) := inb_of S8 ⟨by decide, by decide⟩
  have hat8 : cl8.slots[((1 : Int32)).toNatClampNeg]? = some (.double f1) := HH8 _ (Nat.lt_of_not_le fun q => hin8 (Or.inr q))
  obtain ⟨cl9, Ar9, -, S9, -, HH9, -⟩ := id V_a2__6
  have hin9 : ¬ ((1 : Int32) < 0 ∨ cl9.slots.size ≤ ((1 : Int32)).toNatClampNeg) := inb_of S9 ⟨by decide, by decide⟩
  have hat9 : cl9.slots[((1 : Int32)).toNatClampNeg]? = some (.double g1) := HH9 _ (Nat.lt_of_not_le fun q => hin9 (Or.inr q))
  obtain ⟨cl10, Ar10, q10, S10, NN10, HH10, G10⟩ := id V_b2__6
  have hin10 : ¬ ((1 : Int32) < 0 ∨ cl10.slots.size ≤ ((1 : Int32)).toNatClampNeg) := inb_of S10 ⟨by decide, by decide⟩
  obtain ⟨T10, h10, X10, e10, W10, st10⟩ := stD X6 hx hZ e6 Ar10 (j := (1 : Int32)) hin10 (g := (mkF m 22 #[.val (.ref a1), .val (.ref a2), .val (.ref b2), .val (.int (1 : Int32))] [(.double (FP.ddiv f1 g1)), (.int (1 : Int32)), (.ref b2)])) rfl rfl (hb hby d1_22)
  have V_a1__10 := V_a1__6.other W10 ne_a1_b2
  have V_a2__10 := V_a2__6.other W10 ne_a2_b2
  have X00__10 := X00__6.wr W10 g_b2
  have K0_10 : Keep h0 h10 [] := K0_6.wr W10 (Or.inr sz_b2)
  have N10 := Fr.snoc X10 N6 g_b2
  have V_b2__10 : Arv Z h10 b2 kA2 .double (3 : Int32) [(.double (FP.ddiv f0 g0)), (.double (FP.ddiv f1 g1)), (.double (FP.l2d 0))] (.double (FP.l2d 0)) := Arv.set Ar10 q10 S10 NN10 HH10 G10 rfl W10 1 rfl (Nat.le_of_ble_eq_true rfl)
  obtain ⟨cl11, Ar11, -, S11, NN11, -, -⟩ := id V_a1__10
  obtain ⟨cl12, Ar12, -, S12, -, HH12, -⟩ := id V_a1__10
  have hin12 : ¬ ((2 : Int32) < 0 ∨ cl12.slots.size ≤ ((2 : Int32)).toNatClampNeg) := inb_of S12 ⟨by decide, by decide⟩
  have hat12 : cl12.slots[((2 : Int32)).toNatClampNeg]? = some (.double f2) := HH12 _ (Nat.lt_of_not_le fun q => hin12 (Or.inr q))
  obtain ⟨cl13, Ar13, -, S13, -, HH13, -⟩ := id V_a2__10
  have hin13 : ¬ ((2 : Int32) < 0 ∨ cl13.slots.size ≤ ((2 : Int32)).toNatClampNeg) := inb_of S13 ⟨by decide, by decide⟩
  have hat13 : cl13.slots[((2 : Int32)).toNatClampNeg]? = some (.double g2) := HH13 _ (Nat.lt_of_not_le fun q => hin13 (Or.inr q))
  obtain ⟨cl14, Ar14, q14, S14, NN14, HH14, G14⟩ := id V_b2__10
  have hin14 : ¬ ((2 : Int32) < 0 ∨ cl14.slots.size ≤ ((2 : Int32)).toNatClampNeg) := inb_of S14 ⟨by decide, by decide⟩
  obtain ⟨T14, h14, X14, e14, W14, st14⟩ := stD X10 hx hZ e10 Ar14 (j := (2 : Int32)) hin14 (g := (mkF m 22 #[.val (.ref a1), .val (.ref a2), .val (.ref b2), .val (.int (2 : Int32))] [(.double (FP.ddiv f2 g2)), (.int (2 : Int32)), (.ref b2)])) rfl rfl (hb hby d1_22)
  have V_a1__14 := V_a1__10.other W14 ne_a1_b2
  have V_a2__14 := V_a2__10.other W14 ne_a2_b2
  have X00__14 := X00__10.wr W14 g_b2
  have K0_14 : Keep h0 h14 [] := K0_10.wr W14 (Or.inr sz_b2)
  have N14 := Fr.snoc X14 N10 g_b2
  have V_b2__14 : Arv Z h14 b2 kA2 .double (3 : Int32) [(.double (FP.ddiv f0 g0)), (.double (FP.ddiv f1 g1)), (.double (FP.ddiv f2 g2))] (.double (FP.l2d 0)) := Arv.set Ar14 q14 S14 NN14 HH14 G14 rfl W14 2 rfl (Nat.le_of_ble_eq_true rfl)
  obtain ⟨cl15, Ar15, -, S15, NN15, -, -⟩ := id V_a1__14
  obtain ⟨fs, hr, hrun, hended, hW, hsame⟩ := X14.leave (v := some (.ref b2)) (fun h => by rw [Bd.returns] at h; cases h)
  refine ⟨_, _, pre0 _ ?_, hrun, hended, _, _, rfl, ?_, ⟨_, rfl⟩, hW, hsame.mono (by decide) (by decide)⟩
  · show Steps p.tables e below (s₁.setTop (mkF m 0 #[.val (.ref a1), .val (.ref a2), .unset, .unset] [])) _
    refine XS.aloadN X0.here hx rfl (hb hby d1_0) rfl rfl ?_
    show Steps p.tables e below (s₁.setTop (mkF m 1 #[.val (.ref a1), .val (.ref a2), .unset, .unset] [(.ref a1)])) _
    refine X0.arraylength hx (by rw [e0]; exact Ar1.1) (State.isArrayOf_alike hZ.alike Ar1.2.1) (g := (mkF m 1 #[.val (.ref a1), .val (.ref a2), .unset, .unset] [(.ref a1)])) rfl rfl (hb hby d1_1) _ ?_
    rw [len_of S1 NN1]
    show Steps p.tables e below (s₁.setTop (mkF m 2 #[.val (.ref a1), .val (.ref a2), .unset, .unset] [(.int (3 : Int32))])) _
    refine st2 _ ?_
    show Steps p.tables e below (T2.setTop (mkF m 4 #[.val (.ref a1), .val (.ref a2), .unset, .unset] [(.ref b2)])) _
    refine XS.astoreN X2.here hx rfl (hb hby d1_4) rfl rfl (l' := #[.val (.ref a1), .val (.ref a2), .val (.ref b2), .unset]) rfl ?_
    show Steps p.tables e below (T2.setTop (mkF m 5 #[.val (.ref a1), .val (.ref a2), .val (.ref b2), .unset] [])) _
    refine XS.iconst X2.here hx rfl (hb hby d1_5) ?_
    show Steps p.tables e below (T2.setTop (mkF m 6 #[.val (.ref a1), .val (.ref a2), .val (.ref b2), .unset] [(.int (0 : Int32))])) _
    refine XS.istoreN X2.here hx rfl (hb hby d1_6) rfl (l' := #[.val (.ref a1), .val (.ref a2), .val (.ref b2), .val (.int (0 : Int32))]) rfl ?_
    show Steps p.tables e below (T2.setTop (mkF m 7 #[.val (.ref a1), .val (.ref a2), .val (.ref b2), .val (.int (0 : Int32))] [])) _
    refine XS.iloadN X2.here hx rfl (hb hby d1_7) rfl ?_
    show Steps p.tables e below (T2.setTop (mkF m 8 #[.val (.ref a1), .val (.ref a2), .val (.ref b2), .val (.int (0 : Int32))] [(.int (0 : Int32))])) _
    refine XS.aloadN X2.here hx rfl (hb hby d1_8) rfl rfl ?_
    show Steps p.tables e below (T2.setTop (mkF m 9 #[.val (.ref a1), .val (.ref a2), .val (.ref b2), .val (.int (0 : Int32))] [(.ref a1), (.int (0 : Int32))])) _
    refine X2.arraylength hx (by rw [e2]; exact Ar3.1) (State.isArrayOf_alike hZ.alike Ar3.2.1) (g := (mkF m 9 #[.val (.ref a1), .val (.ref a2), .val (.ref b2), .val (.int (0 : Int32))] [(.ref a1), (.int (0 : Int32))])) rfl rfl (hb hby d1_9) _ ?_
    rw [len_of S3 NN3]
    show Steps p.tables e below (T2.setTop (mkF m 10 #[.val (.ref a1), .val (.ref a2), .val (.ref b2), .val (.int (0 : Int32))] [(.int (3 : Int32)), (.int (0 : Int32))])) _
    refine XS.icmpNo X2.here hx rfl (hb hby d1_10) rfl (tlt (by decide : (0 : Int32) < (3 : Int32))).2.1 ?_
    show Steps p.tables e below (T2.setTop (mkF m 13 #[.val (.ref a1), .val (.ref a2), .val (.ref b2), .val (.int (0 : Int32))] [])) _
    refine XS.aloadN X2.here hx rfl (hb hby d1_13) rfl rfl ?_
    show Steps p.tables e below (T2.setTop (mkF m 14 #[.val (.ref a1), .val (.ref a2), .val (.ref b2), .val (.int (0 : Int32))] [(.ref b2)])) _
    refine XS.iloadN X2.here hx rfl (hb hby d1_14) rfl ?_
    show Steps p.tables e below (T2.setTop (mkF m 15 #[.val (.ref a1), .val (.ref a2), .val (.ref b2), .val (.int (0 : Int32))] [(.int (0 : Int32)), (.ref b2)])) _
    refine XS.aloadN X2.here hx rfl (hb hby d1_15) rfl rfl ?_
    show Steps p.tables e below (T2.setTop (mkF m 16 #[.val (.ref a1), .val (.ref a2), .val (.ref b2), .val (.int (0 : Int32))] [(.ref a1), (.int (0 : Int32)), (.ref b2)])) _
    refine XS.iloadN X2.here hx rfl (hb hby d1_16) rfl ?_
    show Steps p.tables e below (T2.setTop (mkF m 17 #[.val (.ref a1), .val (.ref a2), .val (.ref b2), .val (.int (0 : Int32))] [(.int (0 : Int32)), (.ref a1), (.int (0 : Int32)), (.ref b2)])) _
    refine X2.daload hx (j := (0 : Int32)) (v := (.double f0)) (by rw [e2]; exact Ar4.1) (State.isArrayOf_alike hZ.alike Ar4.2.1) Ar4.2.2 hin4 hat4 (g := (mkF m 17 #[.val (.ref a1), .val (.ref a2), .val (.ref b2), .val (.int (0 : Int32))] [(.int (0 : Int32)), (.ref a1), (.int (0 : Int32)), (.ref b2)])) rfl rfl (hb hby d1_17) _ ?_
    show Steps p.tables e below (T2.setTop (mkF m 18 #[.val (.ref a1), .val (.ref a2), .val (.ref b2), .val (.int (0 : Int32))] [(.double f0), (.int (0 : Int32)), (.ref b2)])) _
    refine XS.aloadN X2.here hx rfl (hb hby d1_18) rfl rfl ?_
    show Steps p.tables e below (T2.setTop (mkF m 19 #[.val (.ref a1), .val (.ref a2), .val (.ref b2), .val (.int (0 : Int32))] [(.ref a2), (.double f0), (.int (0 : Int32)), (.ref b2)])) _
    refine XS.iloadN X2.here hx rfl (hb hby d1_19) rfl ?_
    show Steps p.tables e below (T2.setTop (mkF m 20 #[.val (.ref a1), .val (.ref a2), .val (.ref b2), .val (.int (0 : Int32))] [(.int (0 : Int32)), (.ref a2), (.double f0), (.int (0 : Int32)), (.ref b2)])) _
    refine X2.daload hx (j := (0 : Int32)) (v := (.double g0)) (by rw [e2]; exact Ar5.1) (State.isArrayOf_alike hZ.alike Ar5.2.1) Ar5.2.2 hin5 hat5 (g := (mkF m 20 #[.val (.ref a1), .val (.ref a2), .val (.ref b2), .val (.int (0 : Int32))] [(.int (0 : Int32)), (.ref a2), (.double f0), (.int (0 : Int32)), (.ref b2)])) rfl rfl (hb hby d1_20) _ ?_
    show Steps p.tables e below (T2.setTop (mkF m 21 #[.val (.ref a1), .val (.ref a2), .val (.ref b2), .val (.int (0 : Int32))] [(.double g0), (.double f0), (.int (0 : Int32)), (.ref b2)])) _
    refine Jvm.Free.XS.ddivS X2.here hx rfl (hb hby d1_21) rfl nn0 rfl ?_
    show Steps p.tables e below (T2.setTop (mkF m 22 #[.val (.ref a1), .val (.ref a2), .val (.ref b2), .val (.int (0 : Int32))] [(.double (FP.ddiv f0 g0)), (.int (0 : Int32)), (.ref b2)])) _
    refine st6 _ ?_
    show Steps p.tables e below (T6.setTop (mkF m 23 #[.val (.ref a1), .val (.ref a2), .val (.ref b2), .val (.int (0 : Int32))] [])) _
    refine XS.iinc X6.here hx rfl (hb hby d1_23) rfl (l' := #[.val (.ref a1), .val (.ref a2), .val (.ref b2), .val (.int (1 : Int32))]) rfl ?_
    show Steps p.tables e below (T6.setTop (mkF m 26 #[.val (.ref a1), .val (.ref a2), .val (.ref b2), .val (.int (1 : Int32))] [])) _
    refine XS.goto X6.here hx rfl (pc0 := 26) (pc' := 7) rfl (hb hby d1_26) (by decide) (by decide) ?_
    show Steps p.tables e below (T6.setTop (mkF m 7 #[.val (.ref a1), .val (.ref a2), .val (.ref b2), .val (.int (1 : Int32))] [])) _
    refine XS.iloadN X6.here hx rfl (hb hby d1_7) rfl ?_
    show Steps p.tables e below (T6.setTop (mkF m 8 #[.val (.ref a1), .val (.ref a2), .val (.ref b2), .val (.int (1 : Int32))] [(.int (1 : Int32))])) _
    refine XS.aloadN X6.here hx rfl (hb hby d1_8) rfl rfl ?_
    show Steps p.tables e below (T6.setTop (mkF m 9 #[.val (.ref a1), .val (.ref a2), .val (.ref b2), .val (.int (1 : Int32))] [(.ref a1), (.int (1 : Int32))])) _
    refine X6.arraylength hx (by rw [e6]; exact Ar7.1) (State.isArrayOf_alike hZ.alike Ar7.2.1) (g := (mkF m 9 #[.val (.ref a1), .val (.ref a2), .val (.ref b2), .val (.int (1 : Int32))] [(.ref a1), (.int (1 : Int32))])) rfl rfl (hb hby d1_9) _ ?_
    rw [len_of S7 NN7]
    show Steps p.tables e below (T6.setTop (mkF m 10 #[.val (.ref a1), .val (.ref a2), .val (.ref b2), .val (.int (1 : Int32))] [(.int (3 : Int32)), (.int (1 : Int32))])) _
    refine XS.icmpNo X6.here hx rfl (hb hby d1_10) rfl (tlt (by decide : (1 : Int32) < (3 : Int32))).2.1 ?_
    show Steps p.tables e below (T6.setTop (mkF m 13 #[.val (.ref a1), .val (.ref a2), .val (.ref b2), .val (.int (1 : Int32))] [])) _
    refine XS.aloadN X6.here hx rfl (hb hby d1_13) rfl rfl ?_
    show Steps p.tables e below (T6.setTop (mkF m 14 #[.val (.ref a1), .val (.ref a2), .val (.ref b2), .val (.int (1 : Int32))] [(.ref b2)])) _
    refine XS.iloadN X6.here hx rfl (hb hby d1_14) rfl ?_
    show Steps p.tables e below (T6.setTop (mkF m 15 #[.val (.ref a1), .val (.ref a2), .val (.ref b2), .val (.int (1 : Int32))] [(.int (1 : Int32)), (.ref b2)])) _
    refine XS.aloadN X6.here hx rfl (hb hby d1_15) rfl rfl ?_
    show Steps p.tables e below (T6.setTop (mkF m 16 #[.val (.ref a1), .val (.ref a2), .val (.ref b2), .val (.int (1 : Int32))] [(.ref a1), (.int (1 : Int32)), (.ref b2)])) _
    refine XS.iloadN X6.here hx rfl (hb hby d1_16) rfl ?_
    show Steps p.tables e below (T6.setTop (mkF m 17 #[.val (.ref a1), .val (.ref a2), .val (.ref b2), .val (.int (1 : Int32))] [(.int (1 : Int32)), (.ref a1), (.int (1 : Int32)), (.ref b2)])) _
    refine X6.daload hx (j := (1 : Int32)) (v := (.double f1)) (by rw [e6]; exact Ar8.1) (State.isArrayOf_alike hZ.alike Ar8.2.1) Ar8.2.2 hin8 hat8 (g := (mkF m 17 #[.val (.ref a1), .val (.ref a2), .val (.ref b2), .val (.int (1 : Int32))] [(.int (1 : Int32)), (.ref a1), (.int (1 : Int32)), (.ref b2)])) rfl rfl (hb hby d1_17) _ ?_
    show Steps p.tables e below (T6.setTop (mkF m 18 #[.val (.ref a1), .val (.ref a2), .val (.ref b2), .val (.int (1 : Int32))] [(.double f1), (.int (1 : Int32)), (.ref b2)])) _
    refine XS.aloadN X6.here hx rfl (hb hby d1_18) rfl rfl ?_
    show Steps p.tables e below (T6.setTop (mkF m 19 #[.val (.ref a1), .val (.ref a2), .val (.ref b2), .val (.int (1 : Int32))] [(.ref a2), (.double f1), (.int (1 : Int32)), (.ref b2)])) _
    refine XS.iloadN X6.here hx rfl (hb hby d1_19) rfl ?_
    show Steps p.tables e below (T6.setTop (mkF m 20 #[.val (.ref a1), .val (.ref a2), .val (.ref b2), .val (.int (1 : Int32))] [(.int (1 : Int32)), (.ref a2), (.double f1), (.int (1 : Int32)), (.ref b2)])) _
    refine X6.daload hx (j := (1 : Int32)) (v := (.double g1)) (by rw [e6]; exact Ar9.1) (State.isArrayOf_alike hZ.alike Ar9.2.1) Ar9.2.2 hin9 hat9 (g := (mkF m 20 #[.val (.ref a1), .val (.ref a2), .val (.ref b2), .val (.int (1 : Int32))] [(.int (1 : Int32)), (.ref a2), (.double f1), (.int (1 : Int32)), (.ref b2)])) rfl rfl (hb hby d1_20) _ ?_
    show Steps p.tables e below (T6.setTop (mkF m 21 #[.val (.ref a1), .val (.ref a2), .val (.ref b2), .val (.int (1 : Int32))] [(.double g1), (.double f1), (.int (1 : Int32)), (.ref b2)])) _
    refine Jvm.Free.XS.ddivS X6.here hx rfl (hb hby d1_21) rfl nn1 rfl ?_
    show Steps p.tables e below (T6.setTop (mkF m 22 #[.val (.ref a1), .val (.ref a2), .val (.ref b2), .val (.int (1 : Int32))] [(.double (FP.ddiv f1 g1)), (.int (1 : Int32)), (.ref b2)])) _
    refine st10 _ ?_
    show Steps p.tables e below (T10.setTop (mkF m 23 #[.val (.ref a1), .val (.ref a2), .val (.ref b2), .val (.int (1 : Int32))] [])) _
    refine XS.iinc X10.here hx rfl (hb hby d1_23) rfl (l' := #[.val (.ref a1), .val (.ref a2), .val (.ref b2), .val (.int (2 : Int32))]) rfl ?_
    show Steps p.tables e below (T10.setTop (mkF m 26 #[.val (.ref a1), .val (.ref a2), .val (.ref b2), .val (.int (2 : Int32))] [])) _
    refine XS.goto X10.here hx rfl (pc0 := 26) (pc' := 7) rfl (hb hby d1_26) (by decide) (by decide) ?_
    show Steps p.tables e below (T10.setTop (mkF m 7 #[.val (.ref a1), .val (.ref a2), .val (.ref b2), .val (.int (2 : Int32))] [])) _
    refine XS.iloadN X10.here hx rfl (hb hby d1_7) rfl ?_
    show Steps p.tables e below (T10.setTop (mkF m 8 #[.val (.ref a1), .val (.ref a2), .val (.ref b2), .val (.int (2 : Int32))] [(.int (2 : Int32))])) _
    refine XS.aloadN X10.here hx rfl (hb hby d1_8) rfl rfl ?_
    show Steps p.tables e below (T10.setTop (mkF m 9 #[.val (.ref a1), .val (.ref a2), .val (.ref b2), .val (.int (2 : Int32))] [(.ref a1), (.int (2 : Int32))])) _
    refine X10.arraylength hx (by rw [e10]; exact Ar11.1) (State.isArrayOf_alike hZ.alike Ar11.2.1) (g := (mkF m 9 #[.val (.ref a1), .val (.ref a2), .val (.ref b2), .val (.int (2 : Int32))] [(.ref a1), (.int (2 : Int32))])) rfl rfl (hb hby d1_9) _ ?_
    rw [len_of S11 NN11]
    show Steps p.tables e below (T10.setTop (mkF m 10 #[.val (.ref a1), .val (.ref a2), .val (.ref b2), .val (.int (2 : Int32))] [(.int (3 : Int32)), (.int (2 : Int32))])) _
    refine XS.icmpNo X10.here hx rfl (hb hby d1_10) rfl (tlt (by decide : (2 : Int32) < (3 : Int32))).2.1 ?_
    show Steps p.tables e below (T10.setTop (mkF m 13 #[.val (.ref a1), .val (.ref a2), .val (.ref b2), .val (.int (2 : Int32))] [])) _
    refine XS.aloadN X10.here hx rfl (hb hby d1_13) rfl rfl ?_
    show Steps p.tables e below (T10.setTop (mkF m 14 #[.val (.ref a1), .val (.ref a2), .val (.ref b2), .val (.int (2 : Int32))] [(.ref b2)])) _
    refine XS.iloadN X10.here hx rfl (hb hby d1_14) rfl ?_
    show Steps p.tables e below (T10.setTop (mkF m 15 #[.val (.ref a1), .val (.ref a2), .val (.ref b2), .val (.int (2 : Int32))] [(.int (2 : Int32)), (.ref b2)])) _
    refine XS.aloadN X10.here hx rfl (hb hby d1_15) rfl rfl ?_
    show Steps p.tables e below (T10.setTop (mkF m 16 #[.val (.ref a1), .val (.ref a2), .val (.ref b2), .val (.int (2 : Int32))] [(.ref a1), (.int (2 : Int32)), (.ref b2)])) _
    refine XS.iloadN X10.here hx rfl (hb hby d1_16) rfl ?_
    show Steps p.tables e below (T10.setTop (mkF m 17 #[.val (.ref a1), .val (.ref a2), .val (.ref b2), .val (.int (2 : Int32))] [(.int (2 : Int32)), (.ref a1), (.int (2 : Int32)), (.ref b2)])) _
    refine X10.daload hx (j := (2 : Int32)) (v := (.double f2)) (by rw [e10]; exact Ar12.1) (State.isArrayOf_alike hZ.alike Ar12.2.1) Ar12.2.2 hin12 hat12 (g := (mkF m 17 #[.val (.ref a1), .val (.ref a2), .val (.ref b2), .val (.int (2 : Int32))] [(.int (2 : Int32)), (.ref a1), (.int (2 : Int32)), (.ref b2)])) rfl rfl (hb hby d1_17) _ ?_
    show Steps p.tables e below (T10.setTop (mkF m 18 #[.val (.ref a1), .val (.ref a2), .val (.ref b2), .val (.int (2 : Int32))] [(.double f2), (.int (2 : Int32)), (.ref b2)])) _
    refine XS.aloadN X10.here hx rfl (hb hby d1_18) rfl rfl ?_
    show Steps p.tables e below (T10.setTop (mkF m 19 #[.val (.ref a1), .val (.ref a2), .val (.ref b2), .val (.int (2 : Int32))] [(.ref a2), (.double f2), (.int (2 : Int32)), (.ref b2)])) _
    refine XS.iloadN X10.here hx rfl (hb hby d1_19) rfl ?_
    show Steps p.tables e below (T10.setTop (mkF m 20 #[.val (.ref a1), .val (.ref a2), .val (.ref b2), .val (.int (2 : Int32))] [(.int (2 : Int32)), (.ref a2), (.double f2), (.int (2 : Int32)), (.ref b2)])) _
    refine X10.daload hx (j := (2 : Int32)) (v := (.double g2)) (by rw [e10]; exact Ar13.1) (State.isArrayOf_alike hZ.alike Ar13.2.1) Ar13.2.2 hin13 hat13 (g := (mkF m 20 #[.val (.ref a1), .val (.ref a2), .val (.ref b2), .val (.int (2 : Int32))] [(.int (2 : Int32)), (.ref a2), (.double f2), (.int (2 : Int32)), (.ref b2)])) rfl rfl (hb hby d1_20) _ ?_
    show Steps p.tables e below (T10.setTop (mkF m 21 #[.val (.ref a1), .val (.ref a2), .val (.ref b2), .val (.int (2 : Int32))] [(.double g2), (.double f2), (.int (2 : Int32)), (.ref b2)])) _
    refine Jvm.Free.XS.ddivS X10.here hx rfl (hb hby d1_21) rfl nn2 rfl ?_
    show Steps p.tables e below (T10.setTop (mkF m 22 #[.val (.ref a1), .val (.ref a2), .val (.ref b2), .val (.int (2 : Int32))] [(.double (FP.ddiv f2 g2)), (.int (2 : Int32)), (.ref b2)])) _
    refine st14 _ ?_
    show Steps p.tables e below (T14.setTop (mkF m 23 #[.val (.ref a1), .val (.ref a2), .val (.ref b2), .val (.int (2 : Int32))] [])) _
    refine XS.iinc X14.here hx rfl (hb hby d1_23) rfl (l' := #[.val (.ref a1), .val (.ref a2), .val (.ref b2), .val (.int (3 : Int32))]) rfl ?_
    show Steps p.tables e below (T14.setTop (mkF m 26 #[.val (.ref a1), .val (.ref a2), .val (.ref b2), .val (.int (3 : Int32))] [])) _
    refine XS.goto X14.here hx rfl (pc0 := 26) (pc' := 7) rfl (hb hby d1_26) (by decide) (by decide) ?_
    show Steps p.tables e below (T14.setTop (mkF m 7 #[.val (.ref a1), .val (.ref a2), .val (.ref b2), .val (.int (3 : Int32))] [])) _
    refine XS.iloadN X14.here hx rfl (hb hby d1_7) rfl ?_
    show Steps p.tables e below (T14.setTop (mkF m 8 #[.val (.ref a1), .val (.ref a2), .val (.ref b2), .val (.int (3 : Int32))] [(.int (3 : Int32))])) _
    refine XS.aloadN X14.here hx rfl (hb hby d1_8) rfl rfl ?_
    show Steps p.tables e below (T14.setTop (mkF m 9 #[.val (.ref a1), .val (.ref a2), .val (.ref b2), .val (.int (3 : Int32))] [(.ref a1), (.int (3 : Int32))])) _
    refine X14.arraylength hx (by rw [e14]; exact Ar15.1) (State.isArrayOf_alike hZ.alike Ar15.2.1) (g := (mkF m 9 #[.val (.ref a1), .val (.ref a2), .val (.ref b2), .val (.int (3 : Int32))] [(.ref a1), (.int (3 : Int32))])) rfl rfl (hb hby d1_9) _ ?_
    rw [len_of S15 NN15]
    show Steps p.tables e below (T14.setTop (mkF m 10 #[.val (.ref a1), .val (.ref a2), .val (.ref b2), .val (.int (3 : Int32))] [(.int (3 : Int32)), (.int (3 : Int32))])) _
    refine XS.icmpYes X14.here hx rfl (pc0 := 10) (pc' := 29) rfl (hb hby d1_10) rfl (flt (by decide : ¬ ((3 : Int32) < (3 : Int32)))).2.1 (by decide) (by decide) ?_
    show Steps p.tables e below (T14.setTop (mkF m 29 #[.val (.ref a1), .val (.ref a2), .val (.ref b2), .val (.int (3 : Int32))] [])) _
    refine XS.aloadN X14.here hx rfl (hb hby d1_29) rfl rfl ?_
    show Steps p.tables e below (T14.setTop (mkF m 30 #[.val (.ref a1), .val (.ref a2), .val (.ref b2), .val (.int (3 : Int32))] [(.ref b2)])) _
    jvm_step X14.here [X14.here.top, hx, (hb hby d1_30), X14.method', Bd.returns, Value.isRef, FieldType.isReference]
    first | (intro acts; rw [hr _ acts rfl rfl rfl]) | rw [hr _ _ rfl rfl rfl]
    exact Steps.refl _
  · show Q_rmR3 Z a1 a2 k1 k2 f0 f1 f2 g0 g1 g2 h0 n0 _ T14.heap _
    rw [e14]
    exact ⟨b2, kA2, rfl, N14, K0_14, sz_b2, V_b2__14⟩
theorem pd___D_D__D : parseMethodDescriptor "([D[D)[D" = some ⟨[(.array .double), (.array .double)], some (.array .double)⟩ := by decide +kernel
def Q_rm0_0 (Z : State) (sz : Int32) (x0 : Int64) (x1 : Int64) (x2 : Int64) (nu0 : Int32) (de0 : Int32) (nu1 : Int32) (de1 : Int32) (nu2 : Int32) (de2 : Int32) (h0 : Heap) (n0 : Nat) (v : Option Value) (h : Heap) (L : List Loc) : Prop := v = some (.int (1 : Int32)) ∧ Fr n0 L
theorem ef_rm0_0 (m : MethodId) (sz : Int32) (x0 : Int64) (x1 : Int64) (x2 : Int64) : entryFrame m #[(.int sz), (.long x0), (.long x1), (.long x2)] maxLocals = mkF m 0 #[.val (.int sz), .val (.long x0), .second, .val (.long x1), .second, .val (.long x2), .second, .unset, .unset, .unset, .unset] [] := by first | (simp [entryFrame, mkF, argsToLocals, Value.category, maxLocals]; done) | rfl
set_option maxRecDepth 65536 in
set_option maxHeartbeats 40000000 in
theorem rm0_0 (l : Launch) (Z : State) (a0 : Array Value) (hw : ∀ d ∈ tables_1, d.before a0 Z = true) (ws : List Jvm.Cond) (sz : Int32) (x0 : Int64) (x1 : Int64) (x2 : Int64) (nu0 : Int32) (de0 : Int32) (nu1 : Int32) (de1 : Int32) (nu2 : Int32) (de2 : Int32) (h0 : Heap) (n0 : Nat) (X00 : Old Z n0 h0) (hsz : (sz &&& (3 : Int32)) = (0 : Int32)) :
    MetFree l x (head1 (Jvm.Cond.code x code maxLocals ret :: ws) room_1) (fun aa U => aa = #[(.int sz), (.long x0), (.long x1), (.long x2)] ∧ Z.Warmed39 U.vm ∧ U.heap = h0) (fun _ _ _ _ _ => True) (fun _ U o U' => ∃ v L, o = .returned v ∧ Q_rm0_0 Z sz x0 x1 x2 nu0 de0 nu1 de1 nu2 de2 h0 n0 v U'.heap L ∧ FrameEnd U o U' L room_1.cells room_1.slots) := by
  refine MetFree.of_bodySF (plainFor_of_name pn_com_example_huron_huron_testing_TimedTurnsRatiosPinLaw) hisR ?_
  intro p e s m args below meth c s₁ Bd hml0 hP hK
  obtain ⟨rfl, hZ, hh⟩ := hP
  have hx := Bd.exec
  have hby := Bd.bytes
  have hml : c.maxLocals = 11 := hml0
  have hown : s.vm.findClass "com/example/huron/huron/testing/TimedTurnsRatiosPinLaw" = some m.cls := findClass_of_methodNamed Bd.named
  have hnm := (name_of_methodNamed Bd.named Bd.method).1
  have X0 : Stand p l e room_1 s m #[(.int sz), (.long x0), (.long x1), (.long x2)] below meth c s₁ [] 0 0 := Stand.of_body Bd
  have e0 : s₁.heap = h0 := by rw [← hh, Bd.state]; rfl
  have N0 := Fr.nil n0
  have Z0 : n0 ≤ h0.size := own_z0 X00
  have pre0 : ∀ t, Steps p.tables e below (s₁.setTop (mkF m 0 #[.val (.int sz), .val (.long x0), .second, .val (.long x1), .second, .val (.long x2), .second, .unset, .unset, .unset, .unset] [])) t → Steps p.tables e below (s₁.setTop (entryFrame m #[(.int sz), (.long x0), (.long x1), (.long x2)] maxLocals)) t := fun t k => castTop (ef_rm0_0 m sz x0 x1 x2) k
  obtain ⟨T1, h1, kA1, X1, e1, E1, A1, st1⟩ := newP X0 hx hZ (hw _ (List.mem_of_getElem? (i := 0) rfl)) e0 (g := (mkF m 7 #[.val (.int sz), .val (.long x0), .second, .val (.long x1), .second, .val (.long x2), .second, .val (.int (0 : Int32)), .unset, .unset, .unset] [(.int (0 : Int32))])) rfl (hb hby at_7) rfl (by decide) (cap := 0) (by decide) (by decide) (by decide) (by decide)
  obtain ⟨b1, gb1⟩ : ∃ z, z = h0.size := ⟨_, rfl⟩
  rw [← gb1] at A1 st1
  have g_b1 : n0 ≤ b1 := Nat.le_trans (own_z0 X00) (Nat.le_of_eq gb1.symm)
  have sz_b1 : h0.size ≤ b1 := Nat.le_trans (Nat.le_refl _) (Nat.le_of_eq gb1.symm)
  have X00__1 := X00.ext E1
  have K0_1 : Keep h0 h1 [] := (Keep.refl h0 []).ext E1
  have V_b1 : Arv Z h1 b1 kA1 .double (0 : Int32) [] (.double (FP.l2d 0)) := (Arv.newD A1 (by decide)).pad (pad_rep [] (.double (FP.l2d 0)) 0)
  obtain ⟨T2, h2, kA2, X2, e2, E2, A2, st2⟩ := newP X1 hx hZ (hw _ (List.mem_of_getElem? (i := 0) rfl)) e1 (g := (mkF m 13 #[.val (.int sz), .val (.long x0), .second, .val (.long x1), .second, .val (.long x2), .second, .val (.int (0 : Int32)), .val (.ref b1), .unset, .unset] [(.int (0 : Int32))])) rfl (hb hby at_13) rfl (by decide) (cap := 0) (by decide) (by decide) (by decide) (by decide)
  obtain ⟨b2, gb2⟩ : ∃ z, z = h1.size := ⟨_, rfl⟩
  rw [← gb2] at A2 st2
  have ne_b1_b2 : b1 ≠ b2 := Nat.ne_of_lt (Nat.lt_of_lt_of_le V_b1.lt (Nat.le_of_eq gb2.symm))
  have g_b2 : n0 ≤ b2 := Nat.le_trans (own_z0 X00__1) (Nat.le_of_eq gb2.symm)
  have sz_b2 : h0.size ≤ b2 := Nat.le_trans K0_1.1 (Nat.le_of_eq gb2.symm)
  have V_b1__2 := V_b1.ext E2
  have X00__2 := X00__1.ext E2
  have K0_2 : Keep h0 h2 [] := K0_1.ext E2
  have V_b2 : Arv Z h2 b2 kA2 .double (0 : Int32) [] (.double (FP.l2d 0)) := (Arv.newD A2 (by decide)).pad (pad_rep [] (.double (FP.l2d 0)) 0)
  obtain ⟨_, _, ⟨T3, L3, k3, n3⟩, -, X3, ⟨Lc3, hQ3, l3, y3, z3⟩, st3⟩ := Jvm.LawKit.callS X2 hx (y := (⟨"com/example/huron/huron/testing/TimedTurns", "ratios", "([D[D)[D"⟩ : MethodName)) hown (mvT hZ (hw _ (List.mem_of_getElem? (i := 1) rfl))) (mvT hZ (hw _ (List.mem_of_getElem? (i := 2) rfl))) (mvT hZ (hw _ (List.mem_of_getElem? (i := 3) rfl))) (mvT hZ (hw _ (List.mem_of_getElem? (i := 4) rfl))) (by decide) (backOf (W := 0) (rmR0 l Z a0 hw [] b1 b2 kA1 kA2 h2 n0 X00__2 V_b1__2 V_b2) hZ (hw _ (List.mem_of_getElem? (i := 4) rfl)) (hw _ (List.mem_of_getElem? (i := 3) rfl)) (by decide) (by decide)) (g := (mkF m 116 #[.val (.int sz), .val (.long x0), .second, .val (.long x1), .second, .val (.long x2), .second, .val (.int (0 : Int32)), .val (.ref b1), .val (.ref b2), .unset] [(.ref b2), (.ref b1)])) rfl (by rw [hml]; rfl) (argsL := [(.ref b1), (.ref b2)]) (rest := []) (lenOf pd___D_D__D rfl) rfl (by show 2 * 0 + _ ≤ _; exact Nat.le_of_eq rfl) (hb hby at_116) (fun _ _ => ⟨rfl, e2, (by decide : 2 + 1 ≤ _), (by decide : 0 + 0 ≤ _)⟩)
  dsimp only [Pt.U, Pt.locs, Pt.cells, Pt.slots] at X3 l3 y3 z3 st3 hQ3
  subst l3 y3 z3
  obtain ⟨nb_3, nk_3, rfl, N3q, K3, hsz_nb_3, Q3_0⟩ := hQ3
  have ne_b1_nb_3 : b1 ≠ nb_3 := Nat.ne_of_lt (Nat.lt_of_lt_of_le V_b1__2.lt hsz_nb_3)
  have ne_b2_nb_3 : b2 ≠ nb_3 := Nat.ne_of_lt (Nat.lt_of_lt_of_le V_b2.lt hsz_nb_3)
  have g_nb_3 : n0 ≤ nb_3 := Nat.le_trans (own_z0 X00__2) hsz_nb_3
  have sz_nb_3 : h0.size ≤ nb_3 := Nat.le_trans K0_2.1 hsz_nb_3
  have V_b1__3 := V_b1__2.keep K3 nin0
  have V_b2__3 := V_b2.keep K3 nin0
  have X00__3 := X00__2.keep K3 all0
  have K0_3 : Keep h0 T3.heap [] := K0_2.trans K3 all0
  have N3 := Fr.app N0 N3q
  obtain ⟨cl4, Ar4, -, S4, NN4, -, -⟩ := id Q3_0
  obtain ⟨fs, hr, hrun, hended, hW, hsame⟩ := X3.leave (v := some (.int (1 : Int32))) (fun h => by rw [Bd.returns] at h; cases h)
  refine ⟨_, _, pre0 _ ?_, hrun, hended, _, _, rfl, ?_, ⟨_, rfl⟩, hW, hsame.mono (by decide) (by decide)⟩
  · show Steps p.tables e below (s₁.setTop (mkF m 0 #[.val (.int sz), .val (.long x0), .second, .val (.long x1), .second, .val (.long x2), .second, .unset, .unset, .unset, .unset] [])) _
    refine XS.iloadN X0.here hx rfl (hb hby at_0) rfl ?_
    show Steps p.tables e below (s₁.setTop (mkF m 1 #[.val (.int sz), .val (.long x0), .second, .val (.long x1), .second, .val (.long x2), .second, .unset, .unset, .unset, .unset] [(.int sz)])) _
    refine XS.iconst X0.here hx rfl (hb hby at_1) ?_
    show Steps p.tables e below (s₁.setTop (mkF m 2 #[.val (.int sz), .val (.long x0), .second, .val (.long x1), .second, .val (.long x2), .second, .unset, .unset, .unset, .unset] [(.int (3 : Int32)), (.int sz)])) _
    refine XS.iand X0.here hx rfl (hb hby at_2) rfl ?_
    show Steps p.tables e below (s₁.setTop (mkF m 3 #[.val (.int sz), .val (.long x0), .second, .val (.long x1), .second, .val (.long x2), .second, .unset, .unset, .unset, .unset] [(.int (sz &&& (3 : Int32)))])) _
    rw [hsz]
    refine XS.istore X0.here hx rfl (hb hby at_3) rfl (l' := #[.val (.int sz), .val (.long x0), .second, .val (.long x1), .second, .val (.long x2), .second, .val (.int (0 : Int32)), .unset, .unset, .unset]) rfl ?_
    show Steps p.tables e below (s₁.setTop (mkF m 5 #[.val (.int sz), .val (.long x0), .second, .val (.long x1), .second, .val (.long x2), .second, .val (.int (0 : Int32)), .unset, .unset, .unset] [])) _
    refine XS.iload X0.here hx rfl (hb hby at_5) rfl ?_
    show Steps p.tables e below (s₁.setTop (mkF m 7 #[.val (.int sz), .val (.long x0), .second, .val (.long x1), .second, .val (.long x2), .second, .val (.int (0 : Int32)), .unset, .unset, .unset] [(.int (0 : Int32))])) _
    refine st1 _ ?_
    show Steps p.tables e below (T1.setTop (mkF m 9 #[.val (.int sz), .val (.long x0), .second, .val (.long x1), .second, .val (.long x2), .second, .val (.int (0 : Int32)), .unset, .unset, .unset] [(.ref b1)])) _
    refine XS.astore X1.here hx rfl (hb hby at_9) rfl rfl (l' := #[.val (.int sz), .val (.long x0), .second, .val (.long x1), .second, .val (.long x2), .second, .val (.int (0 : Int32)), .val (.ref b1), .unset, .unset]) rfl ?_
    show Steps p.tables e below (T1.setTop (mkF m 11 #[.val (.int sz), .val (.long x0), .second, .val (.long x1), .second, .val (.long x2), .second, .val (.int (0 : Int32)), .val (.ref b1), .unset, .unset] [])) _
    refine XS.iload X1.here hx rfl (hb hby at_11) rfl ?_
    show Steps p.tables e below (T1.setTop (mkF m 13 #[.val (.int sz), .val (.long x0), .second, .val (.long x1), .second, .val (.long x2), .second, .val (.int (0 : Int32)), .val (.ref b1), .unset, .unset] [(.int (0 : Int32))])) _
    refine st2 _ ?_
    show Steps p.tables e below (T2.setTop (mkF m 15 #[.val (.int sz), .val (.long x0), .second, .val (.long x1), .second, .val (.long x2), .second, .val (.int (0 : Int32)), .val (.ref b1), .unset, .unset] [(.ref b2)])) _
    refine XS.astore X2.here hx rfl (hb hby at_15) rfl rfl (l' := #[.val (.int sz), .val (.long x0), .second, .val (.long x1), .second, .val (.long x2), .second, .val (.int (0 : Int32)), .val (.ref b1), .val (.ref b2), .unset]) rfl ?_
    show Steps p.tables e below (T2.setTop (mkF m 17 #[.val (.int sz), .val (.long x0), .second, .val (.long x1), .second, .val (.long x2), .second, .val (.int (0 : Int32)), .val (.ref b1), .val (.ref b2), .unset] [])) _
    refine XS.iload X2.here hx rfl (hb hby at_17) rfl ?_
    show Steps p.tables e below (T2.setTop (mkF m 19 #[.val (.int sz), .val (.long x0), .second, .val (.long x1), .second, .val (.long x2), .second, .val (.int (0 : Int32)), .val (.ref b1), .val (.ref b2), .unset] [(.int (0 : Int32))])) _
    refine XS.ifYes X2.here hx rfl (pc0 := 19) (pc' := 47) rfl (hb hby at_19) rfl ((if0 _ _).trans (flt (by decide : ¬ ((0 : Int32) < (0 : Int32)))).2.2.2) (by decide) (by decide) ?_
    show Steps p.tables e below (T2.setTop (mkF m 47 #[.val (.int sz), .val (.long x0), .second, .val (.long x1), .second, .val (.long x2), .second, .val (.int (0 : Int32)), .val (.ref b1), .val (.ref b2), .unset] [])) _
    refine XS.iload X2.here hx rfl (hb hby at_47) rfl ?_
    show Steps p.tables e below (T2.setTop (mkF m 49 #[.val (.int sz), .val (.long x0), .second, .val (.long x1), .second, .val (.long x2), .second, .val (.int (0 : Int32)), .val (.ref b1), .val (.ref b2), .unset] [(.int (0 : Int32))])) _
    refine XS.iconst X2.here hx rfl (hb hby at_49) ?_
    show Steps p.tables e below (T2.setTop (mkF m 50 #[.val (.int sz), .val (.long x0), .second, .val (.long x1), .second, .val (.long x2), .second, .val (.int (0 : Int32)), .val (.ref b1), .val (.ref b2), .unset] [(.int (1 : Int32)), (.int (0 : Int32))])) _
    refine XS.icmpYes X2.here hx rfl (pc0 := 50) (pc' := 78) rfl (hb hby at_50) rfl (flt (by decide : ¬ ((1 : Int32) < (0 : Int32)))).2.2.2 (by decide) (by decide) ?_
    show Steps p.tables e below (T2.setTop (mkF m 78 #[.val (.int sz), .val (.long x0), .second, .val (.long x1), .second, .val (.long x2), .second, .val (.int (0 : Int32)), .val (.ref b1), .val (.ref b2), .unset] [])) _
    refine XS.iload X2.here hx rfl (hb hby at_78) rfl ?_
    show Steps p.tables e below (T2.setTop (mkF m 80 #[.val (.int sz), .val (.long x0), .second, .val (.long x1), .second, .val (.long x2), .second, .val (.int (0 : Int32)), .val (.ref b1), .val (.ref b2), .unset] [(.int (0 : Int32))])) _
    refine XS.iconst X2.here hx rfl (hb hby at_80) ?_
    show Steps p.tables e below (T2.setTop (mkF m 81 #[.val (.int sz), .val (.long x0), .second, .val (.long x1), .second, .val (.long x2), .second, .val (.int (0 : Int32)), .val (.ref b1), .val (.ref b2), .unset] [(.int (2 : Int32)), (.int (0 : Int32))])) _
    refine XS.icmpYes X2.here hx rfl (pc0 := 81) (pc' := 112) rfl (hb hby at_81) rfl (flt (by decide : ¬ ((2 : Int32) < (0 : Int32)))).2.2.2 (by decide) (by decide) ?_
    show Steps p.tables e below (T2.setTop (mkF m 112 #[.val (.int sz), .val (.long x0), .second, .val (.long x1), .second, .val (.long x2), .second, .val (.int (0 : Int32)), .val (.ref b1), .val (.ref b2), .unset] [])) _
    refine XS.aload X2.here hx rfl (hb hby at_112) rfl rfl ?_
    show Steps p.tables e below (T2.setTop (mkF m 114 #[.val (.int sz), .val (.long x0), .second, .val (.long x1), .second, .val (.long x2), .second, .val (.int (0 : Int32)), .val (.ref b1), .val (.ref b2), .unset] [(.ref b1)])) _
    refine XS.aload X2.here hx rfl (hb hby at_114) rfl rfl ?_
    show Steps p.tables e below (T2.setTop (mkF m 116 #[.val (.int sz), .val (.long x0), .second, .val (.long x1), .second, .val (.long x2), .second, .val (.int (0 : Int32)), .val (.ref b1), .val (.ref b2), .unset] [(.ref b2), (.ref b1)])) _
    refine st3 _ ?_
    show Steps p.tables e below (T3.setTop (mkF m 119 #[.val (.int sz), .val (.long x0), .second, .val (.long x1), .second, .val (.long x2), .second, .val (.int (0 : Int32)), .val (.ref b1), .val (.ref b2), .unset] [(.ref nb_3)])) _
    refine XS.astore X3.here hx rfl (hb hby at_119) rfl rfl (l' := #[.val (.int sz), .val (.long x0), .second, .val (.long x1), .second, .val (.long x2), .second, .val (.int (0 : Int32)), .val (.ref b1), .val (.ref b2), .val (.ref nb_3)]) rfl ?_
    show Steps p.tables e below (T3.setTop (mkF m 121 #[.val (.int sz), .val (.long x0), .second, .val (.long x1), .second, .val (.long x2), .second, .val (.int (0 : Int32)), .val (.ref b1), .val (.ref b2), .val (.ref nb_3)] [])) _
    refine XS.aload X3.here hx rfl (hb hby at_121) rfl rfl ?_
    show Steps p.tables e below (T3.setTop (mkF m 123 #[.val (.int sz), .val (.long x0), .second, .val (.long x1), .second, .val (.long x2), .second, .val (.int (0 : Int32)), .val (.ref b1), .val (.ref b2), .val (.ref nb_3)] [(.ref nb_3)])) _
    refine X3.arraylength hx Ar4.1 (State.isArrayOf_alike hZ.alike Ar4.2.1) (g := (mkF m 123 #[.val (.int sz), .val (.long x0), .second, .val (.long x1), .second, .val (.long x2), .second, .val (.int (0 : Int32)), .val (.ref b1), .val (.ref b2), .val (.ref nb_3)] [(.ref nb_3)])) rfl rfl (hb hby at_123) _ ?_
    rw [len_of S4 NN4]
    show Steps p.tables e below (T3.setTop (mkF m 124 #[.val (.int sz), .val (.long x0), .second, .val (.long x1), .second, .val (.long x2), .second, .val (.int (0 : Int32)), .val (.ref b1), .val (.ref b2), .val (.ref nb_3)] [(.int (0 : Int32))])) _
    refine XS.iload X3.here hx rfl (hb hby at_124) rfl ?_
    show Steps p.tables e below (T3.setTop (mkF m 126 #[.val (.int sz), .val (.long x0), .second, .val (.long x1), .second, .val (.long x2), .second, .val (.int (0 : Int32)), .val (.ref b1), .val (.ref b2), .val (.ref nb_3)] [(.int (0 : Int32)), (.int (0 : Int32))])) _
    refine XS.icmpYes X3.here hx rfl (pc0 := 126) (pc' := 131) rfl (hb hby at_126) rfl (teq (rfl : (0 : Int32) = (0 : Int32))).1 (by decide) (by decide) ?_
    show Steps p.tables e below (T3.setTop (mkF m 131 #[.val (.int sz), .val (.long x0), .second, .val (.long x1), .second, .val (.long x2), .second, .val (.int (0 : Int32)), .val (.ref b1), .val (.ref b2), .val (.ref nb_3)] [])) _
    refine XS.iload X3.here hx rfl (hb hby at_131) rfl ?_
    show Steps p.tables e below (T3.setTop (mkF m 133 #[.val (.int sz), .val (.long x0), .second, .val (.long x1), .second, .val (.long x2), .second, .val (.int (0 : Int32)), .val (.ref b1), .val (.ref b2), .val (.ref nb_3)] [(.int (0 : Int32))])) _
    refine XS.ifYes X3.here hx rfl (pc0 := 133) (pc' := 151) rfl (hb hby at_133) rfl ((if0 _ _).trans (flt (by decide : ¬ ((0 : Int32) < (0 : Int32)))).2.2.2) (by decide) (by decide) ?_
    show Steps p.tables e below (T3.setTop (mkF m 151 #[.val (.int sz), .val (.long x0), .second, .val (.long x1), .second, .val (.long x2), .second, .val (.int (0 : Int32)), .val (.ref b1), .val (.ref b2), .val (.ref nb_3)] [])) _
    refine XS.iload X3.here hx rfl (hb hby at_151) rfl ?_
    show Steps p.tables e below (T3.setTop (mkF m 153 #[.val (.int sz), .val (.long x0), .second, .val (.long x1), .second, .val (.long x2), .second, .val (.int (0 : Int32)), .val (.ref b1), .val (.ref b2), .val (.ref nb_3)] [(.int (0 : Int32))])) _
    refine XS.iconst X3.here hx rfl (hb hby at_153) ?_
    show Steps p.tables e below (T3.setTop (mkF m 154 #[.val (.int sz), .val (.long x0), .second, .val (.long x1), .second, .val (.long x2), .second, .val (.int (0 : Int32)), .val (.ref b1), .val (.ref b2), .val (.ref nb_3)] [(.int (1 : Int32)), (.int (0 : Int32))])) _
    refine XS.icmpYes X3.here hx rfl (pc0 := 154) (pc' := 172) rfl (hb hby at_154) rfl (flt (by decide : ¬ ((1 : Int32) < (0 : Int32)))).2.2.2 (by decide) (by decide) ?_
    show Steps p.tables e below (T3.setTop (mkF m 172 #[.val (.int sz), .val (.long x0), .second, .val (.long x1), .second, .val (.long x2), .second, .val (.int (0 : Int32)), .val (.ref b1), .val (.ref b2), .val (.ref nb_3)] [])) _
    refine XS.iload X3.here hx rfl (hb hby at_172) rfl ?_
    show Steps p.tables e below (T3.setTop (mkF m 174 #[.val (.int sz), .val (.long x0), .second, .val (.long x1), .second, .val (.long x2), .second, .val (.int (0 : Int32)), .val (.ref b1), .val (.ref b2), .val (.ref nb_3)] [(.int (0 : Int32))])) _
    refine XS.iconst X3.here hx rfl (hb hby at_174) ?_
    show Steps p.tables e below (T3.setTop (mkF m 175 #[.val (.int sz), .val (.long x0), .second, .val (.long x1), .second, .val (.long x2), .second, .val (.int (0 : Int32)), .val (.ref b1), .val (.ref b2), .val (.ref nb_3)] [(.int (2 : Int32)), (.int (0 : Int32))])) _
    refine XS.icmpYes X3.here hx rfl (pc0 := 175) (pc' := 194) rfl (hb hby at_175) rfl (flt (by decide : ¬ ((2 : Int32) < (0 : Int32)))).2.2.2 (by decide) (by decide) ?_
    show Steps p.tables e below (T3.setTop (mkF m 194 #[.val (.int sz), .val (.long x0), .second, .val (.long x1), .second, .val (.long x2), .second, .val (.int (0 : Int32)), .val (.ref b1), .val (.ref b2), .val (.ref nb_3)] [])) _
    refine XS.iconst X3.here hx rfl (hb hby at_194) ?_
    show Steps p.tables e below (T3.setTop (mkF m 195 #[.val (.int sz), .val (.long x0), .second, .val (.long x1), .second, .val (.long x2), .second, .val (.int (0 : Int32)), .val (.ref b1), .val (.ref b2), .val (.ref nb_3)] [(.int (1 : Int32))])) _
    exact retN X3 hx (t := .boolean) Bd.returns (by simp) (hb hby at_195) hr
  · show Q_rm0_0 Z sz x0 x1 x2 nu0 de0 nu1 de1 nu2 de2 h0 n0 _ T3.heap _
    exact ⟨rfl, N3⟩
theorem pd__J_I : parseMethodDescriptor "(J)I" = some ⟨[.long], some .int⟩ := by decide +kernel
def Q_rm0_1 (Z : State) (sz : Int32) (x0 : Int64) (x1 : Int64) (x2 : Int64) (nu0 : Int32) (de0 : Int32) (nu1 : Int32) (de1 : Int32) (nu2 : Int32) (de2 : Int32) (h0 : Heap) (n0 : Nat) (v : Option Value) (h : Heap) (L : List Loc) : Prop := v = some (.int (1 : Int32)) ∧ Fr n0 L
theorem ef_rm0_1 (m : MethodId) (sz : Int32) (x0 : Int64) (x1 : Int64) (x2 : Int64) : entryFrame m #[(.int sz), (.long x0), (.long x1), (.long x2)] maxLocals = mkF m 0 #[.val (.int sz), .val (.long x0), .second, .val (.long x1), .second, .val (.long x2), .second, .unset, .unset, .unset, .unset] [] := by first | (simp [entryFrame, mkF, argsToLocals, Value.category, maxLocals]; done) | rfl
set_option maxRecDepth 65536 in
set_option maxHeartbeats 40000000 in
theorem rm0_1 (l : Launch) (Z : State) (a0 : Array Value) (hw : ∀ d ∈ tables_1, d.before a0 Z = true) (ws : List Jvm.Cond) (sz : Int32) (x0 : Int64) (x1 : Int64) (x2 : Int64) (nu0 : Int32) (de0 : Int32) (nu1 : Int32) (de1 : Int32) (nu2 : Int32) (de2 : Int32) (h0 : Heap) (n0 : Nat) (X00 : Old Z n0 h0) (hsz : (sz &&& (3 : Int32)) = (1 : Int32)) (PN0 : ∀ h, n0 ≤ h.size → OwnPure l Z h n0 (⟨"com/example/huron/huron/testing/TimedTurnsRatiosPinLaw", "num", "(J)I"⟩ : MethodName) method_2_code 2 (some .int) ({ frames := 0, cells := 0, slots := 0, locals := 0 } : Room) #[.long x0] (.int nu0)) (PD0 : ∀ h, n0 ≤ h.size → OwnPure l Z h n0 (⟨"com/example/huron/huron/testing/TimedTurnsRatiosPinLaw", "den", "(J)I"⟩ : MethodName) method_3_code 3 (some .int) ({ frames := 0, cells := 0, slots := 0, locals := 0 } : Room) #[.long x0] (.int de0)) (nn0 : Jvm.Free.Fl.NoNaN64 (FP.ddiv (FP.l2d (nu0.toInt64 * de0.toInt64)) (FP.i2d de0))) (cm0 : cmpValue (FP.dcmp (FP.ddiv (FP.l2d (nu0.toInt64 * de0.toInt64)) (FP.i2d de0)) (FP.i2d nu0)) .l = (0 : Int32)) :
    MetFree l x (head1 (Jvm.Cond.code x code maxLocals ret :: ws) room_1) (fun aa U => aa = #[(.int sz), (.long x0), (.long x1), (.long x2)] ∧ Z.Warmed39 U.vm ∧ U.heap = h0) (fun _ _ _ _ _ => True) (fun _ U o U' => ∃ v L, o = .returned v ∧ Q_rm0_1 Z sz x0 x1 x2 nu0 de0 nu1 de1 nu2 de2 h0 n0 v U'.heap L ∧ FrameEnd U o U' L room_1.cells room_1.slots) := by
  refine MetFree.of_bodySF (plainFor_of_name pn_com_example_huron_huron_testing_TimedTurnsRatiosPinLaw) hisR ?_
  intro p e s m args below meth c s₁ Bd hml0 hP hK
  obtain ⟨rfl, hZ, hh⟩ := hP
  have hx := Bd.exec
  have hby := Bd.bytes
  have hml : c.maxLocals = 11 := hml0
  have hown : s.vm.findClass "com/example/huron/huron/testing/TimedTurnsRatiosPinLaw" = some m.cls := findClass_of_methodNamed Bd.named
  have hnm := (name_of_methodNamed Bd.named Bd.method).1
  have X0 : Stand p l e room_1 s m #[(.int sz), (.long x0), (.long x1), (.long x2)] below meth c s₁ [] 0 0 := Stand.of_body Bd
  have e0 : s₁.heap = h0 := by rw [← hh, Bd.state]; rfl
  have N0 := Fr.nil n0
  have Z0 : n0 ≤ h0.size := own_z0 X00
  have pre0 : ∀ t, Steps p.tables e below (s₁.setTop (mkF m 0 #[.val (.int sz), .val (.long x0), .second, .val (.long x1), .second, .val (.long x2), .second, .unset, .unset, .unset, .unset] [])) t → Steps p.tables e below (s₁.setTop (entryFrame m #[(.int sz), (.long x0), (.long x1), (.long x2)] maxLocals)) t := fun t k => castTop (ef_rm0_1 m sz x0 x1 x2) k
  obtain ⟨T1, h1, kA1, X1, e1, E1, A1, st1⟩ := newP X0 hx hZ (hw _ (List.mem_of_getElem? (i := 0) rfl)) e0 (g := (mkF m 7 #[.val (.int sz), .val (.long x0), .second, .val (.long x1), .second, .val (.long x2), .second, .val (.int (1 : Int32)), .unset, .unset, .unset] [(.int (1 : Int32))])) rfl (hb hby at_7) rfl (by decide) (cap := 1) (by decide) (by decide) (by decide) (by decide)
  obtain ⟨b1, gb1⟩ : ∃ z, z = h0.size := ⟨_, rfl⟩
  rw [← gb1] at A1 st1
  have g_b1 : n0 ≤ b1 := Nat.le_trans (own_z0 X00) (Nat.le_of_eq gb1.symm)
  have sz_b1 : h0.size ≤ b1 := Nat.le_trans (Nat.le_refl _) (Nat.le_of_eq gb1.symm)
  have X00__1 := X00.ext E1
  have K0_1 : Keep h0 h1 [] := (Keep.refl h0 []).ext E1
  have V_b1 : Arv Z h1 b1 kA1 .double (1 : Int32) [(.double (FP.l2d 0))] (.double (FP.l2d 0)) := (Arv.newD A1 (by decide)).pad (pad_rep [] (.double (FP.l2d 0)) 1)
  obtain ⟨T2, h2, kA2, X2, e2, E2, A2, st2⟩ := newP X1 hx hZ (hw _ (List.mem_of_getElem? (i := 0) rfl)) e1 (g := (mkF m 13 #[.val (.int sz), .val (.long x0), .second, .val (.long x1), .second, .val (.long x2), .second, .val (.int (1 : Int32)), .val (.ref b1), .unset, .unset] [(.int (1 : Int32))])) rfl (hb hby at_13) rfl (by decide) (cap := 1) (by decide) (by decide) (by decide) (by decide)
  obtain ⟨b2, gb2⟩ : ∃ z, z = h1.size := ⟨_, rfl⟩
  rw [← gb2] at A2 st2
  have ne_b1_b2 : b1 ≠ b2 := Nat.ne_of_lt (Nat.lt_of_lt_of_le V_b1.lt (Nat.le_of_eq gb2.symm))
  have g_b2 : n0 ≤ b2 := Nat.le_trans (own_z0 X00__1) (Nat.le_of_eq gb2.symm)
  have sz_b2 : h0.size ≤ b2 := Nat.le_trans K0_1.1 (Nat.le_of_eq gb2.symm)
  have V_b1__2 := V_b1.ext E2
  have X00__2 := X00__1.ext E2
  have K0_2 : Keep h0 h2 [] := K0_1.ext E2
  have V_b2 : Arv Z h2 b2 kA2 .double (1 : Int32) [(.double (FP.l2d 0))] (.double (FP.l2d 0)) := (Arv.newD A2 (by decide)).pad (pad_rep [] (.double (FP.l2d 0)) 1)
  obtain ⟨_, _, ⟨T3, L3, k3, n3⟩, -, X3, ⟨Lc3, hQ3, l3, y3, z3⟩, st3⟩ := Jvm.LawKit.callS X2 hx (y := (⟨"com/example/huron/huron/testing/TimedTurnsRatiosPinLaw", "num", "(J)I"⟩ : MethodName)) hown (mvT hZ (hw _ (List.mem_of_getElem? (i := 5) rfl))) (mvT hZ (hw _ (List.mem_of_getElem? (i := 6) rfl))) (mvT hZ (hw _ (List.mem_of_getElem? (i := 7) rfl))) (mvT hZ (hw _ (List.mem_of_getElem? (i := 8) rfl))) (by decide) (backOf (W := 2) (PN0 h2 (own_z0 X00__2) []) hZ (hw _ (List.mem_of_getElem? (i := 8) rfl)) (hw _ (List.mem_of_getElem? (i := 7) rfl)) (by decide) (by decide)) (g := (mkF m 26 #[.val (.int sz), .val (.long x0), .second, .val (.long x1), .second, .val (.long x2), .second, .val (.int (1 : Int32)), .val (.ref b1), .val (.ref b2), .unset] [(.long x0), (.int (0 : Int32)), (.ref b1)])) rfl (by rw [hml]; rfl) (argsL := [(.long x0)]) (rest := [(.int (0 : Int32)), (.ref b1)]) (lenOf pd__J_I rfl) rfl (by show 2 * 0 + _ ≤ _; exact Nat.le_of_eq rfl) (hb hby at_26) (fun _ _ => ⟨rfl, e2, (by decide : 2 + 0 ≤ _), (by decide : 2 + 0 ≤ _)⟩)
  dsimp only [Pt.U, Pt.locs, Pt.cells, Pt.slots] at X3 l3 y3 z3 st3 hQ3
  subst l3 y3 z3
  obtain ⟨rfl, N3q, e3⟩ := hQ3
  have N3 := Fr.app N0 N3q
  obtain ⟨_, _, ⟨T4, L4, k4, n4⟩, -, X4, ⟨Lc4, hQ4, l4, y4, z4⟩, st4⟩ := Jvm.LawKit.callS X3 hx (y := (⟨"com/example/huron/huron/testing/TimedTurnsRatiosPinLaw", "den", "(J)I"⟩ : MethodName)) hown (mvT hZ (hw _ (List.mem_of_getElem? (i := 9) rfl))) (mvT hZ (hw _ (List.mem_of_getElem? (i := 10) rfl))) (mvT hZ (hw _ (List.mem_of_getElem? (i := 7) rfl))) (mvT hZ (hw _ (List.mem_of_getElem? (i := 11) rfl))) (by decide) (backOf (W := 4) (PD0 h2 (own_z0 X00__2) []) hZ (hw _ (List.mem_of_getElem? (i := 11) rfl)) (hw _ (List.mem_of_getElem? (i := 7) rfl)) (by decide) (by decide)) (g := (mkF m 31 #[.val (.int sz), .val (.long x0), .second, .val (.long x1), .second, .val (.long x2), .second, .val (.int (1 : Int32)), .val (.ref b1), .val (.ref b2), .unset] [(.long x0), (.long (nu0.toInt64)), (.int (0 : Int32)), (.ref b1)])) rfl (by rw [hml]; rfl) (argsL := [(.long x0)]) (rest := [(.long (nu0.toInt64)), (.int (0 : Int32)), (.ref b1)]) (lenOf pd__J_I rfl) rfl (by show 2 * 0 + _ ≤ _; exact Nat.le_of_eq rfl) (hb hby at_31) (fun _ _ => ⟨rfl, e3, (by decide : 2 + 0 ≤ _), (by decide : 2 + 0 ≤ _)⟩)
  dsimp only [Pt.U, Pt.locs, Pt.cells, Pt.slots] at X4 l4 y4 z4 st4 hQ4
  subst l4 y4 z4
  obtain ⟨rfl, N4q, e4⟩ := hQ4
  have N4 := Fr.app N3 N4q
  obtain ⟨cl5, Ar5, q5, S5, NN5, HH5, G5⟩ := id V_b1__2
  have hin5 : ¬ ((0 : Int32) < 0 ∨ cl5.slots.size ≤ ((0 : Int32)).toNatClampNeg) := inb_of S5 ⟨by decide, by decide⟩
  obtain ⟨T5, h5, X5, e5, W5, st5⟩ := stD X4 hx hZ e4 Ar5 (j := (0 : Int32)) hin5 (g := (mkF m 37 #[.val (.int sz), .val (.long x0), .second, .val (.long x1), .second, .val (.long x2), .second, .val (.int (1 : Int32)), .val (.ref b1), .val (.ref b2), .unset] [(.double (FP.l2d ((nu0.toInt64) * (de0.toInt64)))), (.int (0 : Int32)), (.ref b1)])) rfl rfl (hb hby at_37)
  have V_b2__5 := V_b2.other W5 (Ne.symm ne_b1_b2)
  have X00__5 := X00__2.wr W5 g_b1
  have K0_5 : Keep h0 h5 [] := K0_2.wr W5 (Or.inr sz_b1)
  have N5 := Fr.snoc X5 N4 g_b1
  have V_b1__5 : Arv Z h5 b1 kA1 .double (1 : Int32) [(.double (FP.l2d ((nu0.toInt64) * (de0.toInt64))))] (.double (FP.l2d 0)) := Arv.set Ar5 q5 S5 NN5 HH5 G5 rfl W5 0 rfl (Nat.le_of_ble_eq_true rfl)
  obtain ⟨_, _, ⟨T6, L6, k6, n6⟩, -, X6, ⟨Lc6, hQ6, l6, y6, z6⟩, st6⟩ := Jvm.LawKit.callS X5 hx (y := (⟨"com/example/huron/huron/testing/TimedTurnsRatiosPinLaw", "den", "(J)I"⟩ : MethodName)) hown (mvT hZ (hw _ (List.mem_of_getElem? (i := 9) rfl))) (mvT hZ (hw _ (List.mem_of_getElem? (i := 10) rfl))) (mvT hZ (hw _ (List.mem_of_getElem? (i := 7) rfl))) (mvT hZ (hw _ (List.mem_of_getElem? (i := 11) rfl))) (by decide) (backOf (W := 2) (PD0 h5 (own_z0 X00__5) []) hZ (hw _ (List.mem_of_getElem? (i := 11) rfl)) (hw _ (List.mem_of_getElem? (i := 7) rfl)) (by decide) (by decide)) (g := (mkF m 42 #[.val (.int sz), .val (.long x0), .second, .val (.long x1), .second, .val (.long x2), .second, .val (.int (1 : Int32)), .val (.ref b1), .val (.ref b2), .unset] [(.long x0), (.int (0 : Int32)), (.ref b2)])) rfl (by rw [hml]; rfl) (argsL := [(.long x0)]) (rest := [(.int (0 : Int32)), (.ref b2)]) (lenOf pd__J_I rfl) rfl (by show 2 * 0 + _ ≤ _; exact Nat.le_of_eq rfl) (hb hby at_42) (fun _ _ => ⟨rfl, e5, (by decide : 2 + 0 ≤ _), (by decide : 2 + 0 ≤ _)⟩)
  dsimp only [Pt.U, Pt.locs, Pt.cells, Pt.slots] at X6 l6 y6 z6 st6 hQ6
  subst l6 y6 z6
  obtain ⟨rfl, N6q, e6⟩ := hQ6
  have N6 := Fr.app N5 N6q
  obtain ⟨cl7, Ar7, q7, S7, NN7, HH7, G7⟩ := id V_b2__5
  have hin7 : ¬ ((0 : Int32) < 0 ∨ cl7.slots.size ≤ ((0 : Int32)).toNatClampNeg) := inb_of S7 ⟨by decide, by decide⟩
  obtain ⟨T7, h7, X7, e7, W7, st7⟩ := stD X6 hx hZ e6 Ar7 (j := (0 : Int32)) hin7 (g := (mkF m 46 #[.val (.int sz), .val (.long x0), .second, .val (.long x1), .second, .val (.long x2), .second, .val (.int (1 : Int32)), .val (.ref b1), .val (.ref b2), .unset] [(.double (FP.i2d de0)), (.int (0 : Int32)), (.ref b2)])) rfl rfl (hb hby at_46)
  have V_b1__7 := V_b1__5.other W7 ne_b1_b2
  have X00__7 := X00__5.wr W7 g_b2
  have K0_7 : Keep h0 h7 [] := K0_5.wr W7 (Or.inr sz_b2)
  have N7 := Fr.snoc X7 N6 g_b2
  have V_b2__7 : Arv Z h7 b2 kA2 .double (1 : Int32) [(.double (FP.i2d de0))] (.double (FP.l2d 0)) := Arv.set Ar7 q7 S7 NN7 HH7 G7 rfl W7 0 rfl (Nat.le_of_ble_eq_true rfl)
  obtain ⟨_, _, ⟨T8, L8, k8, n8⟩, -, X8, ⟨Lc8, hQ8, l8, y8, z8⟩, st8⟩ := Jvm.LawKit.callS X7 hx (y := (⟨"com/example/huron/huron/testing/TimedTurns", "ratios", "([D[D)[D"⟩ : MethodName)) hown (mvT hZ (hw _ (List.mem_of_getElem? (i := 1) rfl))) (mvT hZ (hw _ (List.mem_of_getElem? (i := 2) rfl))) (mvT hZ (hw _ (List.mem_of_getElem? (i := 3) rfl))) (mvT hZ (hw _ (List.mem_of_getElem? (i := 4) rfl))) (by decide) (backOf (W := 0) (rmR1 l Z a0 hw [] b1 b2 kA1 kA2 (FP.l2d ((nu0.toInt64) * (de0.toInt64))) (FP.i2d de0) h7 n0 X00__7 V_b1__7 V_b2__7 nn0) hZ (hw _ (List.mem_of_getElem? (i := 4) rfl)) (hw _ (List.mem_of_getElem? (i := 3) rfl)) (by decide) (by decide)) (g := (mkF m 116 #[.val (.int sz), .val (.long x0), .second, .val (.long x1), .second, .val (.long x2), .second, .val (.int (1 : Int32)), .val (.ref b1), .val (.ref b2), .unset] [(.ref b2), (.ref b1)])) rfl (by rw [hml]; rfl) (argsL := [(.ref b1), (.ref b2)]) (rest := []) (lenOf pd___D_D__D rfl) rfl (by show 2 * 0 + _ ≤ _; exact Nat.le_of_eq rfl) (hb hby at_116) (fun _ _ => ⟨rfl, e7, (by decide : 2 + 1 ≤ _), (by decide : 2 + 1 ≤ _)⟩)
  dsimp only [Pt.U, Pt.locs, Pt.cells, Pt.slots] at X8 l8 y8 z8 st8 hQ8
  subst l8 y8 z8
  obtain ⟨nb_8, nk_8, rfl, N8q, K8, hsz_nb_8, Q8_0⟩ := hQ8
  have ne_b1_nb_8 : b1 ≠ nb_8 := Nat.ne_of_lt (Nat.lt_of_lt_of_le V_b1__7.lt hsz_nb_8)
  have ne_b2_nb_8 : b2 ≠ nb_8 := Nat.ne_of_lt (Nat.lt_of_lt_of_le V_b2__7.lt hsz_nb_8)
  have g_nb_8 : n0 ≤ nb_8 := Nat.le_trans (own_z0 X00__7) hsz_nb_8
  have sz_nb_8 : h0.size ≤ nb_8 := Nat.le_trans K0_7.1 hsz_nb_8
  have V_b1__8 := V_b1__7.keep K8 nin0
  have V_b2__8 := V_b2__7.keep K8 nin0
  have X00__8 := X00__7.keep K8 all0
  have K0_8 : Keep h0 T8.heap [] := K0_7.trans K8 all0
  have N8 := Fr.app N7 N8q
  obtain ⟨cl9, Ar9, -, S9, NN9, -, -⟩ := id Q8_0
  obtain ⟨cl10, Ar10, -, S10, -, HH10, -⟩ := id Q8_0
  have hin10 : ¬ ((0 : Int32) < 0 ∨ cl10.slots.size ≤ ((0 : Int32)).toNatClampNeg) := inb_of S10 ⟨by decide, by decide⟩
  have hat10 : cl10.slots[((0 : Int32)).toNatClampNeg]? = some (.double (FP.ddiv (FP.l2d ((nu0.toInt64) * (de0.toInt64))) (FP.i2d de0))) := HH10 _ (Nat.lt_of_not_le fun q => hin10 (Or.inr q))
  obtain ⟨_, _, ⟨T11, L11, k11, n11⟩, -, X11, ⟨Lc11, hQ11, l11, y11, z11⟩, st11⟩ := Jvm.LawKit.callS X8 hx (y := (⟨"com/example/huron/huron/testing/TimedTurnsRatiosPinLaw", "num", "(J)I"⟩ : MethodName)) hown (mvT hZ (hw _ (List.mem_of_getElem? (i := 5) rfl))) (mvT hZ (hw _ (List.mem_of_getElem? (i := 6) rfl))) (mvT hZ (hw _ (List.mem_of_getElem? (i := 7) rfl))) (mvT hZ (hw _ (List.mem_of_getElem? (i := 8) rfl))) (by decide) (backOf (W := 2) (PN0 T8.heap (own_z0 X00__8) []) hZ (hw _ (List.mem_of_getElem? (i := 8) rfl)) (hw _ (List.mem_of_getElem? (i := 7) rfl)) (by decide) (by decide)) (g := (mkF m 141 #[.val (.int sz), .val (.long x0), .second, .val (.long x1), .second, .val (.long x2), .second, .val (.int (1 : Int32)), .val (.ref b1), .val (.ref b2), .val (.ref nb_8)] [(.long x0), (.double (FP.ddiv (FP.l2d ((nu0.toInt64) * (de0.toInt64))) (FP.i2d de0)))])) rfl (by rw [hml]; rfl) (argsL := [(.long x0)]) (rest := [(.double (FP.ddiv (FP.l2d ((nu0.toInt64) * (de0.toInt64))) (FP.i2d de0)))]) (lenOf pd__J_I rfl) rfl (by show 2 * 0 + _ ≤ _; exact Nat.le_of_eq rfl) (hb hby at_141) (fun _ _ => ⟨rfl, rfl, (by decide : 3 + 0 ≤ _), (by decide : 3 + 0 ≤ _)⟩)
  dsimp only [Pt.U, Pt.locs, Pt.cells, Pt.slots] at X11 l11 y11 z11 st11 hQ11
  subst l11 y11 z11
  obtain ⟨rfl, N11q, e11⟩ := hQ11
  have N11 := Fr.app N8 N11q
  obtain ⟨fs, hr, hrun, hended, hW, hsame⟩ := X11.leave (v := some (.int (1 : Int32))) (fun h => by rw [Bd.returns] at h; cases h)
  refine ⟨_, _, pre0 _ ?_, hrun, hended, _, _, rfl, ?_, ⟨_, rfl⟩, hW, hsame.mono (by decide) (by decide)⟩
  · show Steps p.tables e below (s₁.setTop (mkF m 0 #[.val (.int sz), .val (.long x0), .second, .val (.long x1), .second, .val (.long x2), .second, .unset, .unset, .unset, .unset] [])) _
    refine XS.iloadN X0.here hx rfl (hb hby at_0) rfl ?_
    show Steps p.tables e below (s₁.setTop (mkF m 1 #[.val (.int sz), .val (.long x0), .second, .val (.long x1), .second, .val (.long x2), .second, .unset, .unset, .unset, .unset] [(.int sz)])) _
    refine XS.iconst X0.here hx rfl (hb hby at_1) ?_
    show Steps p.tables e below (s₁.setTop (mkF m 2 #[.val (.int sz), .val (.long x0), .second, .val (.long x1), .second, .val (.long x2), .second, .unset, .unset, .unset, .unset] [(.int (3 : Int32)), (.int sz)])) _
    refine XS.iand X0.here hx rfl (hb hby at_2) rfl ?_
    show Steps p.tables e below (s₁.setTop (mkF m 3 #[.val (.int sz), .val (.long x0), .second, .val (.long x1), .second, .val (.long x2), .second, .unset, .unset, .unset, .unset] [(.int (sz &&& (3 : Int32)))])) _
    rw [hsz]
    refine XS.istore X0.here hx rfl (hb hby at_3) rfl (l' := #[.val (.int sz), .val (.long x0), .second, .val (.long x1), .second, .val (.long x2), .second, .val (.int (1 : Int32)), .unset, .unset, .unset]) rfl ?_
    show Steps p.tables e below (s₁.setTop (mkF m 5 #[.val (.int sz), .val (.long x0), .second, .val (.long x1), .second, .val (.long x2), .second, .val (.int (1 : Int32)), .unset, .unset, .unset] [])) _
    refine XS.iload X0.here hx rfl (hb hby at_5) rfl ?_
    show Steps p.tables e below (s₁.setTop (mkF m 7 #[.val (.int sz), .val (.long x0), .second, .val (.long x1), .second, .val (.long x2), .second, .val (.int (1 : Int32)), .unset, .unset, .unset] [(.int (1 : Int32))])) _
    refine st1 _ ?_
    show Steps p.tables e below (T1.setTop (mkF m 9 #[.val (.int sz), .val (.long x0), .second, .val (.long x1), .second, .val (.long x2), .second, .val (.int (1 : Int32)), .unset, .unset, .unset] [(.ref b1)])) _
    refine XS.astore X1.here hx rfl (hb hby at_9) rfl rfl (l' := #[.val (.int sz), .val (.long x0), .second, .val (.long x1), .second, .val (.long x2), .second, .val (.int (1 : Int32)), .val (.ref b1), .unset, .unset]) rfl ?_
    show Steps p.tables e below (T1.setTop (mkF m 11 #[.val (.int sz), .val (.long x0), .second, .val (.long x1), .second, .val (.long x2), .second, .val (.int (1 : Int32)), .val (.ref b1), .unset, .unset] [])) _
    refine XS.iload X1.here hx rfl (hb hby at_11) rfl ?_
    show Steps p.tables e below (T1.setTop (mkF m 13 #[.val (.int sz), .val (.long x0), .second, .val (.long x1), .second, .val (.long x2), .second, .val (.int (1 : Int32)), .val (.ref b1), .unset, .unset] [(.int (1 : Int32))])) _
    refine st2 _ ?_
    show Steps p.tables e below (T2.setTop (mkF m 15 #[.val (.int sz), .val (.long x0), .second, .val (.long x1), .second, .val (.long x2), .second, .val (.int (1 : Int32)), .val (.ref b1), .unset, .unset] [(.ref b2)])) _
    refine XS.astore X2.here hx rfl (hb hby at_15) rfl rfl (l' := #[.val (.int sz), .val (.long x0), .second, .val (.long x1), .second, .val (.long x2), .second, .val (.int (1 : Int32)), .val (.ref b1), .val (.ref b2), .unset]) rfl ?_
    show Steps p.tables e below (T2.setTop (mkF m 17 #[.val (.int sz), .val (.long x0), .second, .val (.long x1), .second, .val (.long x2), .second, .val (.int (1 : Int32)), .val (.ref b1), .val (.ref b2), .unset] [])) _
    refine XS.iload X2.here hx rfl (hb hby at_17) rfl ?_
    show Steps p.tables e below (T2.setTop (mkF m 19 #[.val (.int sz), .val (.long x0), .second, .val (.long x1), .second, .val (.long x2), .second, .val (.int (1 : Int32)), .val (.ref b1), .val (.ref b2), .unset] [(.int (1 : Int32))])) _
    refine XS.ifNo X2.here hx rfl (hb hby at_19) rfl ((if0 _ _).trans (tlt (by decide : (0 : Int32) < (1 : Int32))).2.2.2) ?_
    show Steps p.tables e below (T2.setTop (mkF m 22 #[.val (.int sz), .val (.long x0), .second, .val (.long x1), .second, .val (.long x2), .second, .val (.int (1 : Int32)), .val (.ref b1), .val (.ref b2), .unset] [])) _
    refine XS.aload X2.here hx rfl (hb hby at_22) rfl rfl ?_
    show Steps p.tables e below (T2.setTop (mkF m 24 #[.val (.int sz), .val (.long x0), .second, .val (.long x1), .second, .val (.long x2), .second, .val (.int (1 : Int32)), .val (.ref b1), .val (.ref b2), .unset] [(.ref b1)])) _
    refine XS.iconst X2.here hx rfl (hb hby at_24) ?_
    show Steps p.tables e below (T2.setTop (mkF m 25 #[.val (.int sz), .val (.long x0), .second, .val (.long x1), .second, .val (.long x2), .second, .val (.int (1 : Int32)), .val (.ref b1), .val (.ref b2), .unset] [(.int (0 : Int32)), (.ref b1)])) _
    refine XS.lloadN X2.here hx rfl (hb hby at_25) rfl ?_
    show Steps p.tables e below (T2.setTop (mkF m 26 #[.val (.int sz), .val (.long x0), .second, .val (.long x1), .second, .val (.long x2), .second, .val (.int (1 : Int32)), .val (.ref b1), .val (.ref b2), .unset] [(.long x0), (.int (0 : Int32)), (.ref b1)])) _
    refine st3 _ ?_
    show Steps p.tables e below (T3.setTop (mkF m 29 #[.val (.int sz), .val (.long x0), .second, .val (.long x1), .second, .val (.long x2), .second, .val (.int (1 : Int32)), .val (.ref b1), .val (.ref b2), .unset] [(.int nu0), (.int (0 : Int32)), (.ref b1)])) _
    refine XS.i2l X3.here hx rfl (hb hby at_29) rfl ?_
    show Steps p.tables e below (T3.setTop (mkF m 30 #[.val (.int sz), .val (.long x0), .second, .val (.long x1), .second, .val (.long x2), .second, .val (.int (1 : Int32)), .val (.ref b1), .val (.ref b2), .unset] [(.long (nu0.toInt64)), (.int (0 : Int32)), (.ref b1)])) _
    refine XS.lloadN X3.here hx rfl (hb hby at_30) rfl ?_
    show Steps p.tables e below (T3.setTop (mkF m 31 #[.val (.int sz), .val (.long x0), .second, .val (.long x1), .second, .val (.long x2), .second, .val (.int (1 : Int32)), .val (.ref b1), .val (.ref b2), .unset] [(.long x0), (.long (nu0.toInt64)), (.int (0 : Int32)), (.ref b1)])) _
    refine st4 _ ?_
    show Steps p.tables e below (T4.setTop (mkF m 34 #[.val (.int sz), .val (.long x0), .second, .val (.long x1), .second, .val (.long x2), .second, .val (.int (1 : Int32)), .val (.ref b1), .val (.ref b2), .unset] [(.int de0), (.long (nu0.toInt64)), (.int (0 : Int32)), (.ref b1)])) _
    refine XS.i2l X4.here hx rfl (hb hby at_34) rfl ?_
    show Steps p.tables e below (T4.setTop (mkF m 35 #[.val (.int sz), .val (.long x0), .second, .val (.long x1), .second, .val (.long x2), .second, .val (.int (1 : Int32)), .val (.ref b1), .val (.ref b2), .unset] [(.long (de0.toInt64)), (.long (nu0.toInt64)), (.int (0 : Int32)), (.ref b1)])) _
    refine XS.lmul X4.here hx rfl (hb hby at_35) rfl ?_
    show Steps p.tables e below (T4.setTop (mkF m 36 #[.val (.int sz), .val (.long x0), .second, .val (.long x1), .second, .val (.long x2), .second, .val (.int (1 : Int32)), .val (.ref b1), .val (.ref b2), .unset] [(.long ((nu0.toInt64) * (de0.toInt64))), (.int (0 : Int32)), (.ref b1)])) _
    refine Jvm.Free.XS.l2dS X4.here hx rfl (hb hby at_36) rfl rfl ?_
    show Steps p.tables e below (T4.setTop (mkF m 37 #[.val (.int sz), .val (.long x0), .second, .val (.long x1), .second, .val (.long x2), .second, .val (.int (1 : Int32)), .val (.ref b1), .val (.ref b2), .unset] [(.double (FP.l2d ((nu0.toInt64) * (de0.toInt64)))), (.int (0 : Int32)), (.ref b1)])) _
    refine st5 _ ?_
    show Steps p.tables e below (T5.setTop (mkF m 38 #[.val (.int sz), .val (.long x0), .second, .val (.long x1), .second, .val (.long x2), .second, .val (.int (1 : Int32)), .val (.ref b1), .val (.ref b2), .unset] [])) _
    refine XS.aload X5.here hx rfl (hb hby at_38) rfl rfl ?_
    show Steps p.tables e below (T5.setTop (mkF m 40 #[.val (.int sz), .val (.long x0), .second, .val (.long x1), .second, .val (.long x2), .second, .val (.int (1 : Int32)), .val (.ref b1), .val (.ref b2), .unset] [(.ref b2)])) _
    refine XS.iconst X5.here hx rfl (hb hby at_40) ?_
    show Steps p.tables e below (T5.setTop (mkF m 41 #[.val (.int sz), .val (.long x0), .second, .val (.long x1), .second, .val (.long x2), .second, .val (.int (1 : Int32)), .val (.ref b1), .val (.ref b2), .unset] [(.int (0 : Int32)), (.ref b2)])) _
    refine XS.lloadN X5.here hx rfl (hb hby at_41) rfl ?_
    show Steps p.tables e below (T5.setTop (mkF m 42 #[.val (.int sz), .val (.long x0), .second, .val (.long x1), .second, .val (.long x2), .second, .val (.int (1 : Int32)), .val (.ref b1), .val (.ref b2), .unset] [(.long x0), (.int (0 : Int32)), (.ref b2)])) _
    refine st6 _ ?_
    show Steps p.tables e below (T6.setTop (mkF m 45 #[.val (.int sz), .val (.long x0), .second, .val (.long x1), .second, .val (.long x2), .second, .val (.int (1 : Int32)), .val (.ref b1), .val (.ref b2), .unset] [(.int de0), (.int (0 : Int32)), (.ref b2)])) _
    refine Jvm.Free.XS.i2dS X6.here hx rfl (hb hby at_45) rfl rfl ?_
    show Steps p.tables e below (T6.setTop (mkF m 46 #[.val (.int sz), .val (.long x0), .second, .val (.long x1), .second, .val (.long x2), .second, .val (.int (1 : Int32)), .val (.ref b1), .val (.ref b2), .unset] [(.double (FP.i2d de0)), (.int (0 : Int32)), (.ref b2)])) _
    refine st7 _ ?_
    show Steps p.tables e below (T7.setTop (mkF m 47 #[.val (.int sz), .val (.long x0), .second, .val (.long x1), .second, .val (.long x2), .second, .val (.int (1 : Int32)), .val (.ref b1), .val (.ref b2), .unset] [])) _
    refine XS.iload X7.here hx rfl (hb hby at_47) rfl ?_
    show Steps p.tables e below (T7.setTop (mkF m 49 #[.val (.int sz), .val (.long x0), .second, .val (.long x1), .second, .val (.long x2), .second, .val (.int (1 : Int32)), .val (.ref b1), .val (.ref b2), .unset] [(.int (1 : Int32))])) _
    refine XS.iconst X7.here hx rfl (hb hby at_49) ?_
    show Steps p.tables e below (T7.setTop (mkF m 50 #[.val (.int sz), .val (.long x0), .second, .val (.long x1), .second, .val (.long x2), .second, .val (.int (1 : Int32)), .val (.ref b1), .val (.ref b2), .unset] [(.int (1 : Int32)), (.int (1 : Int32))])) _
    refine XS.icmpYes X7.here hx rfl (pc0 := 50) (pc' := 78) rfl (hb hby at_50) rfl (flt (by decide : ¬ ((1 : Int32) < (1 : Int32)))).2.2.2 (by decide) (by decide) ?_
    show Steps p.tables e below (T7.setTop (mkF m 78 #[.val (.int sz), .val (.long x0), .second, .val (.long x1), .second, .val (.long x2), .second, .val (.int (1 : Int32)), .val (.ref b1), .val (.ref b2), .unset] [])) _
    refine XS.iload X7.here hx rfl (hb hby at_78) rfl ?_
    show Steps p.tables e below (T7.setTop (mkF m 80 #[.val (.int sz), .val (.long x0), .second, .val (.long x1), .second, .val (.long x2), .second, .val (.int (1 : Int32)), .val (.ref b1), .val (.ref b2), .unset] [(.int (1 : Int32))])) _
    refine XS.iconst X7.here hx rfl (hb hby at_80) ?_
    show Steps p.tables e below (T7.setTop (mkF m 81 #[.val (.int sz), .val (.long x0), .second, .val (.long x1), .second, .val (.long x2), .second, .val (.int (1 : Int32)), .val (.ref b1), .val (.ref b2), .unset] [(.int (2 : Int32)), (.int (1 : Int32))])) _
    refine XS.icmpYes X7.here hx rfl (pc0 := 81) (pc' := 112) rfl (hb hby at_81) rfl (flt (by decide : ¬ ((2 : Int32) < (1 : Int32)))).2.2.2 (by decide) (by decide) ?_
    show Steps p.tables e below (T7.setTop (mkF m 112 #[.val (.int sz), .val (.long x0), .second, .val (.long x1), .second, .val (.long x2), .second, .val (.int (1 : Int32)), .val (.ref b1), .val (.ref b2), .unset] [])) _
    refine XS.aload X7.here hx rfl (hb hby at_112) rfl rfl ?_
    show Steps p.tables e below (T7.setTop (mkF m 114 #[.val (.int sz), .val (.long x0), .second, .val (.long x1), .second, .val (.long x2), .second, .val (.int (1 : Int32)), .val (.ref b1), .val (.ref b2), .unset] [(.ref b1)])) _
    refine XS.aload X7.here hx rfl (hb hby at_114) rfl rfl ?_
    show Steps p.tables e below (T7.setTop (mkF m 116 #[.val (.int sz), .val (.long x0), .second, .val (.long x1), .second, .val (.long x2), .second, .val (.int (1 : Int32)), .val (.ref b1), .val (.ref b2), .unset] [(.ref b2), (.ref b1)])) _
    refine st8 _ ?_
    show Steps p.tables e below (T8.setTop (mkF m 119 #[.val (.int sz), .val (.long x0), .second, .val (.long x1), .second, .val (.long x2), .second, .val (.int (1 : Int32)), .val (.ref b1), .val (.ref b2), .unset] [(.ref nb_8)])) _
    refine XS.astore X8.here hx rfl (hb hby at_119) rfl rfl (l' := #[.val (.int sz), .val (.long x0), .second, .val (.long x1), .second, .val (.long x2), .second, .val (.int (1 : Int32)), .val (.ref b1), .val (.ref b2), .val (.ref nb_8)]) rfl ?_
    show Steps p.tables e below (T8.setTop (mkF m 121 #[.val (.int sz), .val (.long x0), .second, .val (.long x1), .second, .val (.long x2), .second, .val (.int (1 : Int32)), .val (.ref b1), .val (.ref b2), .val (.ref nb_8)] [])) _
    refine XS.aload X8.here hx rfl (hb hby at_121) rfl rfl ?_
    show Steps p.tables e below (T8.setTop (mkF m 123 #[.val (.int sz), .val (.long x0), .second, .val (.long x1), .second, .val (.long x2), .second, .val (.int (1 : Int32)), .val (.ref b1), .val (.ref b2), .val (.ref nb_8)] [(.ref nb_8)])) _
    refine X8.arraylength hx Ar9.1 (State.isArrayOf_alike hZ.alike Ar9.2.1) (g := (mkF m 123 #[.val (.int sz), .val (.long x0), .second, .val (.long x1), .second, .val (.long x2), .second, .val (.int (1 : Int32)), .val (.ref b1), .val (.ref b2), .val (.ref nb_8)] [(.ref nb_8)])) rfl rfl (hb hby at_123) _ ?_
    rw [len_of S9 NN9]
    show Steps p.tables e below (T8.setTop (mkF m 124 #[.val (.int sz), .val (.long x0), .second, .val (.long x1), .second, .val (.long x2), .second, .val (.int (1 : Int32)), .val (.ref b1), .val (.ref b2), .val (.ref nb_8)] [(.int (1 : Int32))])) _
    refine XS.iload X8.here hx rfl (hb hby at_124) rfl ?_
    show Steps p.tables e below (T8.setTop (mkF m 126 #[.val (.int sz), .val (.long x0), .second, .val (.long x1), .second, .val (.long x2), .second, .val (.int (1 : Int32)), .val (.ref b1), .val (.ref b2), .val (.ref nb_8)] [(.int (1 : Int32)), (.int (1 : Int32))])) _
    refine XS.icmpYes X8.here hx rfl (pc0 := 126) (pc' := 131) rfl (hb hby at_126) rfl (teq (rfl : (1 : Int32) = (1 : Int32))).1 (by decide) (by decide) ?_
    show Steps p.tables e below (T8.setTop (mkF m 131 #[.val (.int sz), .val (.long x0), .second, .val (.long x1), .second, .val (.long x2), .second, .val (.int (1 : Int32)), .val (.ref b1), .val (.ref b2), .val (.ref nb_8)] [])) _
    refine XS.iload X8.here hx rfl (hb hby at_131) rfl ?_
    show Steps p.tables e below (T8.setTop (mkF m 133 #[.val (.int sz), .val (.long x0), .second, .val (.long x1), .second, .val (.long x2), .second, .val (.int (1 : Int32)), .val (.ref b1), .val (.ref b2), .val (.ref nb_8)] [(.int (1 : Int32))])) _
    refine XS.ifNo X8.here hx rfl (hb hby at_133) rfl ((if0 _ _).trans (tlt (by decide : (0 : Int32) < (1 : Int32))).2.2.2) ?_
    show Steps p.tables e below (T8.setTop (mkF m 136 #[.val (.int sz), .val (.long x0), .second, .val (.long x1), .second, .val (.long x2), .second, .val (.int (1 : Int32)), .val (.ref b1), .val (.ref b2), .val (.ref nb_8)] [])) _
    refine XS.aload X8.here hx rfl (hb hby at_136) rfl rfl ?_
    show Steps p.tables e below (T8.setTop (mkF m 138 #[.val (.int sz), .val (.long x0), .second, .val (.long x1), .second, .val (.long x2), .second, .val (.int (1 : Int32)), .val (.ref b1), .val (.ref b2), .val (.ref nb_8)] [(.ref nb_8)])) _
    refine XS.iconst X8.here hx rfl (hb hby at_138) ?_
    show Steps p.tables e below (T8.setTop (mkF m 139 #[.val (.int sz), .val (.long x0), .second, .val (.long x1), .second, .val (.long x2), .second, .val (.int (1 : Int32)), .val (.ref b1), .val (.ref b2), .val (.ref nb_8)] [(.int (0 : Int32)), (.ref nb_8)])) _
    refine X8.daload hx (j := (0 : Int32)) (v := (.double (FP.ddiv (FP.l2d ((nu0.toInt64) * (de0.toInt64))) (FP.i2d de0)))) Ar10.1 (State.isArrayOf_alike hZ.alike Ar10.2.1) Ar10.2.2 hin10 hat10 (g := (mkF m 139 #[.val (.int sz), .val (.long x0), .second, .val (.long x1), .second, .val (.long x2), .second, .val (.int (1 : Int32)), .val (.ref b1), .val (.ref b2), .val (.ref nb_8)] [(.int (0 : Int32)), (.ref nb_8)])) rfl rfl (hb hby at_139) _ ?_
    show Steps p.tables e below (T8.setTop (mkF m 140 #[.val (.int sz), .val (.long x0), .second, .val (.long x1), .second, .val (.long x2), .second, .val (.int (1 : Int32)), .val (.ref b1), .val (.ref b2), .val (.ref nb_8)] [(.double (FP.ddiv (FP.l2d ((nu0.toInt64) * (de0.toInt64))) (FP.i2d de0)))])) _
    refine XS.lloadN X8.here hx rfl (hb hby at_140) rfl ?_
    show Steps p.tables e below (T8.setTop (mkF m 141 #[.val (.int sz), .val (.long x0), .second, .val (.long x1), .second, .val (.long x2), .second, .val (.int (1 : Int32)), .val (.ref b1), .val (.ref b2), .val (.ref nb_8)] [(.long x0), (.double (FP.ddiv (FP.l2d ((nu0.toInt64) * (de0.toInt64))) (FP.i2d de0)))])) _
    refine st11 _ ?_
    show Steps p.tables e below (T11.setTop (mkF m 144 #[.val (.int sz), .val (.long x0), .second, .val (.long x1), .second, .val (.long x2), .second, .val (.int (1 : Int32)), .val (.ref b1), .val (.ref b2), .val (.ref nb_8)] [(.int nu0), (.double (FP.ddiv (FP.l2d ((nu0.toInt64) * (de0.toInt64))) (FP.i2d de0)))])) _
    refine Jvm.Free.XS.i2dS X11.here hx rfl (hb hby at_144) rfl rfl ?_
    show Steps p.tables e below (T11.setTop (mkF m 145 #[.val (.int sz), .val (.long x0), .second, .val (.long x1), .second, .val (.long x2), .second, .val (.int (1 : Int32)), .val (.ref b1), .val (.ref b2), .val (.ref nb_8)] [(.double (FP.i2d nu0)), (.double (FP.ddiv (FP.l2d ((nu0.toInt64) * (de0.toInt64))) (FP.i2d de0)))])) _
    refine Jvm.Free.XS.dcmpS X11.here hx rfl (hb hby at_145) rfl cm0 ?_
    show Steps p.tables e below (T11.setTop (mkF m 146 #[.val (.int sz), .val (.long x0), .second, .val (.long x1), .second, .val (.long x2), .second, .val (.int (1 : Int32)), .val (.ref b1), .val (.ref b2), .val (.ref nb_8)] [(.int (0 : Int32))])) _
    refine XS.ifYes X11.here hx rfl (pc0 := 146) (pc' := 151) rfl (hb hby at_146) rfl ((if0 _ _).trans (teq (rfl : (0 : Int32) = (0 : Int32))).1) (by decide) (by decide) ?_
    show Steps p.tables e below (T11.setTop (mkF m 151 #[.val (.int sz), .val (.long x0), .second, .val (.long x1), .second, .val (.long x2), .second, .val (.int (1 : Int32)), .val (.ref b1), .val (.ref b2), .val (.ref nb_8)] [])) _
    refine XS.iload X11.here hx rfl (hb hby at_151) rfl ?_
    show Steps p.tables e below (T11.setTop (mkF m 153 #[.val (.int sz), .val (.long x0), .second, .val (.long x1), .second, .val (.long x2), .second, .val (.int (1 : Int32)), .val (.ref b1), .val (.ref b2), .val (.ref nb_8)] [(.int (1 : Int32))])) _
    refine XS.iconst X11.here hx rfl (hb hby at_153) ?_
    show Steps p.tables e below (T11.setTop (mkF m 154 #[.val (.int sz), .val (.long x0), .second, .val (.long x1), .second, .val (.long x2), .second, .val (.int (1 : Int32)), .val (.ref b1), .val (.ref b2), .val (.ref nb_8)] [(.int (1 : Int32)), (.int (1 : Int32))])) _
    refine XS.icmpYes X11.here hx rfl (pc0 := 154) (pc' := 172) rfl (hb hby at_154) rfl (flt (by decide : ¬ ((1 : Int32) < (1 : Int32)))).2.2.2 (by decide) (by decide) ?_
    show Steps p.tables e below (T11.setTop (mkF m 172 #[.val (.int sz), .val (.long x0), .second, .val (.long x1), .second, .val (.long x2), .second, .val (.int (1 : Int32)), .val (.ref b1), .val (.ref b2), .val (.ref nb_8)] [])) _
    refine XS.iload X11.here hx rfl (hb hby at_172) rfl ?_
    show Steps p.tables e below (T11.setTop (mkF m 174 #[.val (.int sz), .val (.long x0), .second, .val (.long x1), .second, .val (.long x2), .second, .val (.int (1 : Int32)), .val (.ref b1), .val (.ref b2), .val (.ref nb_8)] [(.int (1 : Int32))])) _
    refine XS.iconst X11.here hx rfl (hb hby at_174) ?_
    show Steps p.tables e below (T11.setTop (mkF m 175 #[.val (.int sz), .val (.long x0), .second, .val (.long x1), .second, .val (.long x2), .second, .val (.int (1 : Int32)), .val (.ref b1), .val (.ref b2), .val (.ref nb_8)] [(.int (2 : Int32)), (.int (1 : Int32))])) _
    refine XS.icmpYes X11.here hx rfl (pc0 := 175) (pc' := 194) rfl (hb hby at_175) rfl (flt (by decide : ¬ ((2 : Int32) < (1 : Int32)))).2.2.2 (by decide) (by decide) ?_
    show Steps p.tables e below (T11.setTop (mkF m 194 #[.val (.int sz), .val (.long x0), .second, .val (.long x1), .second, .val (.long x2), .second, .val (.int (1 : Int32)), .val (.ref b1), .val (.ref b2), .val (.ref nb_8)] [])) _
    refine XS.iconst X11.here hx rfl (hb hby at_194) ?_
    show Steps p.tables e below (T11.setTop (mkF m 195 #[.val (.int sz), .val (.long x0), .second, .val (.long x1), .second, .val (.long x2), .second, .val (.int (1 : Int32)), .val (.ref b1), .val (.ref b2), .val (.ref nb_8)] [(.int (1 : Int32))])) _
    exact retN X11 hx (t := .boolean) Bd.returns (by simp) (hb hby at_195) hr
  · show Q_rm0_1 Z sz x0 x1 x2 nu0 de0 nu1 de1 nu2 de2 h0 n0 _ T11.heap _
    rw [e11]
    exact ⟨rfl, N11⟩
def Q_rm0_2 (Z : State) (sz : Int32) (x0 : Int64) (x1 : Int64) (x2 : Int64) (nu0 : Int32) (de0 : Int32) (nu1 : Int32) (de1 : Int32) (nu2 : Int32) (de2 : Int32) (h0 : Heap) (n0 : Nat) (v : Option Value) (h : Heap) (L : List Loc) : Prop := v = some (.int (1 : Int32)) ∧ Fr n0 L
theorem ef_rm0_2 (m : MethodId) (sz : Int32) (x0 : Int64) (x1 : Int64) (x2 : Int64) : entryFrame m #[(.int sz), (.long x0), (.long x1), (.long x2)] maxLocals = mkF m 0 #[.val (.int sz), .val (.long x0), .second, .val (.long x1), .second, .val (.long x2), .second, .unset, .unset, .unset, .unset] [] := by first | (simp [entryFrame, mkF, argsToLocals, Value.category, maxLocals]; done) | rfl
set_option maxRecDepth 65536 in
set_option maxHeartbeats 40000000 in
theorem rm0_2 (l : Launch) (Z : State) (a0 : Array Value) (hw : ∀ d ∈ tables_1, d.before a0 Z = true) (ws : List Jvm.Cond) (sz : Int32) (x0 : Int64) (x1 : Int64) (x2 : Int64) (nu0 : Int32) (de0 : Int32) (nu1 : Int32) (de1 : Int32) (nu2 : Int32) (de2 : Int32) (h0 : Heap) (n0 : Nat) (X00 : Old Z n0 h0) (hsz : (sz &&& (3 : Int32)) = (2 : Int32)) (PN0 : ∀ h, n0 ≤ h.size → OwnPure l Z h n0 (⟨"com/example/huron/huron/testing/TimedTurnsRatiosPinLaw", "num", "(J)I"⟩ : MethodName) method_2_code 2 (some .int) ({ frames := 0, cells := 0, slots := 0, locals := 0 } : Room) #[.long x0] (.int nu0)) (PD0 : ∀ h, n0 ≤ h.size → OwnPure l Z h n0 (⟨"com/example/huron/huron/testing/TimedTurnsRatiosPinLaw", "den", "(J)I"⟩ : MethodName) method_3_code 3 (some .int) ({ frames := 0, cells := 0, slots := 0, locals := 0 } : Room) #[.long x0] (.int de0)) (PN1 : ∀ h, n0 ≤ h.size → OwnPure l Z h n0 (⟨"com/example/huron/huron/testing/TimedTurnsRatiosPinLaw", "num", "(J)I"⟩ : MethodName) method_2_code 2 (some .int) ({ frames := 0, cells := 0, slots := 0, locals := 0 } : Room) #[.long x1] (.int nu1)) (PD1 : ∀ h, n0 ≤ h.size → OwnPure l Z h n0 (⟨"com/example/huron/huron/testing/TimedTurnsRatiosPinLaw", "den", "(J)I"⟩ : MethodName) method_3_code 3 (some .int) ({ frames := 0, cells := 0, slots := 0, locals := 0 } : Room) #[.long x1] (.int de1)) (nn0 : Jvm.Free.Fl.NoNaN64 (FP.ddiv (FP.l2d (nu0.toInt64 * de0.toInt64)) (FP.i2d de0))) (nn1 : Jvm.Free.Fl.NoNaN64 (FP.ddiv (FP.l2d (nu1.toInt64 * de1.toInt64)) (FP.i2d de1))) (cm0 : cmpValue (FP.dcmp (FP.ddiv (FP.l2d (nu0.toInt64 * de0.toInt64)) (FP.i2d de0)) (FP.i2d nu0)) .l = (0 : Int32)) (cm1 : cmpValue (FP.dcmp (FP.ddiv (FP.l2d (nu1.toInt64 * de1.toInt64)) (FP.i2d de1)) (FP.i2d nu1)) .l = (0 : Int32)) :
    MetFree l x (head1 (Jvm.Cond.code x code maxLocals ret :: ws) room_1) (fun aa U => aa = #[(.int sz), (.long x0), (.long x1), (.long x2)] ∧ Z.Warmed39 U.vm ∧ U.heap = h0) (fun _ _ _ _ _ => True) (fun _ U o U' => ∃ v L, o = .returned v ∧ Q_rm0_2 Z sz x0 x1 x2 nu0 de0 nu1 de1 nu2 de2 h0 n0 v U'.heap L ∧ FrameEnd U o U' L room_1.cells room_1.slots) := by
  refine MetFree.of_bodySF (plainFor_of_name pn_com_example_huron_huron_testing_TimedTurnsRatiosPinLaw) hisR ?_
  intro p e s m args below meth c s₁ Bd hml0 hP hK
  obtain ⟨rfl, hZ, hh⟩ := hP
  have hx := Bd.exec
  have hby := Bd.bytes
  have hml : c.maxLocals = 11 := hml0
  have hown : s.vm.findClass "com/example/huron/huron/testing/TimedTurnsRatiosPinLaw" = some m.cls := findClass_of_methodNamed Bd.named
  have hnm := (name_of_methodNamed Bd.named Bd.method).1
  have X0 : Stand p l e room_1 s m #[(.int sz), (.long x0), (.long x1), (.long x2)] below meth c s₁ [] 0 0 := Stand.of_body Bd
  have e0 : s₁.heap = h0 := by rw [← hh, Bd.state]; rfl
  have N0 := Fr.nil n0
  have Z0 : n0 ≤ h0.size := own_z0 X00
  have pre0 : ∀ t, Steps p.tables e below (s₁.setTop (mkF m 0 #[.val (.int sz), .val (.long x0), .second, .val (.long x1), .second, .val (.long x2), .second, .unset, .unset, .unset, .unset] [])) t → Steps p.tables e below (s₁.setTop (entryFrame m #[(.int sz), (.long x0), (.long x1), (.long x2)] maxLocals)) t := fun t k => castTop (ef_rm0_2 m sz x0 x1 x2) k
  obtain ⟨T1, h1, kA1, X1, e1, E1, A1, st1⟩ := newP X0 hx hZ (hw _ (List.mem_of_getElem? (i := 0) rfl)) e0 (g := (mkF m 7 #[.val (.int sz), .val (.long x0), .second, .val (.long x1), .second, .val (.long x2), .second, .val (.int (2 : Int32)), .unset, .unset, .unset] [(.int (2 : Int32))])) rfl (hb hby at_7) rfl (by decide) (cap := 2) (by decide) (by decide) (by decide) (by decide)
  obtain ⟨b1, gb1⟩ : ∃ z, z = h0.size := ⟨_, rfl⟩
  rw [← gb1] at A1 st1
  have g_b1 : n0 ≤ b1 := Nat.le_trans (own_z0 X00) (Nat.le_of_eq gb1.symm)
  have sz_b1 : h0.size ≤ b1 := Nat.le_trans (Nat.le_refl _) (Nat.le_of_eq gb1.symm)
  have X00__1 := X00.ext E1
  have K0_1 : Keep h0 h1 [] := (Keep.refl h0 []).ext E1
  have V_b1 : Arv Z h1 b1 kA1 .double (2 : Int32) [(.double (FP.l2d 0)), (.double (FP.l2d 0))] (.double (FP.l2d 0)) := (Arv.newD A1 (by decide)).pad (pad_rep [] (.double (FP.l2d 0)) 2)
  obtain ⟨T2, h2, kA2, X2, e2, E2, A2, st2⟩ := newP X1 hx hZ (hw _ (List.mem_of_getElem? (i := 0) rfl)) e1 (g := (mkF m 13 #[.val (.int sz), .val (.long x0), .second, .val (.long x1), .second, .val (.long x2), .second, .val (.int (2 : Int32)), .val (.ref b1), .unset, .unset] [(.int (2 : Int32))])) rfl (hb hby at_13) rfl (by decide) (cap := 2) (by decide) (by decide) (by decide) (by decide)
  obtain ⟨b2, gb2⟩ : ∃ z, z = h1.size := ⟨_, rfl⟩
  rw [← gb2] at A2 st2
  have ne_b1_b2 : b1 ≠ b2 := Nat.ne_of_lt (Nat.lt_of_lt_of_le V_b1.lt (Nat.le_of_eq gb2.symm))
  have g_b2 : n0 ≤ b2 := Nat.le_trans (own_z0 X00__1) (Nat.le_of_eq gb2.symm)
  have sz_b2 : h0.size ≤ b2 := Nat.le_trans K0_1.1 (Nat.le_of_eq gb2.symm)
  have V_b1__2 := V_b1.ext E2
  have X00__2 := X00__1.ext E2
  have K0_2 : Keep h0 h2 [] := K0_1.ext E2
  have V_b2 : Arv Z h2 b2 kA2 .double (2 : Int32) [(.double (FP.l2d 0)), (.double (FP.l2d 0))] (.double (FP.l2d 0)) := (Arv.newD A2 (by decide)).pad (pad_rep [] (.double (FP.l2d 0)) 2)
  obtain ⟨_, _, ⟨T3, L3, k3, n3⟩, -, X3, ⟨Lc3, hQ3, l3, y3, z3⟩, st3⟩ := Jvm.LawKit.callS X2 hx (y := (⟨"com/example/huron/huron/testing/TimedTurnsRatiosPinLaw", "num", "(J)I"⟩ : MethodName)) hown (mvT hZ (hw _ (List.mem_of_getElem? (i := 5) rfl))) (mvT hZ (hw _ (List.mem_of_getElem? (i := 6) rfl))) (mvT hZ (hw _ (List.mem_of_getElem? (i := 7) rfl))) (mvT hZ (hw _ (List.mem_of_getElem? (i := 8) rfl))) (by decide) (backOf (W := 2) (PN0 h2 (own_z0 X00__2) []) hZ (hw _ (List.mem_of_getElem? (i := 8) rfl)) (hw _ (List.mem_of_getElem? (i := 7) rfl)) (by decide) (by decide)) (g := (mkF m 26 #[.val (.int sz), .val (.long x0), .second, .val (.long x1), .second, .val (.long x2), .second, .val (.int (2 : Int32)), .val (.ref b1), .val (.ref b2), .unset] [(.long x0), (.int (0 : Int32)), (.ref b1)])) rfl (by rw [hml]; rfl) (argsL := [(.long x0)]) (rest := [(.int (0 : Int32)), (.ref b1)]) (lenOf pd__J_I rfl) rfl (by show 2 * 0 + _ ≤ _; exact Nat.le_of_eq rfl) (hb hby at_26) (fun _ _ => ⟨rfl, e2, (by decide : 2 + 0 ≤ _), (by decide : 4 + 0 ≤ _)⟩)
  dsimp only [Pt.U, Pt.locs, Pt.cells, Pt.slots] at X3 l3 y3 z3 st3 hQ3
  subst l3 y3 z3
  obtain ⟨rfl, N3q, e3⟩ := hQ3
  have N3 := Fr.app N0 N3q
  obtain ⟨_, _, ⟨T4, L4, k4, n4⟩, -, X4, ⟨Lc4, hQ4, l4, y4, z4⟩, st4⟩ := Jvm.LawKit.callS X3 hx (y := (⟨"com/example/huron/huron/testing/TimedTurnsRatiosPinLaw", "den", "(J)I"⟩ : MethodName)) hown (mvT hZ (hw _ (List.mem_of_getElem? (i := 9) rfl))) (mvT hZ (hw _ (List.mem_of_getElem? (i := 10) rfl))) (mvT hZ (hw _ (List.mem_of_getElem? (i := 7) rfl))) (mvT hZ (hw _ (List.mem_of_getElem? (i := 11) rfl))) (by decide) (backOf (W := 4) (PD0 h2 (own_z0 X00__2) []) hZ (hw _ (List.mem_of_getElem? (i := 11) rfl)) (hw _ (List.mem_of_getElem? (i := 7) rfl)) (by decide) (by decide)) (g := (mkF m 31 #[.val (.int sz), .val (.long x0), .second, .val (.long x1), .second, .val (.long x2), .second, .val (.int (2 : Int32)), .val (.ref b1), .val (.ref b2), .unset] [(.long x0), (.long (nu0.toInt64)), (.int (0 : Int32)), (.ref b1)])) rfl (by rw [hml]; rfl) (argsL := [(.long x0)]) (rest := [(.long (nu0.toInt64)), (.int (0 : Int32)), (.ref b1)]) (lenOf pd__J_I rfl) rfl (by show 2 * 0 + _ ≤ _; exact Nat.le_of_eq rfl) (hb hby at_31) (fun _ _ => ⟨rfl, e3, (by decide : 2 + 0 ≤ _), (by decide : 4 + 0 ≤ _)⟩)
  dsimp only [Pt.U, Pt.locs, Pt.cells, Pt.slots] at X4 l4 y4 z4 st4 hQ4
  subst l4 y4 z4
  obtain ⟨rfl, N4q, e4⟩ := hQ4
  have N4 := Fr.app N3 N4q
  obtain ⟨cl5, Ar5, q5, S5, NN5, HH5, G5⟩ := id V_b1__2
  have hin5 : ¬ ((0 : Int32) < 0 ∨ cl5.slots.size ≤ ((0 : Int32)).toNatClampNeg) := inb_of S5 ⟨by decide, by decide⟩
  obtain ⟨T5, h5, X5, e5, W5, st5⟩ := stD X4 hx hZ e4 Ar5 (j := (0 : Int32)) hin5 (g := (mkF m 37 #[.val (.int sz), .val (.long x0), .second, .val (.long x1), .second, .val (.long x2), .second, .val (.int (2 : Int32)), .val (.ref b1), .val (.ref b2), .unset] [(.double (FP.l2d ((nu0.toInt64) * (de0.toInt64)))), (.int (0 : Int32)), (.ref b1)])) rfl rfl (hb hby at_37)
  have V_b2__5 := V_b2.other W5 (Ne.symm ne_b1_b2)
  have X00__5 := X00__2.wr W5 g_b1
  have K0_5 : Keep h0 h5 [] := K0_2.wr W5 (Or.inr sz_b1)
  have N5 := Fr.snoc X5 N4 g_b1
  have V_b1__5 : Arv Z h5 b1 kA1 .double (2 : Int32) [(.double (FP.l2d ((nu0.toInt64) * (de0.toInt64)))), (.double (FP.l2d 0))] (.double (FP.l2d 0)) := Arv.set Ar5 q5 S5 NN5 HH5 G5 rfl W5 0 rfl (Nat.le_of_ble_eq_true rfl)
  obtain ⟨_, _, ⟨T6, L6, k6, n6⟩, -, X6, ⟨Lc6, hQ6, l6, y6, z6⟩, st6⟩ := Jvm.LawKit.callS X5 hx (y := (⟨"com/example/huron/huron/testing/TimedTurnsRatiosPinLaw", "den", "(J)I"⟩ : MethodName)) hown (mvT hZ (hw _ (List.mem_of_getElem? (i := 9) rfl))) (mvT hZ (hw _ (List.mem_of_getElem? (i := 10) rfl))) (mvT hZ (hw _ (List.mem_of_getElem? (i := 7) rfl))) (mvT hZ (hw _ (List.mem_of_getElem? (i := 11) rfl))) (by decide) (backOf (W := 2) (PD0 h5 (own_z0 X00__5) []) hZ (hw _ (List.mem_of_getElem? (i := 11) rfl)) (hw _ (List.mem_of_getElem? (i := 7) rfl)) (by decide) (by decide)) (g := (mkF m 42 #[.val (.int sz), .val (.long x0), .second, .val (.long x1), .second, .val (.long x2), .second, .val (.int (2 : Int32)), .val (.ref b1), .val (.ref b2), .unset] [(.long x0), (.int (0 : Int32)), (.ref b2)])) rfl (by rw [hml]; rfl) (argsL := [(.long x0)]) (rest := [(.int (0 : Int32)), (.ref b2)]) (lenOf pd__J_I rfl) rfl (by show 2 * 0 + _ ≤ _; exact Nat.le_of_eq rfl) (hb hby at_42) (fun _ _ => ⟨rfl, e5, (by decide : 2 + 0 ≤ _), (by decide : 4 + 0 ≤ _)⟩)
  dsimp only [Pt.U, Pt.locs, Pt.cells, Pt.slots] at X6 l6 y6 z6 st6 hQ6
  subst l6 y6 z6
  obtain ⟨rfl, N6q, e6⟩ := hQ6
  have N6 := Fr.app N5 N6q
  obtain ⟨cl7, Ar7, q7, S7, NN7, HH7, G7⟩ := id V_b2__5
  have hin7 : ¬ ((0 : Int32) < 0 ∨ cl7.slots.size ≤ ((0 : Int32)).toNatClampNeg) := inb_of S7 ⟨by decide, by decide⟩
  obtain ⟨T7, h7, X7, e7, W7, st7⟩ := stD X6 hx hZ e6 Ar7 (j := (0 : Int32)) hin7 (g := (mkF m 46 #[.val (.int sz), .val (.long x0), .second, .val (.long x1), .second, .val (.long x2), .second, .val (.int (2 : Int32)), .val (.ref b1), .val (.ref b2), .unset] [(.double (FP.i2d de0)), (.int (0 : Int32)), (.ref b2)])) rfl rfl (hb hby at_46)
  have V_b1__7 := V_b1__5.other W7 ne_b1_b2
  have X00__7 := X00__5.wr W7 g_b2
  have K0_7 : Keep h0 h7 [] := K0_5.wr W7 (Or.inr sz_b2)
  have N7 := Fr.snoc X7 N6 g_b2
  have V_b2__7 : Arv Z h7 b2 kA2 .double (2 : Int32) [(.double (FP.i2d de0)), (.double (FP.l2d 0))] (.double (FP.l2d 0)) := Arv.set Ar7 q7 S7 NN7 HH7 G7 rfl W7 0 rfl (Nat.le_of_ble_eq_true rfl)
  obtain ⟨_, _, ⟨T8, L8, k8, n8⟩, -, X8, ⟨Lc8, hQ8, l8, y8, z8⟩, st8⟩ := Jvm.LawKit.callS X7 hx (y := (⟨"com/example/huron/huron/testing/TimedTurnsRatiosPinLaw", "num", "(J)I"⟩ : MethodName)) hown (mvT hZ (hw _ (List.mem_of_getElem? (i := 5) rfl))) (mvT hZ (hw _ (List.mem_of_getElem? (i := 6) rfl))) (mvT hZ (hw _ (List.mem_of_getElem? (i := 7) rfl))) (mvT hZ (hw _ (List.mem_of_getElem? (i := 8) rfl))) (by decide) (backOf (W := 2) (PN1 h7 (own_z0 X00__7) []) hZ (hw _ (List.mem_of_getElem? (i := 8) rfl)) (hw _ (List.mem_of_getElem? (i := 7) rfl)) (by decide) (by decide)) (g := (mkF m 57 #[.val (.int sz), .val (.long x0), .second, .val (.long x1), .second, .val (.long x2), .second, .val (.int (2 : Int32)), .val (.ref b1), .val (.ref b2), .unset] [(.long x1), (.int (1 : Int32)), (.ref b1)])) rfl (by rw [hml]; rfl) (argsL := [(.long x1)]) (rest := [(.int (1 : Int32)), (.ref b1)]) (lenOf pd__J_I rfl) rfl (by show 2 * 0 + _ ≤ _; exact Nat.le_of_eq rfl) (hb hby at_57) (fun _ _ => ⟨rfl, e7, (by decide : 2 + 0 ≤ _), (by decide : 4 + 0 ≤ _)⟩)
  dsimp only [Pt.U, Pt.locs, Pt.cells, Pt.slots] at X8 l8 y8 z8 st8 hQ8
  subst l8 y8 z8
  obtain ⟨rfl, N8q, e8⟩ := hQ8
  have N8 := Fr.app N7 N8q
  obtain ⟨_, _, ⟨T9, L9, k9, n9⟩, -, X9, ⟨Lc9, hQ9, l9, y9, z9⟩, st9⟩ := Jvm.LawKit.callS X8 hx (y := (⟨"com/example/huron/huron/testing/TimedTurnsRatiosPinLaw", "den", "(J)I"⟩ : MethodName)) hown (mvT hZ (hw _ (List.mem_of_getElem? (i := 9) rfl))) (mvT hZ (hw _ (List.mem_of_getElem? (i := 10) rfl))) (mvT hZ (hw _ (List.mem_of_getElem? (i := 7) rfl))) (mvT hZ (hw _ (List.mem_of_getElem? (i := 11) rfl))) (by decide) (backOf (W := 4) (PD1 h7 (own_z0 X00__7) []) hZ (hw _ (List.mem_of_getElem? (i := 11) rfl)) (hw _ (List.mem_of_getElem? (i := 7) rfl)) (by decide) (by decide)) (g := (mkF m 62 #[.val (.int sz), .val (.long x0), .second, .val (.long x1), .second, .val (.long x2), .second, .val (.int (2 : Int32)), .val (.ref b1), .val (.ref b2), .unset] [(.long x1), (.long (nu1.toInt64)), (.int (1 : Int32)), (.ref b1)])) rfl (by rw [hml]; rfl) (argsL := [(.long x1)]) (rest := [(.long (nu1.toInt64)), (.int (1 : Int32)), (.ref b1)]) (lenOf pd__J_I rfl) rfl (by show 2 * 0 + _ ≤ _; exact Nat.le_of_eq rfl) (hb hby at_62) (fun _ _ => ⟨rfl, e8, (by decide : 2 + 0 ≤ _), (by decide : 4 + 0 ≤ _)⟩)
  dsimp only [Pt.U, Pt.locs, Pt.cells, Pt.slots] at X9 l9 y9 z9 st9 hQ9
  subst l9 y9 z9
  obtain ⟨rfl, N9q, e9⟩ := hQ9
  have N9 := Fr.app N8 N9q
  obtain ⟨cl10, Ar10, q10, S10, NN10, HH10, G10⟩ := id V_b1__7
  have hin10 : ¬ ((1 : Int32) < 0 ∨ cl10.slots.size ≤ ((1 : Int32)).toNatClampNeg) := inb_of S10 ⟨by decide, by decide⟩
  obtain ⟨T10, h10, X10, e10, W10, st10⟩ := stD X9 hx hZ e9 Ar10 (j := (1 : Int32)) hin10 (g := (mkF m 68 #[.val (.int sz), .val (.long x0), .second, .val (.long x1), .second, .val (.long x2), .second, .val (.int (2 : Int32)), .val (.ref b1), .val (.ref b2), .unset] [(.double (FP.l2d ((nu1.toInt64) * (de1.toInt64)))), (.int (1 : Int32)), (.ref b1)])) rfl rfl (hb hby at_68)
  have V_b2__10 := V_b2__7.other W10 (Ne.symm ne_b1_b2)
  have X00__10 := X00__7.wr W10 g_b1
  have K0_10 : Keep h0 h10 [] := K0_7.wr W10 (Or.inr sz_b1)
  have N10 := Fr.snoc X10 N9 g_b1
  have V_b1__10 : Arv Z h10 b1 kA1 .double (2 : Int32) [(.double (FP.l2d ((nu0.toInt64) * (de0.toInt64)))), (.double (FP.l2d ((nu1.toInt64) * (de1.toInt64))))] (.double (FP.l2d 0)) := Arv.set Ar10 q10 S10 NN10 HH10 G10 rfl W10 1 rfl (Nat.le_of_ble_eq_true rfl)
  obtain ⟨_, _, ⟨T11, L11, k11, n11⟩, -, X11, ⟨Lc11, hQ11, l11, y11, z11⟩, st11⟩ := Jvm.LawKit.callS X10 hx (y := (⟨"com/example/huron/huron/testing/TimedTurnsRatiosPinLaw", "den", "(J)I"⟩ : MethodName)) hown (mvT hZ (hw _ (List.mem_of_getElem? (i := 9) rfl))) (mvT hZ (hw _ (List.mem_of_getElem? (i := 10) rfl))) (mvT hZ (hw _ (List.mem_of_getElem? (i := 7) rfl))) (mvT hZ (hw _ (List.mem_of_getElem? (i := 11) rfl))) (by decide) (backOf (W := 2) (PD1 h10 (own_z0 X00__10) []) hZ (hw _ (List.mem_of_getElem? (i := 11) rfl)) (hw _ (List.mem_of_getElem? (i := 7) rfl)) (by decide) (by decide)) (g := (mkF m 73 #[.val (.int sz), .val (.long x0), .second, .val (.long x1), .second, .val (.long x2), .second, .val (.int (2 : Int32)), .val (.ref b1), .val (.ref b2), .unset] [(.long x1), (.int (1 : Int32)), (.ref b2)])) rfl (by rw [hml]; rfl) (argsL := [(.long x1)]) (rest := [(.int (1 : Int32)), (.ref b2)]) (lenOf pd__J_I rfl) rfl (by show 2 * 0 + _ ≤ _; exact Nat.le_of_eq rfl) (hb hby at_73) (fun _ _ => ⟨rfl, e10, (by decide : 2 + 0 ≤ _), (by decide : 4 + 0 ≤ _)⟩)
  dsimp only [Pt.U, Pt.locs, Pt.cells, Pt.slots] at X11 l11 y11 z11 st11 hQ11
  subst l11 y11 z11
  obtain ⟨rfl, N11q, e11⟩ := hQ11
  have N11 := Fr.app N10 N11q
  obtain ⟨cl12, Ar12, q12, S12, NN12, HH12, G12⟩ := id V_b2__10
  have hin12 : ¬ ((1 : Int32) < 0 ∨ cl12.slots.size ≤ ((1 : Int32)).toNatClampNeg) := inb_of S12 ⟨by decide, by decide⟩
  obtain ⟨T12, h12, X12, e12, W12, st12⟩ := stD X11 hx hZ e11 Ar12 (j := (1 : Int32)) hin12 (g := (mkF m 77 #[.val (.int sz), .val (.long x0), .second, .val (.long x1), .second, .val (.long x2), .second, .val (.int (2 : Int32)), .val (.ref b1), .val (.ref b2), .unset] [(.double (FP.i2d de1)), (.int (1 : Int32)), (.ref b2)])) rfl rfl (hb hby at_77)
  have V_b1__12 := V_b1__10.other W12 ne_b1_b2
  have X00__12 := X00__10.wr W12 g_b2
  have K0_12 : Keep h0 h12 [] := K0_10.wr W12 (Or.inr sz_b2)
  have N12 := Fr.snoc X12 N11 g_b2
  have V_b2__12 : Arv Z h12 b2 kA2 .double (2 : Int32) [(.double (FP.i2d de0)), (.double (FP.i2d de1))] (.double (FP.l2d 0)) := Arv.set Ar12 q12 S12 NN12 HH12 G12 rfl W12 1 rfl (Nat.le_of_ble_eq_true rfl)
  obtain ⟨_, _, ⟨T13, L13, k13, n13⟩, -, X13, ⟨Lc13, hQ13, l13, y13, z13⟩, st13⟩ := Jvm.LawKit.callS X12 hx (y := (⟨"com/example/huron/huron/testing/TimedTurns", "ratios", "([D[D)[D"⟩ : MethodName)) hown (mvT hZ (hw _ (List.mem_of_getElem? (i := 1) rfl))) (mvT hZ (hw _ (List.mem_of_getElem? (i := 2) rfl))) (mvT hZ (hw _ (List.mem_of_getElem? (i := 3) rfl))) (mvT hZ (hw _ (List.mem_of_getElem? (i := 4) rfl))) (by decide) (backOf (W := 0) (rmR2 l Z a0 hw [] b1 b2 kA1 kA2 (FP.l2d ((nu0.toInt64) * (de0.toInt64))) (FP.l2d ((nu1.toInt64) * (de1.toInt64))) (FP.i2d de0) (FP.i2d de1) h12 n0 X00__12 V_b1__12 V_b2__12 nn0 nn1) hZ (hw _ (List.mem_of_getElem? (i := 4) rfl)) (hw _ (List.mem_of_getElem? (i := 3) rfl)) (by decide) (by decide)) (g := (mkF m 116 #[.val (.int sz), .val (.long x0), .second, .val (.long x1), .second, .val (.long x2), .second, .val (.int (2 : Int32)), .val (.ref b1), .val (.ref b2), .unset] [(.ref b2), (.ref b1)])) rfl (by rw [hml]; rfl) (argsL := [(.ref b1), (.ref b2)]) (rest := []) (lenOf pd___D_D__D rfl) rfl (by show 2 * 0 + _ ≤ _; exact Nat.le_of_eq rfl) (hb hby at_116) (fun _ _ => ⟨rfl, e12, (by decide : 2 + 1 ≤ _), (by decide : 4 + 2 ≤ _)⟩)
  dsimp only [Pt.U, Pt.locs, Pt.cells, Pt.slots] at X13 l13 y13 z13 st13 hQ13
  subst l13 y13 z13
  obtain ⟨nb_13, nk_13, rfl, N13q, K13, hsz_nb_13, Q13_0⟩ := hQ13
  have ne_b1_nb_13 : b1 ≠ nb_13 := Nat.ne_of_lt (Nat.lt_of_lt_of_le V_b1__12.lt hsz_nb_13)
  have ne_b2_nb_13 : b2 ≠ nb_13 := Nat.ne_of_lt (Nat.lt_of_lt_of_le V_b2__12.lt hsz_nb_13)
  have g_nb_13 : n0 ≤ nb_13 := Nat.le_trans (own_z0 X00__12) hsz_nb_13
  have sz_nb_13 : h0.size ≤ nb_13 := Nat.le_trans K0_12.1 hsz_nb_13
  have V_b1__13 := V_b1__12.keep K13 nin0
  have V_b2__13 := V_b2__12.keep K13 nin0
  have X00__13 := X00__12.keep K13 all0
  have K0_13 : Keep h0 T13.heap [] := K0_12.trans K13 all0
  have N13 := Fr.app N12 N13q
  obtain ⟨cl14, Ar14, -, S14, NN14, -, -⟩ := id Q13_0
  obtain ⟨cl15, Ar15, -, S15, -, HH15, -⟩ := id Q13_0
  have hin15 : ¬ ((0 : Int32) < 0 ∨ cl15.slots.size ≤ ((0 : Int32)).toNatClampNeg) := inb_of S15 ⟨by decide, by decide⟩
  have hat15 : cl15.slots[((0 : Int32)).toNatClampNeg]? = some (.double (FP.ddiv (FP.l2d ((nu0.toInt64) * (de0.toInt64))) (FP.i2d de0))) := HH15 _ (Nat.lt_of_not_le fun q => hin15 (Or.inr q))
  obtain ⟨_, _, ⟨T16, L16, k16, n16⟩, -, X16, ⟨Lc16, hQ16, l16, y16, z16⟩, st16⟩ := Jvm.LawKit.callS X13 hx (y := (⟨"com/example/huron/huron/testing/TimedTurnsRatiosPinLaw", "num", "(J)I"⟩ : MethodName)) hown (mvT hZ (hw _ (List.mem_of_getElem? (i := 5) rfl))) (mvT hZ (hw _ (List.mem_of_getElem? (i := 6) rfl))) (mvT hZ (hw _ (List.mem_of_getElem? (i := 7) rfl))) (mvT hZ (hw _ (List.mem_of_getElem? (i := 8) rfl))) (by decide) (backOf (W := 2) (PN0 T13.heap (own_z0 X00__13) []) hZ (hw _ (List.mem_of_getElem? (i := 8) rfl)) (hw _ (List.mem_of_getElem? (i := 7) rfl)) (by decide) (by decide)) (g := (mkF m 141 #[.val (.int sz), .val (.long x0), .second, .val (.long x1), .second, .val (.long x2), .second, .val (.int (2 : Int32)), .val (.ref b1), .val (.ref b2), .val (.ref nb_13)] [(.long x0), (.double (FP.ddiv (FP.l2d ((nu0.toInt64) * (de0.toInt64))) (FP.i2d de0)))])) rfl (by rw [hml]; rfl) (argsL := [(.long x0)]) (rest := [(.double (FP.ddiv (FP.l2d ((nu0.toInt64) * (de0.toInt64))) (FP.i2d de0)))]) (lenOf pd__J_I rfl) rfl (by show 2 * 0 + _ ≤ _; exact Nat.le_of_eq rfl) (hb hby at_141) (fun _ _ => ⟨rfl, rfl, (by decide : 3 + 0 ≤ _), (by decide : 6 + 0 ≤ _)⟩)
  dsimp only [Pt.U, Pt.locs, Pt.cells, Pt.slots] at X16 l16 y16 z16 st16 hQ16
  subst l16 y16 z16
  obtain ⟨rfl, N16q, e16⟩ := hQ16
  have N16 := Fr.app N13 N16q
  obtain ⟨cl17, Ar17, -, S17, -, HH17, -⟩ := id Q13_0
  have hin17 : ¬ ((1 : Int32) < 0 ∨ cl17.slots.size ≤ ((1 : Int32)).toNatClampNeg) := inb_of S17 ⟨by decide, by decide⟩
  have hat17 : cl17.slots[((1 : Int32)).toNatClampNeg]? = some (.double (FP.ddiv (FP.l2d ((nu1.toInt64) * (de1.toInt64))) (FP.i2d de1))) := HH17 _ (Nat.lt_of_not_le fun q => hin17 (Or.inr q))
  obtain ⟨_, _, ⟨T18, L18, k18, n18⟩, -, X18, ⟨Lc18, hQ18, l18, y18, z18⟩, st18⟩ := Jvm.LawKit.callS X16 hx (y := (⟨"com/example/huron/huron/testing/TimedTurnsRatiosPinLaw", "num", "(J)I"⟩ : MethodName)) hown (mvT hZ (hw _ (List.mem_of_getElem? (i := 5) rfl))) (mvT hZ (hw _ (List.mem_of_getElem? (i := 6) rfl))) (mvT hZ (hw _ (List.mem_of_getElem? (i := 7) rfl))) (mvT hZ (hw _ (List.mem_of_getElem? (i := 8) rfl))) (by decide) (backOf (W := 2) (PN1 T13.heap (own_z0 X00__13) []) hZ (hw _ (List.mem_of_getElem? (i := 8) rfl)) (hw _ (List.mem_of_getElem? (i := 7) rfl)) (by decide) (by decide)) (g := (mkF m 162 #[.val (.int sz), .val (.long x0), .second, .val (.long x1), .second, .val (.long x2), .second, .val (.int (2 : Int32)), .val (.ref b1), .val (.ref b2), .val (.ref nb_13)] [(.long x1), (.double (FP.ddiv (FP.l2d ((nu1.toInt64) * (de1.toInt64))) (FP.i2d de1)))])) rfl (by rw [hml]; rfl) (argsL := [(.long x1)]) (rest := [(.double (FP.ddiv (FP.l2d ((nu1.toInt64) * (de1.toInt64))) (FP.i2d de1)))]) (lenOf pd__J_I rfl) rfl (by show 2 * 0 + _ ≤ _; exact Nat.le_of_eq rfl) (hb hby at_162) (fun _ _ => ⟨rfl, e16, (by decide : 3 + 0 ≤ _), (by decide : 6 + 0 ≤ _)⟩)
  dsimp only [Pt.U, Pt.locs, Pt.cells, Pt.slots] at X18 l18 y18 z18 st18 hQ18
  subst l18 y18 z18
  obtain ⟨rfl, N18q, e18⟩ := hQ18
  have N18 := Fr.app N16 N18q
  obtain ⟨fs, hr, hrun, hended, hW, hsame⟩ := X18.leave (v := some (.int (1 : Int32))) (fun h => by rw [Bd.returns] at h; cases h)
  refine ⟨_, _, pre0 _ ?_, hrun, hended, _, _, rfl, ?_, ⟨_, rfl⟩, hW, hsame.mono (by decide) (by decide)⟩
  · show Steps p.tables e below (s₁.setTop (mkF m 0 #[.val (.int sz), .val (.long x0), .second, .val (.long x1), .second, .val (.long x2), .second, .unset, .unset, .unset, .unset] [])) _
    refine XS.iloadN X0.here hx rfl (hb hby at_0) rfl ?_
    show Steps p.tables e below (s₁.setTop (mkF m 1 #[.val (.int sz), .val (.long x0), .second, .val (.long x1), .second, .val (.long x2), .second, .unset, .unset, .unset, .unset] [(.int sz)])) _
    refine XS.iconst X0.here hx rfl (hb hby at_1) ?_
    show Steps p.tables e below (s₁.setTop (mkF m 2 #[.val (.int sz), .val (.long x0), .second, .val (.long x1), .second, .val (.long x2), .second, .unset, .unset, .unset, .unset] [(.int (3 : Int32)), (.int sz)])) _
    refine XS.iand X0.here hx rfl (hb hby at_2) rfl ?_
    show Steps p.tables e below (s₁.setTop (mkF m 3 #[.val (.int sz), .val (.long x0), .second, .val (.long x1), .second, .val (.long x2), .second, .unset, .unset, .unset, .unset] [(.int (sz &&& (3 : Int32)))])) _
    rw [hsz]
    refine XS.istore X0.here hx rfl (hb hby at_3) rfl (l' := #[.val (.int sz), .val (.long x0), .second, .val (.long x1), .second, .val (.long x2), .second, .val (.int (2 : Int32)), .unset, .unset, .unset]) rfl ?_
    show Steps p.tables e below (s₁.setTop (mkF m 5 #[.val (.int sz), .val (.long x0), .second, .val (.long x1), .second, .val (.long x2), .second, .val (.int (2 : Int32)), .unset, .unset, .unset] [])) _
    refine XS.iload X0.here hx rfl (hb hby at_5) rfl ?_
    show Steps p.tables e below (s₁.setTop (mkF m 7 #[.val (.int sz), .val (.long x0), .second, .val (.long x1), .second, .val (.long x2), .second, .val (.int (2 : Int32)), .unset, .unset, .unset] [(.int (2 : Int32))])) _
    refine st1 _ ?_
    show Steps p.tables e below (T1.setTop (mkF m 9 #[.val (.int sz), .val (.long x0), .second, .val (.long x1), .second, .val (.long x2), .second, .val (.int (2 : Int32)), .unset, .unset, .unset] [(.ref b1)])) _
    refine XS.astore X1.here hx rfl (hb hby at_9) rfl rfl (l' := #[.val (.int sz), .val (.long x0), .second, .val (.long x1), .second, .val (.long x2), .second, .val (.int (2 : Int32)), .val (.ref b1), .unset, .unset]) rfl ?_
    show Steps p.tables e below (T1.setTop (mkF m 11 #[.val (.int sz), .val (.long x0), .second, .val (.long x1), .second, .val (.long x2), .second, .val (.int (2 : Int32)), .val (.ref b1), .unset, .unset] [])) _
    refine XS.iload X1.here hx rfl (hb hby at_11) rfl ?_
    show Steps p.tables e below (T1.setTop (mkF m 13 #[.val (.int sz), .val (.long x0), .second, .val (.long x1), .second, .val (.long x2), .second, .val (.int (2 : Int32)), .val (.ref b1), .unset, .unset] [(.int (2 : Int32))])) _
    refine st2 _ ?_
    show Steps p.tables e below (T2.setTop (mkF m 15 #[.val (.int sz), .val (.long x0), .second, .val (.long x1), .second, .val (.long x2), .second, .val (.int (2 : Int32)), .val (.ref b1), .unset, .unset] [(.ref b2)])) _
    refine XS.astore X2.here hx rfl (hb hby at_15) rfl rfl (l' := #[.val (.int sz), .val (.long x0), .second, .val (.long x1), .second, .val (.long x2), .second, .val (.int (2 : Int32)), .val (.ref b1), .val (.ref b2), .unset]) rfl ?_
    show Steps p.tables e below (T2.setTop (mkF m 17 #[.val (.int sz), .val (.long x0), .second, .val (.long x1), .second, .val (.long x2), .second, .val (.int (2 : Int32)), .val (.ref b1), .val (.ref b2), .unset] [])) _
    refine XS.iload X2.here hx rfl (hb hby at_17) rfl ?_
    show Steps p.tables e below (T2.setTop (mkF m 19 #[.val (.int sz), .val (.long x0), .second, .val (.long x1), .second, .val (.long x2), .second, .val (.int (2 : Int32)), .val (.ref b1), .val (.ref b2), .unset] [(.int (2 : Int32))])) _
    refine XS.ifNo X2.here hx rfl (hb hby at_19) rfl ((if0 _ _).trans (tlt (by decide : (0 : Int32) < (2 : Int32))).2.2.2) ?_
    show Steps p.tables e below (T2.setTop (mkF m 22 #[.val (.int sz), .val (.long x0), .second, .val (.long x1), .second, .val (.long x2), .second, .val (.int (2 : Int32)), .val (.ref b1), .val (.ref b2), .unset] [])) _
    refine XS.aload X2.here hx rfl (hb hby at_22) rfl rfl ?_
    show Steps p.tables e below (T2.setTop (mkF m 24 #[.val (.int sz), .val (.long x0), .second, .val (.long x1), .second, .val (.long x2), .second, .val (.int (2 : Int32)), .val (.ref b1), .val (.ref b2), .unset] [(.ref b1)])) _
    refine XS.iconst X2.here hx rfl (hb hby at_24) ?_
    show Steps p.tables e below (T2.setTop (mkF m 25 #[.val (.int sz), .val (.long x0), .second, .val (.long x1), .second, .val (.long x2), .second, .val (.int (2 : Int32)), .val (.ref b1), .val (.ref b2), .unset] [(.int (0 : Int32)), (.ref b1)])) _
    refine XS.lloadN X2.here hx rfl (hb hby at_25) rfl ?_
    show Steps p.tables e below (T2.setTop (mkF m 26 #[.val (.int sz), .val (.long x0), .second, .val (.long x1), .second, .val (.long x2), .second, .val (.int (2 : Int32)), .val (.ref b1), .val (.ref b2), .unset] [(.long x0), (.int (0 : Int32)), (.ref b1)])) _
    refine st3 _ ?_
    show Steps p.tables e below (T3.setTop (mkF m 29 #[.val (.int sz), .val (.long x0), .second, .val (.long x1), .second, .val (.long x2), .second, .val (.int (2 : Int32)), .val (.ref b1), .val (.ref b2), .unset] [(.int nu0), (.int (0 : Int32)), (.ref b1)])) _
    refine XS.i2l X3.here hx rfl (hb hby at_29) rfl ?_
    show Steps p.tables e below (T3.setTop (mkF m 30 #[.val (.int sz), .val (.long x0), .second, .val (.long x1), .second, .val (.long x2), .second, .val (.int (2 : Int32)), .val (.ref b1), .val (.ref b2), .unset] [(.long (nu0.toInt64)), (.int (0 : Int32)), (.ref b1)])) _
    refine XS.lloadN X3.here hx rfl (hb hby at_30) rfl ?_
    show Steps p.tables e below (T3.setTop (mkF m 31 #[.val (.int sz), .val (.long x0), .second, .val (.long x1), .second, .val (.long x2), .second, .val (.int (2 : Int32)), .val (.ref b1), .val (.ref b2), .unset] [(.long x0), (.long (nu0.toInt64)), (.int (0 : Int32)), (.ref b1)])) _
    refine st4 _ ?_
    show Steps p.tables e below (T4.setTop (mkF m 34 #[.val (.int sz), .val (.long x0), .second, .val (.long x1), .second, .val (.long x2), .second, .val (.int (2 : Int32)), .val (.ref b1), .val (.ref b2), .unset] [(.int de0), (.long (nu0.toInt64)), (.int (0 : Int32)), (.ref b1)])) _
    refine XS.i2l X4.here hx rfl (hb hby at_34) rfl ?_
    show Steps p.tables e below (T4.setTop (mkF m 35 #[.val (.int sz), .val (.long x0), .second, .val (.long x1), .second, .val (.long x2), .second, .val (.int (2 : Int32)), .val (.ref b1), .val (.ref b2), .unset] [(.long (de0.toInt64)), (.long (nu0.toInt64)), (.int (0 : Int32)), (.ref b1)])) _
    refine XS.lmul X4.here hx rfl (hb hby at_35) rfl ?_
    show Steps p.tables e below (T4.setTop (mkF m 36 #[.val (.int sz), .val (.long x0), .second, .val (.long x1), .second, .val (.long x2), .second, .val (.int (2 : Int32)), .val (.ref b1), .val (.ref b2), .unset] [(.long ((nu0.toInt64) * (de0.toInt64))), (.int (0 : Int32)), (.ref b1)])) _
    refine Jvm.Free.XS.l2dS X4.here hx rfl (hb hby at_36) rfl rfl ?_
    show Steps p.tables e below (T4.setTop (mkF m 37 #[.val (.int sz), .val (.long x0), .second, .val (.long x1), .second, .val (.long x2), .second, .val (.int (2 : Int32)), .val (.ref b1), .val (.ref b2), .unset] [(.double (FP.l2d ((nu0.toInt64) * (de0.toInt64)))), (.int (0 : Int32)), (.ref b1)])) _
    refine st5 _ ?_
    show Steps p.tables e below (T5.setTop (mkF m 38 #[.val (.int sz), .val (.long x0), .second, .val (.long x1), .second, .val (.long x2), .second, .val (.int (2 : Int32)), .val (.ref b1), .val (.ref b2), .unset] [])) _
    refine XS.aload X5.here hx rfl (hb hby at_38) rfl rfl ?_
    show Steps p.tables e below (T5.setTop (mkF m 40 #[.val (.int sz), .val (.long x0), .second, .val (.long x1), .second, .val (.long x2), .second, .val (.int (2 : Int32)), .val (.ref b1), .val (.ref b2), .unset] [(.ref b2)])) _
    refine XS.iconst X5.here hx rfl (hb hby at_40) ?_
    show Steps p.tables e below (T5.setTop (mkF m 41 #[.val (.int sz), .val (.long x0), .second, .val (.long x1), .second, .val (.long x2), .second, .val (.int (2 : Int32)), .val (.ref b1), .val (.ref b2), .unset] [(.int (0 : Int32)), (.ref b2)])) _
    refine XS.lloadN X5.here hx rfl (hb hby at_41) rfl ?_
    show Steps p.tables e below (T5.setTop (mkF m 42 #[.val (.int sz), .val (.long x0), .second, .val (.long x1), .second, .val (.long x2), .second, .val (.int (2 : Int32)), .val (.ref b1), .val (.ref b2), .unset] [(.long x0), (.int (0 : Int32)), (.ref b2)])) _
    refine st6 _ ?_
    show Steps p.tables e below (T6.setTop (mkF m 45 #[.val (.int sz), .val (.long x0), .second, .val (.long x1), .second, .val (.long x2), .second, .val (.int (2 : Int32)), .val (.ref b1), .val (.ref b2), .unset] [(.int de0), (.int (0 : Int32)), (.ref b2)])) _
    refine Jvm.Free.XS.i2dS X6.here hx rfl (hb hby at_45) rfl rfl ?_
    show Steps p.tables e below (T6.setTop (mkF m 46 #[.val (.int sz), .val (.long x0), .second, .val (.long x1), .second, .val (.long x2), .second, .val (.int (2 : Int32)), .val (.ref b1), .val (.ref b2), .unset] [(.double (FP.i2d de0)), (.int (0 : Int32)), (.ref b2)])) _
    refine st7 _ ?_
    show Steps p.tables e below (T7.setTop (mkF m 47 #[.val (.int sz), .val (.long x0), .second, .val (.long x1), .second, .val (.long x2), .second, .val (.int (2 : Int32)), .val (.ref b1), .val (.ref b2), .unset] [])) _
    refine XS.iload X7.here hx rfl (hb hby at_47) rfl ?_
    show Steps p.tables e below (T7.setTop (mkF m 49 #[.val (.int sz), .val (.long x0), .second, .val (.long x1), .second, .val (.long x2), .second, .val (.int (2 : Int32)), .val (.ref b1), .val (.ref b2), .unset] [(.int (2 : Int32))])) _
    refine XS.iconst X7.here hx rfl (hb hby at_49) ?_
    show Steps p.tables e below (T7.setTop (mkF m 50 #[.val (.int sz), .val (.long x0), .second, .val (.long x1), .second, .val (.long x2), .second, .val (.int (2 : Int32)), .val (.ref b1), .val (.ref b2), .unset] [(.int (1 : Int32)), (.int (2 : Int32))])) _
    refine XS.icmpNo X7.here hx rfl (hb hby at_50) rfl (tlt (by decide : (1 : Int32) < (2 : Int32))).2.2.2 ?_
    show Steps p.tables e below (T7.setTop (mkF m 53 #[.val (.int sz), .val (.long x0), .second, .val (.long x1), .second, .val (.long x2), .second, .val (.int (2 : Int32)), .val (.ref b1), .val (.ref b2), .unset] [])) _
    refine XS.aload X7.here hx rfl (hb hby at_53) rfl rfl ?_
    show Steps p.tables e below (T7.setTop (mkF m 55 #[.val (.int sz), .val (.long x0), .second, .val (.long x1), .second, .val (.long x2), .second, .val (.int (2 : Int32)), .val (.ref b1), .val (.ref b2), .unset] [(.ref b1)])) _
    refine XS.iconst X7.here hx rfl (hb hby at_55) ?_
    show Steps p.tables e below (T7.setTop (mkF m 56 #[.val (.int sz), .val (.long x0), .second, .val (.long x1), .second, .val (.long x2), .second, .val (.int (2 : Int32)), .val (.ref b1), .val (.ref b2), .unset] [(.int (1 : Int32)), (.ref b1)])) _
    refine XS.lloadN X7.here hx rfl (hb hby at_56) rfl ?_
    show Steps p.tables e below (T7.setTop (mkF m 57 #[.val (.int sz), .val (.long x0), .second, .val (.long x1), .second, .val (.long x2), .second, .val (.int (2 : Int32)), .val (.ref b1), .val (.ref b2), .unset] [(.long x1), (.int (1 : Int32)), (.ref b1)])) _
    refine st8 _ ?_
    show Steps p.tables e below (T8.setTop (mkF m 60 #[.val (.int sz), .val (.long x0), .second, .val (.long x1), .second, .val (.long x2), .second, .val (.int (2 : Int32)), .val (.ref b1), .val (.ref b2), .unset] [(.int nu1), (.int (1 : Int32)), (.ref b1)])) _
    refine XS.i2l X8.here hx rfl (hb hby at_60) rfl ?_
    show Steps p.tables e below (T8.setTop (mkF m 61 #[.val (.int sz), .val (.long x0), .second, .val (.long x1), .second, .val (.long x2), .second, .val (.int (2 : Int32)), .val (.ref b1), .val (.ref b2), .unset] [(.long (nu1.toInt64)), (.int (1 : Int32)), (.ref b1)])) _
    refine XS.lloadN X8.here hx rfl (hb hby at_61) rfl ?_
    show Steps p.tables e below (T8.setTop (mkF m 62 #[.val (.int sz), .val (.long x0), .second, .val (.long x1), .second, .val (.long x2), .second, .val (.int (2 : Int32)), .val (.ref b1), .val (.ref b2), .unset] [(.long x1), (.long (nu1.toInt64)), (.int (1 : Int32)), (.ref b1)])) _
    refine st9 _ ?_
    show Steps p.tables e below (T9.setTop (mkF m 65 #[.val (.int sz), .val (.long x0), .second, .val (.long x1), .second, .val (.long x2), .second, .val (.int (2 : Int32)), .val (.ref b1), .val (.ref b2), .unset] [(.int de1), (.long (nu1.toInt64)), (.int (1 : Int32)), (.ref b1)])) _
    refine XS.i2l X9.here hx rfl (hb hby at_65) rfl ?_
    show Steps p.tables e below (T9.setTop (mkF m 66 #[.val (.int sz), .val (.long x0), .second, .val (.long x1), .second, .val (.long x2), .second, .val (.int (2 : Int32)), .val (.ref b1), .val (.ref b2), .unset] [(.long (de1.toInt64)), (.long (nu1.toInt64)), (.int (1 : Int32)), (.ref b1)])) _
    refine XS.lmul X9.here hx rfl (hb hby at_66) rfl ?_
    show Steps p.tables e below (T9.setTop (mkF m 67 #[.val (.int sz), .val (.long x0), .second, .val (.long x1), .second, .val (.long x2), .second, .val (.int (2 : Int32)), .val (.ref b1), .val (.ref b2), .unset] [(.long ((nu1.toInt64) * (de1.toInt64))), (.int (1 : Int32)), (.ref b1)])) _
    refine Jvm.Free.XS.l2dS X9.here hx rfl (hb hby at_67) rfl rfl ?_
    show Steps p.tables e below (T9.setTop (mkF m 68 #[.val (.int sz), .val (.long x0), .second, .val (.long x1), .second, .val (.long x2), .second, .val (.int (2 : Int32)), .val (.ref b1), .val (.ref b2), .unset] [(.double (FP.l2d ((nu1.toInt64) * (de1.toInt64)))), (.int (1 : Int32)), (.ref b1)])) _
    refine st10 _ ?_
    show Steps p.tables e below (T10.setTop (mkF m 69 #[.val (.int sz), .val (.long x0), .second, .val (.long x1), .second, .val (.long x2), .second, .val (.int (2 : Int32)), .val (.ref b1), .val (.ref b2), .unset] [])) _
    refine XS.aload X10.here hx rfl (hb hby at_69) rfl rfl ?_
    show Steps p.tables e below (T10.setTop (mkF m 71 #[.val (.int sz), .val (.long x0), .second, .val (.long x1), .second, .val (.long x2), .second, .val (.int (2 : Int32)), .val (.ref b1), .val (.ref b2), .unset] [(.ref b2)])) _
    refine XS.iconst X10.here hx rfl (hb hby at_71) ?_
    show Steps p.tables e below (T10.setTop (mkF m 72 #[.val (.int sz), .val (.long x0), .second, .val (.long x1), .second, .val (.long x2), .second, .val (.int (2 : Int32)), .val (.ref b1), .val (.ref b2), .unset] [(.int (1 : Int32)), (.ref b2)])) _
    refine XS.lloadN X10.here hx rfl (hb hby at_72) rfl ?_
    show Steps p.tables e below (T10.setTop (mkF m 73 #[.val (.int sz), .val (.long x0), .second, .val (.long x1), .second, .val (.long x2), .second, .val (.int (2 : Int32)), .val (.ref b1), .val (.ref b2), .unset] [(.long x1), (.int (1 : Int32)), (.ref b2)])) _
    refine st11 _ ?_
    show Steps p.tables e below (T11.setTop (mkF m 76 #[.val (.int sz), .val (.long x0), .second, .val (.long x1), .second, .val (.long x2), .second, .val (.int (2 : Int32)), .val (.ref b1), .val (.ref b2), .unset] [(.int de1), (.int (1 : Int32)), (.ref b2)])) _
    refine Jvm.Free.XS.i2dS X11.here hx rfl (hb hby at_76) rfl rfl ?_
    show Steps p.tables e below (T11.setTop (mkF m 77 #[.val (.int sz), .val (.long x0), .second, .val (.long x1), .second, .val (.long x2), .second, .val (.int (2 : Int32)), .val (.ref b1), .val (.ref b2), .unset] [(.double (FP.i2d de1)), (.int (1 : Int32)), (.ref b2)])) _
    refine st12 _ ?_
    show Steps p.tables e below (T12.setTop (mkF m 78 #[.val (.int sz), .val (.long x0), .second, .val (.long x1), .second, .val (.long x2), .second, .val (.int (2 : Int32)), .val (.ref b1), .val (.ref b2), .unset] [])) _
    refine XS.iload X12.here hx rfl (hb hby at_78) rfl ?_
    show Steps p.tables e below (T12.setTop (mkF m 80 #[.val (.int sz), .val (.long x0), .second, .val (.long x1), .second, .val (.long x2), .second, .val (.int (2 : Int32)), .val (.ref b1), .val (.ref b2), .unset] [(.int (2 : Int32))])) _
    refine XS.iconst X12.here hx rfl (hb hby at_80) ?_
    show Steps p.tables e below (T12.setTop (mkF m 81 #[.val (.int sz), .val (.long x0), .second, .val (.long x1), .second, .val (.long x2), .second, .val (.int (2 : Int32)), .val (.ref b1), .val (.ref b2), .unset] [(.int (2 : Int32)), (.int (2 : Int32))])) _
    refine XS.icmpYes X12.here hx rfl (pc0 := 81) (pc' := 112) rfl (hb hby at_81) rfl (flt (by decide : ¬ ((2 : Int32) < (2 : Int32)))).2.2.2 (by decide) (by decide) ?_
    show Steps p.tables e below (T12.setTop (mkF m 112 #[.val (.int sz), .val (.long x0), .second, .val (.long x1), .second, .val (.long x2), .second, .val (.int (2 : Int32)), .val (.ref b1), .val (.ref b2), .unset] [])) _
    refine XS.aload X12.here hx rfl (hb hby at_112) rfl rfl ?_
    show Steps p.tables e below (T12.setTop (mkF m 114 #[.val (.int sz), .val (.long x0), .second, .val (.long x1), .second, .val (.long x2), .second, .val (.int (2 : Int32)), .val (.ref b1), .val (.ref b2), .unset] [(.ref b1)])) _
    refine XS.aload X12.here hx rfl (hb hby at_114) rfl rfl ?_
    show Steps p.tables e below (T12.setTop (mkF m 116 #[.val (.int sz), .val (.long x0), .second, .val (.long x1), .second, .val (.long x2), .second, .val (.int (2 : Int32)), .val (.ref b1), .val (.ref b2), .unset] [(.ref b2), (.ref b1)])) _
    refine st13 _ ?_
    show Steps p.tables e below (T13.setTop (mkF m 119 #[.val (.int sz), .val (.long x0), .second, .val (.long x1), .second, .val (.long x2), .second, .val (.int (2 : Int32)), .val (.ref b1), .val (.ref b2), .unset] [(.ref nb_13)])) _
    refine XS.astore X13.here hx rfl (hb hby at_119) rfl rfl (l' := #[.val (.int sz), .val (.long x0), .second, .val (.long x1), .second, .val (.long x2), .second, .val (.int (2 : Int32)), .val (.ref b1), .val (.ref b2), .val (.ref nb_13)]) rfl ?_
    show Steps p.tables e below (T13.setTop (mkF m 121 #[.val (.int sz), .val (.long x0), .second, .val (.long x1), .second, .val (.long x2), .second, .val (.int (2 : Int32)), .val (.ref b1), .val (.ref b2), .val (.ref nb_13)] [])) _
    refine XS.aload X13.here hx rfl (hb hby at_121) rfl rfl ?_
    show Steps p.tables e below (T13.setTop (mkF m 123 #[.val (.int sz), .val (.long x0), .second, .val (.long x1), .second, .val (.long x2), .second, .val (.int (2 : Int32)), .val (.ref b1), .val (.ref b2), .val (.ref nb_13)] [(.ref nb_13)])) _
    refine X13.arraylength hx Ar14.1 (State.isArrayOf_alike hZ.alike Ar14.2.1) (g := (mkF m 123 #[.val (.int sz), .val (.long x0), .second, .val (.long x1), .second, .val (.long x2), .second, .val (.int (2 : Int32)), .val (.ref b1), .val (.ref b2), .val (.ref nb_13)] [(.ref nb_13)])) rfl rfl (hb hby at_123) _ ?_
    rw [len_of S14 NN14]
    show Steps p.tables e below (T13.setTop (mkF m 124 #[.val (.int sz), .val (.long x0), .second, .val (.long x1), .second, .val (.long x2), .second, .val (.int (2 : Int32)), .val (.ref b1), .val (.ref b2), .val (.ref nb_13)] [(.int (2 : Int32))])) _
    refine XS.iload X13.here hx rfl (hb hby at_124) rfl ?_
    show Steps p.tables e below (T13.setTop (mkF m 126 #[.val (.int sz), .val (.long x0), .second, .val (.long x1), .second, .val (.long x2), .second, .val (.int (2 : Int32)), .val (.ref b1), .val (.ref b2), .val (.ref nb_13)] [(.int (2 : Int32)), (.int (2 : Int32))])) _
    refine XS.icmpYes X13.here hx rfl (pc0 := 126) (pc' := 131) rfl (hb hby at_126) rfl (teq (rfl : (2 : Int32) = (2 : Int32))).1 (by decide) (by decide) ?_
    show Steps p.tables e below (T13.setTop (mkF m 131 #[.val (.int sz), .val (.long x0), .second, .val (.long x1), .second, .val (.long x2), .second, .val (.int (2 : Int32)), .val (.ref b1), .val (.ref b2), .val (.ref nb_13)] [])) _
    refine XS.iload X13.here hx rfl (hb hby at_131) rfl ?_
    show Steps p.tables e below (T13.setTop (mkF m 133 #[.val (.int sz), .val (.long x0), .second, .val (.long x1), .second, .val (.long x2), .second, .val (.int (2 : Int32)), .val (.ref b1), .val (.ref b2), .val (.ref nb_13)] [(.int (2 : Int32))])) _
    refine XS.ifNo X13.here hx rfl (hb hby at_133) rfl ((if0 _ _).trans (tlt (by decide : (0 : Int32) < (2 : Int32))).2.2.2) ?_
    show Steps p.tables e below (T13.setTop (mkF m 136 #[.val (.int sz), .val (.long x0), .second, .val (.long x1), .second, .val (.long x2), .second, .val (.int (2 : Int32)), .val (.ref b1), .val (.ref b2), .val (.ref nb_13)] [])) _
    refine XS.aload X13.here hx rfl (hb hby at_136) rfl rfl ?_
    show Steps p.tables e below (T13.setTop (mkF m 138 #[.val (.int sz), .val (.long x0), .second, .val (.long x1), .second, .val (.long x2), .second, .val (.int (2 : Int32)), .val (.ref b1), .val (.ref b2), .val (.ref nb_13)] [(.ref nb_13)])) _
    refine XS.iconst X13.here hx rfl (hb hby at_138) ?_
    show Steps p.tables e below (T13.setTop (mkF m 139 #[.val (.int sz), .val (.long x0), .second, .val (.long x1), .second, .val (.long x2), .second, .val (.int (2 : Int32)), .val (.ref b1), .val (.ref b2), .val (.ref nb_13)] [(.int (0 : Int32)), (.ref nb_13)])) _
    refine X13.daload hx (j := (0 : Int32)) (v := (.double (FP.ddiv (FP.l2d ((nu0.toInt64) * (de0.toInt64))) (FP.i2d de0)))) Ar15.1 (State.isArrayOf_alike hZ.alike Ar15.2.1) Ar15.2.2 hin15 hat15 (g := (mkF m 139 #[.val (.int sz), .val (.long x0), .second, .val (.long x1), .second, .val (.long x2), .second, .val (.int (2 : Int32)), .val (.ref b1), .val (.ref b2), .val (.ref nb_13)] [(.int (0 : Int32)), (.ref nb_13)])) rfl rfl (hb hby at_139) _ ?_
    show Steps p.tables e below (T13.setTop (mkF m 140 #[.val (.int sz), .val (.long x0), .second, .val (.long x1), .second, .val (.long x2), .second, .val (.int (2 : Int32)), .val (.ref b1), .val (.ref b2), .val (.ref nb_13)] [(.double (FP.ddiv (FP.l2d ((nu0.toInt64) * (de0.toInt64))) (FP.i2d de0)))])) _
    refine XS.lloadN X13.here hx rfl (hb hby at_140) rfl ?_
    show Steps p.tables e below (T13.setTop (mkF m 141 #[.val (.int sz), .val (.long x0), .second, .val (.long x1), .second, .val (.long x2), .second, .val (.int (2 : Int32)), .val (.ref b1), .val (.ref b2), .val (.ref nb_13)] [(.long x0), (.double (FP.ddiv (FP.l2d ((nu0.toInt64) * (de0.toInt64))) (FP.i2d de0)))])) _
    refine st16 _ ?_
    show Steps p.tables e below (T16.setTop (mkF m 144 #[.val (.int sz), .val (.long x0), .second, .val (.long x1), .second, .val (.long x2), .second, .val (.int (2 : Int32)), .val (.ref b1), .val (.ref b2), .val (.ref nb_13)] [(.int nu0), (.double (FP.ddiv (FP.l2d ((nu0.toInt64) * (de0.toInt64))) (FP.i2d de0)))])) _
    refine Jvm.Free.XS.i2dS X16.here hx rfl (hb hby at_144) rfl rfl ?_
    show Steps p.tables e below (T16.setTop (mkF m 145 #[.val (.int sz), .val (.long x0), .second, .val (.long x1), .second, .val (.long x2), .second, .val (.int (2 : Int32)), .val (.ref b1), .val (.ref b2), .val (.ref nb_13)] [(.double (FP.i2d nu0)), (.double (FP.ddiv (FP.l2d ((nu0.toInt64) * (de0.toInt64))) (FP.i2d de0)))])) _
    refine Jvm.Free.XS.dcmpS X16.here hx rfl (hb hby at_145) rfl cm0 ?_
    show Steps p.tables e below (T16.setTop (mkF m 146 #[.val (.int sz), .val (.long x0), .second, .val (.long x1), .second, .val (.long x2), .second, .val (.int (2 : Int32)), .val (.ref b1), .val (.ref b2), .val (.ref nb_13)] [(.int (0 : Int32))])) _
    refine XS.ifYes X16.here hx rfl (pc0 := 146) (pc' := 151) rfl (hb hby at_146) rfl ((if0 _ _).trans (teq (rfl : (0 : Int32) = (0 : Int32))).1) (by decide) (by decide) ?_
    show Steps p.tables e below (T16.setTop (mkF m 151 #[.val (.int sz), .val (.long x0), .second, .val (.long x1), .second, .val (.long x2), .second, .val (.int (2 : Int32)), .val (.ref b1), .val (.ref b2), .val (.ref nb_13)] [])) _
    refine XS.iload X16.here hx rfl (hb hby at_151) rfl ?_
    show Steps p.tables e below (T16.setTop (mkF m 153 #[.val (.int sz), .val (.long x0), .second, .val (.long x1), .second, .val (.long x2), .second, .val (.int (2 : Int32)), .val (.ref b1), .val (.ref b2), .val (.ref nb_13)] [(.int (2 : Int32))])) _
    refine XS.iconst X16.here hx rfl (hb hby at_153) ?_
    show Steps p.tables e below (T16.setTop (mkF m 154 #[.val (.int sz), .val (.long x0), .second, .val (.long x1), .second, .val (.long x2), .second, .val (.int (2 : Int32)), .val (.ref b1), .val (.ref b2), .val (.ref nb_13)] [(.int (1 : Int32)), (.int (2 : Int32))])) _
    refine XS.icmpNo X16.here hx rfl (hb hby at_154) rfl (tlt (by decide : (1 : Int32) < (2 : Int32))).2.2.2 ?_
    show Steps p.tables e below (T16.setTop (mkF m 157 #[.val (.int sz), .val (.long x0), .second, .val (.long x1), .second, .val (.long x2), .second, .val (.int (2 : Int32)), .val (.ref b1), .val (.ref b2), .val (.ref nb_13)] [])) _
    refine XS.aload X16.here hx rfl (hb hby at_157) rfl rfl ?_
    show Steps p.tables e below (T16.setTop (mkF m 159 #[.val (.int sz), .val (.long x0), .second, .val (.long x1), .second, .val (.long x2), .second, .val (.int (2 : Int32)), .val (.ref b1), .val (.ref b2), .val (.ref nb_13)] [(.ref nb_13)])) _
    refine XS.iconst X16.here hx rfl (hb hby at_159) ?_
    show Steps p.tables e below (T16.setTop (mkF m 160 #[.val (.int sz), .val (.long x0), .second, .val (.long x1), .second, .val (.long x2), .second, .val (.int (2 : Int32)), .val (.ref b1), .val (.ref b2), .val (.ref nb_13)] [(.int (1 : Int32)), (.ref nb_13)])) _
    refine X16.daload hx (j := (1 : Int32)) (v := (.double (FP.ddiv (FP.l2d ((nu1.toInt64) * (de1.toInt64))) (FP.i2d de1)))) (by rw [e16]; exact Ar17.1) (State.isArrayOf_alike hZ.alike Ar17.2.1) Ar17.2.2 hin17 hat17 (g := (mkF m 160 #[.val (.int sz), .val (.long x0), .second, .val (.long x1), .second, .val (.long x2), .second, .val (.int (2 : Int32)), .val (.ref b1), .val (.ref b2), .val (.ref nb_13)] [(.int (1 : Int32)), (.ref nb_13)])) rfl rfl (hb hby at_160) _ ?_
    show Steps p.tables e below (T16.setTop (mkF m 161 #[.val (.int sz), .val (.long x0), .second, .val (.long x1), .second, .val (.long x2), .second, .val (.int (2 : Int32)), .val (.ref b1), .val (.ref b2), .val (.ref nb_13)] [(.double (FP.ddiv (FP.l2d ((nu1.toInt64) * (de1.toInt64))) (FP.i2d de1)))])) _
    refine XS.lloadN X16.here hx rfl (hb hby at_161) rfl ?_
    show Steps p.tables e below (T16.setTop (mkF m 162 #[.val (.int sz), .val (.long x0), .second, .val (.long x1), .second, .val (.long x2), .second, .val (.int (2 : Int32)), .val (.ref b1), .val (.ref b2), .val (.ref nb_13)] [(.long x1), (.double (FP.ddiv (FP.l2d ((nu1.toInt64) * (de1.toInt64))) (FP.i2d de1)))])) _
    refine st18 _ ?_
    show Steps p.tables e below (T18.setTop (mkF m 165 #[.val (.int sz), .val (.long x0), .second, .val (.long x1), .second, .val (.long x2), .second, .val (.int (2 : Int32)), .val (.ref b1), .val (.ref b2), .val (.ref nb_13)] [(.int nu1), (.double (FP.ddiv (FP.l2d ((nu1.toInt64) * (de1.toInt64))) (FP.i2d de1)))])) _
    refine Jvm.Free.XS.i2dS X18.here hx rfl (hb hby at_165) rfl rfl ?_
    show Steps p.tables e below (T18.setTop (mkF m 166 #[.val (.int sz), .val (.long x0), .second, .val (.long x1), .second, .val (.long x2), .second, .val (.int (2 : Int32)), .val (.ref b1), .val (.ref b2), .val (.ref nb_13)] [(.double (FP.i2d nu1)), (.double (FP.ddiv (FP.l2d ((nu1.toInt64) * (de1.toInt64))) (FP.i2d de1)))])) _
    refine Jvm.Free.XS.dcmpS X18.here hx rfl (hb hby at_166) rfl cm1 ?_
    show Steps p.tables e below (T18.setTop (mkF m 167 #[.val (.int sz), .val (.long x0), .second, .val (.long x1), .second, .val (.long x2), .second, .val (.int (2 : Int32)), .val (.ref b1), .val (.ref b2), .val (.ref nb_13)] [(.int (0 : Int32))])) _
    refine XS.ifYes X18.here hx rfl (pc0 := 167) (pc' := 172) rfl (hb hby at_167) rfl ((if0 _ _).trans (teq (rfl : (0 : Int32) = (0 : Int32))).1) (by decide) (by decide) ?_
    show Steps p.tables e below (T18.setTop (mkF m 172 #[.val (.int sz), .val (.long x0), .second, .val (.long x1), .second, .val (.long x2), .second, .val (.int (2 : Int32)), .val (.ref b1), .val (.ref b2), .val (.ref nb_13)] [])) _
    refine XS.iload X18.here hx rfl (hb hby at_172) rfl ?_
    show Steps p.tables e below (T18.setTop (mkF m 174 #[.val (.int sz), .val (.long x0), .second, .val (.long x1), .second, .val (.long x2), .second, .val (.int (2 : Int32)), .val (.ref b1), .val (.ref b2), .val (.ref nb_13)] [(.int (2 : Int32))])) _
    refine XS.iconst X18.here hx rfl (hb hby at_174) ?_
    show Steps p.tables e below (T18.setTop (mkF m 175 #[.val (.int sz), .val (.long x0), .second, .val (.long x1), .second, .val (.long x2), .second, .val (.int (2 : Int32)), .val (.ref b1), .val (.ref b2), .val (.ref nb_13)] [(.int (2 : Int32)), (.int (2 : Int32))])) _
    refine XS.icmpYes X18.here hx rfl (pc0 := 175) (pc' := 194) rfl (hb hby at_175) rfl (flt (by decide : ¬ ((2 : Int32) < (2 : Int32)))).2.2.2 (by decide) (by decide) ?_
    show Steps p.tables e below (T18.setTop (mkF m 194 #[.val (.int sz), .val (.long x0), .second, .val (.long x1), .second, .val (.long x2), .second, .val (.int (2 : Int32)), .val (.ref b1), .val (.ref b2), .val (.ref nb_13)] [])) _
    refine XS.iconst X18.here hx rfl (hb hby at_194) ?_
    show Steps p.tables e below (T18.setTop (mkF m 195 #[.val (.int sz), .val (.long x0), .second, .val (.long x1), .second, .val (.long x2), .second, .val (.int (2 : Int32)), .val (.ref b1), .val (.ref b2), .val (.ref nb_13)] [(.int (1 : Int32))])) _
    exact retN X18 hx (t := .boolean) Bd.returns (by simp) (hb hby at_195) hr
  · show Q_rm0_2 Z sz x0 x1 x2 nu0 de0 nu1 de1 nu2 de2 h0 n0 _ T18.heap _
    rw [e18]
    exact ⟨rfl, N18⟩
def Q_rm0_3 (Z : State) (sz : Int32) (x0 : Int64) (x1 : Int64) (x2 : Int64) (nu0 : Int32) (de0 : Int32) (nu1 : Int32) (de1 : Int32) (nu2 : Int32) (de2 : Int32) (h0 : Heap) (n0 : Nat) (v : Option Value) (h : Heap) (L : List Loc) : Prop := v = some (.int (1 : Int32)) ∧ Fr n0 L
theorem ef_rm0_3 (m : MethodId) (sz : Int32) (x0 : Int64) (x1 : Int64) (x2 : Int64) : entryFrame m #[(.int sz), (.long x0), (.long x1), (.long x2)] maxLocals = mkF m 0 #[.val (.int sz), .val (.long x0), .second, .val (.long x1), .second, .val (.long x2), .second, .unset, .unset, .unset, .unset] [] := by first | (simp [entryFrame, mkF, argsToLocals, Value.category, maxLocals]; done) | rfl
set_option maxRecDepth 65536 in
set_option maxHeartbeats 40000000 in
theorem rm0_3 (l : Launch) (Z : State) (a0 : Array Value) (hw : ∀ d ∈ tables_1, d.before a0 Z = true) (ws : List Jvm.Cond) (sz : Int32) (x0 : Int64) (x1 : Int64) (x2 : Int64) (nu0 : Int32) (de0 : Int32) (nu1 : Int32) (de1 : Int32) (nu2 : Int32) (de2 : Int32) (h0 : Heap) (n0 : Nat) (X00 : Old Z n0 h0) (hsz : (sz &&& (3 : Int32)) = (3 : Int32)) (PN0 : ∀ h, n0 ≤ h.size → OwnPure l Z h n0 (⟨"com/example/huron/huron/testing/TimedTurnsRatiosPinLaw", "num", "(J)I"⟩ : MethodName) method_2_code 2 (some .int) ({ frames := 0, cells := 0, slots := 0, locals := 0 } : Room) #[.long x0] (.int nu0)) (PD0 : ∀ h, n0 ≤ h.size → OwnPure l Z h n0 (⟨"com/example/huron/huron/testing/TimedTurnsRatiosPinLaw", "den", "(J)I"⟩ : MethodName) method_3_code 3 (some .int) ({ frames := 0, cells := 0, slots := 0, locals := 0 } : Room) #[.long x0] (.int de0)) (PN1 : ∀ h, n0 ≤ h.size → OwnPure l Z h n0 (⟨"com/example/huron/huron/testing/TimedTurnsRatiosPinLaw", "num", "(J)I"⟩ : MethodName) method_2_code 2 (some .int) ({ frames := 0, cells := 0, slots := 0, locals := 0 } : Room) #[.long x1] (.int nu1)) (PD1 : ∀ h, n0 ≤ h.size → OwnPure l Z h n0 (⟨"com/example/huron/huron/testing/TimedTurnsRatiosPinLaw", "den", "(J)I"⟩ : MethodName) method_3_code 3 (some .int) ({ frames := 0, cells := 0, slots := 0, locals := 0 } : Room) #[.long x1] (.int de1)) (PN2 : ∀ h, n0 ≤ h.size → OwnPure l Z h n0 (⟨"com/example/huron/huron/testing/TimedTurnsRatiosPinLaw", "num", "(J)I"⟩ : MethodName) method_2_code 2 (some .int) ({ frames := 0, cells := 0, slots := 0, locals := 0 } : Room) #[.long x2] (.int nu2)) (PD2 : ∀ h, n0 ≤ h.size → OwnPure l Z h n0 (⟨"com/example/huron/huron/testing/TimedTurnsRatiosPinLaw", "den", "(J)I"⟩ : MethodName) method_3_code 3 (some .int) ({ frames := 0, cells := 0, slots := 0, locals := 0 } : Room) #[.long x2] (.int de2)) (nn0 : Jvm.Free.Fl.NoNaN64 (FP.ddiv (FP.l2d (nu0.toInt64 * de0.toInt64)) (FP.i2d de0))) (nn1 : Jvm.Free.Fl.NoNaN64 (FP.ddiv (FP.l2d (nu1.toInt64 * de1.toInt64)) (FP.i2d de1))) (nn2 : Jvm.Free.Fl.NoNaN64 (FP.ddiv (FP.l2d (nu2.toInt64 * de2.toInt64)) (FP.i2d de2))) (cm0 : cmpValue (FP.dcmp (FP.ddiv (FP.l2d (nu0.toInt64 * de0.toInt64)) (FP.i2d de0)) (FP.i2d nu0)) .l = (0 : Int32)) (cm1 : cmpValue (FP.dcmp (FP.ddiv (FP.l2d (nu1.toInt64 * de1.toInt64)) (FP.i2d de1)) (FP.i2d nu1)) .l = (0 : Int32)) (cm2 : cmpValue (FP.dcmp (FP.ddiv (FP.l2d (nu2.toInt64 * de2.toInt64)) (FP.i2d de2)) (FP.i2d nu2)) .l = (0 : Int32)) :
    MetFree l x (head1 (Jvm.Cond.code x code maxLocals ret :: ws) room_1) (fun aa U => aa = #[(.int sz), (.long x0), (.long x1), (.long x2)] ∧ Z.Warmed39 U.vm ∧ U.heap = h0) (fun _ _ _ _ _ => True) (fun _ U o U' => ∃ v L, o = .returned v ∧ Q_rm0_3 Z sz x0 x1 x2 nu0 de0 nu1 de1 nu2 de2 h0 n0 v U'.heap L ∧ FrameEnd U o U' L room_1.cells room_1.slots) := by
  refine MetFree.of_bodySF (plainFor_of_name pn_com_example_huron_huron_testing_TimedTurnsRatiosPinLaw) hisR ?_
  intro p e s m args below meth c s₁ Bd hml0 hP hK
  obtain ⟨rfl, hZ, hh⟩ := hP
  have hx := Bd.exec
  have hby := Bd.bytes
  have hml : c.maxLocals = 11 := hml0
  have hown : s.vm.findClass "com/example/huron/huron/testing/TimedTurnsRatiosPinLaw" = some m.cls := findClass_of_methodNamed Bd.named
  have hnm := (name_of_methodNamed Bd.named Bd.method).1
  have X0 : Stand p l e room_1 s m #[(.int sz), (.long x0), (.long x1), (.long x2)] below meth c s₁ [] 0 0 := Stand.of_body Bd
  have e0 : s₁.heap = h0 := by rw [← hh, Bd.state]; rfl
  have N0 := Fr.nil n0
  have Z0 : n0 ≤ h0.size := own_z0 X00
  have pre0 : ∀ t, Steps p.tables e below (s₁.setTop (mkF m 0 #[.val (.int sz), .val (.long x0), .second, .val (.long x1), .second, .val (.long x2), .second, .unset, .unset, .unset, .unset] [])) t → Steps p.tables e below (s₁.setTop (entryFrame m #[(.int sz), (.long x0), (.long x1), (.long x2)] maxLocals)) t := fun t k => castTop (ef_rm0_3 m sz x0 x1 x2) k
  obtain ⟨T1, h1, kA1, X1, e1, E1, A1, st1⟩ := newP X0 hx hZ (hw _ (List.mem_of_getElem? (i := 0) rfl)) e0 (g := (mkF m 7 #[.val (.int sz), .val (.long x0), .second, .val (.long x1), .second, .val (.long x2), .second, .val (.int (3 : Int32)), .unset, .unset, .unset] [(.int (3 : Int32))])) rfl (hb hby at_7) rfl (by decide) (cap := 3) (by decide) (by decide) (by decide) (by decide)
  obtain ⟨b1, gb1⟩ : ∃ z, z = h0.size := ⟨_, rfl⟩
  rw [← gb1] at A1 st1
  have g_b1 : n0 ≤ b1 := Nat.le_trans (own_z0 X00) (Nat.le_of_eq gb1.symm)
  have sz_b1 : h0.size ≤ b1 := Nat.le_trans (Nat.le_refl _) (Nat.le_of_eq gb1.symm)
  have X00__1 := X00.ext E1
  have K0_1 : Keep h0 h1 [] := (Keep.refl h0 []).ext E1
  have V_b1 : Arv Z h1 b1 kA1 .double (3 : Int32) [(.double (FP.l2d 0)), (.double (FP.l2d 0)), (.double (FP.l2d 0))] (.double (FP.l2d 0)) := (Arv.newD A1 (by decide)).pad (pad_rep [] (.double (FP.l2d 0)) 3)
  obtain ⟨T2, h2, kA2, X2, e2, E2, A2, st2⟩ := newP X1 hx hZ (hw _ (List.mem_of_getElem? (i := 0) rfl)) e1 (g := (mkF m 13 #[.val (.int sz), .val (.long x0), .second, .val (.long x1), .second, .val (.long x2), .second, .val (.int (3 : Int32)), .val (.ref b1), .unset, .unset] [(.int (3 : Int32))])) rfl (hb hby at_13) rfl (by decide) (cap := 3) (by decide) (by decide) (by decide) (by decide)
  obtain ⟨b2, gb2⟩ : ∃ z, z = h1.size := ⟨_, rfl⟩
  rw [← gb2] at A2 st2
  have ne_b1_b2 : b1 ≠ b2 := Nat.ne_of_lt (Nat.lt_of_lt_of_le V_b1.lt (Nat.le_of_eq gb2.symm))
  have g_b2 : n0 ≤ b2 := Nat.le_trans (own_z0 X00__1) (Nat.le_of_eq gb2.symm)
  have sz_b2 : h0.size ≤ b2 := Nat.le_trans K0_1.1 (Nat.le_of_eq gb2.symm)
  have V_b1__2 := V_b1.ext E2
  have X00__2 := X00__1.ext E2
  have K0_2 : Keep h0 h2 [] := K0_1.ext E2
  have V_b2 : Arv Z h2 b2 kA2 .double (3 : Int32) [(.double (FP.l2d 0)), (.double (FP.l2d 0)), (.double (FP.l2d 0))] (.double (FP.l2d 0)) := (Arv.newD A2 (by decide)).pad (pad_rep [] (.double (FP.l2d 0)) 3)
  obtain ⟨_, _, ⟨T3, L3, k3, n3⟩, -, X3, ⟨Lc3, hQ3, l3, y3, z3⟩, st3⟩ := Jvm.LawKit.callS X2 hx (y := (⟨"com/example/huron/huron/testing/TimedTurnsRatiosPinLaw", "num", "(J)I"⟩ : MethodName)) hown (mvT hZ (hw _ (List.mem_of_getElem? (i := 5) rfl))) (mvT hZ (hw _ (List.mem_of_getElem? (i := 6) rfl))) (mvT hZ (hw _ (List.mem_of_getElem? (i := 7) rfl))) (mvT hZ (hw _ (List.mem_of_getElem? (i := 8) rfl))) (by decide) (backOf (W := 2) (PN0 h2 (own_z0 X00__2) []) hZ (hw _ (List.mem_of_getElem? (i := 8) rfl)) (hw _ (List.mem_of_getElem? (i := 7) rfl)) (by decide) (by decide)) (g := (mkF m 26 #[.val (.int sz), .val (.long x0), .second, .val (.long x1), .second, .val (.long x2), .second, .val (.int (3 : Int32)), .val (.ref b1), .val (.ref b2), .unset] [(.long x0), (.int (0 : Int32)), (.ref b1)])) rfl (by rw [hml]; rfl) (argsL := [(.long x0)]) (rest := [(.int (0 : Int32)), (.ref b1)]) (lenOf pd__J_I rfl) rfl (by show 2 * 0 + _ ≤ _; exact Nat.le_of_eq rfl) (hb hby at_26) (fun _ _ => ⟨rfl, e2, (by decide : 2 + 0 ≤ _), (by decide : 6 + 0 ≤ _)⟩)
  dsimp only [Pt.U, Pt.locs, Pt.cells, Pt.slots] at X3 l3 y3 z3 st3 hQ3
  subst l3 y3 z3
  obtain ⟨rfl, N3q, e3⟩ := hQ3
  have N3 := Fr.app N0 N3q
  obtain ⟨_, _, ⟨T4, L4, k4, n4⟩, -, X4, ⟨Lc4, hQ4, l4, y4, z4⟩, st4⟩ := Jvm.LawKit.callS X3 hx (y := (⟨"com/example/huron/huron/testing/TimedTurnsRatiosPinLaw", "den", "(J)I"⟩ : MethodName)) hown (mvT hZ (hw _ (List.mem_of_getElem? (i := 9) rfl))) (mvT hZ (hw _ (List.mem_of_getElem? (i := 10) rfl))) (mvT hZ (hw _ (List.mem_of_getElem? (i := 7) rfl))) (mvT hZ (hw _ (List.mem_of_getElem? (i := 11) rfl))) (by decide) (backOf (W := 4) (PD0 h2 (own_z0 X00__2) []) hZ (hw _ (List.mem_of_getElem? (i := 11) rfl)) (hw _ (List.mem_of_getElem? (i := 7) rfl)) (by decide) (by decide)) (g := (mkF m 31 #[.val (.int sz), .val (.long x0), .second, .val (.long x1), .second, .val (.long x2), .second, .val (.int (3 : Int32)), .val (.ref b1), .val (.ref b2), .unset] [(.long x0), (.long (nu0.toInt64)), (.int (0 : Int32)), (.ref b1)])) rfl (by rw [hml]; rfl) (argsL := [(.long x0)]) (rest := [(.long (nu0.toInt64)), (.int (0 : Int32)), (.ref b1)]) (lenOf pd__J_I rfl) rfl (by show 2 * 0 + _ ≤ _; exact Nat.le_of_eq rfl) (hb hby at_31) (fun _ _ => ⟨rfl, e3, (by decide : 2 + 0 ≤ _), (by decide : 6 + 0 ≤ _)⟩)
  dsimp only [Pt.U, Pt.locs, Pt.cells, Pt.slots] at X4 l4 y4 z4 st4 hQ4
  subst l4 y4 z4
  obtain ⟨rfl, N4q, e4⟩ := hQ4
  have N4 := Fr.app N3 N4q
  obtain ⟨cl5, Ar5, q5, S5, NN5, HH5, G5⟩ := id V_b1__2
  have hin5 : ¬ ((0 : Int32) < 0 ∨ cl5.slots.size ≤ ((0 : Int32)).toNatClampNeg) := inb_of S5 ⟨by decide, by decide⟩
  obtain ⟨T5, h5, X5, e5, W5, st5⟩ := stD X4 hx hZ e4 Ar5 (j := (0 : Int32)) hin5 (g := (mkF m 37 #[.val (.int sz), .val (.long x0), .second, .val (.long x1), .second, .val (.long x2), .second, .val (.int (3 : Int32)), .val (.ref b1), .val (.ref b2), .unset] [(.double (FP.l2d ((nu0.toInt64) * (de0.toInt64)))), (.int (0 : Int32)), (.ref b1)])) rfl rfl (hb hby at_37)
  have V_b2__5 := V_b2.other W5 (Ne.symm ne_b1_b2)
  have X00__5 := X00__2.wr W5 g_b1
  have K0_5 : Keep h0 h5 [] := K0_2.wr W5 (Or.inr sz_b1)
  have N5 := Fr.snoc X5 N4 g_b1
  have V_b1__5 : Arv Z h5 b1 kA1 .double (3 : Int32) [(.double (FP.l2d ((nu0.toInt64) * (de0.toInt64)))), (.double (FP.l2d 0)), (.double (FP.l2d 0))] (.double (FP.l2d 0)) := Arv.set Ar5 q5 S5 NN5 HH5 G5 rfl W5 0 rfl (Nat.le_of_ble_eq_true rfl)
  obtain ⟨_, _, ⟨T6, L6, k6, n6⟩, -, X6, ⟨Lc6, hQ6, l6, y6, z6⟩, st6⟩ := Jvm.LawKit.callS X5 hx (y := (⟨"com/example/huron/huron/testing/TimedTurnsRatiosPinLaw", "den", "(J)I"⟩ : MethodName)) hown (mvT hZ (hw _ (List.mem_of_getElem? (i := 9) rfl))) (mvT hZ (hw _ (List.mem_of_getElem? (i := 10) rfl))) (mvT hZ (hw _ (List.mem_of_getElem? (i := 7) rfl))) (mvT hZ (hw _ (List.mem_of_getElem? (i := 11) rfl))) (by decide) (backOf (W := 2) (PD0 h5 (own_z0 X00__5) []) hZ (hw _ (List.mem_of_getElem? (i := 11) rfl)) (hw _ (List.mem_of_getElem? (i := 7) rfl)) (by decide) (by decide)) (g := (mkF m 42 #[.val (.int sz), .val (.long x0), .second, .val (.long x1), .second, .val (.long x2), .second, .val (.int (3 : Int32)), .val (.ref b1), .val (.ref b2), .unset] [(.long x0), (.int (0 : Int32)), (.ref b2)])) rfl (by rw [hml]; rfl) (argsL := [(.long x0)]) (rest := [(.int (0 : Int32)), (.ref b2)]) (lenOf pd__J_I rfl) rfl (by show 2 * 0 + _ ≤ _; exact Nat.le_of_eq rfl) (hb hby at_42) (fun _ _ => ⟨rfl, e5, (by decide : 2 + 0 ≤ _), (by decide : 6 + 0 ≤ _)⟩)
  dsimp only [Pt.U, Pt.locs, Pt.cells, Pt.slots] at X6 l6 y6 z6 st6 hQ6
  subst l6 y6 z6
  obtain ⟨rfl, N6q, e6⟩ := hQ6
  have N6 := Fr.app N5 N6q
  obtain ⟨cl7, Ar7, q7, S7, NN7, HH7, G7⟩ := id V_b2__5
  have hin7 : ¬ ((0 : Int32) < 0 ∨ cl7.slots.size ≤ ((0 : Int32)).toNatClampNeg) := inb_of S7 ⟨by decide, by decide⟩
  obtain ⟨T7, h7, X7, e7, W7, st7⟩ := stD X6 hx hZ e6 Ar7 (j := (0 : Int32)) hin7 (g := (mkF m 46 #[.val (.int sz), .val (.long x0), .second, .val (.long x1), .second, .val (.long x2), .second, .val (.int (3 : Int32)), .val (.ref b1), .val (.ref b2), .unset] [(.double (FP.i2d de0)), (.int (0 : Int32)), (.ref b2)])) rfl rfl (hb hby at_46)
  have V_b1__7 := V_b1__5.other W7 ne_b1_b2
  have X00__7 := X00__5.wr W7 g_b2
  have K0_7 : Keep h0 h7 [] := K0_5.wr W7 (Or.inr sz_b2)
  have N7 := Fr.snoc X7 N6 g_b2
  have V_b2__7 : Arv Z h7 b2 kA2 .double (3 : Int32) [(.double (FP.i2d de0)), (.double (FP.l2d 0)), (.double (FP.l2d 0))] (.double (FP.l2d 0)) := Arv.set Ar7 q7 S7 NN7 HH7 G7 rfl W7 0 rfl (Nat.le_of_ble_eq_true rfl)
  obtain ⟨_, _, ⟨T8, L8, k8, n8⟩, -, X8, ⟨Lc8, hQ8, l8, y8, z8⟩, st8⟩ := Jvm.LawKit.callS X7 hx (y := (⟨"com/example/huron/huron/testing/TimedTurnsRatiosPinLaw", "num", "(J)I"⟩ : MethodName)) hown (mvT hZ (hw _ (List.mem_of_getElem? (i := 5) rfl))) (mvT hZ (hw _ (List.mem_of_getElem? (i := 6) rfl))) (mvT hZ (hw _ (List.mem_of_getElem? (i := 7) rfl))) (mvT hZ (hw _ (List.mem_of_getElem? (i := 8) rfl))) (by decide) (backOf (W := 2) (PN1 h7 (own_z0 X00__7) []) hZ (hw _ (List.mem_of_getElem? (i := 8) rfl)) (hw _ (List.mem_of_getElem? (i := 7) rfl)) (by decide) (by decide)) (g := (mkF m 57 #[.val (.int sz), .val (.long x0), .second, .val (.long x1), .second, .val (.long x2), .second, .val (.int (3 : Int32)), .val (.ref b1), .val (.ref b2), .unset] [(.long x1), (.int (1 : Int32)), (.ref b1)])) rfl (by rw [hml]; rfl) (argsL := [(.long x1)]) (rest := [(.int (1 : Int32)), (.ref b1)]) (lenOf pd__J_I rfl) rfl (by show 2 * 0 + _ ≤ _; exact Nat.le_of_eq rfl) (hb hby at_57) (fun _ _ => ⟨rfl, e7, (by decide : 2 + 0 ≤ _), (by decide : 6 + 0 ≤ _)⟩)
  dsimp only [Pt.U, Pt.locs, Pt.cells, Pt.slots] at X8 l8 y8 z8 st8 hQ8
  subst l8 y8 z8
  obtain ⟨rfl, N8q, e8⟩ := hQ8
  have N8 := Fr.app N7 N8q
  obtain ⟨_, _, ⟨T9, L9, k9, n9⟩, -, X9, ⟨Lc9, hQ9, l9, y9, z9⟩, st9⟩ := Jvm.LawKit.callS X8 hx (y := (⟨"com/example/huron/huron/testing/TimedTurnsRatiosPinLaw", "den", "(J)I"⟩ : MethodName)) hown (mvT hZ (hw _ (List.mem_of_getElem? (i := 9) rfl))) (mvT hZ (hw _ (List.mem_of_getElem? (i := 10) rfl))) (mvT hZ (hw _ (List.mem_of_getElem? (i := 7) rfl))) (mvT hZ (hw _ (List.mem_of_getElem? (i := 11) rfl))) (by decide) (backOf (W := 4) (PD1 h7 (own_z0 X00__7) []) hZ (hw _ (List.mem_of_getElem? (i := 11) rfl)) (hw _ (List.mem_of_getElem? (i := 7) rfl)) (by decide) (by decide)) (g := (mkF m 62 #[.val (.int sz), .val (.long x0), .second, .val (.long x1), .second, .val (.long x2), .second, .val (.int (3 : Int32)), .val (.ref b1), .val (.ref b2), .unset] [(.long x1), (.long (nu1.toInt64)), (.int (1 : Int32)), (.ref b1)])) rfl (by rw [hml]; rfl) (argsL := [(.long x1)]) (rest := [(.long (nu1.toInt64)), (.int (1 : Int32)), (.ref b1)]) (lenOf pd__J_I rfl) rfl (by show 2 * 0 + _ ≤ _; exact Nat.le_of_eq rfl) (hb hby at_62) (fun _ _ => ⟨rfl, e8, (by decide : 2 + 0 ≤ _), (by decide : 6 + 0 ≤ _)⟩)
  dsimp only [Pt.U, Pt.locs, Pt.cells, Pt.slots] at X9 l9 y9 z9 st9 hQ9
  subst l9 y9 z9
  obtain ⟨rfl, N9q, e9⟩ := hQ9
  have N9 := Fr.app N8 N9q
  obtain ⟨cl10, Ar10, q10, S10, NN10, HH10, G10⟩ := id V_b1__7
  have hin10 : ¬ ((1 : Int32) < 0 ∨ cl10.slots.size ≤ ((1 : Int32)).toNatClampNeg) := inb_of S10 ⟨by decide, by decide⟩
  obtain ⟨T10, h10, X10, e10, W10, st10⟩ := stD X9 hx hZ e9 Ar10 (j := (1 : Int32)) hin10 (g := (mkF m 68 #[.val (.int sz), .val (.long x0), .second, .val (.long x1), .second, .val (.long x2), .second, .val (.int (3 : Int32)), .val (.ref b1), .val (.ref b2), .unset] [(.double (FP.l2d ((nu1.toInt64) * (de1.toInt64)))), (.int (1 : Int32)), (.ref b1)])) rfl rfl (hb hby at_68)
  have V_b2__10 := V_b2__7.other W10 (Ne.symm ne_b1_b2)
  have X00__10 := X00__7.wr W10 g_b1
  have K0_10 : Keep h0 h10 [] := K0_7.wr W10 (Or.inr sz_b1)
  have N10 := Fr.snoc X10 N9 g_b1
  have V_b1__10 : Arv Z h10 b1 kA1 .double (3 : Int32) [(.double (FP.l2d ((nu0.toInt64) * (de0.toInt64)))), (.double (FP.l2d ((nu1.toInt64) * (de1.toInt64)))), (.double (FP.l2d 0))] (.double (FP.l2d 0)) := Arv.set Ar10 q10 S10 NN10 HH10 G10 rfl W10 1 rfl (Nat.le_of_ble_eq_true rfl)
  obtain ⟨_, _, ⟨T11, L11, k11, n11⟩, -, X11, ⟨Lc11, hQ11, l11, y11, z11⟩, st11⟩ := Jvm.LawKit.callS X10 hx (y := (⟨"com/example/huron/huron/testing/TimedTurnsRatiosPinLaw", "den", "(J)I"⟩ : MethodName)) hown (mvT hZ (hw _ (List.mem_of_getElem? (i := 9) rfl))) (mvT hZ (hw _ (List.mem_of_getElem? (i := 10) rfl))) (mvT hZ (hw _ (List.mem_of_getElem? (i := 7) rfl))) (mvT hZ (hw _ (List.mem_of_getElem? (i := 11) rfl))) (by decide) (backOf (W := 2) (PD1 h10 (own_z0 X00__10) []) hZ (hw _ (List.mem_of_getElem? (i := 11) rfl)) (hw _ (List.mem_of_getElem? (i := 7) rfl)) (by decide) (by decide)) (g := (mkF m 73 #[.val (.int sz), .val (.long x0), .second, .val (.long x1), .second, .val (.long x2), .second, .val (.int (3 : Int32)), .val (.ref b1), .val (.ref b2), .unset] [(.long x1), (.int (1 : Int32)), (.ref b2)])) rfl (by rw [hml]; rfl) (argsL := [(.long x1)]) (rest := [(.int (1 : Int32)), (.ref b2)]) (lenOf pd__J_I rfl) rfl (by show 2 * 0 + _ ≤ _; exact Nat.le_of_eq rfl) (hb hby at_73) (fun _ _ => ⟨rfl, e10, (by decide : 2 + 0 ≤ _), (by decide : 6 + 0 ≤ _)⟩)
  dsimp only [Pt.U, Pt.locs, Pt.cells, Pt.slots] at X11 l11 y11 z11 st11 hQ11
  subst l11 y11 z11
  obtain ⟨rfl, N11q, e11⟩ := hQ11
  have N11 := Fr.app N10 N11q
  obtain ⟨cl12, Ar12, q12, S12, NN12, HH12, G12⟩ := id V_b2__10
  have hin12 : ¬ ((1 : Int32) < 0 ∨ cl12.slots.size ≤ ((1 : Int32)).toNatClampNeg) := inb_of S12 ⟨by decide, by decide⟩
  obtain ⟨T12, h12, X12, e12, W12, st12⟩ := stD X11 hx hZ e11 Ar12 (j := (1 : Int32)) hin12 (g := (mkF m 77 #[.val (.int sz), .val (.long x0), .second, .val (.long x1), .second, .val (.long x2), .second, .val (.int (3 : Int32)), .val (.ref b1), .val (.ref b2), .unset] [(.double (FP.i2d de1)), (.int (1 : Int32)), (.ref b2)])) rfl rfl (hb hby at_77)
  have V_b1__12 := V_b1__10.other W12 ne_b1_b2
  have X00__12 := X00__10.wr W12 g_b2
  have K0_12 : Keep h0 h12 [] := K0_10.wr W12 (Or.inr sz_b2)
  have N12 := Fr.snoc X12 N11 g_b2
  have V_b2__12 : Arv Z h12 b2 kA2 .double (3 : Int32) [(.double (FP.i2d de0)), (.double (FP.i2d de1)), (.double (FP.l2d 0))] (.double (FP.l2d 0)) := Arv.set Ar12 q12 S12 NN12 HH12 G12 rfl W12 1 rfl (Nat.le_of_ble_eq_true rfl)
  obtain ⟨_, _, ⟨T13, L13, k13, n13⟩, -, X13, ⟨Lc13, hQ13, l13, y13, z13⟩, st13⟩ := Jvm.LawKit.callS X12 hx (y := (⟨"com/example/huron/huron/testing/TimedTurnsRatiosPinLaw", "num", "(J)I"⟩ : MethodName)) hown (mvT hZ (hw _ (List.mem_of_getElem? (i := 5) rfl))) (mvT hZ (hw _ (List.mem_of_getElem? (i := 6) rfl))) (mvT hZ (hw _ (List.mem_of_getElem? (i := 7) rfl))) (mvT hZ (hw _ (List.mem_of_getElem? (i := 8) rfl))) (by decide) (backOf (W := 2) (PN2 h12 (own_z0 X00__12) []) hZ (hw _ (List.mem_of_getElem? (i := 8) rfl)) (hw _ (List.mem_of_getElem? (i := 7) rfl)) (by decide) (by decide)) (g := (mkF m 89 #[.val (.int sz), .val (.long x0), .second, .val (.long x1), .second, .val (.long x2), .second, .val (.int (3 : Int32)), .val (.ref b1), .val (.ref b2), .unset] [(.long x2), (.int (2 : Int32)), (.ref b1)])) rfl (by rw [hml]; rfl) (argsL := [(.long x2)]) (rest := [(.int (2 : Int32)), (.ref b1)]) (lenOf pd__J_I rfl) rfl (by show 2 * 0 + _ ≤ _; exact Nat.le_of_eq rfl) (hb hby at_89) (fun _ _ => ⟨rfl, e12, (by decide : 2 + 0 ≤ _), (by decide : 6 + 0 ≤ _)⟩)
  dsimp only [Pt.U, Pt.locs, Pt.cells, Pt.slots] at X13 l13 y13 z13 st13 hQ13
  subst l13 y13 z13
  obtain ⟨rfl, N13q, e13⟩ := hQ13
  have N13 := Fr.app N12 N13q
  obtain ⟨_, _, ⟨T14, L14, k14, n14⟩, -, X14, ⟨Lc14, hQ14, l14, y14, z14⟩, st14⟩ := Jvm.LawKit.callS X13 hx (y := (⟨"com/example/huron/huron/testing/TimedTurnsRatiosPinLaw", "den", "(J)I"⟩ : MethodName)) hown (mvT hZ (hw _ (List.mem_of_getElem? (i := 9) rfl))) (mvT hZ (hw _ (List.mem_of_getElem? (i := 10) rfl))) (mvT hZ (hw _ (List.mem_of_getElem? (i := 7) rfl))) (mvT hZ (hw _ (List.mem_of_getElem? (i := 11) rfl))) (by decide) (backOf (W := 4) (PD2 h12 (own_z0 X00__12) []) hZ (hw _ (List.mem_of_getElem? (i := 11) rfl)) (hw _ (List.mem_of_getElem? (i := 7) rfl)) (by decide) (by decide)) (g := (mkF m 95 #[.val (.int sz), .val (.long x0), .second, .val (.long x1), .second, .val (.long x2), .second, .val (.int (3 : Int32)), .val (.ref b1), .val (.ref b2), .unset] [(.long x2), (.long (nu2.toInt64)), (.int (2 : Int32)), (.ref b1)])) rfl (by rw [hml]; rfl) (argsL := [(.long x2)]) (rest := [(.long (nu2.toInt64)), (.int (2 : Int32)), (.ref b1)]) (lenOf pd__J_I rfl) rfl (by show 2 * 0 + _ ≤ _; exact Nat.le_of_eq rfl) (hb hby at_95) (fun _ _ => ⟨rfl, e13, (by decide : 2 + 0 ≤ _), (by decide : 6 + 0 ≤ _)⟩)
  dsimp only [Pt.U, Pt.locs, Pt.cells, Pt.slots] at X14 l14 y14 z14 st14 hQ14
  subst l14 y14 z14
  obtain ⟨rfl, N14q, e14⟩ := hQ14
  have N14 := Fr.app N13 N14q
  obtain ⟨cl15, Ar15, q15, S15, NN15, HH15, G15⟩ := id V_b1__12
  have hin15 : ¬ ((2 : Int32) < 0 ∨ cl15.slots.size ≤ ((2 : Int32)).toNatClampNeg) := inb_of S15 ⟨by decide, by decide⟩
  obtain ⟨T15, h15, X15, e15, W15, st15⟩ := stD X14 hx hZ e14 Ar15 (j := (2 : Int32)) hin15 (g := (mkF m 101 #[.val (.int sz), .val (.long x0), .second, .val (.long x1), .second, .val (.long x2), .second, .val (.int (3 : Int32)), .val (.ref b1), .val (.ref b2), .unset] [(.double (FP.l2d ((nu2.toInt64) * (de2.toInt64)))), (.int (2 : Int32)), (.ref b1)])) rfl rfl (hb hby at_101)
  have V_b2__15 := V_b2__12.other W15 (Ne.symm ne_b1_b2)
  have X00__15 := X00__12.wr W15 g_b1
  have K0_15 : Keep h0 h15 [] := K0_12.wr W15 (Or.inr sz_b1)
  have N15 := Fr.snoc X15 N14 g_b1
  have V_b1__15 : Arv Z h15 b1 kA1 .double (3 : Int32) [(.double (FP.l2d ((nu0.toInt64) * (de0.toInt64)))), (.double (FP.l2d ((nu1.toInt64) * (de1.toInt64)))), (.double (FP.l2d ((nu2.toInt64) * (de2.toInt64))))] (.double (FP.l2d 0)) := Arv.set Ar15 q15 S15 NN15 HH15 G15 rfl W15 2 rfl (Nat.le_of_ble_eq_true rfl)
  obtain ⟨_, _, ⟨T16, L16, k16, n16⟩, -, X16, ⟨Lc16, hQ16, l16, y16, z16⟩, st16⟩ := Jvm.LawKit.callS X15 hx (y := (⟨"com/example/huron/huron/testing/TimedTurnsRatiosPinLaw", "den", "(J)I"⟩ : MethodName)) hown (mvT hZ (hw _ (List.mem_of_getElem? (i := 9) rfl))) (mvT hZ (hw _ (List.mem_of_getElem? (i := 10) rfl))) (mvT hZ (hw _ (List.mem_of_getElem? (i := 7) rfl))) (mvT hZ (hw _ (List.mem_of_getElem? (i := 11) rfl))) (by decide) (backOf (W := 2) (PD2 h15 (own_z0 X00__15) []) hZ (hw _ (List.mem_of_getElem? (i := 11) rfl)) (hw _ (List.mem_of_getElem? (i := 7) rfl)) (by decide) (by decide)) (g := (mkF m 107 #[.val (.int sz), .val (.long x0), .second, .val (.long x1), .second, .val (.long x2), .second, .val (.int (3 : Int32)), .val (.ref b1), .val (.ref b2), .unset] [(.long x2), (.int (2 : Int32)), (.ref b2)])) rfl (by rw [hml]; rfl) (argsL := [(.long x2)]) (rest := [(.int (2 : Int32)), (.ref b2)]) (lenOf pd__J_I rfl) rfl (by show 2 * 0 + _ ≤ _; exact Nat.le_of_eq rfl) (hb hby at_107) (fun _ _ => ⟨rfl, e15, (by decide : 2 + 0 ≤ _), (by decide : 6 + 0 ≤ _)⟩)
  dsimp only [Pt.U, Pt.locs, Pt.cells, Pt.slots] at X16 l16 y16 z16 st16 hQ16
  subst l16 y16 z16
  obtain ⟨rfl, N16q, e16⟩ := hQ16
  have N16 := Fr.app N15 N16q
  obtain ⟨cl17, Ar17, q17, S17, NN17, HH17, G17⟩ := id V_b2__15
  have hin17 : ¬ ((2 : Int32) < 0 ∨ cl17.slots.size ≤ ((2 : Int32)).toNatClampNeg) := inb_of S17 ⟨by decide, by decide⟩
  obtain ⟨T17, h17, X17, e17, W17, st17⟩ := stD X16 hx hZ e16 Ar17 (j := (2 : Int32)) hin17 (g := (mkF m 111 #[.val (.int sz), .val (.long x0), .second, .val (.long x1), .second, .val (.long x2), .second, .val (.int (3 : Int32)), .val (.ref b1), .val (.ref b2), .unset] [(.double (FP.i2d de2)), (.int (2 : Int32)), (.ref b2)])) rfl rfl (hb hby at_111)
  have V_b1__17 := V_b1__15.other W17 ne_b1_b2
  have X00__17 := X00__15.wr W17 g_b2
  have K0_17 : Keep h0 h17 [] := K0_15.wr W17 (Or.inr sz_b2)
  have N17 := Fr.snoc X17 N16 g_b2
  have V_b2__17 : Arv Z h17 b2 kA2 .double (3 : Int32) [(.double (FP.i2d de0)), (.double (FP.i2d de1)), (.double (FP.i2d de2))] (.double (FP.l2d 0)) := Arv.set Ar17 q17 S17 NN17 HH17 G17 rfl W17 2 rfl (Nat.le_of_ble_eq_true rfl)
  obtain ⟨_, _, ⟨T18, L18, k18, n18⟩, -, X18, ⟨Lc18, hQ18, l18, y18, z18⟩, st18⟩ := Jvm.LawKit.callS X17 hx (y := (⟨"com/example/huron/huron/testing/TimedTurns", "ratios", "([D[D)[D"⟩ : MethodName)) hown (mvT hZ (hw _ (List.mem_of_getElem? (i := 1) rfl))) (mvT hZ (hw _ (List.mem_of_getElem? (i := 2) rfl))) (mvT hZ (hw _ (List.mem_of_getElem? (i := 3) rfl))) (mvT hZ (hw _ (List.mem_of_getElem? (i := 4) rfl))) (by decide) (backOf (W := 0) (rmR3 l Z a0 hw [] b1 b2 kA1 kA2 (FP.l2d ((nu0.toInt64) * (de0.toInt64))) (FP.l2d ((nu1.toInt64) * (de1.toInt64))) (FP.l2d ((nu2.toInt64) * (de2.toInt64))) (FP.i2d de0) (FP.i2d de1) (FP.i2d de2) h17 n0 X00__17 V_b1__17 V_b2__17 nn0 nn1 nn2) hZ (hw _ (List.mem_of_getElem? (i := 4) rfl)) (hw _ (List.mem_of_getElem? (i := 3) rfl)) (by decide) (by decide)) (g := (mkF m 116 #[.val (.int sz), .val (.long x0), .second, .val (.long x1), .second, .val (.long x2), .second, .val (.int (3 : Int32)), .val (.ref b1), .val (.ref b2), .unset] [(.ref b2), (.ref b1)])) rfl (by rw [hml]; rfl) (argsL := [(.ref b1), (.ref b2)]) (rest := []) (lenOf pd___D_D__D rfl) rfl (by show 2 * 0 + _ ≤ _; exact Nat.le_of_eq rfl) (hb hby at_116) (fun _ _ => ⟨rfl, e17, (by decide : 2 + 1 ≤ _), (by decide : 6 + 3 ≤ _)⟩)
  dsimp only [Pt.U, Pt.locs, Pt.cells, Pt.slots] at X18 l18 y18 z18 st18 hQ18
  subst l18 y18 z18
  obtain ⟨nb_18, nk_18, rfl, N18q, K18, hsz_nb_18, Q18_0⟩ := hQ18
  have ne_b1_nb_18 : b1 ≠ nb_18 := Nat.ne_of_lt (Nat.lt_of_lt_of_le V_b1__17.lt hsz_nb_18)
  have ne_b2_nb_18 : b2 ≠ nb_18 := Nat.ne_of_lt (Nat.lt_of_lt_of_le V_b2__17.lt hsz_nb_18)
  have g_nb_18 : n0 ≤ nb_18 := Nat.le_trans (own_z0 X00__17) hsz_nb_18
  have sz_nb_18 : h0.size ≤ nb_18 := Nat.le_trans K0_17.1 hsz_nb_18
  have V_b1__18 := V_b1__17.keep K18 nin0
  have V_b2__18 := V_b2__17.keep K18 nin0
  have X00__18 := X00__17.keep K18 all0
  have K0_18 : Keep h0 T18.heap [] := K0_17.trans K18 all0
  have N18 := Fr.app N17 N18q
  obtain ⟨cl19, Ar19, -, S19, NN19, -, -⟩ := id Q18_0
  obtain ⟨cl20, Ar20, -, S20, -, HH20, -⟩ := id Q18_0
  have hin20 : ¬ ((0 : Int32) < 0 ∨ cl20.slots.size ≤ ((0 : Int32)).toNatClampNeg) := inb_of S20 ⟨by decide, by decide⟩
  have hat20 : cl20.slots[((0 : Int32)).toNatClampNeg]? = some (.double (FP.ddiv (FP.l2d ((nu0.toInt64) * (de0.toInt64))) (FP.i2d de0))) := HH20 _ (Nat.lt_of_not_le fun q => hin20 (Or.inr q))
  obtain ⟨_, _, ⟨T21, L21, k21, n21⟩, -, X21, ⟨Lc21, hQ21, l21, y21, z21⟩, st21⟩ := Jvm.LawKit.callS X18 hx (y := (⟨"com/example/huron/huron/testing/TimedTurnsRatiosPinLaw", "num", "(J)I"⟩ : MethodName)) hown (mvT hZ (hw _ (List.mem_of_getElem? (i := 5) rfl))) (mvT hZ (hw _ (List.mem_of_getElem? (i := 6) rfl))) (mvT hZ (hw _ (List.mem_of_getElem? (i := 7) rfl))) (mvT hZ (hw _ (List.mem_of_getElem? (i := 8) rfl))) (by decide) (backOf (W := 2) (PN0 T18.heap (own_z0 X00__18) []) hZ (hw _ (List.mem_of_getElem? (i := 8) rfl)) (hw _ (List.mem_of_getElem? (i := 7) rfl)) (by decide) (by decide)) (g := (mkF m 141 #[.val (.int sz), .val (.long x0), .second, .val (.long x1), .second, .val (.long x2), .second, .val (.int (3 : Int32)), .val (.ref b1), .val (.ref b2), .val (.ref nb_18)] [(.long x0), (.double (FP.ddiv (FP.l2d ((nu0.toInt64) * (de0.toInt64))) (FP.i2d de0)))])) rfl (by rw [hml]; rfl) (argsL := [(.long x0)]) (rest := [(.double (FP.ddiv (FP.l2d ((nu0.toInt64) * (de0.toInt64))) (FP.i2d de0)))]) (lenOf pd__J_I rfl) rfl (by show 2 * 0 + _ ≤ _; exact Nat.le_of_eq rfl) (hb hby at_141) (fun _ _ => ⟨rfl, rfl, (by decide : 3 + 0 ≤ _), (by decide : 9 + 0 ≤ _)⟩)
  dsimp only [Pt.U, Pt.locs, Pt.cells, Pt.slots] at X21 l21 y21 z21 st21 hQ21
  subst l21 y21 z21
  obtain ⟨rfl, N21q, e21⟩ := hQ21
  have N21 := Fr.app N18 N21q
  obtain ⟨cl22, Ar22, -, S22, -, HH22, -⟩ := id Q18_0
  have hin22 : ¬ ((1 : Int32) < 0 ∨ cl22.slots.size ≤ ((1 : Int32)).toNatClampNeg) := inb_of S22 ⟨by decide, by decide⟩
  have hat22 : cl22.slots[((1 : Int32)).toNatClampNeg]? = some (.double (FP.ddiv (FP.l2d ((nu1.toInt64) * (de1.toInt64))) (FP.i2d de1))) := HH22 _ (Nat.lt_of_not_le fun q => hin22 (Or.inr q))
  obtain ⟨_, _, ⟨T23, L23, k23, n23⟩, -, X23, ⟨Lc23, hQ23, l23, y23, z23⟩, st23⟩ := Jvm.LawKit.callS X21 hx (y := (⟨"com/example/huron/huron/testing/TimedTurnsRatiosPinLaw", "num", "(J)I"⟩ : MethodName)) hown (mvT hZ (hw _ (List.mem_of_getElem? (i := 5) rfl))) (mvT hZ (hw _ (List.mem_of_getElem? (i := 6) rfl))) (mvT hZ (hw _ (List.mem_of_getElem? (i := 7) rfl))) (mvT hZ (hw _ (List.mem_of_getElem? (i := 8) rfl))) (by decide) (backOf (W := 2) (PN1 T18.heap (own_z0 X00__18) []) hZ (hw _ (List.mem_of_getElem? (i := 8) rfl)) (hw _ (List.mem_of_getElem? (i := 7) rfl)) (by decide) (by decide)) (g := (mkF m 162 #[.val (.int sz), .val (.long x0), .second, .val (.long x1), .second, .val (.long x2), .second, .val (.int (3 : Int32)), .val (.ref b1), .val (.ref b2), .val (.ref nb_18)] [(.long x1), (.double (FP.ddiv (FP.l2d ((nu1.toInt64) * (de1.toInt64))) (FP.i2d de1)))])) rfl (by rw [hml]; rfl) (argsL := [(.long x1)]) (rest := [(.double (FP.ddiv (FP.l2d ((nu1.toInt64) * (de1.toInt64))) (FP.i2d de1)))]) (lenOf pd__J_I rfl) rfl (by show 2 * 0 + _ ≤ _; exact Nat.le_of_eq rfl) (hb hby at_162) (fun _ _ => ⟨rfl, e21, (by decide : 3 + 0 ≤ _), (by decide : 9 + 0 ≤ _)⟩)
  dsimp only [Pt.U, Pt.locs, Pt.cells, Pt.slots] at X23 l23 y23 z23 st23 hQ23
  subst l23 y23 z23
  obtain ⟨rfl, N23q, e23⟩ := hQ23
  have N23 := Fr.app N21 N23q
  obtain ⟨cl24, Ar24, -, S24, -, HH24, -⟩ := id Q18_0
  have hin24 : ¬ ((2 : Int32) < 0 ∨ cl24.slots.size ≤ ((2 : Int32)).toNatClampNeg) := inb_of S24 ⟨by decide, by decide⟩
  have hat24 : cl24.slots[((2 : Int32)).toNatClampNeg]? = some (.double (FP.ddiv (FP.l2d ((nu2.toInt64) * (de2.toInt64))) (FP.i2d de2))) := HH24 _ (Nat.lt_of_not_le fun q => hin24 (Or.inr q))
  obtain ⟨_, _, ⟨T25, L25, k25, n25⟩, -, X25, ⟨Lc25, hQ25, l25, y25, z25⟩, st25⟩ := Jvm.LawKit.callS X23 hx (y := (⟨"com/example/huron/huron/testing/TimedTurnsRatiosPinLaw", "num", "(J)I"⟩ : MethodName)) hown (mvT hZ (hw _ (List.mem_of_getElem? (i := 5) rfl))) (mvT hZ (hw _ (List.mem_of_getElem? (i := 6) rfl))) (mvT hZ (hw _ (List.mem_of_getElem? (i := 7) rfl))) (mvT hZ (hw _ (List.mem_of_getElem? (i := 8) rfl))) (by decide) (backOf (W := 2) (PN2 T18.heap (own_z0 X00__18) []) hZ (hw _ (List.mem_of_getElem? (i := 8) rfl)) (hw _ (List.mem_of_getElem? (i := 7) rfl)) (by decide) (by decide)) (g := (mkF m 184 #[.val (.int sz), .val (.long x0), .second, .val (.long x1), .second, .val (.long x2), .second, .val (.int (3 : Int32)), .val (.ref b1), .val (.ref b2), .val (.ref nb_18)] [(.long x2), (.double (FP.ddiv (FP.l2d ((nu2.toInt64) * (de2.toInt64))) (FP.i2d de2)))])) rfl (by rw [hml]; rfl) (argsL := [(.long x2)]) (rest := [(.double (FP.ddiv (FP.l2d ((nu2.toInt64) * (de2.toInt64))) (FP.i2d de2)))]) (lenOf pd__J_I rfl) rfl (by show 2 * 0 + _ ≤ _; exact Nat.le_of_eq rfl) (hb hby at_184) (fun _ _ => ⟨rfl, e23, (by decide : 3 + 0 ≤ _), (by decide : 9 + 0 ≤ _)⟩)
  dsimp only [Pt.U, Pt.locs, Pt.cells, Pt.slots] at X25 l25 y25 z25 st25 hQ25
  subst l25 y25 z25
  obtain ⟨rfl, N25q, e25⟩ := hQ25
  have N25 := Fr.app N23 N25q
  obtain ⟨fs, hr, hrun, hended, hW, hsame⟩ := X25.leave (v := some (.int (1 : Int32))) (fun h => by rw [Bd.returns] at h; cases h)
  refine ⟨_, _, pre0 _ ?_, hrun, hended, _, _, rfl, ?_, ⟨_, rfl⟩, hW, hsame.mono (by decide) (by decide)⟩
  · show Steps p.tables e below (s₁.setTop (mkF m 0 #[.val (.int sz), .val (.long x0), .second, .val (.long x1), .second, .val (.long x2), .second, .unset, .unset, .unset, .unset] [])) _
    refine XS.iloadN X0.here hx rfl (hb hby at_0) rfl ?_
    show Steps p.tables e below (s₁.setTop (mkF m 1 #[.val (.int sz), .val (.long x0), .second, .val (.long x1), .second, .val (.long x2), .second, .unset, .unset, .unset, .unset] [(.int sz)])) _
    refine XS.iconst X0.here hx rfl (hb hby at_1) ?_
    show Steps p.tables e below (s₁.setTop (mkF m 2 #[.val (.int sz), .val (.long x0), .second, .val (.long x1), .second, .val (.long x2), .second, .unset, .unset, .unset, .unset] [(.int (3 : Int32)), (.int sz)])) _
    refine XS.iand X0.here hx rfl (hb hby at_2) rfl ?_
    show Steps p.tables e below (s₁.setTop (mkF m 3 #[.val (.int sz), .val (.long x0), .second, .val (.long x1), .second, .val (.long x2), .second, .unset, .unset, .unset, .unset] [(.int (sz &&& (3 : Int32)))])) _
    rw [hsz]
    refine XS.istore X0.here hx rfl (hb hby at_3) rfl (l' := #[.val (.int sz), .val (.long x0), .second, .val (.long x1), .second, .val (.long x2), .second, .val (.int (3 : Int32)), .unset, .unset, .unset]) rfl ?_
    show Steps p.tables e below (s₁.setTop (mkF m 5 #[.val (.int sz), .val (.long x0), .second, .val (.long x1), .second, .val (.long x2), .second, .val (.int (3 : Int32)), .unset, .unset, .unset] [])) _
    refine XS.iload X0.here hx rfl (hb hby at_5) rfl ?_
    show Steps p.tables e below (s₁.setTop (mkF m 7 #[.val (.int sz), .val (.long x0), .second, .val (.long x1), .second, .val (.long x2), .second, .val (.int (3 : Int32)), .unset, .unset, .unset] [(.int (3 : Int32))])) _
    refine st1 _ ?_
    show Steps p.tables e below (T1.setTop (mkF m 9 #[.val (.int sz), .val (.long x0), .second, .val (.long x1), .second, .val (.long x2), .second, .val (.int (3 : Int32)), .unset, .unset, .unset] [(.ref b1)])) _
    refine XS.astore X1.here hx rfl (hb hby at_9) rfl rfl (l' := #[.val (.int sz), .val (.long x0), .second, .val (.long x1), .second, .val (.long x2), .second, .val (.int (3 : Int32)), .val (.ref b1), .unset, .unset]) rfl ?_
    show Steps p.tables e below (T1.setTop (mkF m 11 #[.val (.int sz), .val (.long x0), .second, .val (.long x1), .second, .val (.long x2), .second, .val (.int (3 : Int32)), .val (.ref b1), .unset, .unset] [])) _
    refine XS.iload X1.here hx rfl (hb hby at_11) rfl ?_
    show Steps p.tables e below (T1.setTop (mkF m 13 #[.val (.int sz), .val (.long x0), .second, .val (.long x1), .second, .val (.long x2), .second, .val (.int (3 : Int32)), .val (.ref b1), .unset, .unset] [(.int (3 : Int32))])) _
    refine st2 _ ?_
    show Steps p.tables e below (T2.setTop (mkF m 15 #[.val (.int sz), .val (.long x0), .second, .val (.long x1), .second, .val (.long x2), .second, .val (.int (3 : Int32)), .val (.ref b1), .unset, .unset] [(.ref b2)])) _
    refine XS.astore X2.here hx rfl (hb hby at_15) rfl rfl (l' := #[.val (.int sz), .val (.long x0), .second, .val (.long x1), .second, .val (.long x2), .second, .val (.int (3 : Int32)), .val (.ref b1), .val (.ref b2), .unset]) rfl ?_
    show Steps p.tables e below (T2.setTop (mkF m 17 #[.val (.int sz), .val (.long x0), .second, .val (.long x1), .second, .val (.long x2), .second, .val (.int (3 : Int32)), .val (.ref b1), .val (.ref b2), .unset] [])) _
    refine XS.iload X2.here hx rfl (hb hby at_17) rfl ?_
    show Steps p.tables e below (T2.setTop (mkF m 19 #[.val (.int sz), .val (.long x0), .second, .val (.long x1), .second, .val (.long x2), .second, .val (.int (3 : Int32)), .val (.ref b1), .val (.ref b2), .unset] [(.int (3 : Int32))])) _
    refine XS.ifNo X2.here hx rfl (hb hby at_19) rfl ((if0 _ _).trans (tlt (by decide : (0 : Int32) < (3 : Int32))).2.2.2) ?_
    show Steps p.tables e below (T2.setTop (mkF m 22 #[.val (.int sz), .val (.long x0), .second, .val (.long x1), .second, .val (.long x2), .second, .val (.int (3 : Int32)), .val (.ref b1), .val (.ref b2), .unset] [])) _
    refine XS.aload X2.here hx rfl (hb hby at_22) rfl rfl ?_
    show Steps p.tables e below (T2.setTop (mkF m 24 #[.val (.int sz), .val (.long x0), .second, .val (.long x1), .second, .val (.long x2), .second, .val (.int (3 : Int32)), .val (.ref b1), .val (.ref b2), .unset] [(.ref b1)])) _
    refine XS.iconst X2.here hx rfl (hb hby at_24) ?_
    show Steps p.tables e below (T2.setTop (mkF m 25 #[.val (.int sz), .val (.long x0), .second, .val (.long x1), .second, .val (.long x2), .second, .val (.int (3 : Int32)), .val (.ref b1), .val (.ref b2), .unset] [(.int (0 : Int32)), (.ref b1)])) _
    refine XS.lloadN X2.here hx rfl (hb hby at_25) rfl ?_
    show Steps p.tables e below (T2.setTop (mkF m 26 #[.val (.int sz), .val (.long x0), .second, .val (.long x1), .second, .val (.long x2), .second, .val (.int (3 : Int32)), .val (.ref b1), .val (.ref b2), .unset] [(.long x0), (.int (0 : Int32)), (.ref b1)])) _
    refine st3 _ ?_
    show Steps p.tables e below (T3.setTop (mkF m 29 #[.val (.int sz), .val (.long x0), .second, .val (.long x1), .second, .val (.long x2), .second, .val (.int (3 : Int32)), .val (.ref b1), .val (.ref b2), .unset] [(.int nu0), (.int (0 : Int32)), (.ref b1)])) _
    refine XS.i2l X3.here hx rfl (hb hby at_29) rfl ?_
    show Steps p.tables e below (T3.setTop (mkF m 30 #[.val (.int sz), .val (.long x0), .second, .val (.long x1), .second, .val (.long x2), .second, .val (.int (3 : Int32)), .val (.ref b1), .val (.ref b2), .unset] [(.long (nu0.toInt64)), (.int (0 : Int32)), (.ref b1)])) _
    refine XS.lloadN X3.here hx rfl (hb hby at_30) rfl ?_
    show Steps p.tables e below (T3.setTop (mkF m 31 #[.val (.int sz), .val (.long x0), .second, .val (.long x1), .second, .val (.long x2), .second, .val (.int (3 : Int32)), .val (.ref b1), .val (.ref b2), .unset] [(.long x0), (.long (nu0.toInt64)), (.int (0 : Int32)), (.ref b1)])) _
    refine st4 _ ?_
    show Steps p.tables e below (T4.setTop (mkF m 34 #[.val (.int sz), .val (.long x0), .second, .val (.long x1), .second, .val (.long x2), .second, .val (.int (3 : Int32)), .val (.ref b1), .val (.ref b2), .unset] [(.int de0), (.long (nu0.toInt64)), (.int (0 : Int32)), (.ref b1)])) _
    refine XS.i2l X4.here hx rfl (hb hby at_34) rfl ?_
    show Steps p.tables e below (T4.setTop (mkF m 35 #[.val (.int sz), .val (.long x0), .second, .val (.long x1), .second, .val (.long x2), .second, .val (.int (3 : Int32)), .val (.ref b1), .val (.ref b2), .unset] [(.long (de0.toInt64)), (.long (nu0.toInt64)), (.int (0 : Int32)), (.ref b1)])) _
    refine XS.lmul X4.here hx rfl (hb hby at_35) rfl ?_
    show Steps p.tables e below (T4.setTop (mkF m 36 #[.val (.int sz), .val (.long x0), .second, .val (.long x1), .second, .val (.long x2), .second, .val (.int (3 : Int32)), .val (.ref b1), .val (.ref b2), .unset] [(.long ((nu0.toInt64) * (de0.toInt64))), (.int (0 : Int32)), (.ref b1)])) _
    refine Jvm.Free.XS.l2dS X4.here hx rfl (hb hby at_36) rfl rfl ?_
    show Steps p.tables e below (T4.setTop (mkF m 37 #[.val (.int sz), .val (.long x0), .second, .val (.long x1), .second, .val (.long x2), .second, .val (.int (3 : Int32)), .val (.ref b1), .val (.ref b2), .unset] [(.double (FP.l2d ((nu0.toInt64) * (de0.toInt64)))), (.int (0 : Int32)), (.ref b1)])) _
    refine st5 _ ?_
    show Steps p.tables e below (T5.setTop (mkF m 38 #[.val (.int sz), .val (.long x0), .second, .val (.long x1), .second, .val (.long x2), .second, .val (.int (3 : Int32)), .val (.ref b1), .val (.ref b2), .unset] [])) _
    refine XS.aload X5.here hx rfl (hb hby at_38) rfl rfl ?_
    show Steps p.tables e below (T5.setTop (mkF m 40 #[.val (.int sz), .val (.long x0), .second, .val (.long x1), .second, .val (.long x2), .second, .val (.int (3 : Int32)), .val (.ref b1), .val (.ref b2), .unset] [(.ref b2)])) _
    refine XS.iconst X5.here hx rfl (hb hby at_40) ?_
    show Steps p.tables e below (T5.setTop (mkF m 41 #[.val (.int sz), .val (.long x0), .second, .val (.long x1), .second, .val (.long x2), .second, .val (.int (3 : Int32)), .val (.ref b1), .val (.ref b2), .unset] [(.int (0 : Int32)), (.ref b2)])) _
    refine XS.lloadN X5.here hx rfl (hb hby at_41) rfl ?_
    show Steps p.tables e below (T5.setTop (mkF m 42 #[.val (.int sz), .val (.long x0), .second, .val (.long x1), .second, .val (.long x2), .second, .val (.int (3 : Int32)), .val (.ref b1), .val (.ref b2), .unset] [(.long x0), (.int (0 : Int32)), (.ref b2)])) _
    refine st6 _ ?_
    show Steps p.tables e below (T6.setTop (mkF m 45 #[.val (.int sz), .val (.long x0), .second, .val (.long x1), .second, .val (.long x2), .second, .val (.int (3 : Int32)), .val (.ref b1), .val (.ref b2), .unset] [(.int de0), (.int (0 : Int32)), (.ref b2)])) _
    refine Jvm.Free.XS.i2dS X6.here hx rfl (hb hby at_45) rfl rfl ?_
    show Steps p.tables e below (T6.setTop (mkF m 46 #[.val (.int sz), .val (.long x0), .second, .val (.long x1), .second, .val (.long x2), .second, .val (.int (3 : Int32)), .val (.ref b1), .val (.ref b2), .unset] [(.double (FP.i2d de0)), (.int (0 : Int32)), (.ref b2)])) _
    refine st7 _ ?_
    show Steps p.tables e below (T7.setTop (mkF m 47 #[.val (.int sz), .val (.long x0), .second, .val (.long x1), .second, .val (.long x2), .second, .val (.int (3 : Int32)), .val (.ref b1), .val (.ref b2), .unset] [])) _
    refine XS.iload X7.here hx rfl (hb hby at_47) rfl ?_
    show Steps p.tables e below (T7.setTop (mkF m 49 #[.val (.int sz), .val (.long x0), .second, .val (.long x1), .second, .val (.long x2), .second, .val (.int (3 : Int32)), .val (.ref b1), .val (.ref b2), .unset] [(.int (3 : Int32))])) _
    refine XS.iconst X7.here hx rfl (hb hby at_49) ?_
    show Steps p.tables e below (T7.setTop (mkF m 50 #[.val (.int sz), .val (.long x0), .second, .val (.long x1), .second, .val (.long x2), .second, .val (.int (3 : Int32)), .val (.ref b1), .val (.ref b2), .unset] [(.int (1 : Int32)), (.int (3 : Int32))])) _
    refine XS.icmpNo X7.here hx rfl (hb hby at_50) rfl (tlt (by decide : (1 : Int32) < (3 : Int32))).2.2.2 ?_
    show Steps p.tables e below (T7.setTop (mkF m 53 #[.val (.int sz), .val (.long x0), .second, .val (.long x1), .second, .val (.long x2), .second, .val (.int (3 : Int32)), .val (.ref b1), .val (.ref b2), .unset] [])) _
    refine XS.aload X7.here hx rfl (hb hby at_53) rfl rfl ?_
    show Steps p.tables e below (T7.setTop (mkF m 55 #[.val (.int sz), .val (.long x0), .second, .val (.long x1), .second, .val (.long x2), .second, .val (.int (3 : Int32)), .val (.ref b1), .val (.ref b2), .unset] [(.ref b1)])) _
    refine XS.iconst X7.here hx rfl (hb hby at_55) ?_
    show Steps p.tables e below (T7.setTop (mkF m 56 #[.val (.int sz), .val (.long x0), .second, .val (.long x1), .second, .val (.long x2), .second, .val (.int (3 : Int32)), .val (.ref b1), .val (.ref b2), .unset] [(.int (1 : Int32)), (.ref b1)])) _
    refine XS.lloadN X7.here hx rfl (hb hby at_56) rfl ?_
    show Steps p.tables e below (T7.setTop (mkF m 57 #[.val (.int sz), .val (.long x0), .second, .val (.long x1), .second, .val (.long x2), .second, .val (.int (3 : Int32)), .val (.ref b1), .val (.ref b2), .unset] [(.long x1), (.int (1 : Int32)), (.ref b1)])) _
    refine st8 _ ?_
    show Steps p.tables e below (T8.setTop (mkF m 60 #[.val (.int sz), .val (.long x0), .second, .val (.long x1), .second, .val (.long x2), .second, .val (.int (3 : Int32)), .val (.ref b1), .val (.ref b2), .unset] [(.int nu1), (.int (1 : Int32)), (.ref b1)])) _
    refine XS.i2l X8.here hx rfl (hb hby at_60) rfl ?_
    show Steps p.tables e below (T8.setTop (mkF m 61 #[.val (.int sz), .val (.long x0), .second, .val (.long x1), .second, .val (.long x2), .second, .val (.int (3 : Int32)), .val (.ref b1), .val (.ref b2), .unset] [(.long (nu1.toInt64)), (.int (1 : Int32)), (.ref b1)])) _
    refine XS.lloadN X8.here hx rfl (hb hby at_61) rfl ?_
    show Steps p.tables e below (T8.setTop (mkF m 62 #[.val (.int sz), .val (.long x0), .second, .val (.long x1), .second, .val (.long x2), .second, .val (.int (3 : Int32)), .val (.ref b1), .val (.ref b2), .unset] [(.long x1), (.long (nu1.toInt64)), (.int (1 : Int32)), (.ref b1)])) _
    refine st9 _ ?_
    show Steps p.tables e below (T9.setTop (mkF m 65 #[.val (.int sz), .val (.long x0), .second, .val (.long x1), .second, .val (.long x2), .second, .val (.int (3 : Int32)), .val (.ref b1), .val (.ref b2), .unset] [(.int de1), (.long (nu1.toInt64)), (.int (1 : Int32)), (.ref b1)])) _
    refine XS.i2l X9.here hx rfl (hb hby at_65) rfl ?_
    show Steps p.tables e below (T9.setTop (mkF m 66 #[.val (.int sz), .val (.long x0), .second, .val (.long x1), .second, .val (.long x2), .second, .val (.int (3 : Int32)), .val (.ref b1), .val (.ref b2), .unset] [(.long (de1.toInt64)), (.long (nu1.toInt64)), (.int (1 : Int32)), (.ref b1)])) _
    refine XS.lmul X9.here hx rfl (hb hby at_66) rfl ?_
    show Steps p.tables e below (T9.setTop (mkF m 67 #[.val (.int sz), .val (.long x0), .second, .val (.long x1), .second, .val (.long x2), .second, .val (.int (3 : Int32)), .val (.ref b1), .val (.ref b2), .unset] [(.long ((nu1.toInt64) * (de1.toInt64))), (.int (1 : Int32)), (.ref b1)])) _
    refine Jvm.Free.XS.l2dS X9.here hx rfl (hb hby at_67) rfl rfl ?_
    show Steps p.tables e below (T9.setTop (mkF m 68 #[.val (.int sz), .val (.long x0), .second, .val (.long x1), .second, .val (.long x2), .second, .val (.int (3 : Int32)), .val (.ref b1), .val (.ref b2), .unset] [(.double (FP.l2d ((nu1.toInt64) * (de1.toInt64)))), (.int (1 : Int32)), (.ref b1)])) _
    refine st10 _ ?_
    show Steps p.tables e below (T10.setTop (mkF m 69 #[.val (.int sz), .val (.long x0), .second, .val (.long x1), .second, .val (.long x2), .second, .val (.int (3 : Int32)), .val (.ref b1), .val (.ref b2), .unset] [])) _
    refine XS.aload X10.here hx rfl (hb hby at_69) rfl rfl ?_
    show Steps p.tables e below (T10.setTop (mkF m 71 #[.val (.int sz), .val (.long x0), .second, .val (.long x1), .second, .val (.long x2), .second, .val (.int (3 : Int32)), .val (.ref b1), .val (.ref b2), .unset] [(.ref b2)])) _
    refine XS.iconst X10.here hx rfl (hb hby at_71) ?_
    show Steps p.tables e below (T10.setTop (mkF m 72 #[.val (.int sz), .val (.long x0), .second, .val (.long x1), .second, .val (.long x2), .second, .val (.int (3 : Int32)), .val (.ref b1), .val (.ref b2), .unset] [(.int (1 : Int32)), (.ref b2)])) _
    refine XS.lloadN X10.here hx rfl (hb hby at_72) rfl ?_
    show Steps p.tables e below (T10.setTop (mkF m 73 #[.val (.int sz), .val (.long x0), .second, .val (.long x1), .second, .val (.long x2), .second, .val (.int (3 : Int32)), .val (.ref b1), .val (.ref b2), .unset] [(.long x1), (.int (1 : Int32)), (.ref b2)])) _
    refine st11 _ ?_
    show Steps p.tables e below (T11.setTop (mkF m 76 #[.val (.int sz), .val (.long x0), .second, .val (.long x1), .second, .val (.long x2), .second, .val (.int (3 : Int32)), .val (.ref b1), .val (.ref b2), .unset] [(.int de1), (.int (1 : Int32)), (.ref b2)])) _
    refine Jvm.Free.XS.i2dS X11.here hx rfl (hb hby at_76) rfl rfl ?_
    show Steps p.tables e below (T11.setTop (mkF m 77 #[.val (.int sz), .val (.long x0), .second, .val (.long x1), .second, .val (.long x2), .second, .val (.int (3 : Int32)), .val (.ref b1), .val (.ref b2), .unset] [(.double (FP.i2d de1)), (.int (1 : Int32)), (.ref b2)])) _
    refine st12 _ ?_
    show Steps p.tables e below (T12.setTop (mkF m 78 #[.val (.int sz), .val (.long x0), .second, .val (.long x1), .second, .val (.long x2), .second, .val (.int (3 : Int32)), .val (.ref b1), .val (.ref b2), .unset] [])) _
    refine XS.iload X12.here hx rfl (hb hby at_78) rfl ?_
    show Steps p.tables e below (T12.setTop (mkF m 80 #[.val (.int sz), .val (.long x0), .second, .val (.long x1), .second, .val (.long x2), .second, .val (.int (3 : Int32)), .val (.ref b1), .val (.ref b2), .unset] [(.int (3 : Int32))])) _
    refine XS.iconst X12.here hx rfl (hb hby at_80) ?_
    show Steps p.tables e below (T12.setTop (mkF m 81 #[.val (.int sz), .val (.long x0), .second, .val (.long x1), .second, .val (.long x2), .second, .val (.int (3 : Int32)), .val (.ref b1), .val (.ref b2), .unset] [(.int (2 : Int32)), (.int (3 : Int32))])) _
    refine XS.icmpNo X12.here hx rfl (hb hby at_81) rfl (tlt (by decide : (2 : Int32) < (3 : Int32))).2.2.2 ?_
    show Steps p.tables e below (T12.setTop (mkF m 84 #[.val (.int sz), .val (.long x0), .second, .val (.long x1), .second, .val (.long x2), .second, .val (.int (3 : Int32)), .val (.ref b1), .val (.ref b2), .unset] [])) _
    refine XS.aload X12.here hx rfl (hb hby at_84) rfl rfl ?_
    show Steps p.tables e below (T12.setTop (mkF m 86 #[.val (.int sz), .val (.long x0), .second, .val (.long x1), .second, .val (.long x2), .second, .val (.int (3 : Int32)), .val (.ref b1), .val (.ref b2), .unset] [(.ref b1)])) _
    refine XS.iconst X12.here hx rfl (hb hby at_86) ?_
    show Steps p.tables e below (T12.setTop (mkF m 87 #[.val (.int sz), .val (.long x0), .second, .val (.long x1), .second, .val (.long x2), .second, .val (.int (3 : Int32)), .val (.ref b1), .val (.ref b2), .unset] [(.int (2 : Int32)), (.ref b1)])) _
    refine XS.lload X12.here hx rfl (hb hby at_87) rfl ?_
    show Steps p.tables e below (T12.setTop (mkF m 89 #[.val (.int sz), .val (.long x0), .second, .val (.long x1), .second, .val (.long x2), .second, .val (.int (3 : Int32)), .val (.ref b1), .val (.ref b2), .unset] [(.long x2), (.int (2 : Int32)), (.ref b1)])) _
    refine st13 _ ?_
    show Steps p.tables e below (T13.setTop (mkF m 92 #[.val (.int sz), .val (.long x0), .second, .val (.long x1), .second, .val (.long x2), .second, .val (.int (3 : Int32)), .val (.ref b1), .val (.ref b2), .unset] [(.int nu2), (.int (2 : Int32)), (.ref b1)])) _
    refine XS.i2l X13.here hx rfl (hb hby at_92) rfl ?_
    show Steps p.tables e below (T13.setTop (mkF m 93 #[.val (.int sz), .val (.long x0), .second, .val (.long x1), .second, .val (.long x2), .second, .val (.int (3 : Int32)), .val (.ref b1), .val (.ref b2), .unset] [(.long (nu2.toInt64)), (.int (2 : Int32)), (.ref b1)])) _
    refine XS.lload X13.here hx rfl (hb hby at_93) rfl ?_
    show Steps p.tables e below (T13.setTop (mkF m 95 #[.val (.int sz), .val (.long x0), .second, .val (.long x1), .second, .val (.long x2), .second, .val (.int (3 : Int32)), .val (.ref b1), .val (.ref b2), .unset] [(.long x2), (.long (nu2.toInt64)), (.int (2 : Int32)), (.ref b1)])) _
    refine st14 _ ?_
    show Steps p.tables e below (T14.setTop (mkF m 98 #[.val (.int sz), .val (.long x0), .second, .val (.long x1), .second, .val (.long x2), .second, .val (.int (3 : Int32)), .val (.ref b1), .val (.ref b2), .unset] [(.int de2), (.long (nu2.toInt64)), (.int (2 : Int32)), (.ref b1)])) _
    refine XS.i2l X14.here hx rfl (hb hby at_98) rfl ?_
    show Steps p.tables e below (T14.setTop (mkF m 99 #[.val (.int sz), .val (.long x0), .second, .val (.long x1), .second, .val (.long x2), .second, .val (.int (3 : Int32)), .val (.ref b1), .val (.ref b2), .unset] [(.long (de2.toInt64)), (.long (nu2.toInt64)), (.int (2 : Int32)), (.ref b1)])) _
    refine XS.lmul X14.here hx rfl (hb hby at_99) rfl ?_
    show Steps p.tables e below (T14.setTop (mkF m 100 #[.val (.int sz), .val (.long x0), .second, .val (.long x1), .second, .val (.long x2), .second, .val (.int (3 : Int32)), .val (.ref b1), .val (.ref b2), .unset] [(.long ((nu2.toInt64) * (de2.toInt64))), (.int (2 : Int32)), (.ref b1)])) _
    refine Jvm.Free.XS.l2dS X14.here hx rfl (hb hby at_100) rfl rfl ?_
    show Steps p.tables e below (T14.setTop (mkF m 101 #[.val (.int sz), .val (.long x0), .second, .val (.long x1), .second, .val (.long x2), .second, .val (.int (3 : Int32)), .val (.ref b1), .val (.ref b2), .unset] [(.double (FP.l2d ((nu2.toInt64) * (de2.toInt64)))), (.int (2 : Int32)), (.ref b1)])) _
    refine st15 _ ?_
    show Steps p.tables e below (T15.setTop (mkF m 102 #[.val (.int sz), .val (.long x0), .second, .val (.long x1), .second, .val (.long x2), .second, .val (.int (3 : Int32)), .val (.ref b1), .val (.ref b2), .unset] [])) _
    refine XS.aload X15.here hx rfl (hb hby at_102) rfl rfl ?_
    show Steps p.tables e below (T15.setTop (mkF m 104 #[.val (.int sz), .val (.long x0), .second, .val (.long x1), .second, .val (.long x2), .second, .val (.int (3 : Int32)), .val (.ref b1), .val (.ref b2), .unset] [(.ref b2)])) _
    refine XS.iconst X15.here hx rfl (hb hby at_104) ?_
    show Steps p.tables e below (T15.setTop (mkF m 105 #[.val (.int sz), .val (.long x0), .second, .val (.long x1), .second, .val (.long x2), .second, .val (.int (3 : Int32)), .val (.ref b1), .val (.ref b2), .unset] [(.int (2 : Int32)), (.ref b2)])) _
    refine XS.lload X15.here hx rfl (hb hby at_105) rfl ?_
    show Steps p.tables e below (T15.setTop (mkF m 107 #[.val (.int sz), .val (.long x0), .second, .val (.long x1), .second, .val (.long x2), .second, .val (.int (3 : Int32)), .val (.ref b1), .val (.ref b2), .unset] [(.long x2), (.int (2 : Int32)), (.ref b2)])) _
    refine st16 _ ?_
    show Steps p.tables e below (T16.setTop (mkF m 110 #[.val (.int sz), .val (.long x0), .second, .val (.long x1), .second, .val (.long x2), .second, .val (.int (3 : Int32)), .val (.ref b1), .val (.ref b2), .unset] [(.int de2), (.int (2 : Int32)), (.ref b2)])) _
    refine Jvm.Free.XS.i2dS X16.here hx rfl (hb hby at_110) rfl rfl ?_
    show Steps p.tables e below (T16.setTop (mkF m 111 #[.val (.int sz), .val (.long x0), .second, .val (.long x1), .second, .val (.long x2), .second, .val (.int (3 : Int32)), .val (.ref b1), .val (.ref b2), .unset] [(.double (FP.i2d de2)), (.int (2 : Int32)), (.ref b2)])) _
    refine st17 _ ?_
    show Steps p.tables e below (T17.setTop (mkF m 112 #[.val (.int sz), .val (.long x0), .second, .val (.long x1), .second, .val (.long x2), .second, .val (.int (3 : Int32)), .val (.ref b1), .val (.ref b2), .unset] [])) _
    refine XS.aload X17.here hx rfl (hb hby at_112) rfl rfl ?_
    show Steps p.tables e below (T17.setTop (mkF m 114 #[.val (.int sz), .val (.long x0), .second, .val (.long x1), .second, .val (.long x2), .second, .val (.int (3 : Int32)), .val (.ref b1), .val (.ref b2), .unset] [(.ref b1)])) _
    refine XS.aload X17.here hx rfl (hb hby at_114) rfl rfl ?_
    show Steps p.tables e below (T17.setTop (mkF m 116 #[.val (.int sz), .val (.long x0), .second, .val (.long x1), .second, .val (.long x2), .second, .val (.int (3 : Int32)), .val (.ref b1), .val (.ref b2), .unset] [(.ref b2), (.ref b1)])) _
    refine st18 _ ?_
    show Steps p.tables e below (T18.setTop (mkF m 119 #[.val (.int sz), .val (.long x0), .second, .val (.long x1), .second, .val (.long x2), .second, .val (.int (3 : Int32)), .val (.ref b1), .val (.ref b2), .unset] [(.ref nb_18)])) _
    refine XS.astore X18.here hx rfl (hb hby at_119) rfl rfl (l' := #[.val (.int sz), .val (.long x0), .second, .val (.long x1), .second, .val (.long x2), .second, .val (.int (3 : Int32)), .val (.ref b1), .val (.ref b2), .val (.ref nb_18)]) rfl ?_
    show Steps p.tables e below (T18.setTop (mkF m 121 #[.val (.int sz), .val (.long x0), .second, .val (.long x1), .second, .val (.long x2), .second, .val (.int (3 : Int32)), .val (.ref b1), .val (.ref b2), .val (.ref nb_18)] [])) _
    refine XS.aload X18.here hx rfl (hb hby at_121) rfl rfl ?_
    show Steps p.tables e below (T18.setTop (mkF m 123 #[.val (.int sz), .val (.long x0), .second, .val (.long x1), .second, .val (.long x2), .second, .val (.int (3 : Int32)), .val (.ref b1), .val (.ref b2), .val (.ref nb_18)] [(.ref nb_18)])) _
    refine X18.arraylength hx Ar19.1 (State.isArrayOf_alike hZ.alike Ar19.2.1) (g := (mkF m 123 #[.val (.int sz), .val (.long x0), .second, .val (.long x1), .second, .val (.long x2), .second, .val (.int (3 : Int32)), .val (.ref b1), .val (.ref b2), .val (.ref nb_18)] [(.ref nb_18)])) rfl rfl (hb hby at_123) _ ?_
    rw [len_of S19 NN19]
    show Steps p.tables e below (T18.setTop (mkF m 124 #[.val (.int sz), .val (.long x0), .second, .val (.long x1), .second, .val (.long x2), .second, .val (.int (3 : Int32)), .val (.ref b1), .val (.ref b2), .val (.ref nb_18)] [(.int (3 : Int32))])) _
    refine XS.iload X18.here hx rfl (hb hby at_124) rfl ?_
    show Steps p.tables e below (T18.setTop (mkF m 126 #[.val (.int sz), .val (.long x0), .second, .val (.long x1), .second, .val (.long x2), .second, .val (.int (3 : Int32)), .val (.ref b1), .val (.ref b2), .val (.ref nb_18)] [(.int (3 : Int32)), (.int (3 : Int32))])) _
    refine XS.icmpYes X18.here hx rfl (pc0 := 126) (pc' := 131) rfl (hb hby at_126) rfl (teq (rfl : (3 : Int32) = (3 : Int32))).1 (by decide) (by decide) ?_
    show Steps p.tables e below (T18.setTop (mkF m 131 #[.val (.int sz), .val (.long x0), .second, .val (.long x1), .second, .val (.long x2), .second, .val (.int (3 : Int32)), .val (.ref b1), .val (.ref b2), .val (.ref nb_18)] [])) _
    refine XS.iload X18.here hx rfl (hb hby at_131) rfl ?_
    show Steps p.tables e below (T18.setTop (mkF m 133 #[.val (.int sz), .val (.long x0), .second, .val (.long x1), .second, .val (.long x2), .second, .val (.int (3 : Int32)), .val (.ref b1), .val (.ref b2), .val (.ref nb_18)] [(.int (3 : Int32))])) _
    refine XS.ifNo X18.here hx rfl (hb hby at_133) rfl ((if0 _ _).trans (tlt (by decide : (0 : Int32) < (3 : Int32))).2.2.2) ?_
    show Steps p.tables e below (T18.setTop (mkF m 136 #[.val (.int sz), .val (.long x0), .second, .val (.long x1), .second, .val (.long x2), .second, .val (.int (3 : Int32)), .val (.ref b1), .val (.ref b2), .val (.ref nb_18)] [])) _
    refine XS.aload X18.here hx rfl (hb hby at_136) rfl rfl ?_
    show Steps p.tables e below (T18.setTop (mkF m 138 #[.val (.int sz), .val (.long x0), .second, .val (.long x1), .second, .val (.long x2), .second, .val (.int (3 : Int32)), .val (.ref b1), .val (.ref b2), .val (.ref nb_18)] [(.ref nb_18)])) _
    refine XS.iconst X18.here hx rfl (hb hby at_138) ?_
    show Steps p.tables e below (T18.setTop (mkF m 139 #[.val (.int sz), .val (.long x0), .second, .val (.long x1), .second, .val (.long x2), .second, .val (.int (3 : Int32)), .val (.ref b1), .val (.ref b2), .val (.ref nb_18)] [(.int (0 : Int32)), (.ref nb_18)])) _
    refine X18.daload hx (j := (0 : Int32)) (v := (.double (FP.ddiv (FP.l2d ((nu0.toInt64) * (de0.toInt64))) (FP.i2d de0)))) Ar20.1 (State.isArrayOf_alike hZ.alike Ar20.2.1) Ar20.2.2 hin20 hat20 (g := (mkF m 139 #[.val (.int sz), .val (.long x0), .second, .val (.long x1), .second, .val (.long x2), .second, .val (.int (3 : Int32)), .val (.ref b1), .val (.ref b2), .val (.ref nb_18)] [(.int (0 : Int32)), (.ref nb_18)])) rfl rfl (hb hby at_139) _ ?_
    show Steps p.tables e below (T18.setTop (mkF m 140 #[.val (.int sz), .val (.long x0), .second, .val (.long x1), .second, .val (.long x2), .second, .val (.int (3 : Int32)), .val (.ref b1), .val (.ref b2), .val (.ref nb_18)] [(.double (FP.ddiv (FP.l2d ((nu0.toInt64) * (de0.toInt64))) (FP.i2d de0)))])) _
    refine XS.lloadN X18.here hx rfl (hb hby at_140) rfl ?_
    show Steps p.tables e below (T18.setTop (mkF m 141 #[.val (.int sz), .val (.long x0), .second, .val (.long x1), .second, .val (.long x2), .second, .val (.int (3 : Int32)), .val (.ref b1), .val (.ref b2), .val (.ref nb_18)] [(.long x0), (.double (FP.ddiv (FP.l2d ((nu0.toInt64) * (de0.toInt64))) (FP.i2d de0)))])) _
    refine st21 _ ?_
    show Steps p.tables e below (T21.setTop (mkF m 144 #[.val (.int sz), .val (.long x0), .second, .val (.long x1), .second, .val (.long x2), .second, .val (.int (3 : Int32)), .val (.ref b1), .val (.ref b2), .val (.ref nb_18)] [(.int nu0), (.double (FP.ddiv (FP.l2d ((nu0.toInt64) * (de0.toInt64))) (FP.i2d de0)))])) _
    refine Jvm.Free.XS.i2dS X21.here hx rfl (hb hby at_144) rfl rfl ?_
    show Steps p.tables e below (T21.setTop (mkF m 145 #[.val (.int sz), .val (.long x0), .second, .val (.long x1), .second, .val (.long x2), .second, .val (.int (3 : Int32)), .val (.ref b1), .val (.ref b2), .val (.ref nb_18)] [(.double (FP.i2d nu0)), (.double (FP.ddiv (FP.l2d ((nu0.toInt64) * (de0.toInt64))) (FP.i2d de0)))])) _
    refine Jvm.Free.XS.dcmpS X21.here hx rfl (hb hby at_145) rfl cm0 ?_
    show Steps p.tables e below (T21.setTop (mkF m 146 #[.val (.int sz), .val (.long x0), .second, .val (.long x1), .second, .val (.long x2), .second, .val (.int (3 : Int32)), .val (.ref b1), .val (.ref b2), .val (.ref nb_18)] [(.int (0 : Int32))])) _
    refine XS.ifYes X21.here hx rfl (pc0 := 146) (pc' := 151) rfl (hb hby at_146) rfl ((if0 _ _).trans (teq (rfl : (0 : Int32) = (0 : Int32))).1) (by decide) (by decide) ?_
    show Steps p.tables e below (T21.setTop (mkF m 151 #[.val (.int sz), .val (.long x0), .second, .val (.long x1), .second, .val (.long x2), .second, .val (.int (3 : Int32)), .val (.ref b1), .val (.ref b2), .val (.ref nb_18)] [])) _
    refine XS.iload X21.here hx rfl (hb hby at_151) rfl ?_
    show Steps p.tables e below (T21.setTop (mkF m 153 #[.val (.int sz), .val (.long x0), .second, .val (.long x1), .second, .val (.long x2), .second, .val (.int (3 : Int32)), .val (.ref b1), .val (.ref b2), .val (.ref nb_18)] [(.int (3 : Int32))])) _
    refine XS.iconst X21.here hx rfl (hb hby at_153) ?_
    show Steps p.tables e below (T21.setTop (mkF m 154 #[.val (.int sz), .val (.long x0), .second, .val (.long x1), .second, .val (.long x2), .second, .val (.int (3 : Int32)), .val (.ref b1), .val (.ref b2), .val (.ref nb_18)] [(.int (1 : Int32)), (.int (3 : Int32))])) _
    refine XS.icmpNo X21.here hx rfl (hb hby at_154) rfl (tlt (by decide : (1 : Int32) < (3 : Int32))).2.2.2 ?_
    show Steps p.tables e below (T21.setTop (mkF m 157 #[.val (.int sz), .val (.long x0), .second, .val (.long x1), .second, .val (.long x2), .second, .val (.int (3 : Int32)), .val (.ref b1), .val (.ref b2), .val (.ref nb_18)] [])) _
    refine XS.aload X21.here hx rfl (hb hby at_157) rfl rfl ?_
    show Steps p.tables e below (T21.setTop (mkF m 159 #[.val (.int sz), .val (.long x0), .second, .val (.long x1), .second, .val (.long x2), .second, .val (.int (3 : Int32)), .val (.ref b1), .val (.ref b2), .val (.ref nb_18)] [(.ref nb_18)])) _
    refine XS.iconst X21.here hx rfl (hb hby at_159) ?_
    show Steps p.tables e below (T21.setTop (mkF m 160 #[.val (.int sz), .val (.long x0), .second, .val (.long x1), .second, .val (.long x2), .second, .val (.int (3 : Int32)), .val (.ref b1), .val (.ref b2), .val (.ref nb_18)] [(.int (1 : Int32)), (.ref nb_18)])) _
    refine X21.daload hx (j := (1 : Int32)) (v := (.double (FP.ddiv (FP.l2d ((nu1.toInt64) * (de1.toInt64))) (FP.i2d de1)))) (by rw [e21]; exact Ar22.1) (State.isArrayOf_alike hZ.alike Ar22.2.1) Ar22.2.2 hin22 hat22 (g := (mkF m 160 #[.val (.int sz), .val (.long x0), .second, .val (.long x1), .second, .val (.long x2), .second, .val (.int (3 : Int32)), .val (.ref b1), .val (.ref b2), .val (.ref nb_18)] [(.int (1 : Int32)), (.ref nb_18)])) rfl rfl (hb hby at_160) _ ?_
    show Steps p.tables e below (T21.setTop (mkF m 161 #[.val (.int sz), .val (.long x0), .second, .val (.long x1), .second, .val (.long x2), .second, .val (.int (3 : Int32)), .val (.ref b1), .val (.ref b2), .val (.ref nb_18)] [(.double (FP.ddiv (FP.l2d ((nu1.toInt64) * (de1.toInt64))) (FP.i2d de1)))])) _
    refine XS.lloadN X21.here hx rfl (hb hby at_161) rfl ?_
    show Steps p.tables e below (T21.setTop (mkF m 162 #[.val (.int sz), .val (.long x0), .second, .val (.long x1), .second, .val (.long x2), .second, .val (.int (3 : Int32)), .val (.ref b1), .val (.ref b2), .val (.ref nb_18)] [(.long x1), (.double (FP.ddiv (FP.l2d ((nu1.toInt64) * (de1.toInt64))) (FP.i2d de1)))])) _
    refine st23 _ ?_
    show Steps p.tables e below (T23.setTop (mkF m 165 #[.val (.int sz), .val (.long x0), .second, .val (.long x1), .second, .val (.long x2), .second, .val (.int (3 : Int32)), .val (.ref b1), .val (.ref b2), .val (.ref nb_18)] [(.int nu1), (.double (FP.ddiv (FP.l2d ((nu1.toInt64) * (de1.toInt64))) (FP.i2d de1)))])) _
    refine Jvm.Free.XS.i2dS X23.here hx rfl (hb hby at_165) rfl rfl ?_
    show Steps p.tables e below (T23.setTop (mkF m 166 #[.val (.int sz), .val (.long x0), .second, .val (.long x1), .second, .val (.long x2), .second, .val (.int (3 : Int32)), .val (.ref b1), .val (.ref b2), .val (.ref nb_18)] [(.double (FP.i2d nu1)), (.double (FP.ddiv (FP.l2d ((nu1.toInt64) * (de1.toInt64))) (FP.i2d de1)))])) _
    refine Jvm.Free.XS.dcmpS X23.here hx rfl (hb hby at_166) rfl cm1 ?_
    show Steps p.tables e below (T23.setTop (mkF m 167 #[.val (.int sz), .val (.long x0), .second, .val (.long x1), .second, .val (.long x2), .second, .val (.int (3 : Int32)), .val (.ref b1), .val (.ref b2), .val (.ref nb_18)] [(.int (0 : Int32))])) _
    refine XS.ifYes X23.here hx rfl (pc0 := 167) (pc' := 172) rfl (hb hby at_167) rfl ((if0 _ _).trans (teq (rfl : (0 : Int32) = (0 : Int32))).1) (by decide) (by decide) ?_
    show Steps p.tables e below (T23.setTop (mkF m 172 #[.val (.int sz), .val (.long x0), .second, .val (.long x1), .second, .val (.long x2), .second, .val (.int (3 : Int32)), .val (.ref b1), .val (.ref b2), .val (.ref nb_18)] [])) _
    refine XS.iload X23.here hx rfl (hb hby at_172) rfl ?_
    show Steps p.tables e below (T23.setTop (mkF m 174 #[.val (.int sz), .val (.long x0), .second, .val (.long x1), .second, .val (.long x2), .second, .val (.int (3 : Int32)), .val (.ref b1), .val (.ref b2), .val (.ref nb_18)] [(.int (3 : Int32))])) _
    refine XS.iconst X23.here hx rfl (hb hby at_174) ?_
    show Steps p.tables e below (T23.setTop (mkF m 175 #[.val (.int sz), .val (.long x0), .second, .val (.long x1), .second, .val (.long x2), .second, .val (.int (3 : Int32)), .val (.ref b1), .val (.ref b2), .val (.ref nb_18)] [(.int (2 : Int32)), (.int (3 : Int32))])) _
    refine XS.icmpNo X23.here hx rfl (hb hby at_175) rfl (tlt (by decide : (2 : Int32) < (3 : Int32))).2.2.2 ?_
    show Steps p.tables e below (T23.setTop (mkF m 178 #[.val (.int sz), .val (.long x0), .second, .val (.long x1), .second, .val (.long x2), .second, .val (.int (3 : Int32)), .val (.ref b1), .val (.ref b2), .val (.ref nb_18)] [])) _
    refine XS.aload X23.here hx rfl (hb hby at_178) rfl rfl ?_
    show Steps p.tables e below (T23.setTop (mkF m 180 #[.val (.int sz), .val (.long x0), .second, .val (.long x1), .second, .val (.long x2), .second, .val (.int (3 : Int32)), .val (.ref b1), .val (.ref b2), .val (.ref nb_18)] [(.ref nb_18)])) _
    refine XS.iconst X23.here hx rfl (hb hby at_180) ?_
    show Steps p.tables e below (T23.setTop (mkF m 181 #[.val (.int sz), .val (.long x0), .second, .val (.long x1), .second, .val (.long x2), .second, .val (.int (3 : Int32)), .val (.ref b1), .val (.ref b2), .val (.ref nb_18)] [(.int (2 : Int32)), (.ref nb_18)])) _
    refine X23.daload hx (j := (2 : Int32)) (v := (.double (FP.ddiv (FP.l2d ((nu2.toInt64) * (de2.toInt64))) (FP.i2d de2)))) (by rw [e23]; exact Ar24.1) (State.isArrayOf_alike hZ.alike Ar24.2.1) Ar24.2.2 hin24 hat24 (g := (mkF m 181 #[.val (.int sz), .val (.long x0), .second, .val (.long x1), .second, .val (.long x2), .second, .val (.int (3 : Int32)), .val (.ref b1), .val (.ref b2), .val (.ref nb_18)] [(.int (2 : Int32)), (.ref nb_18)])) rfl rfl (hb hby at_181) _ ?_
    show Steps p.tables e below (T23.setTop (mkF m 182 #[.val (.int sz), .val (.long x0), .second, .val (.long x1), .second, .val (.long x2), .second, .val (.int (3 : Int32)), .val (.ref b1), .val (.ref b2), .val (.ref nb_18)] [(.double (FP.ddiv (FP.l2d ((nu2.toInt64) * (de2.toInt64))) (FP.i2d de2)))])) _
    refine XS.lload X23.here hx rfl (hb hby at_182) rfl ?_
    show Steps p.tables e below (T23.setTop (mkF m 184 #[.val (.int sz), .val (.long x0), .second, .val (.long x1), .second, .val (.long x2), .second, .val (.int (3 : Int32)), .val (.ref b1), .val (.ref b2), .val (.ref nb_18)] [(.long x2), (.double (FP.ddiv (FP.l2d ((nu2.toInt64) * (de2.toInt64))) (FP.i2d de2)))])) _
    refine st25 _ ?_
    show Steps p.tables e below (T25.setTop (mkF m 187 #[.val (.int sz), .val (.long x0), .second, .val (.long x1), .second, .val (.long x2), .second, .val (.int (3 : Int32)), .val (.ref b1), .val (.ref b2), .val (.ref nb_18)] [(.int nu2), (.double (FP.ddiv (FP.l2d ((nu2.toInt64) * (de2.toInt64))) (FP.i2d de2)))])) _
    refine Jvm.Free.XS.i2dS X25.here hx rfl (hb hby at_187) rfl rfl ?_
    show Steps p.tables e below (T25.setTop (mkF m 188 #[.val (.int sz), .val (.long x0), .second, .val (.long x1), .second, .val (.long x2), .second, .val (.int (3 : Int32)), .val (.ref b1), .val (.ref b2), .val (.ref nb_18)] [(.double (FP.i2d nu2)), (.double (FP.ddiv (FP.l2d ((nu2.toInt64) * (de2.toInt64))) (FP.i2d de2)))])) _
    refine Jvm.Free.XS.dcmpS X25.here hx rfl (hb hby at_188) rfl cm2 ?_
    show Steps p.tables e below (T25.setTop (mkF m 189 #[.val (.int sz), .val (.long x0), .second, .val (.long x1), .second, .val (.long x2), .second, .val (.int (3 : Int32)), .val (.ref b1), .val (.ref b2), .val (.ref nb_18)] [(.int (0 : Int32))])) _
    refine XS.ifYes X25.here hx rfl (pc0 := 189) (pc' := 194) rfl (hb hby at_189) rfl ((if0 _ _).trans (teq (rfl : (0 : Int32) = (0 : Int32))).1) (by decide) (by decide) ?_
    show Steps p.tables e below (T25.setTop (mkF m 194 #[.val (.int sz), .val (.long x0), .second, .val (.long x1), .second, .val (.long x2), .second, .val (.int (3 : Int32)), .val (.ref b1), .val (.ref b2), .val (.ref nb_18)] [])) _
    refine XS.iconst X25.here hx rfl (hb hby at_194) ?_
    show Steps p.tables e below (T25.setTop (mkF m 195 #[.val (.int sz), .val (.long x0), .second, .val (.long x1), .second, .val (.long x2), .second, .val (.int (3 : Int32)), .val (.ref b1), .val (.ref b2), .val (.ref nb_18)] [(.int (1 : Int32))])) _
    exact retN X25 hx (t := .boolean) Bd.returns (by simp) (hb hby at_195) hr
  · show Q_rm0_3 Z sz x0 x1 x2 nu0 de0 nu1 de1 nu2 de2 h0 n0 _ T25.heap _
    rw [e25]
    exact ⟨rfl, N25⟩
theorem own_shr (y : Int32) : -1048576 ≤ (y >>> ((11 : Int32) &&& 31)).toInt ∧ (y >>> ((11 : Int32) &&& 31)).toInt < 1048576 := by
  have h := Jvm.Kit.i32_shr y ((11 : Int32) &&& 31) (k := 11) (by decide)
  have h1 := y.le_toInt
  have h2 := y.toInt_lt
  rw [h]
  omega
theorem own_N (l : Launch) (Z : State) (a0 : Array Value) (hw : ∀ d ∈ tables_1, d.before a0 Z = true) (n0 : Nat) (q : Int64) : ∃ r : Int32, -1048576 ≤ r.toInt ∧ r.toInt < 1048576 ∧ ∀ h, n0 ≤ h.size → OwnPure l Z h n0 (⟨"com/example/huron/huron/testing/TimedTurnsRatiosPinLaw", "num", "(J)I"⟩ : MethodName) method_2_code 2 (some .int) ({ frames := 0, cells := 0, slots := 0, locals := 0 } : Room) #[.long q] (.int r) :=
  ⟨_, (own_shr _).1, (own_shr _).2, fun h hh ws => rmN l Z a0 hw ws q _ h n0 hh rfl⟩
theorem own_D (l : Launch) (Z : State) (a0 : Array Value) (hw : ∀ d ∈ tables_1, d.before a0 Z = true) (n0 : Nat) (q : Int64) : ∃ r : Int32, ¬ r = 0 ∧ -1048576 ≤ r.toInt ∧ r.toInt < 1048576 ∧ ∀ h, n0 ≤ h.size → OwnPure l Z h n0 (⟨"com/example/huron/huron/testing/TimedTurnsRatiosPinLaw", "den", "(J)I"⟩ : MethodName) method_3_code 3 (some .int) ({ frames := 0, cells := 0, slots := 0, locals := 0 } : Room) #[.long q] (.int r) := by
  by_cases hz : ((q.toInt32) >>> ((11 : Int32) &&& 31)) = (0 : Int32)
  · exact ⟨1, by decide, by decide, by decide, fun h hh ws => rmDa l Z a0 hw ws q h n0 hh hz⟩
  · exact ⟨((q.toInt32) >>> ((11 : Int32) &&& 31)), hz, (own_shr _).1, (own_shr _).2, fun h hh ws => rmDb l Z a0 hw ws q ((q.toInt32) >>> ((11 : Int32) &&& 31)) h n0 hh rfl hz⟩
theorem own_four (x : Int32) : (x &&& (3 : Int32)) = 0 ∨ (x &&& (3 : Int32)) = 1 ∨ (x &&& (3 : Int32)) = 2 ∨ (x &&& (3 : Int32)) = 3 := by
  have h := Jvm.Kit.i32_mask x 3 (k := 2) (by decide) (by decide)
  generalize (x &&& (3 : Int32)) = y at h ⊢
  have z : y.toInt = 0 ∨ y.toInt = 1 ∨ y.toInt = 2 ∨ y.toInt = 3 := by omega
  rcases z with z | z | z | z
  · exact Or.inl (Int32.toInt_inj.mp z)
  · exact Or.inr (Or.inl (Int32.toInt_inj.mp z))
  · exact Or.inr (Or.inr (Or.inl (Int32.toInt_inj.mp z)))
  · exact Or.inr (Or.inr (Or.inr (Int32.toInt_inj.mp z)))
set_option maxRecDepth 65536 in
set_option maxHeartbeats 40000000 in
theorem comes_1 {Post : Tables → Env → Array Value → State → Outcome → State → Prop} (hpost : ∀ tb e args s v u, (limb_1_1.after args s (.returned v) u = true ∧ limb_1_2.after args s (.returned v) u = true ∧ True) → FrameEnd s (.returned v) u (Jvm.fieldLocs frame_1_writes args s ++ Jvm.arrayLocs frame_1_arrays args s ++ Jvm.staticLocs frame_1_statics s) 16 128 → Post tb e args s (.returned v) u) :
    ArmFor flags0 classFile x code maxLocals ret World_1 tables_1 room_1 Calls_1 rest_1 Pre_1 Post := by
  intro l hfl _ _ p e ha hc hk s m args below hf hA hF happ hP
  obtain ⟨hcalls, hrest, hpre⟩ := hP
  obtain ⟨-, -, -, hnamed, -, -, -, hat⟩ := (Spec.applies_iff hf).mp happ
  obtain ⟨hg, hn⟩ := and_e (Cond.before_iff.mp (show (Jvm.Cond.and given_1 narrow_1).before args s = true from hpre))
  obtain ⟨gc, gr0⟩ := and_e hg
  obtain ⟨ga0, gr1⟩ := and_e gr0
  obtain ⟨ga1, gr2⟩ := and_e gr1
  obtain ⟨ga2, gr3⟩ := and_e gr2
  obtain ⟨w0, w1, w2, w3, rfl⟩ : ∃ w0 w1 w2 w3 : Value, args = #[w0, w1, w2, w3] := by
    have hs : args.size = 4 := by simpa [Cond.value, given_1] using gc
    obtain ⟨L⟩ := args
    match L, hs with
    | [w0, w1, w2, w3], _ => exact ⟨w0, w1, w2, w3, rfl⟩
  have hw := fun d (hd : d ∈ tables_1) => atoms_spec (ws := Jvm.Cond.code x code maxLocals ret :: tables_1) hat d (List.mem_cons_of_mem _ hd)
  obtain ⟨i0, ei0⟩ := is_v ga0
  obtain rfl : w0 = (.int i0) := Option.some.inj ei0
  obtain ⟨i1, ei1⟩ := isL_v ga1
  obtain rfl : w1 = (.long i1) := Option.some.inj ei1
  obtain ⟨i2, ei2⟩ := isL_v ga2
  obtain rfl : w2 = (.long i2) := Option.some.inj ei2
  obtain ⟨i3, ei3⟩ := isL_v gr3
  obtain rfl : w3 = (.long i3) := Option.some.inj ei3
  obtain ⟨nu0, a0, b0, pN0⟩ := own_N l s _ hw s.heap.size i1
  obtain ⟨de0, z0, c0, d0, pD0⟩ := own_D l s _ hw s.heap.size i1
  have q0 := Jvm.OwnFP.own_div z0 a0 b0 c0 d0
  obtain ⟨nu1, a1, b1, pN1⟩ := own_N l s _ hw s.heap.size i2
  obtain ⟨de1, z1, c1, d1, pD1⟩ := own_D l s _ hw s.heap.size i2
  have q1 := Jvm.OwnFP.own_div z1 a1 b1 c1 d1
  obtain ⟨nu2, a2, b2, pN2⟩ := own_N l s _ hw s.heap.size i3
  obtain ⟨de2, z2, c2, d2, pD2⟩ := own_D l s _ hw s.heap.size i3
  have q2 := Jvm.OwnFP.own_div z2 a2 b2 c2 d2
  rcases own_four i0 with hz | hz | hz | hz
  · obtain ⟨n, o, h1, h2, h3, _, L, rfl, ⟨rfl, N⟩, hq⟩ := rm0_0 l s _ hw tables_1 i0 i1 i2 i3 nu0 de0 nu1 de1 nu2 de2 s.heap s.heap.size (Old.start s) hz    p e ha hc hk s m _ below hf ((Spec.applies_iff_loose hf).mp happ).1 ⟨rfl, State.Warmed39.refl s, rfl⟩ trivial
    exact ⟨n, _, h1, h2, h3, hpost _ _ _ _ _ _ ⟨Cond.after_iff.mpr rfl, Cond.after_iff.mpr (eq_i res_at (Term.int_eval (1)) rfl), trivial⟩ ⟨hq.1, hq.2.1, (hq.2.2.sift fun y hy => Or.inr (N y hy)).mono (by decide) (by decide)⟩⟩
  · obtain ⟨n, o, h1, h2, h3, _, L, rfl, ⟨rfl, N⟩, hq⟩ := rm0_1 l s _ hw tables_1 i0 i1 i2 i3 nu0 de0 nu1 de1 nu2 de2 s.heap s.heap.size (Old.start s) hz pN0 pD0 q0.1 q0.2 p e ha hc hk s m _ below hf ((Spec.applies_iff_loose hf).mp happ).1 ⟨rfl, State.Warmed39.refl s, rfl⟩ trivial
    exact ⟨n, _, h1, h2, h3, hpost _ _ _ _ _ _ ⟨Cond.after_iff.mpr rfl, Cond.after_iff.mpr (eq_i res_at (Term.int_eval (1)) rfl), trivial⟩ ⟨hq.1, hq.2.1, (hq.2.2.sift fun y hy => Or.inr (N y hy)).mono (by decide) (by decide)⟩⟩
  · obtain ⟨n, o, h1, h2, h3, _, L, rfl, ⟨rfl, N⟩, hq⟩ := rm0_2 l s _ hw tables_1 i0 i1 i2 i3 nu0 de0 nu1 de1 nu2 de2 s.heap s.heap.size (Old.start s) hz pN0 pD0 pN1 pD1 q0.1 q1.1 q0.2 q1.2 p e ha hc hk s m _ below hf ((Spec.applies_iff_loose hf).mp happ).1 ⟨rfl, State.Warmed39.refl s, rfl⟩ trivial
    exact ⟨n, _, h1, h2, h3, hpost _ _ _ _ _ _ ⟨Cond.after_iff.mpr rfl, Cond.after_iff.mpr (eq_i res_at (Term.int_eval (1)) rfl), trivial⟩ ⟨hq.1, hq.2.1, (hq.2.2.sift fun y hy => Or.inr (N y hy)).mono (by decide) (by decide)⟩⟩
  · obtain ⟨n, o, h1, h2, h3, _, L, rfl, ⟨rfl, N⟩, hq⟩ := rm0_3 l s _ hw tables_1 i0 i1 i2 i3 nu0 de0 nu1 de1 nu2 de2 s.heap s.heap.size (Old.start s) hz pN0 pD0 pN1 pD1 pN2 pD2 q0.1 q1.1 q2.1 q0.2 q1.2 q2.2 p e ha hc hk s m _ below hf ((Spec.applies_iff_loose hf).mp happ).1 ⟨rfl, State.Warmed39.refl s, rfl⟩ trivial
    exact ⟨n, _, h1, h2, h3, hpost _ _ _ _ _ _ ⟨Cond.after_iff.mpr rfl, Cond.after_iff.mpr (eq_i res_at (Term.int_eval (1)) rfl), trivial⟩ ⟨hq.1, hq.2.1, (hq.2.2.sift fun y hy => Or.inr (N y hy)).mono (by decide) (by decide)⟩⟩
theorem main_1_1 : Claimed_1_1 := comes_1 fun _ _ _ _ _ _ h hF => ⟨h.1, hF⟩
theorem main_1_2 : Claimed_1_2 := comes_1 fun _ _ _ _ _ _ h hF => ⟨h.2.1, hF⟩
end Jvm.Pilot.@@N@@
namespace Jvm.Pilot.@@N@@
open Jvm Jvm.ClassFile Sem Op Lib Jvm.Free Jvm.Stand Jvm.Pilot.@@N@@.Jvm.D
/-! MADE BY PROGRAM (witnessworld.py) out of the Statement's table words and the real class files: 9 classes; the members and pool entries that the words name. The judged class is class 1, her method 3. -/
namespace start1
open Jvm.ClassFile
def u (s : String) : CpInfo := .utf8 (stringToUtf16 s)
/-- a pool by its gaps: so many unusable entries, then the entry; so many at the end -/
def gap : Nat → List CpInfo → List CpInfo
  | 0, r => r
  | n + 1, r => .unusable :: gap n r
def poolList (es : List (Nat × CpInfo)) (last : Nat) : List CpInfo := es.foldr (fun e r => gap e.1 (e.2 :: r)) (gap last [])
def pool (es : List (Nat × CpInfo)) (last : Nat) : Array CpInfo := ⟨poolList es last⟩
def fileOf (pool : Array CpInfo) (this : Nat) (attrs : Array Attribute := #[]) (ms : Array MethodInfo := #[]) (fl : Nat := 33) (sup : Nat := 0) (ifs : Array Nat := #[]) (fds : Array FieldInfo := #[]) : ClassFile where
  minorVersion := 0
  majorVersion := 65
  constantPool := pool
  accessFlags := fl
  thisClass := this
  superClass := sup
  interfaces := ifs
  fields := fds
  methods := ms
  attributes := attrs
def plain (name : String) (sup : Option ClassId) : Class where
  name := name
  kind := .ordinary
  loader := none
  accessFlags := 33
  super := sup
  interfaces := #[]
  cf := none
  fields := #[]
  methods := #[]
  instanceTypes := #[]
  staticTypes := #[]
  resolved := #[]
  callSites := []
  init := .initialized
  statics := none
  mirror := none

def pool0 : Array CpInfo := pool [(5, u "<init>"), (0, u "()V"), (1, .class_ 10), (1, u "java/lang/Object")] 113

def k0m0 : Method := { name := "<init>", desc := "()V", sig := { parameters := [], returnType := none }, accessFlags := 1, code := none }
/-- java/lang/Object -/
def k0 : Class := { plain "java/lang/Object" none with
  accessFlags := 33
  interfaces := #[]
  cf := some (fileOf pool0 8 #[] #[{ accessFlags := 1, nameIndex := 5, descriptorIndex := 6, attributes := #[] }] 33 0 #[] #[])
  fields := #[]
  methods := #[k0m0]
  instanceTypes := #[]
  staticTypes := #[]
  resolved := Array.replicate 124 none
  statics := none }

def pool1 : Array CpInfo := pool [(2, .class_ 4), (1, u "java/lang/Object"), (0, u "<init>"), (0, u "()V"), (0, .methodref 8 9), (0, .class_ 10), (0, .nameAndType 11 12), (0, u "com/example/huron/huron/testing/TimedTurnsRatiosPinLaw"), (0, u "num"), (0, u "(J)I"), (0, .methodref 8 14), (0, .nameAndType 15 12), (0, u "den"), (0, .methodref 17 18), (0, .class_ 19), (0, .nameAndType 20 21), (0, u "com/example/huron/huron/testing/TimedTurns"), (0, u "ratios"), (0, u "([D[D)[D"), (3, u "law"), (0, u "(IJJJ)Z")] 4

def k1m0 : Method := { name := "<init>", desc := "()V", sig := { parameters := [], returnType := none }, accessFlags := 2, code := none }
def k1c1 : Code := { maxStack := 3, maxLocals := 2, code := method_2_code, exceptionTable := #[], attributes := #[] }
def k1m1 : Method := { name := "num", desc := "(J)I", sig := { parameters := [.long], returnType := some .int }, accessFlags := 10, code := some k1c1 }
def k1c2 : Code := { maxStack := 2, maxLocals := 3, code := method_3_code, exceptionTable := #[], attributes := #[] }
def k1m2 : Method := { name := "den", desc := "(J)I", sig := { parameters := [.long], returnType := some .int }, accessFlags := 10, code := some k1c2 }
def k1c3 : Code := { maxStack := 6, maxLocals := 11, code := code, exceptionTable := #[], attributes := #[] }
def k1m3 : Method := { name := "law", desc := "(IJJJ)Z", sig := { parameters := [.int, .long, .long, .long], returnType := some .boolean }, accessFlags := 9, code := some k1c3 }
/-- com/example/huron/huron/testing/TimedTurnsRatiosPinLaw -/
def k1 : Class := { plain "com/example/huron/huron/testing/TimedTurnsRatiosPinLaw" (some 0) with
  accessFlags := 49
  interfaces := #[]
  cf := some (fileOf pool1 8 #[] #[{ accessFlags := 2, nameIndex := 5, descriptorIndex := 6, attributes := #[] }, { accessFlags := 10, nameIndex := 11, descriptorIndex := 12, attributes := #[] }, { accessFlags := 10, nameIndex := 15, descriptorIndex := 12, attributes := #[] }, { accessFlags := 9, nameIndex := 25, descriptorIndex := 26, attributes := #[] }] 49 2 #[] #[])
  fields := #[]
  methods := #[k1m0, k1m1, k1m2, k1m3]
  instanceTypes := #[]
  staticTypes := #[]
  resolved := Array.replicate 31 none
  statics := none }

def pool2 : Array CpInfo := pool [(2, .class_ 4), (1, u "java/lang/Object"), (0, u "<init>"), (0, u "()V"), (1, .class_ 10), (1, u "com/example/huron/huron/testing/TimedTurns"), (14, .class_ 26), (0, u "com/example/huron/huron/testing/TimedTurns$Timed"), (84, .class_ 113), (1, u "com/example/huron/huron/testing/TimedTurns$Call"), (15, u "ratios"), (0, u "([D[D)[D"), (10, .class_ 142), (0, u "com/example/huron/huron/testing/TimedTurns$Pair")] 33

def k2m0 : Method := { name := "<init>", desc := "()V", sig := { parameters := [], returnType := none }, accessFlags := 2, code := none }
def k2c1 : Code := { maxStack := 6, maxLocals := 4, code := prog_70_method_7_code, exceptionTable := #[], attributes := #[] }
def k2m1 : Method := { name := "ratios", desc := "([D[D)[D", sig := { parameters := [(.array .double), (.array .double)], returnType := some (.array .double) }, accessFlags := 9, code := some k2c1 }
/-- com/example/huron/huron/testing/TimedTurns -/
def k2 : Class := { plain "com/example/huron/huron/testing/TimedTurns" (some 0) with
  accessFlags := 33
  interfaces := #[]
  cf := some (fileOf pool2 8 #[.nestMembers #[141, 111, 25]] #[{ accessFlags := 2, nameIndex := 5, descriptorIndex := 6, attributes := #[] }, { accessFlags := 9, nameIndex := 129, descriptorIndex := 130, attributes := #[] }] 33 2 #[] #[])
  fields := #[]
  methods := #[k2m0, k2m1]
  instanceTypes := #[]
  staticTypes := #[]
  resolved := Array.replicate 176 none
  statics := none }

def pool3 : Array CpInfo := pool [(1, u "java/lang/Cloneable"), (0, .class_ 1), (0, u "java/lang/Object"), (0, .class_ 3)] 3

/-- java/lang/Cloneable -/
def k3 : Class := { plain "java/lang/Cloneable" (some 0) with
  accessFlags := 1537
  interfaces := #[]
  cf := some (fileOf pool3 2 #[] #[] 1537 4 #[] #[])
  fields := #[]
  methods := #[]
  instanceTypes := #[]
  staticTypes := #[]
  resolved := Array.replicate 8 none
  statics := none }

def pool4 : Array CpInfo := pool [(1, u "java/io/Serializable"), (0, .class_ 1), (0, u "java/lang/Object"), (0, .class_ 3)] 3

/-- java/io/Serializable -/
def k4 : Class := { plain "java/io/Serializable" (some 0) with
  accessFlags := 1537
  interfaces := #[]
  cf := some (fileOf pool4 2 #[] #[] 1537 4 #[] #[])
  fields := #[]
  methods := #[]
  instanceTypes := #[]
  staticTypes := #[]
  resolved := Array.replicate 8 none
  statics := none }

/-- the primitive byte -/
def k5 : Class := { plain "byte" none with kind := .primitive 'B', accessFlags := 0x411 }
/-- [B -/
def k6 : Class := { plain "[B" (some 0) with kind := .array 5 .byte, interfaces := #[3, 4], accessFlags := 1041 }

/-- the primitive int -/
def k7 : Class := { plain "int" none with kind := .primitive 'I', accessFlags := 0x411 }
/-- [I -/
def k8 : Class := { plain "[I" (some 0) with kind := .array 7 .int, interfaces := #[3, 4], accessFlags := 1041 }

/-- the primitive double -/
def k9 : Class := { plain "double" none with kind := .primitive 'D', accessFlags := 0x411 }
/-- [D -/
def k10 : Class := { plain "[D" (some 0) with kind := .array 9 .double, interfaces := #[3, 4], accessFlags := 1041 }

def heap : Heap := #[]
def classes : Array Class := #[k0, k1, k2, k3, k4, k5, k6, k7, k8, k9, k10]
def interned : List (Array UInt16 × Addr) := []
def slotsUsed : Nat := 0
def theMethod : MethodId := ⟨1, 3⟩
def args0 : Array Value := #[.int 3, .long 5, .long 7, .long 9]
def aboutOver (below : List Frame) : State where
  vm := { classes := classes, interned := interned.toArray }
  heap := heap
  slotsUsed := slotsUsed
  threads := #[{ frames := .invoking theMethod args0 :: below }]
def below0 : List Frame := [.native { method := ⟨0, 0⟩, args := #[] }]
def about1 : State := aboutOver below0
def p0 : Program := .bare "" "" ""
def e0 : Env := launch0.env 0 0 0
theorem w_frames : about1.frames = Frame.invoking theMethod args0 :: below0 := rfl
set_option maxRecDepth 65536 in
theorem w_args : argsFit about1.vm theMethod args0 = true := by decide +kernel
set_option maxRecDepth 65536 in
theorem w_heap : heapFits about1 = true := by decide +kernel
set_option maxRecDepth 65536 in
theorem w_runnable : about1.curStatus? = some .runnable := by decide +kernel
set_option maxRecDepth 65536 in
theorem w_alone : about1.alone = true := by decide +kernel
set_option maxRecDepth 65536 in
theorem w_named : about1.methodNamed? x = some theMethod := by decide +kernel
set_option maxRecDepth 65536 in
theorem w_hears : about1.hears theMethod below0 = true := by decide +kernel
set_option maxRecDepth 65536 in
theorem w_ripe : about1.ripe theMethod args0 below0 = true := by decide +kernel
theorem w_running : about1.status = .running := rfl
set_option maxRecDepth 65536 in
theorem w_room : about1.hasRoom e0.platform room_1 = true :=
  launch0.hasRoom_least _ room_1 (by decide +kernel) (by decide +kernel) (by decide +kernel) (by decide +kernel) (by decide +kernel) (by decide +kernel)
theorem allAtoms_all (ts : List Jvm.Cond) (a : Array Jvm.Value) (st : Jvm.State) : (allAtoms ts).before a st = ts.all (fun c => c.before a st) := by
  induction ts with
  | nil => rfl
  | cons c t ih =>
    show (Jvm.Cond.and c (allAtoms t)).before a st = _
    rw [Jvm.Cond.before_and, ih, List.all_cons]
def words1 : List Jvm.Cond := Jvm.Cond.code x code maxLocals ret :: tables_1
/-- a 'code' word, met by the world's own term for the bytes: nothing is compared byte by byte -/
theorem code_word {y : MethodName} {bytes : ByteArray} {mx : Nat} {rt : Option FieldType} {a : Array Value} {s : State} {m : MethodId} {meth : Method} {c : Code} (h1 : s.methodNamed? y = some m) (h2 : s.vm.method? m = some meth) (h3 : meth.code = some c) (h4 : c.code = bytes)
    (h5 : (c.maxLocals == mx && c.exceptionTable.isEmpty && decide (c.maxStack ≤ mostOperands) && decide (meth.sig.returnType = rt) && !meth.locks && decide (parseMethodDescriptor y.desc = some meth.sig)) = true) : (Jvm.Cond.code y bytes mx rt).before a s = true := by
  simp only [Bool.and_eq_true, beq_iff_eq, Bool.not_eq_true', decide_eq_true_eq] at h5
  obtain ⟨⟨⟨⟨⟨g1, g2⟩, g3⟩, g4⟩, g5⟩, g6⟩ := h5
  simp [Cond.before, Cond.holds, Cond.value, h1, h2, h3, h4, g1, g2, g3, g4, g5, g6]
def isCode : Jvm.Cond → Bool
  | .code _ _ _ _ => true
  | _ => false
theorem all_split {L : List Jvm.Cond} {P : Jvm.Cond → Bool} (h1 : L.all (fun c => isCode c || P c) = true) (h2 : ∀ c ∈ L.filter isCode, P c = true) : L.all P = true := by
  refine List.all_eq_true.mpr fun c hc => ?_
  have h := List.all_eq_true.mp h1 c hc
  rcases Bool.eq_false_or_eq_true (isCode c) with hi | hi
  · exact h2 c (List.mem_filter.mpr ⟨hc, hi⟩)
  · simpa [hi] using h
set_option maxRecDepth 65536 in
theorem w_c0 : (Jvm.Cond.code x code maxLocals ret).before args0 about1 = true := code_word (m := ⟨1, 3⟩) (meth := k1m3) (c := k1c3) (by decide +kernel) rfl rfl rfl (by decide +kernel)
set_option maxRecDepth 65536 in
theorem w_c1 : (Jvm.Cond.code ({ cls := "com/example/huron/huron/testing/TimedTurns", name := "ratios", desc := "([D[D)[D" } : Jvm.MethodName) prog_70_method_7_code (4 : Nat) (Option.some (Jvm.ClassFile.FieldType.array Jvm.ClassFile.FieldType.double))).before args0 about1 = true := code_word (m := ⟨2, 1⟩) (meth := k2m1) (c := k2c1) (by decide +kernel) rfl rfl rfl (by decide +kernel)
set_option maxRecDepth 65536 in
theorem w_c2 : (Jvm.Cond.code ({ cls := "com/example/huron/huron/testing/TimedTurnsRatiosPinLaw", name := "num", desc := "(J)I" } : Jvm.MethodName) method_2_code (2 : Nat) (Option.some Jvm.ClassFile.FieldType.int)).before args0 about1 = true := code_word (m := ⟨1, 1⟩) (meth := k1m1) (c := k1c1) (by decide +kernel) rfl rfl rfl (by decide +kernel)
set_option maxRecDepth 65536 in
theorem w_c3 : (Jvm.Cond.code ({ cls := "com/example/huron/huron/testing/TimedTurnsRatiosPinLaw", name := "den", desc := "(J)I" } : Jvm.MethodName) method_3_code (3 : Nat) (Option.some Jvm.ClassFile.FieldType.int)).before args0 about1 = true := code_word (m := ⟨1, 2⟩) (meth := k1m2) (c := k1c2) (by decide +kernel) rfl rfl rfl (by decide +kernel)
def codes1 : List Jvm.Cond := [Jvm.Cond.code x code maxLocals ret, Jvm.Cond.code ({ cls := "com/example/huron/huron/testing/TimedTurns", name := "ratios", desc := "([D[D)[D" } : Jvm.MethodName) prog_70_method_7_code (4 : Nat) (Option.some (Jvm.ClassFile.FieldType.array Jvm.ClassFile.FieldType.double)), Jvm.Cond.code ({ cls := "com/example/huron/huron/testing/TimedTurnsRatiosPinLaw", name := "num", desc := "(J)I" } : Jvm.MethodName) method_2_code (2 : Nat) (Option.some Jvm.ClassFile.FieldType.int), Jvm.Cond.code ({ cls := "com/example/huron/huron/testing/TimedTurnsRatiosPinLaw", name := "den", desc := "(J)I" } : Jvm.MethodName) method_3_code (3 : Nat) (Option.some Jvm.ClassFile.FieldType.int)]
set_option maxRecDepth 65536 in
theorem codes_eq : words1.filter isCode = codes1 := rfl
theorem w_codes : ∀ c ∈ words1.filter isCode, c.before args0 about1 = true := by
  rw [codes_eq]
  intro c hc
  simp only [codes1, List.mem_cons, List.not_mem_nil, or_false] at hc
  rcases hc with rfl | rfl | rfl | rfl
  · exact w_c0
  · exact w_c1
  · exact w_c2
  · exact w_c3
set_option maxRecDepth 65536 in
theorem w_t1 : words1.all (fun c => isCode c || c.before args0 about1) = true := by decide +kernel
theorem w_tables : (allAtoms (Jvm.Cond.code x code maxLocals ret :: tables_1)).before args0 about1 = true := by
  rw [allAtoms_all]
  show words1.all (fun c => c.before args0 about1) = true
  refine all_split ?_ w_codes
  rw [w_t1]
set_option maxRecDepth 65536 in
theorem w_case : (Jvm.Cond.and given_1 narrow_1).before args0 about1 = true := by decide +kernel
theorem w_applies : (headSpec (Jvm.Cond.code x code maxLocals ret :: tables_1) room_1).applies x e0.platform about1 = true :=
  (Spec.applies_iff w_frames).mpr ⟨w_running, w_runnable, w_alone, w_named, w_hears, w_ripe, w_room, w_tables⟩
theorem atStart : AtStart classFile x code maxLocals ret World_1 tables_1 room_1 Calls_1 rest_1 Pre_1 launch0 p0 e0 about1 theMethod args0 below0 :=
  ⟨lists_1, trivial, launch0.admits_env _ _ _, launch0.least_env, fairChoices_fair.cas, fairChoices_fair.clock, w_frames, w_args, w_heap, w_applies, trivial, trivial, w_case⟩
end start1
theorem witness_1 : WitnessClaimed_1 := ⟨start1.p0, start1.e0, start1.about1, start1.theMethod, start1.args0, start1.below0, start1.atStart⟩
end Jvm.Pilot.@@N@@
