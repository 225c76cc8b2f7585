import JvmDerived
import JvmDerived.Pilot.@@N@@Statement
import JvmDerived.Pilot.@@N@@Code
set_option linter.unusedVariables false
set_option linter.unusedSimpArgs false
namespace Jvm.RoadKit
open Sem ClassFile Op Lib Jvm.Stand Jvm.Free Jvm.LawKit
section New
variable {p : Program} {l : Launch} {e : Env} {R : Room} {s : State} {m : MethodId} {args : Array Value} {below : List Frame} {meth : Method} {c : Code} {T : State} {locs : List Loc} {cells slots : Nat}
theorem retI (X : Stand p l e R s m args below meth c T locs cells slots) (hx : p.tables.exec = Jvm.exec) {pc : Nat} {Ls : Array Slot} {z : Int32} {rest : List Value} (hret : meth.sig.returnType = some .int) (hd : decode c.code pc = .ok (.ireturn, 1)) {fs : List Frame}
    (hl : ∀ (f : JFrame) (acts : List Action), f.method = m → f.locked = none → f.entered = [] → (doReturn e (T.setTop f) acts (some (.int z))).1 = T.setFrames fs) : Steps p.tables e below (T.setTop (mkF m pc Ls (.int z :: rest))) (T.setFrames fs) := by
  have hm' : T.vm.method? m = some meth := X.method'
  have hn : narrow .int (.int z) = .int z := rfl
  show Steps p.tables e below (T.setTop { method := m, pc := pc, locals := Ls, stack := _ :: rest, locked := none }) _
  jvm_step X.here [X.here.top, hx, hd, hm', hret, hn]
  first | (intro acts; rw [hl _ acts rfl rfl rfl]) | rw [hl _ _ rfl rfl rfl]
  exact Steps.refl _
end New
end Jvm.RoadKit
namespace Jvm.Pilot.@@N@@
open Jvm Jvm.ClassFile Sem Op Lib Jvm.Free Jvm.Stand Jvm.LawKit Jvm.RoadKit Bundle Jvm.Pilot.@@N@@.Jvm.D
theorem own_eqL {args : Array Value} {first s : State} {o : Option Outcome} {idx : List Nat} {t : Term} {i : Int64} (h : (Cond.eq t (.long i)).value args first o s idx = some true) : t.eval args first o idx s = some (.long i) := by
  have hi : (Term.long i).eval args first o idx s = some (.long i) := rfl
  simp only [Cond.value, hi] at h
  cases ht : t.eval args first o idx s with
  | none => simp [ht] at h
  | some x => cases x <;> simp [ht] at h ⊢; exact h
theorem d2_0 : decode jdk_29_method_70_code 0 = .ok (.lload_n 0, 1) := by decide +kernel
theorem d2_1 : decode jdk_29_method_70_code 1 = .ok (.lload_n 2, 1) := by decide +kernel
theorem d2_2 : decode jdk_29_method_70_code 2 = .ok (.lcmp, 1) := by decide +kernel
theorem d2_3 : decode jdk_29_method_70_code 3 = .ok (.ifCond .gt 7, 3) := by decide +kernel
theorem d2_6 : decode jdk_29_method_70_code 6 = .ok (.lload_n 0, 1) := by decide +kernel
theorem d2_7 : decode jdk_29_method_70_code 7 = .ok (.goto 4, 3) := by decide +kernel
theorem d2_11 : decode jdk_29_method_70_code 11 = .ok (.lreturn, 1) := by decide +kernel
theorem ef_2 (m : MethodId) (x0 : Int64) (x1 : Int64) : entryFrame m #[(.long x0), (.long x1)] 4 = mkF m 0 #[.val (.long x0), .second, .val (.long x1), .second] [] := by first | (simp [entryFrame, mkF, argsToLocals, Value.category]; done) | rfl
def Q2a (Z : State) (q1 : Int64) (q2 : Int64) (h0 : Heap) (n0 : Nat) (v : Option Value) (h : Heap) (L : List Loc) : Prop := v = some (.long q1) ∧ Fr n0 L ∧ h = h0
set_option maxRecDepth 65536 in
set_option maxHeartbeats 40000000 in
theorem rm2a (l : Launch) (Z : State) (a0 : Array Value) (hw : ∀ d ∈ tables_1, d.before a0 Z = true) (ws : List Jvm.Cond) (q1 : Int64) (q2 : Int64) (h0 : Heap) (n0 : Nat) (Z0 : n0 ≤ h0.size) (hc3 : ¬ ((0 : Int32) < (lcmpW q1 q2))) :
    MetFree l (⟨"java/lang/Math", "min", "(JJ)J"⟩ : MethodName) (head1 (Jvm.Cond.code (⟨"java/lang/Math", "min", "(JJ)J"⟩ : MethodName) jdk_29_method_70_code 4 (some .long) :: ws) ({ frames := 0, cells := 0, slots := 0, locals := 0 } : Room)) (fun a U => a = #[(.long q1), (.long q2)] ∧ Z.Warmed39 U.vm ∧ U.heap = h0) (fun _ _ _ _ _ => True) (fun _ U o U' => ∃ v L, o = .returned v ∧ Q2a Z q1 q2 h0 n0 v U'.heap L ∧ FrameEnd U o U' L ({ frames := 0, cells := 0, slots := 0, locals := 0 } : Room).cells ({ frames := 0, cells := 0, slots := 0, locals := 0 } : Room).slots) := by
  refine MetFree.of_bodySF (Jvm.Free.JP.mathPlain rfl (by decide +kernel)) hisR ?_
  intro p e s m args below meth c s₁ Bd hml0 hP hK
  obtain ⟨rfl, hZ, hh⟩ := hP
  have hx := Bd.exec
  have hby := Bd.bytes
  have hml : c.maxLocals = 4 := hml0
  have hown : s.vm.findClass "java/lang/Math" = some m.cls := findClass_of_methodNamed Bd.named
  have hnm := (name_of_methodNamed Bd.named Bd.method).1
  have X0 : Stand p l e ({ frames := 0, cells := 0, slots := 0, locals := 0 } : Room) s m #[(.long q1), (.long q2)] below meth c s₁ [] 0 0 := Stand.of_body Bd
  have e0 : s₁.heap = h0 := by rw [← hh, Bd.state]; rfl
  have N0 := Fr.nil n0
  have pre0 : ∀ t, Steps p.tables e below (s₁.setTop (mkF m 0 #[.val (.long q1), .second, .val (.long q2), .second] [])) t → Steps p.tables e below (s₁.setTop (entryFrame m #[(.long q1), (.long q2)] 4)) t := fun t k => castTop (ef_2 m q1 q2) k
  obtain ⟨fs, hr, hrun, hended, hW, hsame⟩ := X0.leave (v := some (.long q1)) (fun h => by rw [Bd.returns] at h; cases h)
  refine ⟨_, _, pre0 _ ?_, hrun, hended, _, _, rfl, ?_, ⟨_, rfl⟩, hW, hsame.mono (by decide) (by decide)⟩
  · show Steps p.tables e below (s₁.setTop (mkF m 0 #[.val (.long q1), .second, .val (.long q2), .second] [])) _
    refine XS.lloadN X0.here hx rfl (hb hby d2_0) rfl ?_
    show Steps p.tables e below (s₁.setTop (mkF m 1 #[.val (.long q1), .second, .val (.long q2), .second] [(.long q1)])) _
    refine XS.lloadN X0.here hx rfl (hb hby d2_1) rfl ?_
    show Steps p.tables e below (s₁.setTop (mkF m 2 #[.val (.long q1), .second, .val (.long q2), .second] [(.long q2), (.long q1)])) _
    refine XS.lcmp X0.here hx rfl (hb hby d2_2) rfl ?_
    show Steps p.tables e below (s₁.setTop (mkF m 3 #[.val (.long q1), .second, .val (.long q2), .second] [(.int (lcmpW q1 q2))])) _
    refine XS.ifNo X0.here hx rfl (hb hby d2_3) rfl ((if0 _ _).trans (flt hc3).2.2.1) ?_
    show Steps p.tables e below (s₁.setTop (mkF m 6 #[.val (.long q1), .second, .val (.long q2), .second] [])) _
    refine XS.lloadN X0.here hx rfl (hb hby d2_6) rfl ?_
    show Steps p.tables e below (s₁.setTop (mkF m 7 #[.val (.long q1), .second, .val (.long q2), .second] [(.long q1)])) _
    refine XS.goto X0.here hx rfl (pc0 := 7) (pc' := 11) rfl (hb hby d2_7) (by decide) (by decide) ?_
    show Steps p.tables e below (s₁.setTop (mkF m 11 #[.val (.long q1), .second, .val (.long q2), .second] [(.long q1)])) _
    jvm_step X0.here [X0.here.top, hx, (hb hby d2_11), X0.method', Bd.returns, narrow]
    first | (intro acts; rw [hr _ acts rfl rfl rfl]) | rw [hr _ _ rfl rfl rfl]
    exact Steps.refl _
  · show Q2a Z q1 q2 h0 n0 _ s₁.heap _
    rw [e0]
    exact ⟨rfl, N0, rfl⟩
theorem d2_10 : decode jdk_29_method_70_code 10 = .ok (.lload_n 2, 1) := by decide +kernel
def Q2b (Z : State) (q1 : Int64) (q2 : Int64) (h0 : Heap) (n0 : Nat) (v : Option Value) (h : Heap) (L : List Loc) : Prop := v = some (.long q2) ∧ Fr n0 L ∧ h = h0
set_option maxRecDepth 65536 in
set_option maxHeartbeats 40000000 in
theorem rm2b (l : Launch) (Z : State) (a0 : Array Value) (hw : ∀ d ∈ tables_1, d.before a0 Z = true) (ws : List Jvm.Cond) (q1 : Int64) (q2 : Int64) (h0 : Heap) (n0 : Nat) (Z0 : n0 ≤ h0.size) (hc3 : (0 : Int32) < (lcmpW q1 q2)) :
    MetFree l (⟨"java/lang/Math", "min", "(JJ)J"⟩ : MethodName) (head1 (Jvm.Cond.code (⟨"java/lang/Math", "min", "(JJ)J"⟩ : MethodName) jdk_29_method_70_code 4 (some .long) :: ws) ({ frames := 0, cells := 0, slots := 0, locals := 0 } : Room)) (fun a U => a = #[(.long q1), (.long q2)] ∧ Z.Warmed39 U.vm ∧ U.heap = h0) (fun _ _ _ _ _ => True) (fun _ U o U' => ∃ v L, o = .returned v ∧ Q2b Z q1 q2 h0 n0 v U'.heap L ∧ FrameEnd U o U' L ({ frames := 0, cells := 0, slots := 0, locals := 0 } : Room).cells ({ frames := 0, cells := 0, slots := 0, locals := 0 } : Room).slots) := by
  refine MetFree.of_bodySF (Jvm.Free.JP.mathPlain rfl (by decide +kernel)) hisR ?_
  intro p e s m args below meth c s₁ Bd hml0 hP hK
  obtain ⟨rfl, hZ, hh⟩ := hP
  have hx := Bd.exec
  have hby := Bd.bytes
  have hml : c.maxLocals = 4 := hml0
  have hown : s.vm.findClass "java/lang/Math" = some m.cls := findClass_of_methodNamed Bd.named
  have hnm := (name_of_methodNamed Bd.named Bd.method).1
  have X0 : Stand p l e ({ frames := 0, cells := 0, slots := 0, locals := 0 } : Room) s m #[(.long q1), (.long q2)] below meth c s₁ [] 0 0 := Stand.of_body Bd
  have e0 : s₁.heap = h0 := by rw [← hh, Bd.state]; rfl
  have N0 := Fr.nil n0
  have pre0 : ∀ t, Steps p.tables e below (s₁.setTop (mkF m 0 #[.val (.long q1), .second, .val (.long q2), .second] [])) t → Steps p.tables e below (s₁.setTop (entryFrame m #[(.long q1), (.long q2)] 4)) t := fun t k => castTop (ef_2 m q1 q2) k
  obtain ⟨fs, hr, hrun, hended, hW, hsame⟩ := X0.leave (v := some (.long q2)) (fun h => by rw [Bd.returns] at h; cases h)
  refine ⟨_, _, pre0 _ ?_, hrun, hended, _, _, rfl, ?_, ⟨_, rfl⟩, hW, hsame.mono (by decide) (by decide)⟩
  · show Steps p.tables e below (s₁.setTop (mkF m 0 #[.val (.long q1), .second, .val (.long q2), .second] [])) _
    refine XS.lloadN X0.here hx rfl (hb hby d2_0) rfl ?_
    show Steps p.tables e below (s₁.setTop (mkF m 1 #[.val (.long q1), .second, .val (.long q2), .second] [(.long q1)])) _
    refine XS.lloadN X0.here hx rfl (hb hby d2_1) rfl ?_
    show Steps p.tables e below (s₁.setTop (mkF m 2 #[.val (.long q1), .second, .val (.long q2), .second] [(.long q2), (.long q1)])) _
    refine XS.lcmp X0.here hx rfl (hb hby d2_2) rfl ?_
    show Steps p.tables e below (s₁.setTop (mkF m 3 #[.val (.long q1), .second, .val (.long q2), .second] [(.int (lcmpW q1 q2))])) _
    refine XS.ifYes X0.here hx rfl (pc0 := 3) (pc' := 10) rfl (hb hby d2_3) rfl ((if0 _ _).trans (tlt hc3).2.2.1) (by decide) (by decide) ?_
    show Steps p.tables e below (s₁.setTop (mkF m 10 #[.val (.long q1), .second, .val (.long q2), .second] [])) _
    refine XS.lloadN X0.here hx rfl (hb hby d2_10) rfl ?_
    show Steps p.tables e below (s₁.setTop (mkF m 11 #[.val (.long q1), .second, .val (.long q2), .second] [(.long q2)])) _
    jvm_step X0.here [X0.here.top, hx, (hb hby d2_11), X0.method', Bd.returns, narrow]
    first | (intro acts; rw [hr _ acts rfl rfl rfl]) | rw [hr _ _ rfl rfl rfl]
    exact Steps.refl _
  · show Q2b Z q1 q2 h0 n0 _ s₁.heap _
    rw [e0]
    exact ⟨rfl, N0, rfl⟩
theorem d1_0 : decode prog_99_method_2_code 0 = .ok (.lload_n 0, 1) := by decide +kernel
theorem d1_1 : decode prog_99_method_2_code 1 = .ok (.getstatic 16, 3) := by decide +kernel
theorem d1_4 : decode prog_99_method_2_code 4 = .ok (.ldc2_w 20, 3) := by decide +kernel
theorem d1_7 : decode prog_99_method_2_code 7 = .ok (.lsub, 1) := by decide +kernel
theorem d1_8 : decode prog_99_method_2_code 8 = .ok (.invokestatic 22, 3) := by decide +kernel
theorem d1_11 : decode prog_99_method_2_code 11 = .ok (.lreturn, 1) := by decide +kernel
theorem pn_1 : plainName "com/example/situla/situla/server/RequestBody" = true := by first | (simp [plainName, overriddenIn]; done) | decide +kernel
theorem pd_1_1 : parseMethodDescriptor "(JJ)J" = some ⟨[.long, .long], some .long⟩ := by decide +kernel
theorem ef_1 (m : MethodId) (x0 : Int64) : entryFrame m #[(.long x0)] 2 = mkF m 0 #[.val (.long x0), .second] [] := by first | (simp [entryFrame, mkF, argsToLocals, Value.category]; done) | rfl
def Q1a (Z : State) (q1 : Int64) (w2 : Int64) (h0 : Heap) (n0 : Nat) (v : Option Value) (h : Heap) (L : List Loc) : Prop := v = some (.long q1) ∧ Fr n0 L ∧ h = h0
set_option maxRecDepth 65536 in
set_option maxHeartbeats 40000000 in
theorem rm1a (l : Launch) (Z : State) (a0 : Array Value) (hw : ∀ d ∈ tables_1, d.before a0 Z = true) (ws : List Jvm.Cond) (q1 : Int64) (w2 : Int64) (h0 : Heap) (n0 : Nat) (Z0 : n0 ≤ h0.size) (S_BUDGET : Sta Z h0 "com/example/situla/situla/server/RequestBody" "BUDGET" "J" (.long w2)) (hc : ¬ ((0 : Int32) < (lcmpW q1 (w2 - (65536 : Int64))))) :
    MetFree l (⟨"com/example/situla/situla/server/RequestBody", "limit", "(J)J"⟩ : MethodName) (head1 (Jvm.Cond.code (⟨"com/example/situla/situla/server/RequestBody", "limit", "(J)J"⟩ : MethodName) prog_99_method_2_code 2 (some .long) :: ws) ({ frames := 1, cells := 0, slots := 0, locals := 15 } : Room)) (fun a U => a = #[(.long q1)] ∧ Z.Warmed39 U.vm ∧ U.heap = h0) (fun _ _ _ _ _ => True) (fun _ U o U' => ∃ v L, o = .returned v ∧ Q1a Z q1 w2 h0 n0 v U'.heap L ∧ FrameEnd U o U' L ({ frames := 1, cells := 0, slots := 0, locals := 15 } : Room).cells ({ frames := 1, cells := 0, slots := 0, locals := 15 } : Room).slots) := by
  refine MetFree.of_bodySF (plainFor_of_name pn_1) hisR ?_
  intro p e s m args below meth c s₁ Bd hml0 hP hK
  obtain ⟨rfl, hZ, hh⟩ := hP
  have hx := Bd.exec
  have hby := Bd.bytes
  have hml : c.maxLocals = 2 := hml0
  have hown : s.vm.findClass "com/example/situla/situla/server/RequestBody" = some m.cls := findClass_of_methodNamed Bd.named
  have hnm := (name_of_methodNamed Bd.named Bd.method).1
  have X0 : Stand p l e ({ frames := 1, cells := 0, slots := 0, locals := 15 } : Room) s m #[(.long q1)] below meth c s₁ [] 0 0 := Stand.of_body Bd
  have e0 : s₁.heap = h0 := by rw [← hh, Bd.state]; rfl
  have N0 := Fr.nil n0
  have pre0 : ∀ t, Steps p.tables e below (s₁.setTop (mkF m 0 #[.val (.long q1), .second] [])) t → Steps p.tables e below (s₁.setTop (entryFrame m #[(.long q1)] 2)) t := fun t k => castTop (ef_1 m q1) k
  obtain ⟨T3, X3, e3, st3⟩ := getS2 X0 hx hZ hown (host := "") (Or.inl (hw _ (List.mem_of_getElem? (i := 7) rfl))) Via.refl e0 S_BUDGET (g := (mkF m 1 #[.val (.long q1), .second] [(.long q1)])) rfl (hb hby d1_1)
  obtain ⟨_, _, ⟨T4, L4, k4, n4⟩, -, X4, ⟨Lc4, hQ4, l4, y4, z4⟩, st4⟩ := Jvm.LawKit.callS X3 hx (y := (⟨"java/lang/Math", "min", "(JJ)J"⟩ : MethodName)) hown (mvT hZ (hw _ (List.mem_of_getElem? (i := 9) rfl))) (mvT hZ (hw _ (List.mem_of_getElem? (i := 10) rfl))) (mvT hZ (hw _ (List.mem_of_getElem? (i := 11) rfl))) (mvT hZ (hw _ (List.mem_of_getElem? (i := 12) rfl))) (by decide) (backOf (W := 0) (rm2a l Z a0 hw [] q1 (w2 - (65536 : Int64)) h0 n0 Z0 hc) hZ (hw _ (List.mem_of_getElem? (i := 12) rfl)) (hw _ (List.mem_of_getElem? (i := 11) rfl)) (by decide) (by decide)) (g := (mkF m 8 #[.val (.long q1), .second] [(.long (w2 - (65536 : Int64))), (.long q1)])) rfl (by rw [hml]; rfl) (argsL := [(.long q1), (.long (w2 - (65536 : Int64)))]) (rest := []) (lenOf pd_1_1 rfl) rfl (by show 2 * 0 + _ ≤ _; exact Nat.le_of_eq rfl) (hb hby d1_8) (fun _ _ => ⟨rfl, e3, (by decide : 0 + 0 ≤ _), (by decide : 0 + 0 ≤ _)⟩)
  dsimp only [Pt.U, Pt.locs, Pt.cells, Pt.slots] at X4 l4 y4 z4 st4 hQ4
  subst l4 y4 z4
  obtain ⟨rfl, N4q, e4⟩ := hQ4
  have N4 := Fr.app N0 N4q
  obtain ⟨fs, hr, hrun, hended, hW, hsame⟩ := X4.leave (v := some (.long q1)) (fun h => by rw [Bd.returns] at h; cases h)
  refine ⟨_, _, pre0 _ ?_, hrun, hended, _, _, rfl, ?_, ⟨_, rfl⟩, hW, hsame.mono (by decide) (by decide)⟩
  · show Steps p.tables e below (s₁.setTop (mkF m 0 #[.val (.long q1), .second] [])) _
    refine XS.lloadN X0.here hx rfl (hb hby d1_0) rfl ?_
    show Steps p.tables e below (s₁.setTop (mkF m 1 #[.val (.long q1), .second] [(.long q1)])) _
    refine st3 _ ?_
    show Steps p.tables e below (T3.setTop (mkF m 4 #[.val (.long q1), .second] [(.long w2), (.long q1)])) _
    refine X3.ldc2Long hx hown (mvT hZ (hw _ (List.mem_of_getElem? (i := 8) rfl))) (g := (mkF m 4 #[.val (.long q1), .second] [(.long w2), (.long q1)])) rfl (hb hby d1_4) _ ?_
    show Steps p.tables e below (T3.setTop (mkF m 7 #[.val (.long q1), .second] [(.long (65536 : Int64)), (.long w2), (.long q1)])) _
    refine XS.lsub X3.here hx rfl (hb hby d1_7) rfl ?_
    show Steps p.tables e below (T3.setTop (mkF m 8 #[.val (.long q1), .second] [(.long (w2 - (65536 : Int64))), (.long q1)])) _
    refine st4 _ ?_
    show Steps p.tables e below (T4.setTop (mkF m 11 #[.val (.long q1), .second] [(.long q1)])) _
    jvm_step X4.here [X4.here.top, hx, (hb hby d1_11), X4.method', Bd.returns, narrow]
    first | (intro acts; rw [hr _ acts rfl rfl rfl]) | rw [hr _ _ rfl rfl rfl]
    exact Steps.refl _
  · show Q1a Z q1 w2 h0 n0 _ T4.heap _
    exact ⟨rfl, N4, e4⟩
theorem own_le_refl (a : Int64) : a ≤ a := Int64.le_refl a
theorem own_ngt (a b : Int64) (h : a ≤ b) : ¬ ((0 : Int32) < lcmpW a b) := fun q => absurd ((lw_gt a b).mp q) (Int64.not_lt.mpr h)
theorem own_le_of_ngt {a b : Int64} (h : ¬ ((0 : Int32) < lcmpW a b)) : a ≤ b := Int64.not_lt.mp fun q => h ((lw_gt a b).mpr q)
theorem own_ge_of_gt {a b : Int64} (h : (0 : Int32) < lcmpW a b) : b ≤ a := Int64.le_of_lt ((lw_gt a b).mp h)
theorem own_neq {a b : Int64} (h : (0 : Int32) < lcmpW a b) : ¬ (lcmpW b a = (0 : Int32)) := fun q => by
  have e := (lw_eq b a).mp q
  subst e
  have z := (lw_gt _ _).mp h
  rw [Int64.lt_iff_toInt_lt] at z
  omega
theorem pn_0 : plainName "com/example/situla/situla/server/RequestBodyLimitPinLaw" = true := by first | (simp [plainName, overriddenIn]; done) | decide +kernel
theorem pd_0_0 : parseMethodDescriptor "(J)J" = some ⟨[.long], some .long⟩ := by decide +kernel
theorem ef_0 (m : MethodId) (x0 : Int64) : entryFrame m #[(.long x0)] maxLocals = mkF m 0 #[.val (.long x0), .second, .unset, .unset, .unset, .unset, .unset, .unset, .unset] [] := by first | (simp [entryFrame, mkF, argsToLocals, Value.category, maxLocals]; done) | rfl
def Q0a (Z : State) (q1 : Int64) (w2 : Int64) (h0 : Heap) (n0 : Nat) (v : Option Value) (h : Heap) (L : List Loc) : Prop := v = some (.int (1 : Int32)) ∧ Fr n0 L
set_option maxRecDepth 65536 in
set_option maxHeartbeats 40000000 in
theorem rm0a (l : Launch) (Z : State) (a0 : Array Value) (hw : ∀ d ∈ tables_1, d.before a0 Z = true) (ws : List Jvm.Cond) (q1 : Int64) (w2 : Int64) (h0 : Heap) (n0 : Nat) (Z0 : n0 ≤ h0.size) (S_BUDGET : Sta Z h0 "com/example/situla/situla/server/RequestBody" "BUDGET" "J" (.long w2)) (hc : ¬ ((0 : Int32) < (lcmpW q1 (w2 - (65536 : Int64))))) (hc65 : ¬ ((1 : Int32) = (0 : Int32))) (hc70 : ¬ ((1 : Int32) = (0 : Int32))) (hc75 : ¬ ((1 : Int32) = (0 : Int32))) :
    MetFree l x (head1 (Jvm.Cond.code x code maxLocals ret :: ws) room_1) (fun a U => a = #[(.long q1)] ∧ Z.Warmed39 U.vm ∧ U.heap = h0) (fun _ _ _ _ _ => True) (fun _ U o U' => ∃ v L, o = .returned v ∧ Q0a Z q1 w2 h0 n0 v U'.heap L ∧ FrameEnd U o U' L room_1.cells room_1.slots) := by
  refine MetFree.of_bodySF (plainFor_of_name pn_0) hisR ?_
  intro p e s m args below meth c s₁ Bd hml0 hP hK
  obtain ⟨rfl, hZ, hh⟩ := hP
  have hx := Bd.exec
  have hby := Bd.bytes
  have hml : c.maxLocals = 9 := hml0
  have hown : s.vm.findClass "com/example/situla/situla/server/RequestBodyLimitPinLaw" = some m.cls := findClass_of_methodNamed Bd.named
  have hnm := (name_of_methodNamed Bd.named Bd.method).1
  have X0 : Stand p l e room_1 s m #[(.long q1)] below meth c s₁ [] 0 0 := Stand.of_body Bd
  have e0 : s₁.heap = h0 := by rw [← hh, Bd.state]; rfl
  have N0 := Fr.nil n0
  have pre0 : ∀ t, Steps p.tables e below (s₁.setTop (mkF m 0 #[.val (.long q1), .second, .unset, .unset, .unset, .unset, .unset, .unset, .unset] [])) t → Steps p.tables e below (s₁.setTop (entryFrame m #[(.long q1)] maxLocals)) t := fun t k => castTop (ef_0 m q1) k
  obtain ⟨T3, X3, e3, st3⟩ := getS2 X0 hx hZ hown (host := "") (Or.inl (hw _ (List.mem_of_getElem? (i := 0) rfl))) Via.refl e0 S_BUDGET (g := (mkF m 0 #[.val (.long q1), .second, .unset, .unset, .unset, .unset, .unset, .unset, .unset] [])) rfl (hb hby at_0)
  obtain ⟨_, _, ⟨T4, L4, k4, n4⟩, -, X4, ⟨Lc4, hQ4, l4, y4, z4⟩, st4⟩ := Jvm.LawKit.callS X3 hx (y := (⟨"com/example/situla/situla/server/RequestBody", "limit", "(J)J"⟩ : MethodName)) hown (mvT hZ (hw _ (List.mem_of_getElem? (i := 4) rfl))) (mvT hZ (hw _ (List.mem_of_getElem? (i := 5) rfl))) (mvT hZ (hw _ (List.mem_of_getElem? (i := 1) rfl))) (mvT hZ (hw _ (List.mem_of_getElem? (i := 6) rfl))) (by decide) (backOf (W := 0) (rm1a l Z a0 hw [] q1 w2 h0 n0 Z0 S_BUDGET hc) hZ (hw _ (List.mem_of_getElem? (i := 6) rfl)) (hw _ (List.mem_of_getElem? (i := 1) rfl)) (by decide) (by decide)) (g := (mkF m 9 #[.val (.long q1), .second, .val (.long (w2 - (65536 : Int64))), .second, .unset, .unset, .unset, .unset, .unset] [(.long q1)])) rfl (by rw [hml]; rfl) (argsL := [(.long q1)]) (rest := []) (lenOf pd_0_0 rfl) rfl (by show 2 * 0 + _ ≤ _; exact Nat.le_of_eq rfl) (hb hby at_9) (fun _ _ => ⟨rfl, e3, (by decide : 0 + 0 ≤ _), (by decide : 0 + 0 ≤ _)⟩)
  dsimp only [Pt.U, Pt.locs, Pt.cells, Pt.slots] at X4 l4 y4 z4 st4 hQ4
  subst l4 y4 z4
  obtain ⟨rfl, N4q, e4⟩ := hQ4
  have N4 := Fr.app N0 N4q
  obtain ⟨fs, hr, hrun, hended, hW, hsame⟩ := X4.leave (v := some (.int (1 : Int32))) (fun h => by rw [Bd.returns] at h; cases h)
  refine ⟨_, _, pre0 _ ?_, hrun, hended, _, _, rfl, ?_, ⟨_, rfl⟩, hW, hsame.mono (by decide) (by decide)⟩
  · show Steps p.tables e below (s₁.setTop (mkF m 0 #[.val (.long q1), .second, .unset, .unset, .unset, .unset, .unset, .unset, .unset] [])) _
    refine st3 _ ?_
    show Steps p.tables e below (T3.setTop (mkF m 3 #[.val (.long q1), .second, .unset, .unset, .unset, .unset, .unset, .unset, .unset] [(.long w2)])) _
    refine X3.ldc2Long hx hown (mvT hZ (hw _ (List.mem_of_getElem? (i := 3) rfl))) (g := (mkF m 3 #[.val (.long q1), .second, .unset, .unset, .unset, .unset, .unset, .unset, .unset] [(.long w2)])) rfl (hb hby at_3) _ ?_
    show Steps p.tables e below (T3.setTop (mkF m 6 #[.val (.long q1), .second, .unset, .unset, .unset, .unset, .unset, .unset, .unset] [(.long (65536 : Int64)), (.long w2)])) _
    refine XS.lsub X3.here hx rfl (hb hby at_6) rfl ?_
    show Steps p.tables e below (T3.setTop (mkF m 7 #[.val (.long q1), .second, .unset, .unset, .unset, .unset, .unset, .unset, .unset] [(.long (w2 - (65536 : Int64)))])) _
    refine XS.lstoreN X3.here hx rfl (hb hby at_7) rfl (l' := #[.val (.long q1), .second, .val (.long (w2 - (65536 : Int64))), .second, .unset, .unset, .unset, .unset, .unset]) rfl ?_
    show Steps p.tables e below (T3.setTop (mkF m 8 #[.val (.long q1), .second, .val (.long (w2 - (65536 : Int64))), .second, .unset, .unset, .unset, .unset, .unset] [])) _
    refine XS.lloadN X3.here hx rfl (hb hby at_8) rfl ?_
    show Steps p.tables e below (T3.setTop (mkF m 9 #[.val (.long q1), .second, .val (.long (w2 - (65536 : Int64))), .second, .unset, .unset, .unset, .unset, .unset] [(.long q1)])) _
    refine st4 _ ?_
    show Steps p.tables e below (T4.setTop (mkF m 12 #[.val (.long q1), .second, .val (.long (w2 - (65536 : Int64))), .second, .unset, .unset, .unset, .unset, .unset] [(.long q1)])) _
    refine XS.lstore X4.here hx rfl (hb hby at_12) rfl (l' := #[.val (.long q1), .second, .val (.long (w2 - (65536 : Int64))), .second, .val (.long q1), .second, .unset, .unset, .unset]) rfl ?_
    show Steps p.tables e below (T4.setTop (mkF m 14 #[.val (.long q1), .second, .val (.long (w2 - (65536 : Int64))), .second, .val (.long q1), .second, .unset, .unset, .unset] [])) _
    refine XS.lload X4.here hx rfl (hb hby at_14) rfl ?_
    show Steps p.tables e below (T4.setTop (mkF m 16 #[.val (.long q1), .second, .val (.long (w2 - (65536 : Int64))), .second, .val (.long q1), .second, .unset, .unset, .unset] [(.long q1)])) _
    refine XS.lloadN X4.here hx rfl (hb hby at_16) rfl ?_
    show Steps p.tables e below (T4.setTop (mkF m 17 #[.val (.long q1), .second, .val (.long (w2 - (65536 : Int64))), .second, .val (.long q1), .second, .unset, .unset, .unset] [(.long q1), (.long q1)])) _
    refine XS.lcmp X4.here hx rfl (hb hby at_17) rfl ?_
    show Steps p.tables e below (T4.setTop (mkF m 18 #[.val (.long q1), .second, .val (.long (w2 - (65536 : Int64))), .second, .val (.long q1), .second, .unset, .unset, .unset] [(.int (lcmpW q1 q1))])) _
    refine XS.ifNo X4.here hx rfl (hb hby at_18) rfl ((if0 _ _).trans (flt (own_ngt _ _ (own_le_refl _))).2.2.1) ?_
    show Steps p.tables e below (T4.setTop (mkF m 21 #[.val (.long q1), .second, .val (.long (w2 - (65536 : Int64))), .second, .val (.long q1), .second, .unset, .unset, .unset] [])) _
    refine XS.iconst X4.here hx rfl (hb hby at_21) ?_
    show Steps p.tables e below (T4.setTop (mkF m 22 #[.val (.long q1), .second, .val (.long (w2 - (65536 : Int64))), .second, .val (.long q1), .second, .unset, .unset, .unset] [(.int (1 : Int32))])) _
    refine XS.goto X4.here hx rfl (pc0 := 22) (pc' := 26) rfl (hb hby at_22) (by decide) (by decide) ?_
    show Steps p.tables e below (T4.setTop (mkF m 26 #[.val (.long q1), .second, .val (.long (w2 - (65536 : Int64))), .second, .val (.long q1), .second, .unset, .unset, .unset] [(.int (1 : Int32))])) _
    refine XS.istore X4.here hx rfl (hb hby at_26) rfl (l' := #[.val (.long q1), .second, .val (.long (w2 - (65536 : Int64))), .second, .val (.long q1), .second, .val (.int (1 : Int32)), .unset, .unset]) rfl ?_
    show Steps p.tables e below (T4.setTop (mkF m 28 #[.val (.long q1), .second, .val (.long (w2 - (65536 : Int64))), .second, .val (.long q1), .second, .val (.int (1 : Int32)), .unset, .unset] [])) _
    refine XS.lload X4.here hx rfl (hb hby at_28) rfl ?_
    show Steps p.tables e below (T4.setTop (mkF m 30 #[.val (.long q1), .second, .val (.long (w2 - (65536 : Int64))), .second, .val (.long q1), .second, .val (.int (1 : Int32)), .unset, .unset] [(.long q1)])) _
    refine XS.lloadN X4.here hx rfl (hb hby at_30) rfl ?_
    show Steps p.tables e below (T4.setTop (mkF m 31 #[.val (.long q1), .second, .val (.long (w2 - (65536 : Int64))), .second, .val (.long q1), .second, .val (.int (1 : Int32)), .unset, .unset] [(.long (w2 - (65536 : Int64))), (.long q1)])) _
    refine XS.lcmp X4.here hx rfl (hb hby at_31) rfl ?_
    show Steps p.tables e below (T4.setTop (mkF m 32 #[.val (.long q1), .second, .val (.long (w2 - (65536 : Int64))), .second, .val (.long q1), .second, .val (.int (1 : Int32)), .unset, .unset] [(.int (lcmpW q1 (w2 - (65536 : Int64))))])) _
    refine XS.ifNo X4.here hx rfl (hb hby at_32) rfl ((if0 _ _).trans (flt (own_ngt _ _ (own_le_of_ngt hc))).2.2.1) ?_
    show Steps p.tables e below (T4.setTop (mkF m 35 #[.val (.long q1), .second, .val (.long (w2 - (65536 : Int64))), .second, .val (.long q1), .second, .val (.int (1 : Int32)), .unset, .unset] [])) _
    refine XS.iconst X4.here hx rfl (hb hby at_35) ?_
    show Steps p.tables e below (T4.setTop (mkF m 36 #[.val (.long q1), .second, .val (.long (w2 - (65536 : Int64))), .second, .val (.long q1), .second, .val (.int (1 : Int32)), .unset, .unset] [(.int (1 : Int32))])) _
    refine XS.goto X4.here hx rfl (pc0 := 36) (pc' := 40) rfl (hb hby at_36) (by decide) (by decide) ?_
    show Steps p.tables e below (T4.setTop (mkF m 40 #[.val (.long q1), .second, .val (.long (w2 - (65536 : Int64))), .second, .val (.long q1), .second, .val (.int (1 : Int32)), .unset, .unset] [(.int (1 : Int32))])) _
    refine XS.istore X4.here hx rfl (hb hby at_40) rfl (l' := #[.val (.long q1), .second, .val (.long (w2 - (65536 : Int64))), .second, .val (.long q1), .second, .val (.int (1 : Int32)), .val (.int (1 : Int32)), .unset]) rfl ?_
    show Steps p.tables e below (T4.setTop (mkF m 42 #[.val (.long q1), .second, .val (.long (w2 - (65536 : Int64))), .second, .val (.long q1), .second, .val (.int (1 : Int32)), .val (.int (1 : Int32)), .unset] [])) _
    refine XS.lload X4.here hx rfl (hb hby at_42) rfl ?_
    show Steps p.tables e below (T4.setTop (mkF m 44 #[.val (.long q1), .second, .val (.long (w2 - (65536 : Int64))), .second, .val (.long q1), .second, .val (.int (1 : Int32)), .val (.int (1 : Int32)), .unset] [(.long q1)])) _
    refine XS.lloadN X4.here hx rfl (hb hby at_44) rfl ?_
    show Steps p.tables e below (T4.setTop (mkF m 45 #[.val (.long q1), .second, .val (.long (w2 - (65536 : Int64))), .second, .val (.long q1), .second, .val (.int (1 : Int32)), .val (.int (1 : Int32)), .unset] [(.long q1), (.long q1)])) _
    refine XS.lcmp X4.here hx rfl (hb hby at_45) rfl ?_
    show Steps p.tables e below (T4.setTop (mkF m 46 #[.val (.long q1), .second, .val (.long (w2 - (65536 : Int64))), .second, .val (.long q1), .second, .val (.int (1 : Int32)), .val (.int (1 : Int32)), .unset] [(.int (lcmpW q1 q1))])) _
    refine XS.ifYes X4.here hx rfl (pc0 := 46) (pc' := 56) rfl (hb hby at_46) rfl ((if0 _ _).trans (teq ((lw_eq _ _).mpr rfl)).1) (by decide) (by decide) ?_
    show Steps p.tables e below (T4.setTop (mkF m 56 #[.val (.long q1), .second, .val (.long (w2 - (65536 : Int64))), .second, .val (.long q1), .second, .val (.int (1 : Int32)), .val (.int (1 : Int32)), .unset] [])) _
    refine XS.iconst X4.here hx rfl (hb hby at_56) ?_
    show Steps p.tables e below (T4.setTop (mkF m 57 #[.val (.long q1), .second, .val (.long (w2 - (65536 : Int64))), .second, .val (.long q1), .second, .val (.int (1 : Int32)), .val (.int (1 : Int32)), .unset] [(.int (1 : Int32))])) _
    refine XS.goto X4.here hx rfl (pc0 := 57) (pc' := 61) rfl (hb hby at_57) (by decide) (by decide) ?_
    show Steps p.tables e below (T4.setTop (mkF m 61 #[.val (.long q1), .second, .val (.long (w2 - (65536 : Int64))), .second, .val (.long q1), .second, .val (.int (1 : Int32)), .val (.int (1 : Int32)), .unset] [(.int (1 : Int32))])) _
    refine XS.istore X4.here hx rfl (hb hby at_61) rfl (l' := #[.val (.long q1), .second, .val (.long (w2 - (65536 : Int64))), .second, .val (.long q1), .second, .val (.int (1 : Int32)), .val (.int (1 : Int32)), .val (.int (1 : Int32))]) rfl ?_
    show Steps p.tables e below (T4.setTop (mkF m 63 #[.val (.long q1), .second, .val (.long (w2 - (65536 : Int64))), .second, .val (.long q1), .second, .val (.int (1 : Int32)), .val (.int (1 : Int32)), .val (.int (1 : Int32))] [])) _
    refine XS.iload X4.here hx rfl (hb hby at_63) rfl ?_
    show Steps p.tables e below (T4.setTop (mkF m 65 #[.val (.long q1), .second, .val (.long (w2 - (65536 : Int64))), .second, .val (.long q1), .second, .val (.int (1 : Int32)), .val (.int (1 : Int32)), .val (.int (1 : Int32))] [(.int (1 : Int32))])) _
    refine XS.ifNo X4.here hx rfl (hb hby at_65) rfl ((if0 _ _).trans (feq hc65).1) ?_
    show Steps p.tables e below (T4.setTop (mkF m 68 #[.val (.long q1), .second, .val (.long (w2 - (65536 : Int64))), .second, .val (.long q1), .second, .val (.int (1 : Int32)), .val (.int (1 : Int32)), .val (.int (1 : Int32))] [])) _
    refine XS.iload X4.here hx rfl (hb hby at_68) rfl ?_
    show Steps p.tables e below (T4.setTop (mkF m 70 #[.val (.long q1), .second, .val (.long (w2 - (65536 : Int64))), .second, .val (.long q1), .second, .val (.int (1 : Int32)), .val (.int (1 : Int32)), .val (.int (1 : Int32))] [(.int (1 : Int32))])) _
    refine XS.ifNo X4.here hx rfl (hb hby at_70) rfl ((if0 _ _).trans (feq hc70).1) ?_
    show Steps p.tables e below (T4.setTop (mkF m 73 #[.val (.long q1), .second, .val (.long (w2 - (65536 : Int64))), .second, .val (.long q1), .second, .val (.int (1 : Int32)), .val (.int (1 : Int32)), .val (.int (1 : Int32))] [])) _
    refine XS.iload X4.here hx rfl (hb hby at_73) rfl ?_
    show Steps p.tables e below (T4.setTop (mkF m 75 #[.val (.long q1), .second, .val (.long (w2 - (65536 : Int64))), .second, .val (.long q1), .second, .val (.int (1 : Int32)), .val (.int (1 : Int32)), .val (.int (1 : Int32))] [(.int (1 : Int32))])) _
    refine XS.ifNo X4.here hx rfl (hb hby at_75) rfl ((if0 _ _).trans (feq hc75).1) ?_
    show Steps p.tables e below (T4.setTop (mkF m 78 #[.val (.long q1), .second, .val (.long (w2 - (65536 : Int64))), .second, .val (.long q1), .second, .val (.int (1 : Int32)), .val (.int (1 : Int32)), .val (.int (1 : Int32))] [])) _
    refine XS.iconst X4.here hx rfl (hb hby at_78) ?_
    show Steps p.tables e below (T4.setTop (mkF m 79 #[.val (.long q1), .second, .val (.long (w2 - (65536 : Int64))), .second, .val (.long q1), .second, .val (.int (1 : Int32)), .val (.int (1 : Int32)), .val (.int (1 : Int32))] [(.int (1 : Int32))])) _
    refine XS.goto X4.here hx rfl (pc0 := 79) (pc' := 83) rfl (hb hby at_79) (by decide) (by decide) ?_
    show Steps p.tables e below (T4.setTop (mkF m 83 #[.val (.long q1), .second, .val (.long (w2 - (65536 : Int64))), .second, .val (.long q1), .second, .val (.int (1 : Int32)), .val (.int (1 : Int32)), .val (.int (1 : Int32))] [(.int (1 : Int32))])) _
    exact retN X4 hx (t := .boolean) Bd.returns (by simp) (hb hby at_83) hr
  · show Q0a Z q1 w2 h0 n0 _ T4.heap _
    exact ⟨rfl, N4⟩
def Q1b (Z : State) (q1 : Int64) (w2 : Int64) (h0 : Heap) (n0 : Nat) (v : Option Value) (h : Heap) (L : List Loc) : Prop := v = some (.long (w2 - (65536 : Int64))) ∧ Fr n0 L ∧ h = h0
set_option maxRecDepth 65536 in
set_option maxHeartbeats 40000000 in
theorem rm1b (l : Launch) (Z : State) (a0 : Array Value) (hw : ∀ d ∈ tables_1, d.before a0 Z = true) (ws : List Jvm.Cond) (q1 : Int64) (w2 : Int64) (h0 : Heap) (n0 : Nat) (Z0 : n0 ≤ h0.size) (S_BUDGET : Sta Z h0 "com/example/situla/situla/server/RequestBody" "BUDGET" "J" (.long w2)) (hc : (0 : Int32) < (lcmpW q1 (w2 - (65536 : Int64)))) :
    MetFree l (⟨"com/example/situla/situla/server/RequestBody", "limit", "(J)J"⟩ : MethodName) (head1 (Jvm.Cond.code (⟨"com/example/situla/situla/server/RequestBody", "limit", "(J)J"⟩ : MethodName) prog_99_method_2_code 2 (some .long) :: ws) ({ frames := 1, cells := 0, slots := 0, locals := 15 } : Room)) (fun a U => a = #[(.long q1)] ∧ Z.Warmed39 U.vm ∧ U.heap = h0) (fun _ _ _ _ _ => True) (fun _ U o U' => ∃ v L, o = .returned v ∧ Q1b Z q1 w2 h0 n0 v U'.heap L ∧ FrameEnd U o U' L ({ frames := 1, cells := 0, slots := 0, locals := 15 } : Room).cells ({ frames := 1, cells := 0, slots := 0, locals := 15 } : Room).slots) := by
  refine MetFree.of_bodySF (plainFor_of_name pn_1) hisR ?_
  intro p e s m args below meth c s₁ Bd hml0 hP hK
  obtain ⟨rfl, hZ, hh⟩ := hP
  have hx := Bd.exec
  have hby := Bd.bytes
  have hml : c.maxLocals = 2 := hml0
  have hown : s.vm.findClass "com/example/situla/situla/server/RequestBody" = some m.cls := findClass_of_methodNamed Bd.named
  have hnm := (name_of_methodNamed Bd.named Bd.method).1
  have X0 : Stand p l e ({ frames := 1, cells := 0, slots := 0, locals := 15 } : Room) s m #[(.long q1)] below meth c s₁ [] 0 0 := Stand.of_body Bd
  have e0 : s₁.heap = h0 := by rw [← hh, Bd.state]; rfl
  have N0 := Fr.nil n0
  have pre0 : ∀ t, Steps p.tables e below (s₁.setTop (mkF m 0 #[.val (.long q1), .second] [])) t → Steps p.tables e below (s₁.setTop (entryFrame m #[(.long q1)] 2)) t := fun t k => castTop (ef_1 m q1) k
  obtain ⟨T3, X3, e3, st3⟩ := getS2 X0 hx hZ hown (host := "") (Or.inl (hw _ (List.mem_of_getElem? (i := 7) rfl))) Via.refl e0 S_BUDGET (g := (mkF m 1 #[.val (.long q1), .second] [(.long q1)])) rfl (hb hby d1_1)
  obtain ⟨_, _, ⟨T4, L4, k4, n4⟩, -, X4, ⟨Lc4, hQ4, l4, y4, z4⟩, st4⟩ := Jvm.LawKit.callS X3 hx (y := (⟨"java/lang/Math", "min", "(JJ)J"⟩ : MethodName)) hown (mvT hZ (hw _ (List.mem_of_getElem? (i := 9) rfl))) (mvT hZ (hw _ (List.mem_of_getElem? (i := 10) rfl))) (mvT hZ (hw _ (List.mem_of_getElem? (i := 11) rfl))) (mvT hZ (hw _ (List.mem_of_getElem? (i := 12) rfl))) (by decide) (backOf (W := 0) (rm2b l Z a0 hw [] q1 (w2 - (65536 : Int64)) h0 n0 Z0 hc) hZ (hw _ (List.mem_of_getElem? (i := 12) rfl)) (hw _ (List.mem_of_getElem? (i := 11) rfl)) (by decide) (by decide)) (g := (mkF m 8 #[.val (.long q1), .second] [(.long (w2 - (65536 : Int64))), (.long q1)])) rfl (by rw [hml]; rfl) (argsL := [(.long q1), (.long (w2 - (65536 : Int64)))]) (rest := []) (lenOf pd_1_1 rfl) rfl (by show 2 * 0 + _ ≤ _; exact Nat.le_of_eq rfl) (hb hby d1_8) (fun _ _ => ⟨rfl, e3, (by decide : 0 + 0 ≤ _), (by decide : 0 + 0 ≤ _)⟩)
  dsimp only [Pt.U, Pt.locs, Pt.cells, Pt.slots] at X4 l4 y4 z4 st4 hQ4
  subst l4 y4 z4
  obtain ⟨rfl, N4q, e4⟩ := hQ4
  have N4 := Fr.app N0 N4q
  obtain ⟨fs, hr, hrun, hended, hW, hsame⟩ := X4.leave (v := some (.long (w2 - (65536 : Int64)))) (fun h => by rw [Bd.returns] at h; cases h)
  refine ⟨_, _, pre0 _ ?_, hrun, hended, _, _, rfl, ?_, ⟨_, rfl⟩, hW, hsame.mono (by decide) (by decide)⟩
  · show Steps p.tables e below (s₁.setTop (mkF m 0 #[.val (.long q1), .second] [])) _
    refine XS.lloadN X0.here hx rfl (hb hby d1_0) rfl ?_
    show Steps p.tables e below (s₁.setTop (mkF m 1 #[.val (.long q1), .second] [(.long q1)])) _
    refine st3 _ ?_
    show Steps p.tables e below (T3.setTop (mkF m 4 #[.val (.long q1), .second] [(.long w2), (.long q1)])) _
    refine X3.ldc2Long hx hown (mvT hZ (hw _ (List.mem_of_getElem? (i := 8) rfl))) (g := (mkF m 4 #[.val (.long q1), .second] [(.long w2), (.long q1)])) rfl (hb hby d1_4) _ ?_
    show Steps p.tables e below (T3.setTop (mkF m 7 #[.val (.long q1), .second] [(.long (65536 : Int64)), (.long w2), (.long q1)])) _
    refine XS.lsub X3.here hx rfl (hb hby d1_7) rfl ?_
    show Steps p.tables e below (T3.setTop (mkF m 8 #[.val (.long q1), .second] [(.long (w2 - (65536 : Int64))), (.long q1)])) _
    refine st4 _ ?_
    show Steps p.tables e below (T4.setTop (mkF m 11 #[.val (.long q1), .second] [(.long (w2 - (65536 : Int64)))])) _
    jvm_step X4.here [X4.here.top, hx, (hb hby d1_11), X4.method', Bd.returns, narrow]
    first | (intro acts; rw [hr _ acts rfl rfl rfl]) | rw [hr _ _ rfl rfl rfl]
    exact Steps.refl _
  · show Q1b Z q1 w2 h0 n0 _ T4.heap _
    exact ⟨rfl, N4, e4⟩
def Q0b (Z : State) (q1 : Int64) (w2 : Int64) (h0 : Heap) (n0 : Nat) (v : Option Value) (h : Heap) (L : List Loc) : Prop := v = some (.int (1 : Int32)) ∧ Fr n0 L
set_option maxRecDepth 65536 in
set_option maxHeartbeats 40000000 in
theorem rm0b (l : Launch) (Z : State) (a0 : Array Value) (hw : ∀ d ∈ tables_1, d.before a0 Z = true) (ws : List Jvm.Cond) (q1 : Int64) (w2 : Int64) (h0 : Heap) (n0 : Nat) (Z0 : n0 ≤ h0.size) (S_BUDGET : Sta Z h0 "com/example/situla/situla/server/RequestBody" "BUDGET" "J" (.long w2)) (hc : (0 : Int32) < (lcmpW q1 (w2 - (65536 : Int64)))) (hc65 : ¬ ((1 : Int32) = (0 : Int32))) (hc70 : ¬ ((1 : Int32) = (0 : Int32))) (hc75 : ¬ ((1 : Int32) = (0 : Int32))) :
    MetFree l x (head1 (Jvm.Cond.code x code maxLocals ret :: ws) room_1) (fun a U => a = #[(.long q1)] ∧ Z.Warmed39 U.vm ∧ U.heap = h0) (fun _ _ _ _ _ => True) (fun _ U o U' => ∃ v L, o = .returned v ∧ Q0b Z q1 w2 h0 n0 v U'.heap L ∧ FrameEnd U o U' L room_1.cells room_1.slots) := by
  refine MetFree.of_bodySF (plainFor_of_name pn_0) hisR ?_
  intro p e s m args below meth c s₁ Bd hml0 hP hK
  obtain ⟨rfl, hZ, hh⟩ := hP
  have hx := Bd.exec
  have hby := Bd.bytes
  have hml : c.maxLocals = 9 := hml0
  have hown : s.vm.findClass "com/example/situla/situla/server/RequestBodyLimitPinLaw" = some m.cls := findClass_of_methodNamed Bd.named
  have hnm := (name_of_methodNamed Bd.named Bd.method).1
  have X0 : Stand p l e room_1 s m #[(.long q1)] below meth c s₁ [] 0 0 := Stand.of_body Bd
  have e0 : s₁.heap = h0 := by rw [← hh, Bd.state]; rfl
  have N0 := Fr.nil n0
  have pre0 : ∀ t, Steps p.tables e below (s₁.setTop (mkF m 0 #[.val (.long q1), .second, .unset, .unset, .unset, .unset, .unset, .unset, .unset] [])) t → Steps p.tables e below (s₁.setTop (entryFrame m #[(.long q1)] maxLocals)) t := fun t k => castTop (ef_0 m q1) k
  obtain ⟨T3, X3, e3, st3⟩ := getS2 X0 hx hZ hown (host := "") (Or.inl (hw _ (List.mem_of_getElem? (i := 0) rfl))) Via.refl e0 S_BUDGET (g := (mkF m 0 #[.val (.long q1), .second, .unset, .unset, .unset, .unset, .unset, .unset, .unset] [])) rfl (hb hby at_0)
  obtain ⟨_, _, ⟨T4, L4, k4, n4⟩, -, X4, ⟨Lc4, hQ4, l4, y4, z4⟩, st4⟩ := Jvm.LawKit.callS X3 hx (y := (⟨"com/example/situla/situla/server/RequestBody", "limit", "(J)J"⟩ : MethodName)) hown (mvT hZ (hw _ (List.mem_of_getElem? (i := 4) rfl))) (mvT hZ (hw _ (List.mem_of_getElem? (i := 5) rfl))) (mvT hZ (hw _ (List.mem_of_getElem? (i := 1) rfl))) (mvT hZ (hw _ (List.mem_of_getElem? (i := 6) rfl))) (by decide) (backOf (W := 0) (rm1b l Z a0 hw [] q1 w2 h0 n0 Z0 S_BUDGET hc) hZ (hw _ (List.mem_of_getElem? (i := 6) rfl)) (hw _ (List.mem_of_getElem? (i := 1) rfl)) (by decide) (by decide)) (g := (mkF m 9 #[.val (.long q1), .second, .val (.long (w2 - (65536 : Int64))), .second, .unset, .unset, .unset, .unset, .unset] [(.long q1)])) rfl (by rw [hml]; rfl) (argsL := [(.long q1)]) (rest := []) (lenOf pd_0_0 rfl) rfl (by show 2 * 0 + _ ≤ _; exact Nat.le_of_eq rfl) (hb hby at_9) (fun _ _ => ⟨rfl, e3, (by decide : 0 + 0 ≤ _), (by decide : 0 + 0 ≤ _)⟩)
  dsimp only [Pt.U, Pt.locs, Pt.cells, Pt.slots] at X4 l4 y4 z4 st4 hQ4
  subst l4 y4 z4
  obtain ⟨rfl, N4q, e4⟩ := hQ4
  have N4 := Fr.app N0 N4q
  obtain ⟨fs, hr, hrun, hended, hW, hsame⟩ := X4.leave (v := some (.int (1 : Int32))) (fun h => by rw [Bd.returns] at h; cases h)
  refine ⟨_, _, pre0 _ ?_, hrun, hended, _, _, rfl, ?_, ⟨_, rfl⟩, hW, hsame.mono (by decide) (by decide)⟩
  · show Steps p.tables e below (s₁.setTop (mkF m 0 #[.val (.long q1), .second, .unset, .unset, .unset, .unset, .unset, .unset, .unset] [])) _
    refine st3 _ ?_
    show Steps p.tables e below (T3.setTop (mkF m 3 #[.val (.long q1), .second, .unset, .unset, .unset, .unset, .unset, .unset, .unset] [(.long w2)])) _
    refine X3.ldc2Long hx hown (mvT hZ (hw _ (List.mem_of_getElem? (i := 3) rfl))) (g := (mkF m 3 #[.val (.long q1), .second, .unset, .unset, .unset, .unset, .unset, .unset, .unset] [(.long w2)])) rfl (hb hby at_3) _ ?_
    show Steps p.tables e below (T3.setTop (mkF m 6 #[.val (.long q1), .second, .unset, .unset, .unset, .unset, .unset, .unset, .unset] [(.long (65536 : Int64)), (.long w2)])) _
    refine XS.lsub X3.here hx rfl (hb hby at_6) rfl ?_
    show Steps p.tables e below (T3.setTop (mkF m 7 #[.val (.long q1), .second, .unset, .unset, .unset, .unset, .unset, .unset, .unset] [(.long (w2 - (65536 : Int64)))])) _
    refine XS.lstoreN X3.here hx rfl (hb hby at_7) rfl (l' := #[.val (.long q1), .second, .val (.long (w2 - (65536 : Int64))), .second, .unset, .unset, .unset, .unset, .unset]) rfl ?_
    show Steps p.tables e below (T3.setTop (mkF m 8 #[.val (.long q1), .second, .val (.long (w2 - (65536 : Int64))), .second, .unset, .unset, .unset, .unset, .unset] [])) _
    refine XS.lloadN X3.here hx rfl (hb hby at_8) rfl ?_
    show Steps p.tables e below (T3.setTop (mkF m 9 #[.val (.long q1), .second, .val (.long (w2 - (65536 : Int64))), .second, .unset, .unset, .unset, .unset, .unset] [(.long q1)])) _
    refine st4 _ ?_
    show Steps p.tables e below (T4.setTop (mkF m 12 #[.val (.long q1), .second, .val (.long (w2 - (65536 : Int64))), .second, .unset, .unset, .unset, .unset, .unset] [(.long (w2 - (65536 : Int64)))])) _
    refine XS.lstore X4.here hx rfl (hb hby at_12) rfl (l' := #[.val (.long q1), .second, .val (.long (w2 - (65536 : Int64))), .second, .val (.long (w2 - (65536 : Int64))), .second, .unset, .unset, .unset]) rfl ?_
    show Steps p.tables e below (T4.setTop (mkF m 14 #[.val (.long q1), .second, .val (.long (w2 - (65536 : Int64))), .second, .val (.long (w2 - (65536 : Int64))), .second, .unset, .unset, .unset] [])) _
    refine XS.lload X4.here hx rfl (hb hby at_14) rfl ?_
    show Steps p.tables e below (T4.setTop (mkF m 16 #[.val (.long q1), .second, .val (.long (w2 - (65536 : Int64))), .second, .val (.long (w2 - (65536 : Int64))), .second, .unset, .unset, .unset] [(.long (w2 - (65536 : Int64)))])) _
    refine XS.lloadN X4.here hx rfl (hb hby at_16) rfl ?_
    show Steps p.tables e below (T4.setTop (mkF m 17 #[.val (.long q1), .second, .val (.long (w2 - (65536 : Int64))), .second, .val (.long (w2 - (65536 : Int64))), .second, .unset, .unset, .unset] [(.long q1), (.long (w2 - (65536 : Int64)))])) _
    refine XS.lcmp X4.here hx rfl (hb hby at_17) rfl ?_
    show Steps p.tables e below (T4.setTop (mkF m 18 #[.val (.long q1), .second, .val (.long (w2 - (65536 : Int64))), .second, .val (.long (w2 - (65536 : Int64))), .second, .unset, .unset, .unset] [(.int (lcmpW (w2 - (65536 : Int64)) q1))])) _
    refine XS.ifNo X4.here hx rfl (hb hby at_18) rfl ((if0 _ _).trans (flt (own_ngt _ _ (own_ge_of_gt hc))).2.2.1) ?_
    show Steps p.tables e below (T4.setTop (mkF m 21 #[.val (.long q1), .second, .val (.long (w2 - (65536 : Int64))), .second, .val (.long (w2 - (65536 : Int64))), .second, .unset, .unset, .unset] [])) _
    refine XS.iconst X4.here hx rfl (hb hby at_21) ?_
    show Steps p.tables e below (T4.setTop (mkF m 22 #[.val (.long q1), .second, .val (.long (w2 - (65536 : Int64))), .second, .val (.long (w2 - (65536 : Int64))), .second, .unset, .unset, .unset] [(.int (1 : Int32))])) _
    refine XS.goto X4.here hx rfl (pc0 := 22) (pc' := 26) rfl (hb hby at_22) (by decide) (by decide) ?_
    show Steps p.tables e below (T4.setTop (mkF m 26 #[.val (.long q1), .second, .val (.long (w2 - (65536 : Int64))), .second, .val (.long (w2 - (65536 : Int64))), .second, .unset, .unset, .unset] [(.int (1 : Int32))])) _
    refine XS.istore X4.here hx rfl (hb hby at_26) rfl (l' := #[.val (.long q1), .second, .val (.long (w2 - (65536 : Int64))), .second, .val (.long (w2 - (65536 : Int64))), .second, .val (.int (1 : Int32)), .unset, .unset]) rfl ?_
    show Steps p.tables e below (T4.setTop (mkF m 28 #[.val (.long q1), .second, .val (.long (w2 - (65536 : Int64))), .second, .val (.long (w2 - (65536 : Int64))), .second, .val (.int (1 : Int32)), .unset, .unset] [])) _
    refine XS.lload X4.here hx rfl (hb hby at_28) rfl ?_
    show Steps p.tables e below (T4.setTop (mkF m 30 #[.val (.long q1), .second, .val (.long (w2 - (65536 : Int64))), .second, .val (.long (w2 - (65536 : Int64))), .second, .val (.int (1 : Int32)), .unset, .unset] [(.long (w2 - (65536 : Int64)))])) _
    refine XS.lloadN X4.here hx rfl (hb hby at_30) rfl ?_
    show Steps p.tables e below (T4.setTop (mkF m 31 #[.val (.long q1), .second, .val (.long (w2 - (65536 : Int64))), .second, .val (.long (w2 - (65536 : Int64))), .second, .val (.int (1 : Int32)), .unset, .unset] [(.long (w2 - (65536 : Int64))), (.long (w2 - (65536 : Int64)))])) _
    refine XS.lcmp X4.here hx rfl (hb hby at_31) rfl ?_
    show Steps p.tables e below (T4.setTop (mkF m 32 #[.val (.long q1), .second, .val (.long (w2 - (65536 : Int64))), .second, .val (.long (w2 - (65536 : Int64))), .second, .val (.int (1 : Int32)), .unset, .unset] [(.int (lcmpW (w2 - (65536 : Int64)) (w2 - (65536 : Int64))))])) _
    refine XS.ifNo X4.here hx rfl (hb hby at_32) rfl ((if0 _ _).trans (flt (own_ngt _ _ (own_le_refl _))).2.2.1) ?_
    show Steps p.tables e below (T4.setTop (mkF m 35 #[.val (.long q1), .second, .val (.long (w2 - (65536 : Int64))), .second, .val (.long (w2 - (65536 : Int64))), .second, .val (.int (1 : Int32)), .unset, .unset] [])) _
    refine XS.iconst X4.here hx rfl (hb hby at_35) ?_
    show Steps p.tables e below (T4.setTop (mkF m 36 #[.val (.long q1), .second, .val (.long (w2 - (65536 : Int64))), .second, .val (.long (w2 - (65536 : Int64))), .second, .val (.int (1 : Int32)), .unset, .unset] [(.int (1 : Int32))])) _
    refine XS.goto X4.here hx rfl (pc0 := 36) (pc' := 40) rfl (hb hby at_36) (by decide) (by decide) ?_
    show Steps p.tables e below (T4.setTop (mkF m 40 #[.val (.long q1), .second, .val (.long (w2 - (65536 : Int64))), .second, .val (.long (w2 - (65536 : Int64))), .second, .val (.int (1 : Int32)), .unset, .unset] [(.int (1 : Int32))])) _
    refine XS.istore X4.here hx rfl (hb hby at_40) rfl (l' := #[.val (.long q1), .second, .val (.long (w2 - (65536 : Int64))), .second, .val (.long (w2 - (65536 : Int64))), .second, .val (.int (1 : Int32)), .val (.int (1 : Int32)), .unset]) rfl ?_
    show Steps p.tables e below (T4.setTop (mkF m 42 #[.val (.long q1), .second, .val (.long (w2 - (65536 : Int64))), .second, .val (.long (w2 - (65536 : Int64))), .second, .val (.int (1 : Int32)), .val (.int (1 : Int32)), .unset] [])) _
    refine XS.lload X4.here hx rfl (hb hby at_42) rfl ?_
    show Steps p.tables e below (T4.setTop (mkF m 44 #[.val (.long q1), .second, .val (.long (w2 - (65536 : Int64))), .second, .val (.long (w2 - (65536 : Int64))), .second, .val (.int (1 : Int32)), .val (.int (1 : Int32)), .unset] [(.long (w2 - (65536 : Int64)))])) _
    refine XS.lloadN X4.here hx rfl (hb hby at_44) rfl ?_
    show Steps p.tables e below (T4.setTop (mkF m 45 #[.val (.long q1), .second, .val (.long (w2 - (65536 : Int64))), .second, .val (.long (w2 - (65536 : Int64))), .second, .val (.int (1 : Int32)), .val (.int (1 : Int32)), .unset] [(.long q1), (.long (w2 - (65536 : Int64)))])) _
    refine XS.lcmp X4.here hx rfl (hb hby at_45) rfl ?_
    show Steps p.tables e below (T4.setTop (mkF m 46 #[.val (.long q1), .second, .val (.long (w2 - (65536 : Int64))), .second, .val (.long (w2 - (65536 : Int64))), .second, .val (.int (1 : Int32)), .val (.int (1 : Int32)), .unset] [(.int (lcmpW (w2 - (65536 : Int64)) q1))])) _
    refine XS.ifNo X4.here hx rfl (hb hby at_46) rfl ((if0 _ _).trans (feq (own_neq hc)).1) ?_
    show Steps p.tables e below (T4.setTop (mkF m 49 #[.val (.long q1), .second, .val (.long (w2 - (65536 : Int64))), .second, .val (.long (w2 - (65536 : Int64))), .second, .val (.int (1 : Int32)), .val (.int (1 : Int32)), .unset] [])) _
    refine XS.lload X4.here hx rfl (hb hby at_49) rfl ?_
    show Steps p.tables e below (T4.setTop (mkF m 51 #[.val (.long q1), .second, .val (.long (w2 - (65536 : Int64))), .second, .val (.long (w2 - (65536 : Int64))), .second, .val (.int (1 : Int32)), .val (.int (1 : Int32)), .unset] [(.long (w2 - (65536 : Int64)))])) _
    refine XS.lloadN X4.here hx rfl (hb hby at_51) rfl ?_
    show Steps p.tables e below (T4.setTop (mkF m 52 #[.val (.long q1), .second, .val (.long (w2 - (65536 : Int64))), .second, .val (.long (w2 - (65536 : Int64))), .second, .val (.int (1 : Int32)), .val (.int (1 : Int32)), .unset] [(.long (w2 - (65536 : Int64))), (.long (w2 - (65536 : Int64)))])) _
    refine XS.lcmp X4.here hx rfl (hb hby at_52) rfl ?_
    show Steps p.tables e below (T4.setTop (mkF m 53 #[.val (.long q1), .second, .val (.long (w2 - (65536 : Int64))), .second, .val (.long (w2 - (65536 : Int64))), .second, .val (.int (1 : Int32)), .val (.int (1 : Int32)), .unset] [(.int (lcmpW (w2 - (65536 : Int64)) (w2 - (65536 : Int64))))])) _
    refine XS.ifNo X4.here hx rfl (hb hby at_53) rfl ((if0 _ _).trans (teq ((lw_eq _ _).mpr rfl)).2) ?_
    show Steps p.tables e below (T4.setTop (mkF m 56 #[.val (.long q1), .second, .val (.long (w2 - (65536 : Int64))), .second, .val (.long (w2 - (65536 : Int64))), .second, .val (.int (1 : Int32)), .val (.int (1 : Int32)), .unset] [])) _
    refine XS.iconst X4.here hx rfl (hb hby at_56) ?_
    show Steps p.tables e below (T4.setTop (mkF m 57 #[.val (.long q1), .second, .val (.long (w2 - (65536 : Int64))), .second, .val (.long (w2 - (65536 : Int64))), .second, .val (.int (1 : Int32)), .val (.int (1 : Int32)), .unset] [(.int (1 : Int32))])) _
    refine XS.goto X4.here hx rfl (pc0 := 57) (pc' := 61) rfl (hb hby at_57) (by decide) (by decide) ?_
    show Steps p.tables e below (T4.setTop (mkF m 61 #[.val (.long q1), .second, .val (.long (w2 - (65536 : Int64))), .second, .val (.long (w2 - (65536 : Int64))), .second, .val (.int (1 : Int32)), .val (.int (1 : Int32)), .unset] [(.int (1 : Int32))])) _
    refine XS.istore X4.here hx rfl (hb hby at_61) rfl (l' := #[.val (.long q1), .second, .val (.long (w2 - (65536 : Int64))), .second, .val (.long (w2 - (65536 : Int64))), .second, .val (.int (1 : Int32)), .val (.int (1 : Int32)), .val (.int (1 : Int32))]) rfl ?_
    show Steps p.tables e below (T4.setTop (mkF m 63 #[.val (.long q1), .second, .val (.long (w2 - (65536 : Int64))), .second, .val (.long (w2 - (65536 : Int64))), .second, .val (.int (1 : Int32)), .val (.int (1 : Int32)), .val (.int (1 : Int32))] [])) _
    refine XS.iload X4.here hx rfl (hb hby at_63) rfl ?_
    show Steps p.tables e below (T4.setTop (mkF m 65 #[.val (.long q1), .second, .val (.long (w2 - (65536 : Int64))), .second, .val (.long (w2 - (65536 : Int64))), .second, .val (.int (1 : Int32)), .val (.int (1 : Int32)), .val (.int (1 : Int32))] [(.int (1 : Int32))])) _
    refine XS.ifNo X4.here hx rfl (hb hby at_65) rfl ((if0 _ _).trans (feq hc65).1) ?_
    show Steps p.tables e below (T4.setTop (mkF m 68 #[.val (.long q1), .second, .val (.long (w2 - (65536 : Int64))), .second, .val (.long (w2 - (65536 : Int64))), .second, .val (.int (1 : Int32)), .val (.int (1 : Int32)), .val (.int (1 : Int32))] [])) _
    refine XS.iload X4.here hx rfl (hb hby at_68) rfl ?_
    show Steps p.tables e below (T4.setTop (mkF m 70 #[.val (.long q1), .second, .val (.long (w2 - (65536 : Int64))), .second, .val (.long (w2 - (65536 : Int64))), .second, .val (.int (1 : Int32)), .val (.int (1 : Int32)), .val (.int (1 : Int32))] [(.int (1 : Int32))])) _
    refine XS.ifNo X4.here hx rfl (hb hby at_70) rfl ((if0 _ _).trans (feq hc70).1) ?_
    show Steps p.tables e below (T4.setTop (mkF m 73 #[.val (.long q1), .second, .val (.long (w2 - (65536 : Int64))), .second, .val (.long (w2 - (65536 : Int64))), .second, .val (.int (1 : Int32)), .val (.int (1 : Int32)), .val (.int (1 : Int32))] [])) _
    refine XS.iload X4.here hx rfl (hb hby at_73) rfl ?_
    show Steps p.tables e below (T4.setTop (mkF m 75 #[.val (.long q1), .second, .val (.long (w2 - (65536 : Int64))), .second, .val (.long (w2 - (65536 : Int64))), .second, .val (.int (1 : Int32)), .val (.int (1 : Int32)), .val (.int (1 : Int32))] [(.int (1 : Int32))])) _
    refine XS.ifNo X4.here hx rfl (hb hby at_75) rfl ((if0 _ _).trans (feq hc75).1) ?_
    show Steps p.tables e below (T4.setTop (mkF m 78 #[.val (.long q1), .second, .val (.long (w2 - (65536 : Int64))), .second, .val (.long (w2 - (65536 : Int64))), .second, .val (.int (1 : Int32)), .val (.int (1 : Int32)), .val (.int (1 : Int32))] [])) _
    refine XS.iconst X4.here hx rfl (hb hby at_78) ?_
    show Steps p.tables e below (T4.setTop (mkF m 79 #[.val (.long q1), .second, .val (.long (w2 - (65536 : Int64))), .second, .val (.long (w2 - (65536 : Int64))), .second, .val (.int (1 : Int32)), .val (.int (1 : Int32)), .val (.int (1 : Int32))] [(.int (1 : Int32))])) _
    refine XS.goto X4.here hx rfl (pc0 := 79) (pc' := 83) rfl (hb hby at_79) (by decide) (by decide) ?_
    show Steps p.tables e below (T4.setTop (mkF m 83 #[.val (.long q1), .second, .val (.long (w2 - (65536 : Int64))), .second, .val (.long (w2 - (65536 : Int64))), .second, .val (.int (1 : Int32)), .val (.int (1 : Int32)), .val (.int (1 : Int32))] [(.int (1 : Int32))])) _
    exact retN X4 hx (t := .boolean) Bd.returns (by simp) (hb hby at_83) hr
  · show Q0b Z q1 w2 h0 n0 _ T4.heap _
    exact ⟨rfl, N4⟩
set_option maxRecDepth 65536 in
set_option maxHeartbeats 40000000 in
theorem comes_1 {Post : Tables → Env → Array Value → State → Outcome → State → Prop} (hpost : ∀ tb e args s v u, (limb_1_1.after args s (.returned v) u = true ∧ limb_1_2.after args s (.returned v) u = true ∧ True) → FrameEnd s (.returned v) u (Jvm.fieldLocs frame_1_writes args s ++ Jvm.arrayLocs frame_1_arrays args s ++ Jvm.staticLocs frame_1_statics s) 0 0 → Post tb e args s (.returned v) u) :
    ArmFor flags0 classFile x code maxLocals ret World_1 tables_1 room_1 Calls_1 rest_1 Pre_1 Post := by
  intro l hfl _ _ p e ha hc hk s m args below hf hA hF happ hP
  obtain ⟨hcalls, hrest, hpre⟩ := hP
  obtain ⟨-, -, -, hnamed, -, -, -, hat⟩ := (Spec.applies_iff hf).mp happ
  obtain ⟨hg, hn⟩ := and_e (Cond.before_iff.mp (show (Jvm.Cond.and given_1 narrow_1).before args s = true from hpre))
  obtain ⟨gc, gr0⟩ := and_e hg
  obtain ⟨w0, rfl⟩ : ∃ w0 : Value, args = #[w0] := by
    have hs : args.size = 1 := by simpa [Cond.value, given_1] using gc
    obtain ⟨L⟩ := args
    match L, hs with
    | [w0], _ => exact ⟨w0, rfl⟩
  have hw := fun d (hd : d ∈ tables_1) => atoms_spec (ws := Jvm.Cond.code x code maxLocals ret :: tables_1) hat d (List.mem_cons_of_mem _ hd)
  obtain ⟨i0, ei0⟩ := isL_v gr0
  obtain rfl : w0 = (.long i0) := Option.some.inj ei0
  have eB := own_eqL hn
  have sB := Sta.start eB (Or.inr ⟨(hw _ (List.mem_of_getElem? (i := 1) rfl)), (hw _ (List.mem_of_getElem? (i := 2) rfl))⟩)
  by_cases q : (0 : Int32) < (lcmpW i0 ((134217728 : Int64) - (65536 : Int64)))
  · obtain ⟨n, o, h1, h2, h3, _, L, rfl, ⟨rfl, N⟩, hq⟩ := rm0b l s _ hw tables_1 i0 134217728 s.heap s.heap.size (Nat.le_refl _) sB q (by decide) (by decide) (by decide) p e ha hc hk s m _ below hf ((Spec.applies_iff_loose hf).mp happ).1 ⟨rfl, State.Warmed39.refl s, rfl⟩ trivial
    exact ⟨n, _, h1, h2, h3, hpost _ _ _ _ _ _ ⟨Cond.after_iff.mpr rfl, Cond.after_iff.mpr (eq_i res_at (Term.int_eval (1)) rfl), trivial⟩ ⟨hq.1, hq.2.1, (hq.2.2.sift fun y hy => Or.inr (N y hy)).mono (by decide) (by decide)⟩⟩
  · obtain ⟨n, o, h1, h2, h3, _, L, rfl, ⟨rfl, N⟩, hq⟩ := rm0a l s _ hw tables_1 i0 134217728 s.heap s.heap.size (Nat.le_refl _) sB q (by decide) (by decide) (by decide) p e ha hc hk s m _ below hf ((Spec.applies_iff_loose hf).mp happ).1 ⟨rfl, State.Warmed39.refl s, rfl⟩ trivial
    exact ⟨n, _, h1, h2, h3, hpost _ _ _ _ _ _ ⟨Cond.after_iff.mpr rfl, Cond.after_iff.mpr (eq_i res_at (Term.int_eval (1)) rfl), trivial⟩ ⟨hq.1, hq.2.1, (hq.2.2.sift fun y hy => Or.inr (N y hy)).mono (by decide) (by decide)⟩⟩
theorem main_1_1 : Claimed_1_1 := comes_1 fun _ _ _ _ _ _ h hF => ⟨h.1, hF⟩
theorem main_1_2 : Claimed_1_2 := comes_1 fun _ _ _ _ _ _ h hF => ⟨h.2.1, hF⟩
end Jvm.Pilot.@@N@@
namespace Jvm.Pilot.@@N@@
open Jvm Jvm.ClassFile Sem Op Lib Jvm.Free Jvm.Stand Jvm.Pilot.@@N@@.Jvm.D
/-! MADE BY PROGRAM (witnessworld.py) out of the Statement's table words and the real class files: 12 classes; the members and pool entries that the words name. The judged class is class 1, her method 1. -/
namespace start1
open Jvm.ClassFile
def u (s : String) : CpInfo := .utf8 (stringToUtf16 s)
/-- a pool by its gaps: so many unusable entries, then the entry; so many at the end -/
def gap : Nat → List CpInfo → List CpInfo
  | 0, r => r
  | n + 1, r => .unusable :: gap n r
def poolList (es : List (Nat × CpInfo)) (last : Nat) : List CpInfo := es.foldr (fun e r => gap e.1 (e.2 :: r)) (gap last [])
def pool (es : List (Nat × CpInfo)) (last : Nat) : Array CpInfo := ⟨poolList es last⟩
def fileOf (pool : Array CpInfo) (this : Nat) (attrs : Array Attribute := #[]) (ms : Array MethodInfo := #[]) (fl : Nat := 33) (sup : Nat := 0) (ifs : Array Nat := #[]) (fds : Array FieldInfo := #[]) : ClassFile where
  minorVersion := 0
  majorVersion := 65
  constantPool := pool
  accessFlags := fl
  thisClass := this
  superClass := sup
  interfaces := ifs
  fields := fds
  methods := ms
  attributes := attrs
def plain (name : String) (sup : Option ClassId) : Class where
  name := name
  kind := .ordinary
  loader := none
  accessFlags := 33
  super := sup
  interfaces := #[]
  cf := none
  fields := #[]
  methods := #[]
  instanceTypes := #[]
  staticTypes := #[]
  resolved := #[]
  callSites := []
  init := .initialized
  statics := none
  mirror := none

def pool0 : Array CpInfo := pool [(5, u "<init>"), (0, u "()V"), (1, .class_ 10), (1, u "java/lang/Object")] 113

def k0m0 : Method := { name := "<init>", desc := "()V", sig := { parameters := [], returnType := none }, accessFlags := 1, code := none }
/-- java/lang/Object -/
def k0 : Class := { plain "java/lang/Object" none with
  accessFlags := 33
  interfaces := #[]
  cf := some (fileOf pool0 8 #[] #[{ accessFlags := 1, nameIndex := 5, descriptorIndex := 6, attributes := #[] }] 33 0 #[] #[])
  fields := #[]
  methods := #[k0m0]
  instanceTypes := #[]
  staticTypes := #[]
  resolved := Array.replicate 124 none
  statics := none }

def pool1 : Array CpInfo := pool [(2, .class_ 4), (1, u "java/lang/Object"), (0, u "<init>"), (0, u "()V"), (0, .fieldref 8 9), (0, .class_ 10), (0, .nameAndType 11 12), (0, u "com/example/situla/situla/server/RequestBody"), (0, u "BUDGET"), (0, u "J"), (0, .long 65536), (1, .methodref 8 16), (0, .nameAndType 17 18), (0, u "limit"), (0, u "(J)J"), (0, .class_ 20), (0, u "com/example/situla/situla/server/RequestBodyLimitPinLaw"), (2, u "law"), (0, u "(J)Z")] 3

def k1m0 : Method := { name := "<init>", desc := "()V", sig := { parameters := [], returnType := none }, accessFlags := 1, code := none }
def k1c1 : Code := { maxStack := 4, maxLocals := 9, code := code, exceptionTable := #[], attributes := #[] }
def k1m1 : Method := { name := "law", desc := "(J)Z", sig := { parameters := [.long], returnType := some .boolean }, accessFlags := 9, code := some k1c1 }
/-- com/example/situla/situla/server/RequestBodyLimitPinLaw -/
def k1 : Class := { plain "com/example/situla/situla/server/RequestBodyLimitPinLaw" (some 0) with
  accessFlags := 49
  interfaces := #[]
  cf := some (fileOf pool1 19 #[] #[{ accessFlags := 1, nameIndex := 5, descriptorIndex := 6, attributes := #[] }, { accessFlags := 9, nameIndex := 23, descriptorIndex := 24, attributes := #[] }] 49 2 #[] #[])
  fields := #[]
  methods := #[k1m0, k1m1]
  instanceTypes := #[]
  staticTypes := #[]
  resolved := Array.replicate 28 none
  statics := none }

def pool2 : Array CpInfo := pool [(1, .class_ 2), (0, u "java/lang/AutoCloseable"), (0, .class_ 4), (0, u "java/lang/Object")] 7

/-- java/lang/AutoCloseable -/
def k2 : Class := { plain "java/lang/AutoCloseable" (some 0) with
  accessFlags := 1537
  interfaces := #[]
  cf := some (fileOf pool2 1 #[] #[] 1537 3 #[] #[])
  fields := #[]
  methods := #[]
  instanceTypes := #[]
  staticTypes := #[]
  resolved := Array.replicate 12 none
  statics := none }

def pool3 : Array CpInfo := pool [(1, .class_ 2), (0, u "java/io/Closeable"), (0, .class_ 4), (0, u "java/lang/Object"), (0, .class_ 6), (0, u "java/lang/AutoCloseable")] 7

/-- java/io/Closeable -/
def k3 : Class := { plain "java/io/Closeable" (some 0) with
  accessFlags := 1537
  interfaces := #[2]
  cf := some (fileOf pool3 1 #[] #[] 1537 3 #[5] #[])
  fields := #[]
  methods := #[]
  instanceTypes := #[]
  staticTypes := #[]
  resolved := Array.replicate 14 none
  statics := none }

def pool4 : Array CpInfo := pool [(2, .class_ 4), (1, u "java/lang/Object"), (0, u "<init>"), (0, u "()V"), (4, .class_ 13), (1, u "com/example/situla/situla/server/RequestBody"), (0, u "blocks"), (0, u "Ljava/util/List;"), (0, .fieldref 11 17), (0, .nameAndType 18 19), (0, u "BUDGET"), (0, u "J"), (0, .long 65536), (1, .methodref 23 24), (0, .class_ 25), (0, .nameAndType 26 27), (0, u "java/lang/Math"), (0, u "min"), (0, u "(JJ)J"), (1, .class_ 31), (1, u "com/example/situla/situla/server/RequestBody$Outcome"), (6, u "length"), (5, u "holding"), (0, u "Z"), (9, u "reserved"), (68, u "WAIT"), (0, u "Ljava/time/Duration;"), (7, u "held"), (2, u "inFlight"), (0, u "I"), (2, u "waiting"), (41, .class_ 183), (0, u "java/io/Closeable"), (0, u "COST"), (2, u "FIRST_BLOCK"), (1, u "LARGEST_BLOCK"), (5, u "limit"), (0, u "(J)J")] 17

def k4m0 : Method := { name := "<init>", desc := "()V", sig := { parameters := [], returnType := none }, accessFlags := 0, code := none }
def k4c1 : Code := { maxStack := 6, maxLocals := 2, code := prog_99_method_2_code, exceptionTable := #[], attributes := #[] }
def k4m1 : Method := { name := "limit", desc := "(J)J", sig := { parameters := [.long], returnType := some .long }, accessFlags := 8, code := some k4c1 }
/-- com/example/situla/situla/server/RequestBody -/
def k4 : Class := { plain "com/example/situla/situla/server/RequestBody" (some 0) with
  accessFlags := 48
  interfaces := #[3]
  cf := some (fileOf pool4 11 #[.nestMembers #[29]] #[{ accessFlags := 0, nameIndex := 5, descriptorIndex := 6, attributes := #[] }, { accessFlags := 8, nameIndex := 195, descriptorIndex := 196, attributes := #[] }] 48 2 #[182] #[{ accessFlags := 26, nameIndex := 184, descriptorIndex := 137, attributes := #[] }, { accessFlags := 24, nameIndex := 18, descriptorIndex := 19, attributes := #[] }, { accessFlags := 26, nameIndex := 187, descriptorIndex := 137, attributes := #[] }, { accessFlags := 26, nameIndex := 189, descriptorIndex := 137, attributes := #[] }, { accessFlags := 26, nameIndex := 124, descriptorIndex := 125, attributes := #[] }, { accessFlags := 10, nameIndex := 133, descriptorIndex := 19, attributes := #[] }, { accessFlags := 10, nameIndex := 136, descriptorIndex := 137, attributes := #[] }, { accessFlags := 10, nameIndex := 140, descriptorIndex := 137, attributes := #[] }, { accessFlags := 18, nameIndex := 14, descriptorIndex := 15, attributes := #[] }, { accessFlags := 2, nameIndex := 44, descriptorIndex := 45, attributes := #[] }, { accessFlags := 2, nameIndex := 55, descriptorIndex := 19, attributes := #[] }, { accessFlags := 2, nameIndex := 38, descriptorIndex := 19, attributes := #[] }])
  fields := #[{ name := "COST", type := .int, accessFlags := 26, slot := 0, constantValue := 0 }, { name := "BUDGET", type := .long, accessFlags := 24, slot := 1, constantValue := 0 }, { name := "FIRST_BLOCK", type := .int, accessFlags := 26, slot := 2, constantValue := 0 }, { name := "LARGEST_BLOCK", type := .int, accessFlags := 26, slot := 3, constantValue := 0 }, { name := "WAIT", type := (.object "java/time/Duration"), accessFlags := 26, slot := 4, constantValue := 0 }, { name := "held", type := .long, accessFlags := 10, slot := 5, constantValue := 0 }, { name := "inFlight", type := .int, accessFlags := 10, slot := 6, constantValue := 0 }, { name := "waiting", type := .int, accessFlags := 10, slot := 7, constantValue := 0 }, { name := "blocks", type := (.object "java/util/List"), accessFlags := 18, slot := 0, constantValue := 0 }, { name := "holding", type := .boolean, accessFlags := 2, slot := 1, constantValue := 0 }, { name := "reserved", type := .long, accessFlags := 2, slot := 2, constantValue := 0 }, { name := "length", type := .long, accessFlags := 2, slot := 3, constantValue := 0 }]
  methods := #[k4m0, k4m1]
  instanceTypes := #[(.object "java/util/List"), .boolean, .long, .long]
  staticTypes := #[.int, .long, .int, .int, (.object "java/time/Duration"), .long, .int, .int]
  resolved := Array.replicate 214 none
  statics := some 0 }

def pool5 : Array CpInfo := pool [(1, .class_ 2), (0, u "java/lang/Math"), (1, .class_ 6), (1, u "java/lang/Object"), (0, u "<init>"), (0, u "()V"), (89, .class_ 100), (1, u "java/lang/Math$RandomNumberGeneratorHolder"), (20, u "(JJ)J"), (50, u "negativeZeroFloatBits"), (0, u "J"), (2, u "negativeZeroDoubleBits"), (24, u "min"), (43, u "$assertionsDisabled"), (0, u "Z"), (91, u "twoToTheDoubleScaleDown"), (0, u "D"), (4, u "twoToTheDoubleScaleUp"), (9, u "E"), (3, u "PI"), (2, u "TAU"), (2, u "DEGREES_TO_RADIANS"), (0, u "RADIANS_TO_DEGREES")] 94

def k5m0 : Method := { name := "<init>", desc := "()V", sig := { parameters := [], returnType := none }, accessFlags := 2, code := none }
def k5c1 : Code := { maxStack := 4, maxLocals := 4, code := jdk_29_method_70_code, exceptionTable := #[], attributes := #[] }
def k5m1 : Method := { name := "min", desc := "(JJ)J", sig := { parameters := [.long, .long], returnType := some .long }, accessFlags := 9, code := some k5c1 }
/-- java/lang/Math -/
def k5 : Class := { plain "java/lang/Math" (some 0) with
  accessFlags := 49
  interfaces := #[]
  cf := some (fileOf pool5 1 #[.nestMembers #[98]] #[{ accessFlags := 2, nameIndex := 7, descriptorIndex := 8, attributes := #[] }, { accessFlags := 9, nameIndex := 201, descriptorIndex := 121, attributes := #[] }] 49 4 #[] #[{ accessFlags := 25, nameIndex := 354, descriptorIndex := 339, attributes := #[] }, { accessFlags := 25, nameIndex := 358, descriptorIndex := 339, attributes := #[] }, { accessFlags := 25, nameIndex := 361, descriptorIndex := 339, attributes := #[] }, { accessFlags := 26, nameIndex := 364, descriptorIndex := 339, attributes := #[] }, { accessFlags := 26, nameIndex := 365, descriptorIndex := 339, attributes := #[] }, { accessFlags := 26, nameIndex := 172, descriptorIndex := 173, attributes := #[] }, { accessFlags := 26, nameIndex := 176, descriptorIndex := 173, attributes := #[] }, { accessFlags := 8, nameIndex := 344, descriptorIndex := 339, attributes := #[] }, { accessFlags := 8, nameIndex := 338, descriptorIndex := 339, attributes := #[] }, { accessFlags := 4120, nameIndex := 245, descriptorIndex := 246, attributes := #[] }])
  fields := #[{ name := "E", type := .double, accessFlags := 25, slot := 0, constantValue := 0 }, { name := "PI", type := .double, accessFlags := 25, slot := 1, constantValue := 0 }, { name := "TAU", type := .double, accessFlags := 25, slot := 2, constantValue := 0 }, { name := "DEGREES_TO_RADIANS", type := .double, accessFlags := 26, slot := 3, constantValue := 0 }, { name := "RADIANS_TO_DEGREES", type := .double, accessFlags := 26, slot := 4, constantValue := 0 }, { name := "negativeZeroFloatBits", type := .long, accessFlags := 26, slot := 5, constantValue := 0 }, { name := "negativeZeroDoubleBits", type := .long, accessFlags := 26, slot := 6, constantValue := 0 }, { name := "twoToTheDoubleScaleUp", type := .double, accessFlags := 8, slot := 7, constantValue := 0 }, { name := "twoToTheDoubleScaleDown", type := .double, accessFlags := 8, slot := 8, constantValue := 0 }, { name := "$assertionsDisabled", type := .boolean, accessFlags := 4120, slot := 9, constantValue := 0 }]
  methods := #[k5m0, k5m1]
  instanceTypes := #[]
  staticTypes := #[.double, .double, .double, .double, .double, .long, .long, .double, .double, .boolean]
  resolved := Array.replicate 460 none
  statics := none }

def pool6 : Array CpInfo := pool [(1, u "java/lang/Cloneable"), (0, .class_ 1), (0, u "java/lang/Object"), (0, .class_ 3)] 3

/-- java/lang/Cloneable -/
def k6 : Class := { plain "java/lang/Cloneable" (some 0) with
  accessFlags := 1537
  interfaces := #[]
  cf := some (fileOf pool6 2 #[] #[] 1537 4 #[] #[])
  fields := #[]
  methods := #[]
  instanceTypes := #[]
  staticTypes := #[]
  resolved := Array.replicate 8 none
  statics := none }

def pool7 : Array CpInfo := pool [(1, u "java/io/Serializable"), (0, .class_ 1), (0, u "java/lang/Object"), (0, .class_ 3)] 3

/-- java/io/Serializable -/
def k7 : Class := { plain "java/io/Serializable" (some 0) with
  accessFlags := 1537
  interfaces := #[]
  cf := some (fileOf pool7 2 #[] #[] 1537 4 #[] #[])
  fields := #[]
  methods := #[]
  instanceTypes := #[]
  staticTypes := #[]
  resolved := Array.replicate 8 none
  statics := none }

/-- the primitive byte -/
def k8 : Class := { plain "byte" none with kind := .primitive 'B', accessFlags := 0x411 }
/-- [B -/
def k9 : Class := { plain "[B" (some 0) with kind := .array 8 .byte, interfaces := #[6, 7], accessFlags := 1041 }

/-- the primitive int -/
def k10 : Class := { plain "int" none with kind := .primitive 'I', accessFlags := 0x411 }
/-- [I -/
def k11 : Class := { plain "[I" (some 0) with kind := .array 10 .int, interfaces := #[6, 7], accessFlags := 1041 }

def heap : Heap := #[{ cls := 4, slots := #[.int 0, .long 134217728, .int 0, .int 0, .null, .long 0, .int 0, .int 0], vm := .statics 4 }]
def classes : Array Class := #[k0, k1, k2, k3, k4, k5, k6, k7, k8, k9, k10, k11]
def interned : List (Array UInt16 × Addr) := []
def slotsUsed : Nat := 8
def theMethod : MethodId := ⟨1, 1⟩
def args0 : Array Value := #[.long 5]
def aboutOver (below : List Frame) : State where
  vm := { classes := classes, interned := interned.toArray }
  heap := heap
  slotsUsed := slotsUsed
  threads := #[{ frames := .invoking theMethod args0 :: below }]
def below0 : List Frame := [.native { method := ⟨0, 0⟩, args := #[] }]
def about1 : State := aboutOver below0
def p0 : Program := .bare "" "" ""
def e0 : Env := launch0.env 0 0 0
theorem w_frames : about1.frames = Frame.invoking theMethod args0 :: below0 := rfl
set_option maxRecDepth 65536 in
theorem w_args : argsFit about1.vm theMethod args0 = true := by decide +kernel
set_option maxRecDepth 65536 in
theorem w_heap : heapFits about1 = true := by decide +kernel
set_option maxRecDepth 65536 in
theorem w_runnable : about1.curStatus? = some .runnable := by decide +kernel
set_option maxRecDepth 65536 in
theorem w_alone : about1.alone = true := by decide +kernel
set_option maxRecDepth 65536 in
theorem w_named : about1.methodNamed? x = some theMethod := by decide +kernel
set_option maxRecDepth 65536 in
theorem w_hears : about1.hears theMethod below0 = true := by decide +kernel
set_option maxRecDepth 65536 in
theorem w_ripe : about1.ripe theMethod args0 below0 = true := by decide +kernel
theorem w_running : about1.status = .running := rfl
set_option maxRecDepth 65536 in
theorem w_room : about1.hasRoom e0.platform room_1 = true :=
  launch0.hasRoom_least _ room_1 (by decide +kernel) (by decide +kernel) (by decide +kernel) (by decide +kernel) (by decide +kernel) (by decide +kernel)
theorem allAtoms_all (ts : List Jvm.Cond) (a : Array Jvm.Value) (st : Jvm.State) : (allAtoms ts).before a st = ts.all (fun c => c.before a st) := by
  induction ts with
  | nil => rfl
  | cons c t ih =>
    show (Jvm.Cond.and c (allAtoms t)).before a st = _
    rw [Jvm.Cond.before_and, ih, List.all_cons]
def words1 : List Jvm.Cond := Jvm.Cond.code x code maxLocals ret :: tables_1
/-- a 'code' word, met by the world's own term for the bytes: nothing is compared byte by byte -/
theorem code_word {y : MethodName} {bytes : ByteArray} {mx : Nat} {rt : Option FieldType} {a : Array Value} {s : State} {m : MethodId} {meth : Method} {c : Code} (h1 : s.methodNamed? y = some m) (h2 : s.vm.method? m = some meth) (h3 : meth.code = some c) (h4 : c.code = bytes)
    (h5 : (c.maxLocals == mx && c.exceptionTable.isEmpty && decide (c.maxStack ≤ mostOperands) && decide (meth.sig.returnType = rt) && !meth.locks && decide (parseMethodDescriptor y.desc = some meth.sig)) = true) : (Jvm.Cond.code y bytes mx rt).before a s = true := by
  simp only [Bool.and_eq_true, beq_iff_eq, Bool.not_eq_true', decide_eq_true_eq] at h5
  obtain ⟨⟨⟨⟨⟨g1, g2⟩, g3⟩, g4⟩, g5⟩, g6⟩ := h5
  simp [Cond.before, Cond.holds, Cond.value, h1, h2, h3, h4, g1, g2, g3, g4, g5, g6]
def isCode : Jvm.Cond → Bool
  | .code _ _ _ _ => true
  | _ => false
theorem all_split {L : List Jvm.Cond} {P : Jvm.Cond → Bool} (h1 : L.all (fun c => isCode c || P c) = true) (h2 : ∀ c ∈ L.filter isCode, P c = true) : L.all P = true := by
  refine List.all_eq_true.mpr fun c hc => ?_
  have h := List.all_eq_true.mp h1 c hc
  rcases Bool.eq_false_or_eq_true (isCode c) with hi | hi
  · exact h2 c (List.mem_filter.mpr ⟨hc, hi⟩)
  · simpa [hi] using h
set_option maxRecDepth 65536 in
theorem w_c0 : (Jvm.Cond.code x code maxLocals ret).before args0 about1 = true := code_word (m := ⟨1, 1⟩) (meth := k1m1) (c := k1c1) (by decide +kernel) rfl rfl rfl (by decide +kernel)
set_option maxRecDepth 65536 in
theorem w_c1 : (Jvm.Cond.code ({ cls := "com/example/situla/situla/server/RequestBody", name := "limit", desc := "(J)J" } : Jvm.MethodName) prog_99_method_2_code (2 : Nat) (Option.some Jvm.ClassFile.FieldType.long)).before args0 about1 = true := code_word (m := ⟨4, 1⟩) (meth := k4m1) (c := k4c1) (by decide +kernel) rfl rfl rfl (by decide +kernel)
set_option maxRecDepth 65536 in
theorem w_c2 : (Jvm.Cond.code ({ cls := "java/lang/Math", name := "min", desc := "(JJ)J" } : Jvm.MethodName) jdk_29_method_70_code (4 : Nat) (Option.some Jvm.ClassFile.FieldType.long)).before args0 about1 = true := code_word (m := ⟨5, 1⟩) (meth := k5m1) (c := k5c1) (by decide +kernel) rfl rfl rfl (by decide +kernel)
def codes1 : List Jvm.Cond := [Jvm.Cond.code x code maxLocals ret, Jvm.Cond.code ({ cls := "com/example/situla/situla/server/RequestBody", name := "limit", desc := "(J)J" } : Jvm.MethodName) prog_99_method_2_code (2 : Nat) (Option.some Jvm.ClassFile.FieldType.long), Jvm.Cond.code ({ cls := "java/lang/Math", name := "min", desc := "(JJ)J" } : Jvm.MethodName) jdk_29_method_70_code (4 : Nat) (Option.some Jvm.ClassFile.FieldType.long)]
set_option maxRecDepth 65536 in
theorem codes_eq : words1.filter isCode = codes1 := rfl
theorem w_codes : ∀ c ∈ words1.filter isCode, c.before args0 about1 = true := by
  rw [codes_eq]
  intro c hc
  simp only [codes1, List.mem_cons, List.not_mem_nil, or_false] at hc
  rcases hc with rfl | rfl | rfl
  · exact w_c0
  · exact w_c1
  · exact w_c2
set_option maxRecDepth 65536 in
theorem w_t1 : words1.all (fun c => isCode c || c.before args0 about1) = true := by decide +kernel
theorem w_tables : (allAtoms (Jvm.Cond.code x code maxLocals ret :: tables_1)).before args0 about1 = true := by
  rw [allAtoms_all]
  show words1.all (fun c => c.before args0 about1) = true
  refine all_split ?_ w_codes
  rw [w_t1]
set_option maxRecDepth 65536 in
theorem w_case : (Jvm.Cond.and given_1 narrow_1).before args0 about1 = true := by decide +kernel
theorem w_applies : (headSpec (Jvm.Cond.code x code maxLocals ret :: tables_1) room_1).applies x e0.platform about1 = true :=
  (Spec.applies_iff w_frames).mpr ⟨w_running, w_runnable, w_alone, w_named, w_hears, w_ripe, w_room, w_tables⟩
theorem atStart : AtStart classFile x code maxLocals ret World_1 tables_1 room_1 Calls_1 rest_1 Pre_1 launch0 p0 e0 about1 theMethod args0 below0 :=
  ⟨lists_1, trivial, launch0.admits_env _ _ _, launch0.least_env, fairChoices_fair.cas, fairChoices_fair.clock, w_frames, w_args, w_heap, w_applies, trivial, trivial, w_case⟩
end start1
theorem witness_1 : WitnessClaimed_1 := ⟨start1.p0, start1.e0, start1.about1, start1.theMethod, start1.args0, start1.below0, start1.atStart⟩
end Jvm.Pilot.@@N@@
