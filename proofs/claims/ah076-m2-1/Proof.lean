import JvmDerived
import JvmDerived.Pilot.@@N@@Statement
import JvmDerived.Pilot.@@N@@Code
set_option linter.unusedVariables false
set_option linter.unusedSimpArgs false
@@BLOCK:NumsL.lean.txt@@
namespace Jvm.RoadKit
open Sem ClassFile Op Lib Jvm.Stand Jvm.Free Jvm.LawKit
section New
variable {p : Program} {l : Launch} {e : Env} {R : Room} {s : State} {m : MethodId} {args : Array Value} {below : List Frame} {meth : Method} {c : Code} {T : State} {locs : List Loc} {cells slots : Nat}
theorem retI (X : Stand p l e R s m args below meth c T locs cells slots) (hx : p.tables.exec = Jvm.exec) {pc : Nat} {Ls : Array Slot} {z : Int32} {rest : List Value} (hret : meth.sig.returnType = some .int) (hd : decode c.code pc = .ok (.ireturn, 1)) {fs : List Frame}
    (hl : ∀ (f : JFrame) (acts : List Action), f.method = m → f.locked = none → f.entered = [] → (doReturn e (T.setTop f) acts (some (.int z))).1 = T.setFrames fs) : Steps p.tables e below (T.setTop (mkF m pc Ls (.int z :: rest))) (T.setFrames fs) := by
  have hm' : T.vm.method? m = some meth := X.method'
  have hn : narrow .int (.int z) = .int z := rfl
  show Steps p.tables e below (T.setTop { method := m, pc := pc, locals := Ls, stack := _ :: rest, locked := none }) _
  jvm_step X.here [X.here.top, hx, hd, hm', hret, hn]
  first | (intro acts; rw [hl _ acts rfl rfl rfl]) | rw [hl _ _ rfl rfl rfl]
  exact Steps.refl _
end New
end Jvm.RoadKit
namespace Jvm.Pilot.@@N@@
open Jvm Jvm.ClassFile Sem Op Lib Jvm.Free Jvm.Stand Jvm.LawKit Jvm.RoadKit Bundle Jvm.Pilot.@@N@@.Jvm.D
theorem own_rem (x y : Int32) : (x - (x / y) * y).toInt = x.toInt.tmod y.toInt := by
  have a := (x % y).toInt_lt; have b := (x % y).le_toInt
  rw [Int32.toInt_mod] at a b
  rw [Int32.toInt_sub, Int32.toInt_mul, Int32.toInt_div, Int.bmod_mul_bmod, Int.sub_bmod_bmod, Int.mul_comm, ← Int.tmod_def]
  exact Jvm.Kit.bmod32 b a
theorem own_low (p : Int32) : 0 ≤ (p &&& (2147483647 : Int32)).toInt := by
  rw [Jvm.Kit.i32_mask p 2147483647 (k := 31) (by decide) (by decide)]
  omega
theorem own_mod (p y : Int32) : ((p &&& (2147483647 : Int32)) - ((p &&& (2147483647 : Int32)) / y) * y).toInt = (p &&& (2147483647 : Int32)).toInt % y.toInt := by
  rw [own_rem, Int.tmod_eq_emod_of_nonneg (own_low p)]
theorem own_of {x : Int32} {n : Int32} (h : x.toInt = n.toInt) : x = n := Int32.toInt_inj.mp h
theorem own_eqI {args : Array Value} {first s : State} {o : Option Outcome} {idx : List Nat} {t : Term} {i : Int32} (h : (Cond.eq t (.int i)).value args first o s idx = some true) : t.eval args first o idx s = some (.int i) := by
  have hi : (Term.int i).eval args first o idx s = some (.int i) := rfl
  simp only [Cond.value, hi] at h
  cases ht : t.eval args first o idx s with
  | none => simp [ht] at h
  | some x => cases x <;> simp [ht] at h ⊢; exact h
theorem own_fld {args : Array Value} {Z : State} {t : Term} {C n d : String} {a : Addr} {v : Value} (ev : t.eval args Z none [] Z = some (.ref a)) (h : (Term.field t C n d).eval args Z none [] Z = some v) : Fld Z Z.heap a C n d v :=
  Fld.start ((fld_at ev).symm.trans h)
theorem own_ne {args : Array Value} {Z : State} {t u : Term} {C n d : String} {a b : Addr} {i j : Int32} (et : t.eval args Z none [] Z = some (.ref a)) (eu : u.eval args Z none [] Z = some (.ref b)) (ht : (Cond.eq (.field t C n d) (.int i)).value args Z none Z [] = some true) (hu : (Cond.eq (.field u C n d) (.int j)).value args Z none Z [] = some true) (hij : i ≠ j) : a ≠ b := fun e => by
  subst e
  have h1 := (fld_at et).symm.trans (own_eqI ht)
  have h2 := (fld_at eu).symm.trans (own_eqI hu)
  exact hij (Value.int.inj (Option.some.inj (h1.symm.trans h2)))
theorem own_eqR {args : Array Value} {first s : State} {o : Option Outcome} {idx : List Nat} {t u : Term} {b : Addr} (h : (Cond.eq t u).value args first o s idx = some true) (hu : u.eval args first o idx s = some (.ref b)) : t.eval args first o idx s = some (.ref b) := by
  simp only [Cond.value, hu] at h
  cases ht : t.eval args first o idx s with
  | none => simp [ht] at h
  | some x => cases x <;> simp [ht] at h ⊢; exact h
theorem own_len {args : Array Value} {Z : State} {t : Term} {x : Addr} {cl : Cell} {ty : FieldType} {z : Int32} (A : Arr Z Z.heap x cl ty) (ht : t.eval args Z none [] Z = some (.ref x)) (h : (Term.length t).eval args Z none [] Z = some (.int z)) : cl.slots.size = z.toNatClampNeg ∧ ¬ z < 0 := by
  have ha : Z.arrayAt? x = some cl := Arr.fin (State.Warmed39.refl Z).alike A
  simp only [Term.eval, ht, ha, Option.bind_eq_bind, Option.bind_some] at h
  split at h
  · rename_i hl
    have q : cl.slots.size.toInt32 = z := Value.int.inj (Option.some.inj h)
    have e := len_toInt hl
    rw [q] at e
    refine ⟨?_, ?_⟩
    · show cl.slots.size = z.toInt.toNat
      omega
    · rw [Int32.lt_iff_toInt_lt, Int32.toInt_zero]
      omega
  · cases h
theorem own_elem {args : Array Value} {Z : State} {t : Term} {x : Addr} {cl : Cell} {ty : FieldType} {j : Int32} {v : Value} (A : Arr Z Z.heap x cl ty) (ht : t.eval args Z none [] Z = some (.ref x)) (h : (Term.elem t (.int j)).eval args Z none [] Z = some v) : cl.slots[j.toNatClampNeg]? = some v :=
  (elem_in h ht rfl A.1).2
theorem own_nat (i : Nat) (h : i < 2147483648) : (Int32.ofNat i).toNatClampNeg = i := by
  show (Int32.ofNat i).toInt.toNat = i
  rw [Int32.toInt_ofNat_small (by omega)]
  rfl
theorem own_ltN {i n : Nat} (h : i < n) (hn : n < 2147483648) : Int32.ofNat i < Int32.ofNat n := by
  rw [Int32.lt_iff_toInt_lt, Int32.toInt_ofNat_small (by omega), Int32.toInt_ofNat_small (by omega)]
  omega
theorem own_nn {i : Nat} (h : i < 2147483648) : ¬ Int32.ofNat i < 0 := by
  rw [Int32.lt_iff_toInt_lt, Int32.toInt_ofNat_small (by omega), Int32.toInt_zero]
  omega
def OwnQ (v0 : Value) (h0 : Heap) (n0 : Nat) (v : Option Value) (h : Heap) (L : List Loc) : Prop := v = some v0 ∧ Fr n0 L ∧ h = h0
abbrev OwnPure (l : Launch) (Z : State) (h0 : Heap) (n0 : Nat) (y : MethodName) (cd : ByteArray) (ml : Nat) (rt : Option FieldType) (rm : Room) (A : Array Value) (v0 : Value) : Prop := ∀ ws : List Jvm.Cond, MetFree l y (head1 (Jvm.Cond.code y cd ml rt :: ws) rm) (fun a U => a = A ∧ Z.Warmed39 U.vm ∧ U.heap = h0) (fun _ _ _ _ _ => True) (fun _ U o U' => ∃ v L, o = .returned v ∧ OwnQ v0 h0 n0 v U'.heap L ∧ FrameEnd U o U' L rm.cells rm.slots)
theorem d1_0 : decode prog_39_method_8_code 0 = .ok (.aload_n 0, 1) := by decide +kernel
theorem d1_1 : decode prog_39_method_8_code 1 = .ok (.getstatic 58, 3) := by decide +kernel
theorem d1_4 : decode prog_39_method_8_code 4 = .ok (.if_acmp .eq 10, 3) := by decide +kernel
theorem d1_14 : decode prog_39_method_8_code 14 = .ok (.iconst 1, 1) := by decide +kernel
theorem d1_15 : decode prog_39_method_8_code 15 = .ok (.goto 4, 3) := by decide +kernel
theorem d1_19 : decode prog_39_method_8_code 19 = .ok (.ireturn, 1) := by decide +kernel
theorem pn_1 : plainName "com/example/huron/huron/support/Keyword" = true := by first | (simp [plainName, overriddenIn]; done) | decide +kernel
theorem ef_1 (m : MethodId) (x0 : Addr) : entryFrame m #[(.ref x0)] 1 = mkF m 0 #[.val (.ref x0)] [] := by first | (simp [entryFrame, mkF, argsToLocals, Value.category]; done) | rfl
def Q1a (Z : State) (a1 : Addr) (w2 : Addr) (h0 : Heap) (n0 : Nat) (v : Option Value) (h : Heap) (L : List Loc) : Prop := v = some (.int (1 : Int32)) ∧ Fr n0 L ∧ h = h0
set_option maxRecDepth 65536 in
set_option maxHeartbeats 40000000 in
theorem rm1a (l : Launch) (Z : State) (a0 : Array Value) (hw : ∀ d ∈ tables_1, d.before a0 Z = true) (ws : List Jvm.Cond) (a1 : Addr) (w2 : Addr) (h0 : Heap) (n0 : Nat) (Z0 : n0 ≤ h0.size) (S_IN : Sta Z h0 "com/example/huron/huron/support/Keyword" "IN" "Lcom/example/huron/huron/support/Keyword;" (.ref w2)) (ha4 : a1 = w2) :
    MetFree l (⟨"com/example/huron/huron/support/Keyword", "takesCollection", "()Z"⟩ : MethodName) (head1 (Jvm.Cond.code (⟨"com/example/huron/huron/support/Keyword", "takesCollection", "()Z"⟩ : MethodName) prog_39_method_8_code 1 (some .boolean) :: ws) ({ frames := 0, cells := 0, slots := 0, locals := 0 } : Room)) (fun a U => a = #[(.ref a1)] ∧ Z.Warmed39 U.vm ∧ U.heap = h0) (fun _ _ _ _ _ => True) (fun _ U o U' => ∃ v L, o = .returned v ∧ Q1a Z a1 w2 h0 n0 v U'.heap L ∧ FrameEnd U o U' L ({ frames := 0, cells := 0, slots := 0, locals := 0 } : Room).cells ({ frames := 0, cells := 0, slots := 0, locals := 0 } : Room).slots) := by
  refine MetFree.of_bodySF (plainFor_of_name pn_1) hisR ?_
  intro p e s m args below meth c s₁ Bd hml0 hP hK
  obtain ⟨rfl, hZ, hh⟩ := hP
  have hx := Bd.exec
  have hby := Bd.bytes
  have hml : c.maxLocals = 1 := hml0
  have hown : s.vm.findClass "com/example/huron/huron/support/Keyword" = some m.cls := findClass_of_methodNamed Bd.named
  have hnm := (name_of_methodNamed Bd.named Bd.method).1
  have X0 : Stand p l e ({ frames := 0, cells := 0, slots := 0, locals := 0 } : Room) s m #[(.ref a1)] below meth c s₁ [] 0 0 := Stand.of_body Bd
  have e0 : s₁.heap = h0 := by rw [← hh, Bd.state]; rfl
  have N0 := Fr.nil n0
  have pre0 : ∀ t, Steps p.tables e below (s₁.setTop (mkF m 0 #[.val (.ref a1)] [])) t → Steps p.tables e below (s₁.setTop (entryFrame m #[(.ref a1)] 1)) t := fun t k => castTop (ef_1 m a1) k
  obtain ⟨T3, X3, e3, st3⟩ := getS2 X0 hx hZ hown (host := "") (Or.inl (hw _ (List.mem_of_getElem? (i := 62) rfl))) Via.refl e0 S_IN (g := (mkF m 1 #[.val (.ref a1)] [(.ref a1)])) rfl (hb hby d1_1)
  obtain ⟨fs, hr, hrun, hended, hW, hsame⟩ := X3.leave (v := some (.int (1 : Int32))) (fun h => by rw [Bd.returns] at h; cases h)
  refine ⟨_, _, pre0 _ ?_, hrun, hended, _, _, rfl, ?_, ⟨_, rfl⟩, hW, hsame.mono (by decide) (by decide)⟩
  · show Steps p.tables e below (s₁.setTop (mkF m 0 #[.val (.ref a1)] [])) _
    refine XS.aloadN X0.here hx rfl (hb hby d1_0) rfl rfl ?_
    show Steps p.tables e below (s₁.setTop (mkF m 1 #[.val (.ref a1)] [(.ref a1)])) _
    refine st3 _ ?_
    show Steps p.tables e below (T3.setTop (mkF m 4 #[.val (.ref a1)] [(.ref w2), (.ref a1)])) _
    refine Jvm.RoadKit.acmp (g := (mkF m 4 #[.val (.ref a1)] [(.ref w2), (.ref a1)])) X3 hx rfl rfl rfl (pc0 := 4) (pc' := 14) (same := true) rfl (hb hby d1_4) rfl (decide_eq_true (congrArg Value.ref ha4)) (by decide) (by decide) ?_
    show Steps p.tables e below (T3.setTop (mkF m 14 #[.val (.ref a1)] [])) _
    refine XS.iconst X3.here hx rfl (hb hby d1_14) ?_
    show Steps p.tables e below (T3.setTop (mkF m 15 #[.val (.ref a1)] [(.int (1 : Int32))])) _
    refine XS.goto X3.here hx rfl (pc0 := 15) (pc' := 19) rfl (hb hby d1_15) (by decide) (by decide) ?_
    show Steps p.tables e below (T3.setTop (mkF m 19 #[.val (.ref a1)] [(.int (1 : Int32))])) _
    exact retN X3 hx (t := .boolean) Bd.returns (by simp) (hb hby d1_19) hr
  · show Q1a Z a1 w2 h0 n0 _ T3.heap _
    rw [e3]
    exact ⟨rfl, N0, rfl⟩
theorem d1_7 : decode prog_39_method_8_code 7 = .ok (.aload_n 0, 1) := by decide +kernel
theorem d1_8 : decode prog_39_method_8_code 8 = .ok (.getstatic 61, 3) := by decide +kernel
theorem d1_11 : decode prog_39_method_8_code 11 = .ok (.if_acmp .ne 7, 3) := by decide +kernel
def Q1b (Z : State) (a1 : Addr) (w2 : Addr) (w4 : Addr) (h0 : Heap) (n0 : Nat) (v : Option Value) (h : Heap) (L : List Loc) : Prop := v = some (.int (1 : Int32)) ∧ Fr n0 L ∧ h = h0
set_option maxRecDepth 65536 in
set_option maxHeartbeats 40000000 in
theorem rm1b (l : Launch) (Z : State) (a0 : Array Value) (hw : ∀ d ∈ tables_1, d.before a0 Z = true) (ws : List Jvm.Cond) (a1 : Addr) (w2 : Addr) (w4 : Addr) (h0 : Heap) (n0 : Nat) (Z0 : n0 ≤ h0.size) (S_IN : Sta Z h0 "com/example/huron/huron/support/Keyword" "IN" "Lcom/example/huron/huron/support/Keyword;" (.ref w2)) (S_NOT_IN : Sta Z h0 "com/example/huron/huron/support/Keyword" "NOT_IN" "Lcom/example/huron/huron/support/Keyword;" (.ref w4)) (ha4 : ¬ (a1 = w2)) (ha11 : a1 = w4) :
    MetFree l (⟨"com/example/huron/huron/support/Keyword", "takesCollection", "()Z"⟩ : MethodName) (head1 (Jvm.Cond.code (⟨"com/example/huron/huron/support/Keyword", "takesCollection", "()Z"⟩ : MethodName) prog_39_method_8_code 1 (some .boolean) :: ws) ({ frames := 0, cells := 0, slots := 0, locals := 0 } : Room)) (fun a U => a = #[(.ref a1)] ∧ Z.Warmed39 U.vm ∧ U.heap = h0) (fun _ _ _ _ _ => True) (fun _ U o U' => ∃ v L, o = .returned v ∧ Q1b Z a1 w2 w4 h0 n0 v U'.heap L ∧ FrameEnd U o U' L ({ frames := 0, cells := 0, slots := 0, locals := 0 } : Room).cells ({ frames := 0, cells := 0, slots := 0, locals := 0 } : Room).slots) := by
  refine MetFree.of_bodySF (plainFor_of_name pn_1) hisR ?_
  intro p e s m args below meth c s₁ Bd hml0 hP hK
  obtain ⟨rfl, hZ, hh⟩ := hP
  have hx := Bd.exec
  have hby := Bd.bytes
  have hml : c.maxLocals = 1 := hml0
  have hown : s.vm.findClass "com/example/huron/huron/support/Keyword" = some m.cls := findClass_of_methodNamed Bd.named
  have hnm := (name_of_methodNamed Bd.named Bd.method).1
  have X0 : Stand p l e ({ frames := 0, cells := 0, slots := 0, locals := 0 } : Room) s m #[(.ref a1)] below meth c s₁ [] 0 0 := Stand.of_body Bd
  have e0 : s₁.heap = h0 := by rw [← hh, Bd.state]; rfl
  have N0 := Fr.nil n0
  have pre0 : ∀ t, Steps p.tables e below (s₁.setTop (mkF m 0 #[.val (.ref a1)] [])) t → Steps p.tables e below (s₁.setTop (entryFrame m #[(.ref a1)] 1)) t := fun t k => castTop (ef_1 m a1) k
  obtain ⟨T3, X3, e3, st3⟩ := getS2 X0 hx hZ hown (host := "") (Or.inl (hw _ (List.mem_of_getElem? (i := 62) rfl))) Via.refl e0 S_IN (g := (mkF m 1 #[.val (.ref a1)] [(.ref a1)])) rfl (hb hby d1_1)
  obtain ⟨T5, X5, e5, st5⟩ := getS2 X3 hx hZ hown (host := "") (Or.inl (hw _ (List.mem_of_getElem? (i := 63) rfl))) Via.refl e3 S_NOT_IN (g := (mkF m 8 #[.val (.ref a1)] [(.ref a1)])) rfl (hb hby d1_8)
  obtain ⟨fs, hr, hrun, hended, hW, hsame⟩ := X5.leave (v := some (.int (1 : Int32))) (fun h => by rw [Bd.returns] at h; cases h)
  refine ⟨_, _, pre0 _ ?_, hrun, hended, _, _, rfl, ?_, ⟨_, rfl⟩, hW, hsame.mono (by decide) (by decide)⟩
  · show Steps p.tables e below (s₁.setTop (mkF m 0 #[.val (.ref a1)] [])) _
    refine XS.aloadN X0.here hx rfl (hb hby d1_0) rfl rfl ?_
    show Steps p.tables e below (s₁.setTop (mkF m 1 #[.val (.ref a1)] [(.ref a1)])) _
    refine st3 _ ?_
    show Steps p.tables e below (T3.setTop (mkF m 4 #[.val (.ref a1)] [(.ref w2), (.ref a1)])) _
    refine Jvm.RoadKit.acmp (g := (mkF m 4 #[.val (.ref a1)] [(.ref w2), (.ref a1)])) X3 hx rfl rfl rfl (pc0 := 4) (pc' := 7) (same := false) rfl (hb hby d1_4) rfl (decide_eq_false fun q => ha4 (Value.ref.inj q)) (by decide) (by decide) ?_
    show Steps p.tables e below (T3.setTop (mkF m 7 #[.val (.ref a1)] [])) _
    refine XS.aloadN X3.here hx rfl (hb hby d1_7) rfl rfl ?_
    show Steps p.tables e below (T3.setTop (mkF m 8 #[.val (.ref a1)] [(.ref a1)])) _
    refine st5 _ ?_
    show Steps p.tables e below (T5.setTop (mkF m 11 #[.val (.ref a1)] [(.ref w4), (.ref a1)])) _
    refine Jvm.RoadKit.acmp (g := (mkF m 11 #[.val (.ref a1)] [(.ref w4), (.ref a1)])) X5 hx rfl rfl rfl (pc0 := 11) (pc' := 14) (same := true) rfl (hb hby d1_11) rfl (decide_eq_true (congrArg Value.ref ha11)) (by decide) (by decide) ?_
    show Steps p.tables e below (T5.setTop (mkF m 14 #[.val (.ref a1)] [])) _
    refine XS.iconst X5.here hx rfl (hb hby d1_14) ?_
    show Steps p.tables e below (T5.setTop (mkF m 15 #[.val (.ref a1)] [(.int (1 : Int32))])) _
    refine XS.goto X5.here hx rfl (pc0 := 15) (pc' := 19) rfl (hb hby d1_15) (by decide) (by decide) ?_
    show Steps p.tables e below (T5.setTop (mkF m 19 #[.val (.ref a1)] [(.int (1 : Int32))])) _
    exact retN X5 hx (t := .boolean) Bd.returns (by simp) (hb hby d1_19) hr
  · show Q1b Z a1 w2 w4 h0 n0 _ T5.heap _
    rw [e5]
    exact ⟨rfl, N0, rfl⟩
theorem d1_18 : decode prog_39_method_8_code 18 = .ok (.iconst 0, 1) := by decide +kernel
def Q1c (Z : State) (a1 : Addr) (w2 : Addr) (w4 : Addr) (h0 : Heap) (n0 : Nat) (v : Option Value) (h : Heap) (L : List Loc) : Prop := v = some (.int (0 : Int32)) ∧ Fr n0 L ∧ h = h0
set_option maxRecDepth 65536 in
set_option maxHeartbeats 40000000 in
theorem rm1c (l : Launch) (Z : State) (a0 : Array Value) (hw : ∀ d ∈ tables_1, d.before a0 Z = true) (ws : List Jvm.Cond) (a1 : Addr) (w2 : Addr) (w4 : Addr) (h0 : Heap) (n0 : Nat) (Z0 : n0 ≤ h0.size) (S_IN : Sta Z h0 "com/example/huron/huron/support/Keyword" "IN" "Lcom/example/huron/huron/support/Keyword;" (.ref w2)) (S_NOT_IN : Sta Z h0 "com/example/huron/huron/support/Keyword" "NOT_IN" "Lcom/example/huron/huron/support/Keyword;" (.ref w4)) (ha4 : ¬ (a1 = w2)) (ha11 : ¬ (a1 = w4)) :
    MetFree l (⟨"com/example/huron/huron/support/Keyword", "takesCollection", "()Z"⟩ : MethodName) (head1 (Jvm.Cond.code (⟨"com/example/huron/huron/support/Keyword", "takesCollection", "()Z"⟩ : MethodName) prog_39_method_8_code 1 (some .boolean) :: ws) ({ frames := 0, cells := 0, slots := 0, locals := 0 } : Room)) (fun a U => a = #[(.ref a1)] ∧ Z.Warmed39 U.vm ∧ U.heap = h0) (fun _ _ _ _ _ => True) (fun _ U o U' => ∃ v L, o = .returned v ∧ Q1c Z a1 w2 w4 h0 n0 v U'.heap L ∧ FrameEnd U o U' L ({ frames := 0, cells := 0, slots := 0, locals := 0 } : Room).cells ({ frames := 0, cells := 0, slots := 0, locals := 0 } : Room).slots) := by
  refine MetFree.of_bodySF (plainFor_of_name pn_1) hisR ?_
  intro p e s m args below meth c s₁ Bd hml0 hP hK
  obtain ⟨rfl, hZ, hh⟩ := hP
  have hx := Bd.exec
  have hby := Bd.bytes
  have hml : c.maxLocals = 1 := hml0
  have hown : s.vm.findClass "com/example/huron/huron/support/Keyword" = some m.cls := findClass_of_methodNamed Bd.named
  have hnm := (name_of_methodNamed Bd.named Bd.method).1
  have X0 : Stand p l e ({ frames := 0, cells := 0, slots := 0, locals := 0 } : Room) s m #[(.ref a1)] below meth c s₁ [] 0 0 := Stand.of_body Bd
  have e0 : s₁.heap = h0 := by rw [← hh, Bd.state]; rfl
  have N0 := Fr.nil n0
  have pre0 : ∀ t, Steps p.tables e below (s₁.setTop (mkF m 0 #[.val (.ref a1)] [])) t → Steps p.tables e below (s₁.setTop (entryFrame m #[(.ref a1)] 1)) t := fun t k => castTop (ef_1 m a1) k
  obtain ⟨T3, X3, e3, st3⟩ := getS2 X0 hx hZ hown (host := "") (Or.inl (hw _ (List.mem_of_getElem? (i := 62) rfl))) Via.refl e0 S_IN (g := (mkF m 1 #[.val (.ref a1)] [(.ref a1)])) rfl (hb hby d1_1)
  obtain ⟨T5, X5, e5, st5⟩ := getS2 X3 hx hZ hown (host := "") (Or.inl (hw _ (List.mem_of_getElem? (i := 63) rfl))) Via.refl e3 S_NOT_IN (g := (mkF m 8 #[.val (.ref a1)] [(.ref a1)])) rfl (hb hby d1_8)
  obtain ⟨fs, hr, hrun, hended, hW, hsame⟩ := X5.leave (v := some (.int (0 : Int32))) (fun h => by rw [Bd.returns] at h; cases h)
  refine ⟨_, _, pre0 _ ?_, hrun, hended, _, _, rfl, ?_, ⟨_, rfl⟩, hW, hsame.mono (by decide) (by decide)⟩
  · show Steps p.tables e below (s₁.setTop (mkF m 0 #[.val (.ref a1)] [])) _
    refine XS.aloadN X0.here hx rfl (hb hby d1_0) rfl rfl ?_
    show Steps p.tables e below (s₁.setTop (mkF m 1 #[.val (.ref a1)] [(.ref a1)])) _
    refine st3 _ ?_
    show Steps p.tables e below (T3.setTop (mkF m 4 #[.val (.ref a1)] [(.ref w2), (.ref a1)])) _
    refine Jvm.RoadKit.acmp (g := (mkF m 4 #[.val (.ref a1)] [(.ref w2), (.ref a1)])) X3 hx rfl rfl rfl (pc0 := 4) (pc' := 7) (same := false) rfl (hb hby d1_4) rfl (decide_eq_false fun q => ha4 (Value.ref.inj q)) (by decide) (by decide) ?_
    show Steps p.tables e below (T3.setTop (mkF m 7 #[.val (.ref a1)] [])) _
    refine XS.aloadN X3.here hx rfl (hb hby d1_7) rfl rfl ?_
    show Steps p.tables e below (T3.setTop (mkF m 8 #[.val (.ref a1)] [(.ref a1)])) _
    refine st5 _ ?_
    show Steps p.tables e below (T5.setTop (mkF m 11 #[.val (.ref a1)] [(.ref w4), (.ref a1)])) _
    refine Jvm.RoadKit.acmp (g := (mkF m 11 #[.val (.ref a1)] [(.ref w4), (.ref a1)])) X5 hx rfl rfl rfl (pc0 := 11) (pc' := 18) (same := false) rfl (hb hby d1_11) rfl (decide_eq_false fun q => ha11 (Value.ref.inj q)) (by decide) (by decide) ?_
    show Steps p.tables e below (T5.setTop (mkF m 18 #[.val (.ref a1)] [])) _
    refine XS.iconst X5.here hx rfl (hb hby d1_18) ?_
    show Steps p.tables e below (T5.setTop (mkF m 19 #[.val (.ref a1)] [(.int (0 : Int32))])) _
    exact retN X5 hx (t := .boolean) Bd.returns (by simp) (hb hby d1_19) hr
  · show Q1c Z a1 w2 w4 h0 n0 _ T5.heap _
    rw [e5]
    exact ⟨rfl, N0, rfl⟩
theorem d2_0 : decode prog_39_method_5_code 0 = .ok (.aload_n 0, 1) := by decide +kernel
theorem d2_1 : decode prog_39_method_5_code 1 = .ok (.getfield 101, 3) := by decide +kernel
theorem d2_4 : decode prog_39_method_5_code 4 = .ok (.ireturn, 1) := by decide +kernel
theorem pn_2 : plainName "com/example/huron/huron/support/Keyword" = true := by first | (simp [plainName, overriddenIn]; done) | decide +kernel
theorem ef_2 (m : MethodId) (x0 : Addr) : entryFrame m #[(.ref x0)] 1 = mkF m 0 #[.val (.ref x0)] [] := by first | (simp [entryFrame, mkF, argsToLocals, Value.category]; done) | rfl
def Q2 (Z : State) (a1 : Addr) (w2 : Int32) (h0 : Heap) (n0 : Nat) (v : Option Value) (h : Heap) (L : List Loc) : Prop := v = some (.int w2) ∧ Fr n0 L ∧ h = h0
set_option maxRecDepth 65536 in
set_option maxHeartbeats 40000000 in
theorem rm2 (l : Launch) (Z : State) (a0 : Array Value) (hw : ∀ d ∈ tables_1, d.before a0 Z = true) (ws : List Jvm.Cond) (a1 : Addr) (w2 : Int32) (h0 : Heap) (n0 : Nat) (Z0 : n0 ≤ h0.size) (F_parameters_a1 : Fld Z h0 a1 "com/example/huron/huron/support/Keyword" "parameters" "I" (.int w2)) :
    MetFree l (⟨"com/example/huron/huron/support/Keyword", "parameters", "()I"⟩ : MethodName) (head1 (Jvm.Cond.code (⟨"com/example/huron/huron/support/Keyword", "parameters", "()I"⟩ : MethodName) prog_39_method_5_code 1 (some .int) :: ws) ({ frames := 0, cells := 0, slots := 0, locals := 0 } : Room)) (fun a U => a = #[(.ref a1)] ∧ Z.Warmed39 U.vm ∧ U.heap = h0) (fun _ _ _ _ _ => True) (fun _ U o U' => ∃ v L, o = .returned v ∧ Q2 Z a1 w2 h0 n0 v U'.heap L ∧ FrameEnd U o U' L ({ frames := 0, cells := 0, slots := 0, locals := 0 } : Room).cells ({ frames := 0, cells := 0, slots := 0, locals := 0 } : Room).slots) := by
  refine MetFree.of_bodySF (plainFor_of_name pn_2) hisR ?_
  intro p e s m args below meth c s₁ Bd hml0 hP hK
  obtain ⟨rfl, hZ, hh⟩ := hP
  have hx := Bd.exec
  have hby := Bd.bytes
  have hml : c.maxLocals = 1 := hml0
  have hown : s.vm.findClass "com/example/huron/huron/support/Keyword" = some m.cls := findClass_of_methodNamed Bd.named
  have hnm := (name_of_methodNamed Bd.named Bd.method).1
  have X0 : Stand p l e ({ frames := 0, cells := 0, slots := 0, locals := 0 } : Room) s m #[(.ref a1)] below meth c s₁ [] 0 0 := Stand.of_body Bd
  have e0 : s₁.heap = h0 := by rw [← hh, Bd.state]; rfl
  have N0 := Fr.nil n0
  have pre0 : ∀ t, Steps p.tables e below (s₁.setTop (mkF m 0 #[.val (.ref a1)] [])) t → Steps p.tables e below (s₁.setTop (entryFrame m #[(.ref a1)] 1)) t := fun t k => castTop (ef_2 m a1) k
  obtain ⟨T3, X3, e3, st3⟩ := getF X0 hx hZ hown (host := "") (Or.inl (hw _ (List.mem_of_getElem? (i := 69) rfl))) Via.refl e0 F_parameters_a1 (g := (mkF m 1 #[.val (.ref a1)] [(.ref a1)])) rfl rfl (hb hby d2_1)
  obtain ⟨fs, hr, hrun, hended, hW, hsame⟩ := X3.leave (v := some (.int w2)) (fun h => by rw [Bd.returns] at h; cases h)
  refine ⟨_, _, pre0 _ ?_, hrun, hended, _, _, rfl, ?_, ⟨_, rfl⟩, hW, hsame.mono (by decide) (by decide)⟩
  · show Steps p.tables e below (s₁.setTop (mkF m 0 #[.val (.ref a1)] [])) _
    refine XS.aloadN X0.here hx rfl (hb hby d2_0) rfl rfl ?_
    show Steps p.tables e below (s₁.setTop (mkF m 1 #[.val (.ref a1)] [(.ref a1)])) _
    refine st3 _ ?_
    show Steps p.tables e below (T3.setTop (mkF m 4 #[.val (.ref a1)] [(.int w2)])) _
    exact retI X3 hx Bd.returns (hb hby d2_4) hr
  · show Q2 Z a1 w2 h0 n0 _ T3.heap _
    rw [e3]
    exact ⟨rfl, N0, rfl⟩
def OwnInv (Z : State) (hA : Heap) (arr : Addr) (kA : ClassId) (n0 : Nat) (wa : Nat → Addr) (i : Nat) (h : Heap) (L : List Loc) : Prop :=
  (∃ cl : Cell, Arr Z h arr cl (.object "com/example/huron/huron/support/Keyword") ∧ cl.cls = kA ∧ cl.slots.size = 26 ∧ ∀ k, k < i → cl.slots[k]? = some (.ref (wa k))) ∧ (∀ (C n d : String) (v : Value), Sta Z hA C n d v → Sta Z h C n d v) ∧ (∀ (a : Addr) (C : String), Exa Z hA a C → Exa Z h a C) ∧ (∀ (a : Addr) (C n d : String) (v : Value), a ≠ arr → Fld Z hA a C n d v → Fld Z h a C n d v) ∧ Fr n0 L
set_option maxRecDepth 65536 in
set_option maxHeartbeats 40000000 in
theorem own_put {p : Program} {l : Launch} {e : Env} {s : State} {m : MethodId} {args : Array Value} {below : List Frame} {meth : Method} {c : Code} {Z : State} {a0 : Array Value} {T0 : State} {locs : List Loc} {h0 hA : Heap} {arr : Addr} {kA : ClassId} {n0 : Nat} {wa : Nat → Addr} (i : Nat) (hi : i < 26) (nm : String) (idx pc pc2 pc3 pc4 : Nat) (L : Array Slot)
    (X0 : Stand p l e room_1 s m args below meth c T0 locs 1 26) (hx : p.tables.exec = Jvm.exec) (hZ : Z.Warmed39 s.vm) (hown : s.vm.findClass "com/example/huron/huron/support/KeywordTakesCollectionPinLaw" = some m.cls) (e0 : T0.heap = h0) (hn : n0 ≤ arr) (I : OwnInv Z hA arr kA n0 wa i h0 locs) (O : Ovr Z kA "com/example/huron/huron/support/Keyword")
    (wl : (Jvm.Cond.fieldLink "com/example/huron/huron/support/KeywordTakesCollectionPinLaw" idx "com/example/huron/huron/support/Keyword" nm "Lcom/example/huron/huron/support/Keyword;").before a0 Z = true) (S : Sta Z hA "com/example/huron/huron/support/Keyword" nm "Lcom/example/huron/huron/support/Keyword;" (.ref (wa i))) (E : Exa Z hA (wa i) "com/example/huron/huron/support/Keyword")
    (hd1 : decode c.code pc = .ok (.dup, 1)) (hd2 : decode c.code pc2 = .ok (.getstatic idx, 3)) (h3 : pc2 + 3 = pc3) (hd3 : decode c.code pc3 = .ok (.aastore, 1)) (h4 : pc3 + 1 = pc4)
    (hpush : ∀ (t : State), Steps p.tables e below (T0.setTop (mkF m pc2 L [(.int (Int32.ofNat i)), (.ref arr), (.ref arr)])) t → Steps p.tables e below (T0.setTop (mkF m (pc + 1) L [(.ref arr), (.ref arr)])) t) :
    ∃ (T' : State) (h' : Heap) (locs' : List Loc), Stand p l e room_1 s m args below meth c T' locs' 1 26 ∧ T'.heap = h' ∧ OwnInv Z hA arr kA n0 wa (i + 1) h' locs' ∧
      ∀ target, Steps p.tables e below (T'.setTop (mkF m pc4 L [(.ref arr)])) target → Steps p.tables e below (T0.setTop (mkF m pc L [(.ref arr)])) target := by
  subst h3 h4
  obtain ⟨⟨cl, A, hc, hs, hel⟩, kS, kE, kF, N⟩ := I
  obtain ⟨T1, X1, e1, st1⟩ := getS2 X0 hx hZ hown (host := "") (Or.inl wl) Via.refl e0 (kS _ _ _ _ S) (g := (mkF m pc2 L [(.int (Int32.ofNat i)), (.ref arr), (.ref arr)])) rfl hd2
  have hnat : (Int32.ofNat i).toNatClampNeg = i := own_nat i (by omega)
  have hin : ¬ (Int32.ofNat i < 0 ∨ cl.slots.size ≤ (Int32.ofNat i).toNatClampNeg) := fun q => by
    rcases q with q | q
    · exact own_nn (by omega) q
    · rw [hnat] at q; omega
  obtain ⟨T2, h2, X2, e2, W2, st2⟩ := stR X1 hx hZ e1 A (j := Int32.ofNat i) hin rfl (Sto.ofV A hc O (Ins.self (kE _ _ E))) (g := (mkF m (pc2 + 3) L [(.ref (wa i)), (.int (Int32.ofNat i)), (.ref arr), (.ref arr)])) rfl rfl hd3
  rw [hnat] at W2
  refine ⟨T2, h2, _, X2, e2, ⟨⟨_, A.same W2, hc, ?_, fun k hk => ?_⟩, fun C n d v F => (kS C n d v F).wr W2, fun a C F => (kE a C F).wr W2, fun a C n d v q F => (kF a C n d v q F).other W2 (Or.inl q), Fr.snoc X2 N hn⟩, fun target kt => ?_⟩
  · rw [sz_set]; exact hs
  · by_cases q : k = i
    · subst q
      simp [Cell.setSlot, hs, hi]
    · have hk' : k < i := by omega
      have z := hel k hk'
      simp only [Cell.setSlot]
      rw [Array.getElem?_setIfInBounds_ne (Ne.symm q)]
      exact z
  · refine XS.dup X0.here hx rfl hd1 rfl rfl ?_
    show Steps p.tables e below (T0.setTop (mkF m (pc + 1) L [(.ref arr), (.ref arr)])) _
    refine hpush _ ?_
    refine st1 _ ?_
    show Steps p.tables e below (T1.setTop (mkF m (pc2 + 3) L [(.ref (wa i)), (.int (Int32.ofNat i)), (.ref arr), (.ref arr)])) _
    refine st2 _ ?_
    exact kt
set_option maxRecDepth 65536 in
set_option maxHeartbeats 40000000 in
theorem own_fill {p : Program} {l : Launch} {e : Env} {s : State} {m : MethodId} {args : Array Value} {below : List Frame} {meth : Method} {c : Code} {Z : State} {a0 : Array Value} {T0 : State} {locs : List Loc} {h0 : Heap} {arr : Addr} {kA : ClassId} {n0 : Nat} {wa : Nat → Addr} (p1 : Int32)
    (X0 : Stand p l e room_1 s m args below meth c T0 locs 1 26) (hx : p.tables.exec = Jvm.exec) (hZ : Z.Warmed39 s.vm) (hw : ∀ d ∈ tables_1, d.before a0 Z = true) (hby : c.code = code) (hown : s.vm.findClass "com/example/huron/huron/support/KeywordTakesCollectionPinLaw" = some m.cls) (e0 : T0.heap = h0) (hn : n0 ≤ arr) (I0 : OwnInv Z h0 arr kA n0 wa 0 h0 locs) (O : Ovr Z kA "com/example/huron/huron/support/Keyword")
    (hE : ∀ k, k < 26 → Exa Z h0 (wa k) "com/example/huron/huron/support/Keyword") (S0 : Sta Z h0 "com/example/huron/huron/support/Keyword" "EQUALS" "Lcom/example/huron/huron/support/Keyword;" (.ref (wa 0))) (S1 : Sta Z h0 "com/example/huron/huron/support/Keyword" "NOT" "Lcom/example/huron/huron/support/Keyword;" (.ref (wa 1))) (S2 : Sta Z h0 "com/example/huron/huron/support/Keyword" "NULL" "Lcom/example/huron/huron/support/Keyword;" (.ref (wa 2))) (S3 : Sta Z h0 "com/example/huron/huron/support/Keyword" "NOT_NULL" "Lcom/example/huron/huron/support/Keyword;" (.ref (wa 3))) (S4 : Sta Z h0 "com/example/huron/huron/support/Keyword" "TRUE" "Lcom/example/huron/huron/support/Keyword;" (.ref (wa 4))) (S5 : Sta Z h0 "com/example/huron/huron/support/Keyword" "FALSE" "Lcom/example/huron/huron/support/Keyword;" (.ref (wa 5))) (S6 : Sta Z h0 "com/example/huron/huron/support/Keyword" "BETWEEN" "Lcom/example/huron/huron/support/Keyword;" (.ref (wa 6))) (S7 : Sta Z h0 "com/example/huron/huron/support/Keyword" "LESS_THAN" "Lcom/example/huron/huron/support/Keyword;" (.ref (wa 7))) (S8 : Sta Z h0 "com/example/huron/huron/support/Keyword" "LESS_THAN_EQUAL" "Lcom/example/huron/huron/support/Keyword;" (.ref (wa 8))) (S9 : Sta Z h0 "com/example/huron/huron/support/Keyword" "GREATER_THAN" "Lcom/example/huron/huron/support/Keyword;" (.ref (wa 9))) (S10 : Sta Z h0 "com/example/huron/huron/support/Keyword" "GREATER_THAN_EQUAL" "Lcom/example/huron/huron/support/Keyword;" (.ref (wa 10))) (S11 : Sta Z h0 "com/example/huron/huron/support/Keyword" "BEFORE" "Lcom/example/huron/huron/support/Keyword;" (.ref (wa 11))) (S12 : Sta Z h0 "com/example/huron/huron/support/Keyword" "AFTER" "Lcom/example/huron/huron/support/Keyword;" (.ref (wa 12))) (S13 : Sta Z h0 "com/example/huron/huron/support/Keyword" "LIKE" "Lcom/example/huron/huron/support/Keyword;" (.ref (wa 13))) (S14 : Sta Z h0 "com/example/huron/huron/support/Keyword" "NOT_LIKE" "Lcom/example/huron/huron/support/Keyword;" (.ref (wa 14))) (S15 : Sta Z h0 "com/example/huron/huron/support/Keyword" "STARTING_WITH" "Lcom/example/huron/huron/support/Keyword;" (.ref (wa 15))) (S16 : Sta Z h0 "com/example/huron/huron/support/Keyword" "ENDING_WITH" "Lcom/example/huron/huron/support/Keyword;" (.ref (wa 16))) (S17 : Sta Z h0 "com/example/huron/huron/support/Keyword" "CONTAINING" "Lcom/example/huron/huron/support/Keyword;" (.ref (wa 17))) (S18 : Sta Z h0 "com/example/huron/huron/support/Keyword" "IN" "Lcom/example/huron/huron/support/Keyword;" (.ref (wa 18))) (S19 : Sta Z h0 "com/example/huron/huron/support/Keyword" "NOT_IN" "Lcom/example/huron/huron/support/Keyword;" (.ref (wa 19))) (S20 : Sta Z h0 "com/example/huron/huron/support/Keyword" "MATCHES" "Lcom/example/huron/huron/support/Keyword;" (.ref (wa 20))) (S21 : Sta Z h0 "com/example/huron/huron/support/Keyword" "EXISTS" "Lcom/example/huron/huron/support/Keyword;" (.ref (wa 21))) (S22 : Sta Z h0 "com/example/huron/huron/support/Keyword" "EMPTY" "Lcom/example/huron/huron/support/Keyword;" (.ref (wa 22))) (S23 : Sta Z h0 "com/example/huron/huron/support/Keyword" "NOT_EMPTY" "Lcom/example/huron/huron/support/Keyword;" (.ref (wa 23))) (S24 : Sta Z h0 "com/example/huron/huron/support/Keyword" "NEAR" "Lcom/example/huron/huron/support/Keyword;" (.ref (wa 24))) (S25 : Sta Z h0 "com/example/huron/huron/support/Keyword" "WITHIN" "Lcom/example/huron/huron/support/Keyword;" (.ref (wa 25))) :
    ∃ (T' : State) (h' : Heap) (locs' : List Loc), Stand p l e room_1 s m args below meth c T' locs' 1 26 ∧ T'.heap = h' ∧ OwnInv Z h0 arr kA n0 wa 26 h' locs' ∧
      ∀ target, Steps p.tables e below (T'.setTop (mkF m 181 #[.val (.int p1), .unset, .unset, .unset, .unset, .unset] [(.ref arr)])) target → Steps p.tables e below (T0.setTop (mkF m 5 #[.val (.int p1), .unset, .unset, .unset, .unset, .unset] [(.ref arr)])) target := by
  obtain ⟨T1, h1, locs1, X1, e1, I1, st1⟩ := own_put 0 (by decide) "EQUALS" 9 5 7 10 11 #[.val (.int p1), .unset, .unset, .unset, .unset, .unset] X0 hx hZ hown e0 hn I0 O (hw _ (List.mem_of_getElem? (i := 2) rfl)) S0 (hE 0 (by decide)) (hb hby at_5) (hb hby at_7) rfl (hb hby at_10) rfl (fun t k => by
      refine XS.iconst X0.here hx rfl (hb hby at_6) ?_
      exact k)
  obtain ⟨T2, h2, locs2, X2, e2, I2, st2⟩ := own_put 1 (by decide) "NOT" 13 11 13 16 17 #[.val (.int p1), .unset, .unset, .unset, .unset, .unset] X1 hx hZ hown e1 hn I1 O (hw _ (List.mem_of_getElem? (i := 6) rfl)) S1 (hE 1 (by decide)) (hb hby at_11) (hb hby at_13) rfl (hb hby at_16) rfl (fun t k => by
      refine XS.iconst X1.here hx rfl (hb hby at_12) ?_
      exact k)
  obtain ⟨T3, h3, locs3, X3, e3, I3, st3⟩ := own_put 2 (by decide) "NULL" 16 17 19 22 23 #[.val (.int p1), .unset, .unset, .unset, .unset, .unset] X2 hx hZ hown e2 hn I2 O (hw _ (List.mem_of_getElem? (i := 8) rfl)) S2 (hE 2 (by decide)) (hb hby at_17) (hb hby at_19) rfl (hb hby at_22) rfl (fun t k => by
      refine XS.iconst X2.here hx rfl (hb hby at_18) ?_
      exact k)
  obtain ⟨T4, h4, locs4, X4, e4, I4, st4⟩ := own_put 3 (by decide) "NOT_NULL" 19 23 25 28 29 #[.val (.int p1), .unset, .unset, .unset, .unset, .unset] X3 hx hZ hown e3 hn I3 O (hw _ (List.mem_of_getElem? (i := 10) rfl)) S3 (hE 3 (by decide)) (hb hby at_23) (hb hby at_25) rfl (hb hby at_28) rfl (fun t k => by
      refine XS.iconst X3.here hx rfl (hb hby at_24) ?_
      exact k)
  obtain ⟨T5, h5, locs5, X5, e5, I5, st5⟩ := own_put 4 (by decide) "TRUE" 22 29 31 34 35 #[.val (.int p1), .unset, .unset, .unset, .unset, .unset] X4 hx hZ hown e4 hn I4 O (hw _ (List.mem_of_getElem? (i := 12) rfl)) S4 (hE 4 (by decide)) (hb hby at_29) (hb hby at_31) rfl (hb hby at_34) rfl (fun t k => by
      refine XS.iconst X4.here hx rfl (hb hby at_30) ?_
      exact k)
  obtain ⟨T6, h6, locs6, X6, e6, I6, st6⟩ := own_put 5 (by decide) "FALSE" 25 35 37 40 41 #[.val (.int p1), .unset, .unset, .unset, .unset, .unset] X5 hx hZ hown e5 hn I5 O (hw _ (List.mem_of_getElem? (i := 14) rfl)) S5 (hE 5 (by decide)) (hb hby at_35) (hb hby at_37) rfl (hb hby at_40) rfl (fun t k => by
      refine XS.iconst X5.here hx rfl (hb hby at_36) ?_
      exact k)
  obtain ⟨T7, h7, locs7, X7, e7, I7, st7⟩ := own_put 6 (by decide) "BETWEEN" 28 41 44 47 48 #[.val (.int p1), .unset, .unset, .unset, .unset, .unset] X6 hx hZ hown e6 hn I6 O (hw _ (List.mem_of_getElem? (i := 16) rfl)) S6 (hE 6 (by decide)) (hb hby at_41) (hb hby at_44) rfl (hb hby at_47) rfl (fun t k => by
      refine XS.bipush X6.here hx rfl (hb hby at_42) ?_
      exact k)
  obtain ⟨T8, h8, locs8, X8, e8, I8, st8⟩ := own_put 7 (by decide) "LESS_THAN" 31 48 51 54 55 #[.val (.int p1), .unset, .unset, .unset, .unset, .unset] X7 hx hZ hown e7 hn I7 O (hw _ (List.mem_of_getElem? (i := 18) rfl)) S7 (hE 7 (by decide)) (hb hby at_48) (hb hby at_51) rfl (hb hby at_54) rfl (fun t k => by
      refine XS.bipush X7.here hx rfl (hb hby at_49) ?_
      exact k)
  obtain ⟨T9, h9, locs9, X9, e9, I9, st9⟩ := own_put 8 (by decide) "LESS_THAN_EQUAL" 34 55 58 61 62 #[.val (.int p1), .unset, .unset, .unset, .unset, .unset] X8 hx hZ hown e8 hn I8 O (hw _ (List.mem_of_getElem? (i := 20) rfl)) S8 (hE 8 (by decide)) (hb hby at_55) (hb hby at_58) rfl (hb hby at_61) rfl (fun t k => by
      refine XS.bipush X8.here hx rfl (hb hby at_56) ?_
      exact k)
  obtain ⟨T10, h10, locs10, X10, e10, I10, st10⟩ := own_put 9 (by decide) "GREATER_THAN" 37 62 65 68 69 #[.val (.int p1), .unset, .unset, .unset, .unset, .unset] X9 hx hZ hown e9 hn I9 O (hw _ (List.mem_of_getElem? (i := 22) rfl)) S9 (hE 9 (by decide)) (hb hby at_62) (hb hby at_65) rfl (hb hby at_68) rfl (fun t k => by
      refine XS.bipush X9.here hx rfl (hb hby at_63) ?_
      exact k)
  obtain ⟨T11, h11, locs11, X11, e11, I11, st11⟩ := own_put 10 (by decide) "GREATER_THAN_EQUAL" 40 69 72 75 76 #[.val (.int p1), .unset, .unset, .unset, .unset, .unset] X10 hx hZ hown e10 hn I10 O (hw _ (List.mem_of_getElem? (i := 24) rfl)) S10 (hE 10 (by decide)) (hb hby at_69) (hb hby at_72) rfl (hb hby at_75) rfl (fun t k => by
      refine XS.bipush X10.here hx rfl (hb hby at_70) ?_
      exact k)
  obtain ⟨T12, h12, locs12, X12, e12, I12, st12⟩ := own_put 11 (by decide) "BEFORE" 43 76 79 82 83 #[.val (.int p1), .unset, .unset, .unset, .unset, .unset] X11 hx hZ hown e11 hn I11 O (hw _ (List.mem_of_getElem? (i := 26) rfl)) S11 (hE 11 (by decide)) (hb hby at_76) (hb hby at_79) rfl (hb hby at_82) rfl (fun t k => by
      refine XS.bipush X11.here hx rfl (hb hby at_77) ?_
      exact k)
  obtain ⟨T13, h13, locs13, X13, e13, I13, st13⟩ := own_put 12 (by decide) "AFTER" 46 83 86 89 90 #[.val (.int p1), .unset, .unset, .unset, .unset, .unset] X12 hx hZ hown e12 hn I12 O (hw _ (List.mem_of_getElem? (i := 28) rfl)) S12 (hE 12 (by decide)) (hb hby at_83) (hb hby at_86) rfl (hb hby at_89) rfl (fun t k => by
      refine XS.bipush X12.here hx rfl (hb hby at_84) ?_
      exact k)
  obtain ⟨T14, h14, locs14, X14, e14, I14, st14⟩ := own_put 13 (by decide) "LIKE" 49 90 93 96 97 #[.val (.int p1), .unset, .unset, .unset, .unset, .unset] X13 hx hZ hown e13 hn I13 O (hw _ (List.mem_of_getElem? (i := 30) rfl)) S13 (hE 13 (by decide)) (hb hby at_90) (hb hby at_93) rfl (hb hby at_96) rfl (fun t k => by
      refine XS.bipush X13.here hx rfl (hb hby at_91) ?_
      exact k)
  obtain ⟨T15, h15, locs15, X15, e15, I15, st15⟩ := own_put 14 (by decide) "NOT_LIKE" 52 97 100 103 104 #[.val (.int p1), .unset, .unset, .unset, .unset, .unset] X14 hx hZ hown e14 hn I14 O (hw _ (List.mem_of_getElem? (i := 32) rfl)) S14 (hE 14 (by decide)) (hb hby at_97) (hb hby at_100) rfl (hb hby at_103) rfl (fun t k => by
      refine XS.bipush X14.here hx rfl (hb hby at_98) ?_
      exact k)
  obtain ⟨T16, h16, locs16, X16, e16, I16, st16⟩ := own_put 15 (by decide) "STARTING_WITH" 55 104 107 110 111 #[.val (.int p1), .unset, .unset, .unset, .unset, .unset] X15 hx hZ hown e15 hn I15 O (hw _ (List.mem_of_getElem? (i := 34) rfl)) S15 (hE 15 (by decide)) (hb hby at_104) (hb hby at_107) rfl (hb hby at_110) rfl (fun t k => by
      refine XS.bipush X15.here hx rfl (hb hby at_105) ?_
      exact k)
  obtain ⟨T17, h17, locs17, X17, e17, I17, st17⟩ := own_put 16 (by decide) "ENDING_WITH" 58 111 114 117 118 #[.val (.int p1), .unset, .unset, .unset, .unset, .unset] X16 hx hZ hown e16 hn I16 O (hw _ (List.mem_of_getElem? (i := 36) rfl)) S16 (hE 16 (by decide)) (hb hby at_111) (hb hby at_114) rfl (hb hby at_117) rfl (fun t k => by
      refine XS.bipush X16.here hx rfl (hb hby at_112) ?_
      exact k)
  obtain ⟨T18, h18, locs18, X18, e18, I18, st18⟩ := own_put 17 (by decide) "CONTAINING" 61 118 121 124 125 #[.val (.int p1), .unset, .unset, .unset, .unset, .unset] X17 hx hZ hown e17 hn I17 O (hw _ (List.mem_of_getElem? (i := 38) rfl)) S17 (hE 17 (by decide)) (hb hby at_118) (hb hby at_121) rfl (hb hby at_124) rfl (fun t k => by
      refine XS.bipush X17.here hx rfl (hb hby at_119) ?_
      exact k)
  obtain ⟨T19, h19, locs19, X19, e19, I19, st19⟩ := own_put 18 (by decide) "IN" 64 125 128 131 132 #[.val (.int p1), .unset, .unset, .unset, .unset, .unset] X18 hx hZ hown e18 hn I18 O (hw _ (List.mem_of_getElem? (i := 40) rfl)) S18 (hE 18 (by decide)) (hb hby at_125) (hb hby at_128) rfl (hb hby at_131) rfl (fun t k => by
      refine XS.bipush X18.here hx rfl (hb hby at_126) ?_
      exact k)
  obtain ⟨T20, h20, locs20, X20, e20, I20, st20⟩ := own_put 19 (by decide) "NOT_IN" 67 132 135 138 139 #[.val (.int p1), .unset, .unset, .unset, .unset, .unset] X19 hx hZ hown e19 hn I19 O (hw _ (List.mem_of_getElem? (i := 42) rfl)) S19 (hE 19 (by decide)) (hb hby at_132) (hb hby at_135) rfl (hb hby at_138) rfl (fun t k => by
      refine XS.bipush X19.here hx rfl (hb hby at_133) ?_
      exact k)
  obtain ⟨T21, h21, locs21, X21, e21, I21, st21⟩ := own_put 20 (by decide) "MATCHES" 70 139 142 145 146 #[.val (.int p1), .unset, .unset, .unset, .unset, .unset] X20 hx hZ hown e20 hn I20 O (hw _ (List.mem_of_getElem? (i := 44) rfl)) S20 (hE 20 (by decide)) (hb hby at_139) (hb hby at_142) rfl (hb hby at_145) rfl (fun t k => by
      refine XS.bipush X20.here hx rfl (hb hby at_140) ?_
      exact k)
  obtain ⟨T22, h22, locs22, X22, e22, I22, st22⟩ := own_put 21 (by decide) "EXISTS" 73 146 149 152 153 #[.val (.int p1), .unset, .unset, .unset, .unset, .unset] X21 hx hZ hown e21 hn I21 O (hw _ (List.mem_of_getElem? (i := 46) rfl)) S21 (hE 21 (by decide)) (hb hby at_146) (hb hby at_149) rfl (hb hby at_152) rfl (fun t k => by
      refine XS.bipush X21.here hx rfl (hb hby at_147) ?_
      exact k)
  obtain ⟨T23, h23, locs23, X23, e23, I23, st23⟩ := own_put 22 (by decide) "EMPTY" 76 153 156 159 160 #[.val (.int p1), .unset, .unset, .unset, .unset, .unset] X22 hx hZ hown e22 hn I22 O (hw _ (List.mem_of_getElem? (i := 48) rfl)) S22 (hE 22 (by decide)) (hb hby at_153) (hb hby at_156) rfl (hb hby at_159) rfl (fun t k => by
      refine XS.bipush X22.here hx rfl (hb hby at_154) ?_
      exact k)
  obtain ⟨T24, h24, locs24, X24, e24, I24, st24⟩ := own_put 23 (by decide) "NOT_EMPTY" 79 160 163 166 167 #[.val (.int p1), .unset, .unset, .unset, .unset, .unset] X23 hx hZ hown e23 hn I23 O (hw _ (List.mem_of_getElem? (i := 50) rfl)) S23 (hE 23 (by decide)) (hb hby at_160) (hb hby at_163) rfl (hb hby at_166) rfl (fun t k => by
      refine XS.bipush X23.here hx rfl (hb hby at_161) ?_
      exact k)
  obtain ⟨T25, h25, locs25, X25, e25, I25, st25⟩ := own_put 24 (by decide) "NEAR" 82 167 170 173 174 #[.val (.int p1), .unset, .unset, .unset, .unset, .unset] X24 hx hZ hown e24 hn I24 O (hw _ (List.mem_of_getElem? (i := 52) rfl)) S24 (hE 24 (by decide)) (hb hby at_167) (hb hby at_170) rfl (hb hby at_173) rfl (fun t k => by
      refine XS.bipush X24.here hx rfl (hb hby at_168) ?_
      exact k)
  obtain ⟨T26, h26, locs26, X26, e26, I26, st26⟩ := own_put 25 (by decide) "WITHIN" 85 174 177 180 181 #[.val (.int p1), .unset, .unset, .unset, .unset, .unset] X25 hx hZ hown e25 hn I25 O (hw _ (List.mem_of_getElem? (i := 54) rfl)) S25 (hE 25 (by decide)) (hb hby at_174) (hb hby at_177) rfl (hb hby at_180) rfl (fun t k => by
      refine XS.bipush X25.here hx rfl (hb hby at_175) ?_
      exact k)
  exact ⟨T26, h26, locs26, X26, e26, I26, fun target kt => (st1 _ (st2 _ (st3 _ (st4 _ (st5 _ (st6 _ (st7 _ (st8 _ (st9 _ (st10 _ (st11 _ (st12 _ (st13 _ (st14 _ (st15 _ (st16 _ (st17 _ (st18 _ (st19 _ (st20 _ (st21 _ (st22 _ (st23 _ (st24 _ (st25 _ (st26 _ kt))))))))))))))))))))))))))⟩
theorem pd_0_0 : parseMethodDescriptor "()Z" = some ⟨[], some .boolean⟩ := by decide +kernel
theorem pd_0_1 : parseMethodDescriptor "()I" = some ⟨[], some .int⟩ := by decide +kernel
theorem os0_189 {z0 : Value} {z1 : Value} {s2 : Slot} {s3 : Slot} {s4 : Slot} {s5 : Slot} {v : Int32} (h : One s2) : storeLocals #[.val z0, .val z1, s2, s3, s4, s5] 2 (.int v) = some #[.val z0, .val z1, .val (.int v), s3, s4, s5] := by
  rcases h with rfl | ⟨w, rfl, hw⟩
  · rfl
  · cases w <;> first | rfl | (simp [Value.category] at hw)
theorem os0_193 {z0 : Value} {z1 : Value} {z2 : Value} {s3 : Slot} {s4 : Slot} {s5 : Slot} {v : Addr} (h : One s3) : storeLocals #[.val z0, .val z1, .val z2, s3, s4, s5] 3 (.ref v) = some #[.val z0, .val z1, .val z2, .val (.ref v), s4, s5] := by
  rcases h with rfl | ⟨w, rfl, hw⟩
  · rfl
  · cases w <;> first | rfl | (simp [Value.category] at hw)
theorem os0_211 {z0 : Value} {z1 : Value} {z2 : Value} {z3 : Value} {s4 : Slot} {s5 : Slot} {v : Int32} (h : One s4) : storeLocals #[.val z0, .val z1, .val z2, .val z3, s4, s5] 4 (.int v) = some #[.val z0, .val z1, .val z2, .val z3, .val (.int v), s5] := by
  rcases h with rfl | ⟨w, rfl, hw⟩
  · rfl
  · cases w <;> first | rfl | (simp [Value.category] at hw)
theorem os0_217 {z0 : Value} {z1 : Value} {z2 : Value} {z3 : Value} {z4 : Value} {s5 : Slot} {v : Int32} (h : One s5) : storeLocals #[.val z0, .val z1, .val z2, .val z3, .val z4, s5] 5 (.int v) = some #[.val z0, .val z1, .val z2, .val z3, .val z4, .val (.int v)] := by
  rcases h with rfl | ⟨w, rfl, hw⟩
  · rfl
  · cases w <;> first | rfl | (simp [Value.category] at hw)
set_option maxRecDepth 65536 in
set_option maxHeartbeats 40000000 in
theorem tn0a {p : Program} {l : Launch} {e : Env} {s : State} {m : MethodId} {args : Array Value} {below : List Frame} {meth : Method} {c : Code} {T0 : State} {locs : List Loc} {n0 : Nat} {Z : State} {a0 : Array Value} {h0 : Heap} (i0 : Int32) (o1 : Addr) (s2 : Slot) (s3 : Slot) (s4 : Slot) (s5 : Slot) (g : Int32) (k : Int32) (w2 : Addr) (cl_o1 : Cell)
    (X0 : Stand p l e room_1 s m args below meth c T0 locs 1 26) (hx : p.tables.exec = Jvm.exec) (hZ : Z.Warmed39 s.vm) (hw : ∀ d ∈ tables_1, d.before a0 Z = true) (hby : c.code = code) (hml : c.maxLocals = 6) (hown : s.vm.findClass "com/example/huron/huron/support/KeywordTakesCollectionPinLaw" = some m.cls) (e0 : T0.heap = h0) (N0 : Fr n0 locs) (P1 : (OwnPure l Z h0 n0 (⟨"com/example/huron/huron/support/Keyword", "takesCollection", "()Z"⟩ : MethodName) prog_39_method_8_code 1 (some .boolean) ({ frames := 0, cells := 0, slots := 0, locals := 0 } : Room) #[(.ref w2)] (.int g))) (P2 : (OwnPure l Z h0 n0 (⟨"com/example/huron/huron/support/Keyword", "parameters", "()I"⟩ : MethodName) prog_39_method_5_code 1 (some .int) ({ frames := 0, cells := 0, slots := 0, locals := 0 } : Room) #[(.ref w2)] (.int k))) (hs2 : One s2) (Ar_o1 : Arr Z h0 o1 cl_o1 (.object "com/example/huron/huron/support/Keyword")) (hin192 : ¬ (((i0 &&& (2147483647 : Int32)) - ((i0 &&& (2147483647 : Int32)) / (26 : Int32)) * (26 : Int32)) < 0 ∨ cl_o1.slots.size ≤ (((i0 &&& (2147483647 : Int32)) - ((i0 &&& (2147483647 : Int32)) / (26 : Int32)) * (26 : Int32))).toNatClampNeg)) (hat192 : cl_o1.slots[(((i0 &&& (2147483647 : Int32)) - ((i0 &&& (2147483647 : Int32)) / (26 : Int32)) * (26 : Int32))).toNatClampNeg]? = some (.ref w2)) (hs3 : One s3) (hs4 : One s4) (E_w2 : Exa Z h0 w2 "com/example/huron/huron/support/Keyword") (hs5 : One s5) (hc197 : ((i0 &&& (2147483647 : Int32)) - ((i0 &&& (2147483647 : Int32)) / (26 : Int32)) * (26 : Int32)) = (18 : Int32)) (hc223 : g = (1 : Int32)) (hc230 : ¬ (g = (0 : Int32))) (hc238 : k = (1 : Int32)) :
    ∃ (T' : State) (locs' : List Loc), Stand p l e room_1 s m args below meth c T' locs' 1 26 ∧ T'.heap = h0 ∧ Fr n0 locs' ∧
      ∀ target, Steps p.tables e below (T'.setTop (mkF m 243 #[.val (.int i0), .val (.ref o1), .val (.int ((i0 &&& (2147483647 : Int32)) - ((i0 &&& (2147483647 : Int32)) / (26 : Int32)) * (26 : Int32))), .val (.ref w2), .val (.int (1 : Int32)), .val (.int g)] [])) target → Steps p.tables e below (T0.setTop (mkF m 182 #[.val (.int i0), .val (.ref o1), s2, s3, s4, s5] [])) target := by
  obtain ⟨cq3, kq3, q3a, q3b, q3c⟩ := isOf hZ e0 E_w2
  obtain ⟨_, _, ⟨T3, L3, k3, n3⟩, -, X3, ⟨Lc3, hQ3, l3, y3, z3⟩, st3⟩ := X0.virtualBack hx (y := (⟨"com/example/huron/huron/support/Keyword", "takesCollection", "()Z"⟩ : MethodName)) (z := (⟨"com/example/huron/huron/support/Keyword", "takesCollection", "()Z"⟩ : MethodName)) hown (mvT hZ (hw _ (List.mem_of_getElem? (i := 57) rfl))) (mvT hZ (hw _ (List.mem_of_getElem? (i := 58) rfl))) (notFace_of_selects (args := #[]) (mvT hZ (hw _ (List.mem_of_getElem? (i := 60) rfl)))) (mvT hZ (hw _ (List.mem_of_getElem? (i := 60) rfl))) (mvT hZ (hw _ (List.mem_of_getElem? (i := 59) rfl))) (by decide) (backOf (W := 0) (P1 []) hZ (hw _ (List.mem_of_getElem? (i := 61) rfl)) (hw _ (List.mem_of_getElem? (i := 3) rfl)) (by decide) (by decide)) q3a q3c (g := (mkF m 214 #[.val (.int i0), .val (.ref o1), .val (.int ((i0 &&& (2147483647 : Int32)) - ((i0 &&& (2147483647 : Int32)) / (26 : Int32)) * (26 : Int32))), .val (.ref w2), .val (.int (1 : Int32)), s5] [(.ref w2)])) rfl (by rw [hml]; rfl) (Steps.refl _) (argsL := []) (rest := []) (lenOf pd_0_0 rfl) rfl (by show 2 * 0 + _ ≤ _; exact Nat.le_of_eq rfl) (hb hby at_214) (fun _ _ => ⟨rfl, e0, (by decide : 1 + 0 ≤ _), (by decide : 26 + 0 ≤ _)⟩)
  dsimp only [Pt.U, Pt.locs, Pt.cells, Pt.slots] at X3 l3 y3 z3 st3 hQ3
  subst l3 y3 z3
  obtain ⟨rfl, N3q, e3⟩ := hQ3
  have N3 := Fr.app N0 N3q
  obtain ⟨cq4, kq4, q4a, q4b, q4c⟩ := isOf hZ e3 E_w2
  obtain ⟨_, _, ⟨T4, L4, k4, n4⟩, -, X4, ⟨Lc4, hQ4, l4, y4, z4⟩, st4⟩ := X3.virtualBack hx (y := (⟨"com/example/huron/huron/support/Keyword", "parameters", "()I"⟩ : MethodName)) (z := (⟨"com/example/huron/huron/support/Keyword", "parameters", "()I"⟩ : MethodName)) hown (mvT hZ (hw _ (List.mem_of_getElem? (i := 64) rfl))) (mvT hZ (hw _ (List.mem_of_getElem? (i := 65) rfl))) (notFace_of_selects (args := #[]) (mvT hZ (hw _ (List.mem_of_getElem? (i := 67) rfl)))) (mvT hZ (hw _ (List.mem_of_getElem? (i := 67) rfl))) (mvT hZ (hw _ (List.mem_of_getElem? (i := 66) rfl))) (by decide) (backOf (W := 0) (P2 []) hZ (hw _ (List.mem_of_getElem? (i := 68) rfl)) (hw _ (List.mem_of_getElem? (i := 3) rfl)) (by decide) (by decide)) q4a q4c (g := (mkF m 234 #[.val (.int i0), .val (.ref o1), .val (.int ((i0 &&& (2147483647 : Int32)) - ((i0 &&& (2147483647 : Int32)) / (26 : Int32)) * (26 : Int32))), .val (.ref w2), .val (.int (1 : Int32)), .val (.int g)] [(.ref w2)])) rfl (by rw [hml]; rfl) (Steps.refl _) (argsL := []) (rest := []) (lenOf pd_0_1 rfl) rfl (by show 2 * 0 + _ ≤ _; exact Nat.le_of_eq rfl) (hb hby at_234) (fun _ _ => ⟨rfl, e3, (by decide : 1 + 0 ≤ _), (by decide : 26 + 0 ≤ _)⟩)
  dsimp only [Pt.U, Pt.locs, Pt.cells, Pt.slots] at X4 l4 y4 z4 st4 hQ4
  subst l4 y4 z4
  obtain ⟨rfl, N4q, e4⟩ := hQ4
  have N4 := Fr.app N3 N4q
  refine ⟨T4, _, X4, e4, N4, fun target kt => ?_⟩
  show Steps p.tables e below (T0.setTop (mkF m 182 #[.val (.int i0), .val (.ref o1), s2, s3, s4, s5] [])) _
  refine XS.iloadN X0.here hx rfl (hb hby at_182) rfl ?_
  show Steps p.tables e below (T0.setTop (mkF m 183 #[.val (.int i0), .val (.ref o1), s2, s3, s4, s5] [(.int i0)])) _
  refine X0.ldcInt hx hown (mvT hZ (hw _ (List.mem_of_getElem? (i := 56) rfl))) (g := (mkF m 183 #[.val (.int i0), .val (.ref o1), s2, s3, s4, s5] [(.int i0)])) rfl (hb hby at_183) _ ?_
  show Steps p.tables e below (T0.setTop (mkF m 185 #[.val (.int i0), .val (.ref o1), s2, s3, s4, s5] [(.int (2147483647 : Int32)), (.int i0)])) _
  refine XS.iand X0.here hx rfl (hb hby at_185) rfl ?_
  show Steps p.tables e below (T0.setTop (mkF m 186 #[.val (.int i0), .val (.ref o1), s2, s3, s4, s5] [(.int (i0 &&& (2147483647 : Int32)))])) _
  refine XS.bipush X0.here hx rfl (hb hby at_186) ?_
  show Steps p.tables e below (T0.setTop (mkF m 188 #[.val (.int i0), .val (.ref o1), s2, s3, s4, s5] [(.int (26 : Int32)), (.int (i0 &&& (2147483647 : Int32)))])) _
  refine XS.irem X0.here hx rfl (hb hby at_188) rfl (by decide) ?_
  show Steps p.tables e below (T0.setTop (mkF m 189 #[.val (.int i0), .val (.ref o1), s2, s3, s4, s5] [(.int ((i0 &&& (2147483647 : Int32)) - ((i0 &&& (2147483647 : Int32)) / (26 : Int32)) * (26 : Int32)))])) _
  refine XS.istoreN X0.here hx rfl (hb hby at_189) rfl (l' := #[.val (.int i0), .val (.ref o1), .val (.int ((i0 &&& (2147483647 : Int32)) - ((i0 &&& (2147483647 : Int32)) / (26 : Int32)) * (26 : Int32))), s3, s4, s5]) (os0_189 hs2) ?_
  show Steps p.tables e below (T0.setTop (mkF m 190 #[.val (.int i0), .val (.ref o1), .val (.int ((i0 &&& (2147483647 : Int32)) - ((i0 &&& (2147483647 : Int32)) / (26 : Int32)) * (26 : Int32))), s3, s4, s5] [])) _
  refine XS.aloadN X0.here hx rfl (hb hby at_190) rfl rfl ?_
  show Steps p.tables e below (T0.setTop (mkF m 191 #[.val (.int i0), .val (.ref o1), .val (.int ((i0 &&& (2147483647 : Int32)) - ((i0 &&& (2147483647 : Int32)) / (26 : Int32)) * (26 : Int32))), s3, s4, s5] [(.ref o1)])) _
  refine XS.iloadN X0.here hx rfl (hb hby at_191) rfl ?_
  show Steps p.tables e below (T0.setTop (mkF m 192 #[.val (.int i0), .val (.ref o1), .val (.int ((i0 &&& (2147483647 : Int32)) - ((i0 &&& (2147483647 : Int32)) / (26 : Int32)) * (26 : Int32))), s3, s4, s5] [(.int ((i0 &&& (2147483647 : Int32)) - ((i0 &&& (2147483647 : Int32)) / (26 : Int32)) * (26 : Int32))), (.ref o1)])) _
  refine X0.aaload hx (j := ((i0 &&& (2147483647 : Int32)) - ((i0 &&& (2147483647 : Int32)) / (26 : Int32)) * (26 : Int32))) (v := (.ref w2)) (by rw [e0]; exact Ar_o1.1) (State.isArrayOf_alike hZ.alike Ar_o1.2.1) rfl Ar_o1.2.2 hin192 hat192 (g := (mkF m 192 #[.val (.int i0), .val (.ref o1), .val (.int ((i0 &&& (2147483647 : Int32)) - ((i0 &&& (2147483647 : Int32)) / (26 : Int32)) * (26 : Int32))), s3, s4, s5] [(.int ((i0 &&& (2147483647 : Int32)) - ((i0 &&& (2147483647 : Int32)) / (26 : Int32)) * (26 : Int32))), (.ref o1)])) rfl rfl (hb hby at_192) _ ?_
  show Steps p.tables e below (T0.setTop (mkF m 193 #[.val (.int i0), .val (.ref o1), .val (.int ((i0 &&& (2147483647 : Int32)) - ((i0 &&& (2147483647 : Int32)) / (26 : Int32)) * (26 : Int32))), s3, s4, s5] [(.ref w2)])) _
  refine XS.astoreN X0.here hx rfl (hb hby at_193) rfl rfl (l' := #[.val (.int i0), .val (.ref o1), .val (.int ((i0 &&& (2147483647 : Int32)) - ((i0 &&& (2147483647 : Int32)) / (26 : Int32)) * (26 : Int32))), .val (.ref w2), s4, s5]) (os0_193 hs3) ?_
  show Steps p.tables e below (T0.setTop (mkF m 194 #[.val (.int i0), .val (.ref o1), .val (.int ((i0 &&& (2147483647 : Int32)) - ((i0 &&& (2147483647 : Int32)) / (26 : Int32)) * (26 : Int32))), .val (.ref w2), s4, s5] [])) _
  refine XS.iloadN X0.here hx rfl (hb hby at_194) rfl ?_
  show Steps p.tables e below (T0.setTop (mkF m 195 #[.val (.int i0), .val (.ref o1), .val (.int ((i0 &&& (2147483647 : Int32)) - ((i0 &&& (2147483647 : Int32)) / (26 : Int32)) * (26 : Int32))), .val (.ref w2), s4, s5] [(.int ((i0 &&& (2147483647 : Int32)) - ((i0 &&& (2147483647 : Int32)) / (26 : Int32)) * (26 : Int32)))])) _
  refine XS.bipush X0.here hx rfl (hb hby at_195) ?_
  show Steps p.tables e below (T0.setTop (mkF m 197 #[.val (.int i0), .val (.ref o1), .val (.int ((i0 &&& (2147483647 : Int32)) - ((i0 &&& (2147483647 : Int32)) / (26 : Int32)) * (26 : Int32))), .val (.ref w2), s4, s5] [(.int (18 : Int32)), (.int ((i0 &&& (2147483647 : Int32)) - ((i0 &&& (2147483647 : Int32)) / (26 : Int32)) * (26 : Int32)))])) _
  refine XS.icmpYes X0.here hx rfl (pc0 := 197) (pc' := 206) rfl (hb hby at_197) rfl (teq hc197).1 (by decide) (by decide) ?_
  show Steps p.tables e below (T0.setTop (mkF m 206 #[.val (.int i0), .val (.ref o1), .val (.int ((i0 &&& (2147483647 : Int32)) - ((i0 &&& (2147483647 : Int32)) / (26 : Int32)) * (26 : Int32))), .val (.ref w2), s4, s5] [])) _
  refine XS.iconst X0.here hx rfl (hb hby at_206) ?_
  show Steps p.tables e below (T0.setTop (mkF m 207 #[.val (.int i0), .val (.ref o1), .val (.int ((i0 &&& (2147483647 : Int32)) - ((i0 &&& (2147483647 : Int32)) / (26 : Int32)) * (26 : Int32))), .val (.ref w2), s4, s5] [(.int (1 : Int32))])) _
  refine XS.goto X0.here hx rfl (pc0 := 207) (pc' := 211) rfl (hb hby at_207) (by decide) (by decide) ?_
  show Steps p.tables e below (T0.setTop (mkF m 211 #[.val (.int i0), .val (.ref o1), .val (.int ((i0 &&& (2147483647 : Int32)) - ((i0 &&& (2147483647 : Int32)) / (26 : Int32)) * (26 : Int32))), .val (.ref w2), s4, s5] [(.int (1 : Int32))])) _
  refine XS.istore X0.here hx rfl (hb hby at_211) rfl (l' := #[.val (.int i0), .val (.ref o1), .val (.int ((i0 &&& (2147483647 : Int32)) - ((i0 &&& (2147483647 : Int32)) / (26 : Int32)) * (26 : Int32))), .val (.ref w2), .val (.int (1 : Int32)), s5]) (os0_211 hs4) ?_
  show Steps p.tables e below (T0.setTop (mkF m 213 #[.val (.int i0), .val (.ref o1), .val (.int ((i0 &&& (2147483647 : Int32)) - ((i0 &&& (2147483647 : Int32)) / (26 : Int32)) * (26 : Int32))), .val (.ref w2), .val (.int (1 : Int32)), s5] [])) _
  refine XS.aloadN X0.here hx rfl (hb hby at_213) rfl rfl ?_
  show Steps p.tables e below (T0.setTop (mkF m 214 #[.val (.int i0), .val (.ref o1), .val (.int ((i0 &&& (2147483647 : Int32)) - ((i0 &&& (2147483647 : Int32)) / (26 : Int32)) * (26 : Int32))), .val (.ref w2), .val (.int (1 : Int32)), s5] [(.ref w2)])) _
  refine st3.trans ?_
  show Steps p.tables e below (T3.setTop (mkF m 217 #[.val (.int i0), .val (.ref o1), .val (.int ((i0 &&& (2147483647 : Int32)) - ((i0 &&& (2147483647 : Int32)) / (26 : Int32)) * (26 : Int32))), .val (.ref w2), .val (.int (1 : Int32)), s5] [(.int g)])) _
  refine XS.istore X3.here hx rfl (hb hby at_217) rfl (l' := #[.val (.int i0), .val (.ref o1), .val (.int ((i0 &&& (2147483647 : Int32)) - ((i0 &&& (2147483647 : Int32)) / (26 : Int32)) * (26 : Int32))), .val (.ref w2), .val (.int (1 : Int32)), .val (.int g)]) (os0_217 hs5) ?_
  show Steps p.tables e below (T3.setTop (mkF m 219 #[.val (.int i0), .val (.ref o1), .val (.int ((i0 &&& (2147483647 : Int32)) - ((i0 &&& (2147483647 : Int32)) / (26 : Int32)) * (26 : Int32))), .val (.ref w2), .val (.int (1 : Int32)), .val (.int g)] [])) _
  refine XS.iload X3.here hx rfl (hb hby at_219) rfl ?_
  show Steps p.tables e below (T3.setTop (mkF m 221 #[.val (.int i0), .val (.ref o1), .val (.int ((i0 &&& (2147483647 : Int32)) - ((i0 &&& (2147483647 : Int32)) / (26 : Int32)) * (26 : Int32))), .val (.ref w2), .val (.int (1 : Int32)), .val (.int g)] [(.int g)])) _
  refine XS.iload X3.here hx rfl (hb hby at_221) rfl ?_
  show Steps p.tables e below (T3.setTop (mkF m 223 #[.val (.int i0), .val (.ref o1), .val (.int ((i0 &&& (2147483647 : Int32)) - ((i0 &&& (2147483647 : Int32)) / (26 : Int32)) * (26 : Int32))), .val (.ref w2), .val (.int (1 : Int32)), .val (.int g)] [(.int (1 : Int32)), (.int g)])) _
  refine XS.icmpYes X3.here hx rfl (pc0 := 223) (pc' := 228) rfl (hb hby at_223) rfl (teq hc223).1 (by decide) (by decide) ?_
  show Steps p.tables e below (T3.setTop (mkF m 228 #[.val (.int i0), .val (.ref o1), .val (.int ((i0 &&& (2147483647 : Int32)) - ((i0 &&& (2147483647 : Int32)) / (26 : Int32)) * (26 : Int32))), .val (.ref w2), .val (.int (1 : Int32)), .val (.int g)] [])) _
  refine XS.iload X3.here hx rfl (hb hby at_228) rfl ?_
  show Steps p.tables e below (T3.setTop (mkF m 230 #[.val (.int i0), .val (.ref o1), .val (.int ((i0 &&& (2147483647 : Int32)) - ((i0 &&& (2147483647 : Int32)) / (26 : Int32)) * (26 : Int32))), .val (.ref w2), .val (.int (1 : Int32)), .val (.int g)] [(.int g)])) _
  refine XS.ifNo X3.here hx rfl (hb hby at_230) rfl ((if0 _ _).trans (feq hc230).1) ?_
  show Steps p.tables e below (T3.setTop (mkF m 233 #[.val (.int i0), .val (.ref o1), .val (.int ((i0 &&& (2147483647 : Int32)) - ((i0 &&& (2147483647 : Int32)) / (26 : Int32)) * (26 : Int32))), .val (.ref w2), .val (.int (1 : Int32)), .val (.int g)] [])) _
  refine XS.aloadN X3.here hx rfl (hb hby at_233) rfl rfl ?_
  show Steps p.tables e below (T3.setTop (mkF m 234 #[.val (.int i0), .val (.ref o1), .val (.int ((i0 &&& (2147483647 : Int32)) - ((i0 &&& (2147483647 : Int32)) / (26 : Int32)) * (26 : Int32))), .val (.ref w2), .val (.int (1 : Int32)), .val (.int g)] [(.ref w2)])) _
  refine st4.trans ?_
  show Steps p.tables e below (T4.setTop (mkF m 237 #[.val (.int i0), .val (.ref o1), .val (.int ((i0 &&& (2147483647 : Int32)) - ((i0 &&& (2147483647 : Int32)) / (26 : Int32)) * (26 : Int32))), .val (.ref w2), .val (.int (1 : Int32)), .val (.int g)] [(.int k)])) _
  refine XS.iconst X4.here hx rfl (hb hby at_237) ?_
  show Steps p.tables e below (T4.setTop (mkF m 238 #[.val (.int i0), .val (.ref o1), .val (.int ((i0 &&& (2147483647 : Int32)) - ((i0 &&& (2147483647 : Int32)) / (26 : Int32)) * (26 : Int32))), .val (.ref w2), .val (.int (1 : Int32)), .val (.int g)] [(.int (1 : Int32)), (.int k)])) _
  refine XS.icmpYes X4.here hx rfl (pc0 := 238) (pc' := 243) rfl (hb hby at_238) rfl (teq hc238).1 (by decide) (by decide) ?_
  exact kt
set_option maxRecDepth 65536 in
set_option maxHeartbeats 40000000 in
theorem tn0b {p : Program} {l : Launch} {e : Env} {s : State} {m : MethodId} {args : Array Value} {below : List Frame} {meth : Method} {c : Code} {T0 : State} {locs : List Loc} {n0 : Nat} {Z : State} {a0 : Array Value} {h0 : Heap} (i0 : Int32) (o1 : Addr) (s2 : Slot) (s3 : Slot) (s4 : Slot) (s5 : Slot) (g : Int32) (k : Int32) (w2 : Addr) (cl_o1 : Cell)
    (X0 : Stand p l e room_1 s m args below meth c T0 locs 1 26) (hx : p.tables.exec = Jvm.exec) (hZ : Z.Warmed39 s.vm) (hw : ∀ d ∈ tables_1, d.before a0 Z = true) (hby : c.code = code) (hml : c.maxLocals = 6) (hown : s.vm.findClass "com/example/huron/huron/support/KeywordTakesCollectionPinLaw" = some m.cls) (e0 : T0.heap = h0) (N0 : Fr n0 locs) (P1 : (OwnPure l Z h0 n0 (⟨"com/example/huron/huron/support/Keyword", "takesCollection", "()Z"⟩ : MethodName) prog_39_method_8_code 1 (some .boolean) ({ frames := 0, cells := 0, slots := 0, locals := 0 } : Room) #[(.ref w2)] (.int g))) (P2 : (OwnPure l Z h0 n0 (⟨"com/example/huron/huron/support/Keyword", "parameters", "()I"⟩ : MethodName) prog_39_method_5_code 1 (some .int) ({ frames := 0, cells := 0, slots := 0, locals := 0 } : Room) #[(.ref w2)] (.int k))) (hs2 : One s2) (Ar_o1 : Arr Z h0 o1 cl_o1 (.object "com/example/huron/huron/support/Keyword")) (hin192 : ¬ (((i0 &&& (2147483647 : Int32)) - ((i0 &&& (2147483647 : Int32)) / (26 : Int32)) * (26 : Int32)) < 0 ∨ cl_o1.slots.size ≤ (((i0 &&& (2147483647 : Int32)) - ((i0 &&& (2147483647 : Int32)) / (26 : Int32)) * (26 : Int32))).toNatClampNeg)) (hat192 : cl_o1.slots[(((i0 &&& (2147483647 : Int32)) - ((i0 &&& (2147483647 : Int32)) / (26 : Int32)) * (26 : Int32))).toNatClampNeg]? = some (.ref w2)) (hs3 : One s3) (hs4 : One s4) (E_w2 : Exa Z h0 w2 "com/example/huron/huron/support/Keyword") (hs5 : One s5) (hc197 : ¬ (((i0 &&& (2147483647 : Int32)) - ((i0 &&& (2147483647 : Int32)) / (26 : Int32)) * (26 : Int32)) = (18 : Int32))) (hc203 : ((i0 &&& (2147483647 : Int32)) - ((i0 &&& (2147483647 : Int32)) / (26 : Int32)) * (26 : Int32)) = (19 : Int32)) (hc223 : g = (1 : Int32)) (hc230 : ¬ (g = (0 : Int32))) (hc238 : k = (1 : Int32)) :
    ∃ (T' : State) (locs' : List Loc), Stand p l e room_1 s m args below meth c T' locs' 1 26 ∧ T'.heap = h0 ∧ Fr n0 locs' ∧
      ∀ target, Steps p.tables e below (T'.setTop (mkF m 243 #[.val (.int i0), .val (.ref o1), .val (.int ((i0 &&& (2147483647 : Int32)) - ((i0 &&& (2147483647 : Int32)) / (26 : Int32)) * (26 : Int32))), .val (.ref w2), .val (.int (1 : Int32)), .val (.int g)] [])) target → Steps p.tables e below (T0.setTop (mkF m 182 #[.val (.int i0), .val (.ref o1), s2, s3, s4, s5] [])) target := by
  obtain ⟨cq3, kq3, q3a, q3b, q3c⟩ := isOf hZ e0 E_w2
  obtain ⟨_, _, ⟨T3, L3, k3, n3⟩, -, X3, ⟨Lc3, hQ3, l3, y3, z3⟩, st3⟩ := X0.virtualBack hx (y := (⟨"com/example/huron/huron/support/Keyword", "takesCollection", "()Z"⟩ : MethodName)) (z := (⟨"com/example/huron/huron/support/Keyword", "takesCollection", "()Z"⟩ : MethodName)) hown (mvT hZ (hw _ (List.mem_of_getElem? (i := 57) rfl))) (mvT hZ (hw _ (List.mem_of_getElem? (i := 58) rfl))) (notFace_of_selects (args := #[]) (mvT hZ (hw _ (List.mem_of_getElem? (i := 60) rfl)))) (mvT hZ (hw _ (List.mem_of_getElem? (i := 60) rfl))) (mvT hZ (hw _ (List.mem_of_getElem? (i := 59) rfl))) (by decide) (backOf (W := 0) (P1 []) hZ (hw _ (List.mem_of_getElem? (i := 61) rfl)) (hw _ (List.mem_of_getElem? (i := 3) rfl)) (by decide) (by decide)) q3a q3c (g := (mkF m 214 #[.val (.int i0), .val (.ref o1), .val (.int ((i0 &&& (2147483647 : Int32)) - ((i0 &&& (2147483647 : Int32)) / (26 : Int32)) * (26 : Int32))), .val (.ref w2), .val (.int (1 : Int32)), s5] [(.ref w2)])) rfl (by rw [hml]; rfl) (Steps.refl _) (argsL := []) (rest := []) (lenOf pd_0_0 rfl) rfl (by show 2 * 0 + _ ≤ _; exact Nat.le_of_eq rfl) (hb hby at_214) (fun _ _ => ⟨rfl, e0, (by decide : 1 + 0 ≤ _), (by decide : 26 + 0 ≤ _)⟩)
  dsimp only [Pt.U, Pt.locs, Pt.cells, Pt.slots] at X3 l3 y3 z3 st3 hQ3
  subst l3 y3 z3
  obtain ⟨rfl, N3q, e3⟩ := hQ3
  have N3 := Fr.app N0 N3q
  obtain ⟨cq4, kq4, q4a, q4b, q4c⟩ := isOf hZ e3 E_w2
  obtain ⟨_, _, ⟨T4, L4, k4, n4⟩, -, X4, ⟨Lc4, hQ4, l4, y4, z4⟩, st4⟩ := X3.virtualBack hx (y := (⟨"com/example/huron/huron/support/Keyword", "parameters", "()I"⟩ : MethodName)) (z := (⟨"com/example/huron/huron/support/Keyword", "parameters", "()I"⟩ : MethodName)) hown (mvT hZ (hw _ (List.mem_of_getElem? (i := 64) rfl))) (mvT hZ (hw _ (List.mem_of_getElem? (i := 65) rfl))) (notFace_of_selects (args := #[]) (mvT hZ (hw _ (List.mem_of_getElem? (i := 67) rfl)))) (mvT hZ (hw _ (List.mem_of_getElem? (i := 67) rfl))) (mvT hZ (hw _ (List.mem_of_getElem? (i := 66) rfl))) (by decide) (backOf (W := 0) (P2 []) hZ (hw _ (List.mem_of_getElem? (i := 68) rfl)) (hw _ (List.mem_of_getElem? (i := 3) rfl)) (by decide) (by decide)) q4a q4c (g := (mkF m 234 #[.val (.int i0), .val (.ref o1), .val (.int ((i0 &&& (2147483647 : Int32)) - ((i0 &&& (2147483647 : Int32)) / (26 : Int32)) * (26 : Int32))), .val (.ref w2), .val (.int (1 : Int32)), .val (.int g)] [(.ref w2)])) rfl (by rw [hml]; rfl) (Steps.refl _) (argsL := []) (rest := []) (lenOf pd_0_1 rfl) rfl (by show 2 * 0 + _ ≤ _; exact Nat.le_of_eq rfl) (hb hby at_234) (fun _ _ => ⟨rfl, e3, (by decide : 1 + 0 ≤ _), (by decide : 26 + 0 ≤ _)⟩)
  dsimp only [Pt.U, Pt.locs, Pt.cells, Pt.slots] at X4 l4 y4 z4 st4 hQ4
  subst l4 y4 z4
  obtain ⟨rfl, N4q, e4⟩ := hQ4
  have N4 := Fr.app N3 N4q
  refine ⟨T4, _, X4, e4, N4, fun target kt => ?_⟩
  show Steps p.tables e below (T0.setTop (mkF m 182 #[.val (.int i0), .val (.ref o1), s2, s3, s4, s5] [])) _
  refine XS.iloadN X0.here hx rfl (hb hby at_182) rfl ?_
  show Steps p.tables e below (T0.setTop (mkF m 183 #[.val (.int i0), .val (.ref o1), s2, s3, s4, s5] [(.int i0)])) _
  refine X0.ldcInt hx hown (mvT hZ (hw _ (List.mem_of_getElem? (i := 56) rfl))) (g := (mkF m 183 #[.val (.int i0), .val (.ref o1), s2, s3, s4, s5] [(.int i0)])) rfl (hb hby at_183) _ ?_
  show Steps p.tables e below (T0.setTop (mkF m 185 #[.val (.int i0), .val (.ref o1), s2, s3, s4, s5] [(.int (2147483647 : Int32)), (.int i0)])) _
  refine XS.iand X0.here hx rfl (hb hby at_185) rfl ?_
  show Steps p.tables e below (T0.setTop (mkF m 186 #[.val (.int i0), .val (.ref o1), s2, s3, s4, s5] [(.int (i0 &&& (2147483647 : Int32)))])) _
  refine XS.bipush X0.here hx rfl (hb hby at_186) ?_
  show Steps p.tables e below (T0.setTop (mkF m 188 #[.val (.int i0), .val (.ref o1), s2, s3, s4, s5] [(.int (26 : Int32)), (.int (i0 &&& (2147483647 : Int32)))])) _
  refine XS.irem X0.here hx rfl (hb hby at_188) rfl (by decide) ?_
  show Steps p.tables e below (T0.setTop (mkF m 189 #[.val (.int i0), .val (.ref o1), s2, s3, s4, s5] [(.int ((i0 &&& (2147483647 : Int32)) - ((i0 &&& (2147483647 : Int32)) / (26 : Int32)) * (26 : Int32)))])) _
  refine XS.istoreN X0.here hx rfl (hb hby at_189) rfl (l' := #[.val (.int i0), .val (.ref o1), .val (.int ((i0 &&& (2147483647 : Int32)) - ((i0 &&& (2147483647 : Int32)) / (26 : Int32)) * (26 : Int32))), s3, s4, s5]) (os0_189 hs2) ?_
  show Steps p.tables e below (T0.setTop (mkF m 190 #[.val (.int i0), .val (.ref o1), .val (.int ((i0 &&& (2147483647 : Int32)) - ((i0 &&& (2147483647 : Int32)) / (26 : Int32)) * (26 : Int32))), s3, s4, s5] [])) _
  refine XS.aloadN X0.here hx rfl (hb hby at_190) rfl rfl ?_
  show Steps p.tables e below (T0.setTop (mkF m 191 #[.val (.int i0), .val (.ref o1), .val (.int ((i0 &&& (2147483647 : Int32)) - ((i0 &&& (2147483647 : Int32)) / (26 : Int32)) * (26 : Int32))), s3, s4, s5] [(.ref o1)])) _
  refine XS.iloadN X0.here hx rfl (hb hby at_191) rfl ?_
  show Steps p.tables e below (T0.setTop (mkF m 192 #[.val (.int i0), .val (.ref o1), .val (.int ((i0 &&& (2147483647 : Int32)) - ((i0 &&& (2147483647 : Int32)) / (26 : Int32)) * (26 : Int32))), s3, s4, s5] [(.int ((i0 &&& (2147483647 : Int32)) - ((i0 &&& (2147483647 : Int32)) / (26 : Int32)) * (26 : Int32))), (.ref o1)])) _
  refine X0.aaload hx (j := ((i0 &&& (2147483647 : Int32)) - ((i0 &&& (2147483647 : Int32)) / (26 : Int32)) * (26 : Int32))) (v := (.ref w2)) (by rw [e0]; exact Ar_o1.1) (State.isArrayOf_alike hZ.alike Ar_o1.2.1) rfl Ar_o1.2.2 hin192 hat192 (g := (mkF m 192 #[.val (.int i0), .val (.ref o1), .val (.int ((i0 &&& (2147483647 : Int32)) - ((i0 &&& (2147483647 : Int32)) / (26 : Int32)) * (26 : Int32))), s3, s4, s5] [(.int ((i0 &&& (2147483647 : Int32)) - ((i0 &&& (2147483647 : Int32)) / (26 : Int32)) * (26 : Int32))), (.ref o1)])) rfl rfl (hb hby at_192) _ ?_
  show Steps p.tables e below (T0.setTop (mkF m 193 #[.val (.int i0), .val (.ref o1), .val (.int ((i0 &&& (2147483647 : Int32)) - ((i0 &&& (2147483647 : Int32)) / (26 : Int32)) * (26 : Int32))), s3, s4, s5] [(.ref w2)])) _
  refine XS.astoreN X0.here hx rfl (hb hby at_193) rfl rfl (l' := #[.val (.int i0), .val (.ref o1), .val (.int ((i0 &&& (2147483647 : Int32)) - ((i0 &&& (2147483647 : Int32)) / (26 : Int32)) * (26 : Int32))), .val (.ref w2), s4, s5]) (os0_193 hs3) ?_
  show Steps p.tables e below (T0.setTop (mkF m 194 #[.val (.int i0), .val (.ref o1), .val (.int ((i0 &&& (2147483647 : Int32)) - ((i0 &&& (2147483647 : Int32)) / (26 : Int32)) * (26 : Int32))), .val (.ref w2), s4, s5] [])) _
  refine XS.iloadN X0.here hx rfl (hb hby at_194) rfl ?_
  show Steps p.tables e below (T0.setTop (mkF m 195 #[.val (.int i0), .val (.ref o1), .val (.int ((i0 &&& (2147483647 : Int32)) - ((i0 &&& (2147483647 : Int32)) / (26 : Int32)) * (26 : Int32))), .val (.ref w2), s4, s5] [(.int ((i0 &&& (2147483647 : Int32)) - ((i0 &&& (2147483647 : Int32)) / (26 : Int32)) * (26 : Int32)))])) _
  refine XS.bipush X0.here hx rfl (hb hby at_195) ?_
  show Steps p.tables e below (T0.setTop (mkF m 197 #[.val (.int i0), .val (.ref o1), .val (.int ((i0 &&& (2147483647 : Int32)) - ((i0 &&& (2147483647 : Int32)) / (26 : Int32)) * (26 : Int32))), .val (.ref w2), s4, s5] [(.int (18 : Int32)), (.int ((i0 &&& (2147483647 : Int32)) - ((i0 &&& (2147483647 : Int32)) / (26 : Int32)) * (26 : Int32)))])) _
  refine XS.icmpNo X0.here hx rfl (hb hby at_197) rfl (feq hc197).1 ?_
  show Steps p.tables e below (T0.setTop (mkF m 200 #[.val (.int i0), .val (.ref o1), .val (.int ((i0 &&& (2147483647 : Int32)) - ((i0 &&& (2147483647 : Int32)) / (26 : Int32)) * (26 : Int32))), .val (.ref w2), s4, s5] [])) _
  refine XS.iloadN X0.here hx rfl (hb hby at_200) rfl ?_
  show Steps p.tables e below (T0.setTop (mkF m 201 #[.val (.int i0), .val (.ref o1), .val (.int ((i0 &&& (2147483647 : Int32)) - ((i0 &&& (2147483647 : Int32)) / (26 : Int32)) * (26 : Int32))), .val (.ref w2), s4, s5] [(.int ((i0 &&& (2147483647 : Int32)) - ((i0 &&& (2147483647 : Int32)) / (26 : Int32)) * (26 : Int32)))])) _
  refine XS.bipush X0.here hx rfl (hb hby at_201) ?_
  show Steps p.tables e below (T0.setTop (mkF m 203 #[.val (.int i0), .val (.ref o1), .val (.int ((i0 &&& (2147483647 : Int32)) - ((i0 &&& (2147483647 : Int32)) / (26 : Int32)) * (26 : Int32))), .val (.ref w2), s4, s5] [(.int (19 : Int32)), (.int ((i0 &&& (2147483647 : Int32)) - ((i0 &&& (2147483647 : Int32)) / (26 : Int32)) * (26 : Int32)))])) _
  refine XS.icmpNo X0.here hx rfl (hb hby at_203) rfl (teq hc203).2 ?_
  show Steps p.tables e below (T0.setTop (mkF m 206 #[.val (.int i0), .val (.ref o1), .val (.int ((i0 &&& (2147483647 : Int32)) - ((i0 &&& (2147483647 : Int32)) / (26 : Int32)) * (26 : Int32))), .val (.ref w2), s4, s5] [])) _
  refine XS.iconst X0.here hx rfl (hb hby at_206) ?_
  show Steps p.tables e below (T0.setTop (mkF m 207 #[.val (.int i0), .val (.ref o1), .val (.int ((i0 &&& (2147483647 : Int32)) - ((i0 &&& (2147483647 : Int32)) / (26 : Int32)) * (26 : Int32))), .val (.ref w2), s4, s5] [(.int (1 : Int32))])) _
  refine XS.goto X0.here hx rfl (pc0 := 207) (pc' := 211) rfl (hb hby at_207) (by decide) (by decide) ?_
  show Steps p.tables e below (T0.setTop (mkF m 211 #[.val (.int i0), .val (.ref o1), .val (.int ((i0 &&& (2147483647 : Int32)) - ((i0 &&& (2147483647 : Int32)) / (26 : Int32)) * (26 : Int32))), .val (.ref w2), s4, s5] [(.int (1 : Int32))])) _
  refine XS.istore X0.here hx rfl (hb hby at_211) rfl (l' := #[.val (.int i0), .val (.ref o1), .val (.int ((i0 &&& (2147483647 : Int32)) - ((i0 &&& (2147483647 : Int32)) / (26 : Int32)) * (26 : Int32))), .val (.ref w2), .val (.int (1 : Int32)), s5]) (os0_211 hs4) ?_
  show Steps p.tables e below (T0.setTop (mkF m 213 #[.val (.int i0), .val (.ref o1), .val (.int ((i0 &&& (2147483647 : Int32)) - ((i0 &&& (2147483647 : Int32)) / (26 : Int32)) * (26 : Int32))), .val (.ref w2), .val (.int (1 : Int32)), s5] [])) _
  refine XS.aloadN X0.here hx rfl (hb hby at_213) rfl rfl ?_
  show Steps p.tables e below (T0.setTop (mkF m 214 #[.val (.int i0), .val (.ref o1), .val (.int ((i0 &&& (2147483647 : Int32)) - ((i0 &&& (2147483647 : Int32)) / (26 : Int32)) * (26 : Int32))), .val (.ref w2), .val (.int (1 : Int32)), s5] [(.ref w2)])) _
  refine st3.trans ?_
  show Steps p.tables e below (T3.setTop (mkF m 217 #[.val (.int i0), .val (.ref o1), .val (.int ((i0 &&& (2147483647 : Int32)) - ((i0 &&& (2147483647 : Int32)) / (26 : Int32)) * (26 : Int32))), .val (.ref w2), .val (.int (1 : Int32)), s5] [(.int g)])) _
  refine XS.istore X3.here hx rfl (hb hby at_217) rfl (l' := #[.val (.int i0), .val (.ref o1), .val (.int ((i0 &&& (2147483647 : Int32)) - ((i0 &&& (2147483647 : Int32)) / (26 : Int32)) * (26 : Int32))), .val (.ref w2), .val (.int (1 : Int32)), .val (.int g)]) (os0_217 hs5) ?_
  show Steps p.tables e below (T3.setTop (mkF m 219 #[.val (.int i0), .val (.ref o1), .val (.int ((i0 &&& (2147483647 : Int32)) - ((i0 &&& (2147483647 : Int32)) / (26 : Int32)) * (26 : Int32))), .val (.ref w2), .val (.int (1 : Int32)), .val (.int g)] [])) _
  refine XS.iload X3.here hx rfl (hb hby at_219) rfl ?_
  show Steps p.tables e below (T3.setTop (mkF m 221 #[.val (.int i0), .val (.ref o1), .val (.int ((i0 &&& (2147483647 : Int32)) - ((i0 &&& (2147483647 : Int32)) / (26 : Int32)) * (26 : Int32))), .val (.ref w2), .val (.int (1 : Int32)), .val (.int g)] [(.int g)])) _
  refine XS.iload X3.here hx rfl (hb hby at_221) rfl ?_
  show Steps p.tables e below (T3.setTop (mkF m 223 #[.val (.int i0), .val (.ref o1), .val (.int ((i0 &&& (2147483647 : Int32)) - ((i0 &&& (2147483647 : Int32)) / (26 : Int32)) * (26 : Int32))), .val (.ref w2), .val (.int (1 : Int32)), .val (.int g)] [(.int (1 : Int32)), (.int g)])) _
  refine XS.icmpYes X3.here hx rfl (pc0 := 223) (pc' := 228) rfl (hb hby at_223) rfl (teq hc223).1 (by decide) (by decide) ?_
  show Steps p.tables e below (T3.setTop (mkF m 228 #[.val (.int i0), .val (.ref o1), .val (.int ((i0 &&& (2147483647 : Int32)) - ((i0 &&& (2147483647 : Int32)) / (26 : Int32)) * (26 : Int32))), .val (.ref w2), .val (.int (1 : Int32)), .val (.int g)] [])) _
  refine XS.iload X3.here hx rfl (hb hby at_228) rfl ?_
  show Steps p.tables e below (T3.setTop (mkF m 230 #[.val (.int i0), .val (.ref o1), .val (.int ((i0 &&& (2147483647 : Int32)) - ((i0 &&& (2147483647 : Int32)) / (26 : Int32)) * (26 : Int32))), .val (.ref w2), .val (.int (1 : Int32)), .val (.int g)] [(.int g)])) _
  refine XS.ifNo X3.here hx rfl (hb hby at_230) rfl ((if0 _ _).trans (feq hc230).1) ?_
  show Steps p.tables e below (T3.setTop (mkF m 233 #[.val (.int i0), .val (.ref o1), .val (.int ((i0 &&& (2147483647 : Int32)) - ((i0 &&& (2147483647 : Int32)) / (26 : Int32)) * (26 : Int32))), .val (.ref w2), .val (.int (1 : Int32)), .val (.int g)] [])) _
  refine XS.aloadN X3.here hx rfl (hb hby at_233) rfl rfl ?_
  show Steps p.tables e below (T3.setTop (mkF m 234 #[.val (.int i0), .val (.ref o1), .val (.int ((i0 &&& (2147483647 : Int32)) - ((i0 &&& (2147483647 : Int32)) / (26 : Int32)) * (26 : Int32))), .val (.ref w2), .val (.int (1 : Int32)), .val (.int g)] [(.ref w2)])) _
  refine st4.trans ?_
  show Steps p.tables e below (T4.setTop (mkF m 237 #[.val (.int i0), .val (.ref o1), .val (.int ((i0 &&& (2147483647 : Int32)) - ((i0 &&& (2147483647 : Int32)) / (26 : Int32)) * (26 : Int32))), .val (.ref w2), .val (.int (1 : Int32)), .val (.int g)] [(.int k)])) _
  refine XS.iconst X4.here hx rfl (hb hby at_237) ?_
  show Steps p.tables e below (T4.setTop (mkF m 238 #[.val (.int i0), .val (.ref o1), .val (.int ((i0 &&& (2147483647 : Int32)) - ((i0 &&& (2147483647 : Int32)) / (26 : Int32)) * (26 : Int32))), .val (.ref w2), .val (.int (1 : Int32)), .val (.int g)] [(.int (1 : Int32)), (.int k)])) _
  refine XS.icmpYes X4.here hx rfl (pc0 := 238) (pc' := 243) rfl (hb hby at_238) rfl (teq hc238).1 (by decide) (by decide) ?_
  exact kt
set_option maxRecDepth 65536 in
set_option maxHeartbeats 40000000 in
theorem tn0c {p : Program} {l : Launch} {e : Env} {s : State} {m : MethodId} {args : Array Value} {below : List Frame} {meth : Method} {c : Code} {T0 : State} {locs : List Loc} {n0 : Nat} {Z : State} {a0 : Array Value} {h0 : Heap} (i0 : Int32) (o1 : Addr) (s2 : Slot) (s3 : Slot) (s4 : Slot) (s5 : Slot) (g : Int32) (w2 : Addr) (cl_o1 : Cell)
    (X0 : Stand p l e room_1 s m args below meth c T0 locs 1 26) (hx : p.tables.exec = Jvm.exec) (hZ : Z.Warmed39 s.vm) (hw : ∀ d ∈ tables_1, d.before a0 Z = true) (hby : c.code = code) (hml : c.maxLocals = 6) (hown : s.vm.findClass "com/example/huron/huron/support/KeywordTakesCollectionPinLaw" = some m.cls) (e0 : T0.heap = h0) (N0 : Fr n0 locs) (P1 : (OwnPure l Z h0 n0 (⟨"com/example/huron/huron/support/Keyword", "takesCollection", "()Z"⟩ : MethodName) prog_39_method_8_code 1 (some .boolean) ({ frames := 0, cells := 0, slots := 0, locals := 0 } : Room) #[(.ref w2)] (.int g))) (hs2 : One s2) (Ar_o1 : Arr Z h0 o1 cl_o1 (.object "com/example/huron/huron/support/Keyword")) (hin192 : ¬ (((i0 &&& (2147483647 : Int32)) - ((i0 &&& (2147483647 : Int32)) / (26 : Int32)) * (26 : Int32)) < 0 ∨ cl_o1.slots.size ≤ (((i0 &&& (2147483647 : Int32)) - ((i0 &&& (2147483647 : Int32)) / (26 : Int32)) * (26 : Int32))).toNatClampNeg)) (hat192 : cl_o1.slots[(((i0 &&& (2147483647 : Int32)) - ((i0 &&& (2147483647 : Int32)) / (26 : Int32)) * (26 : Int32))).toNatClampNeg]? = some (.ref w2)) (hs3 : One s3) (hs4 : One s4) (E_w2 : Exa Z h0 w2 "com/example/huron/huron/support/Keyword") (hs5 : One s5) (hc197 : ¬ (((i0 &&& (2147483647 : Int32)) - ((i0 &&& (2147483647 : Int32)) / (26 : Int32)) * (26 : Int32)) = (18 : Int32))) (hc203 : ¬ (((i0 &&& (2147483647 : Int32)) - ((i0 &&& (2147483647 : Int32)) / (26 : Int32)) * (26 : Int32)) = (19 : Int32))) (hc223 : g = (0 : Int32)) (hc230 : g = (0 : Int32)) :
    ∃ (T' : State) (locs' : List Loc), Stand p l e room_1 s m args below meth c T' locs' 1 26 ∧ T'.heap = h0 ∧ Fr n0 locs' ∧
      ∀ target, Steps p.tables e below (T'.setTop (mkF m 243 #[.val (.int i0), .val (.ref o1), .val (.int ((i0 &&& (2147483647 : Int32)) - ((i0 &&& (2147483647 : Int32)) / (26 : Int32)) * (26 : Int32))), .val (.ref w2), .val (.int (0 : Int32)), .val (.int g)] [])) target → Steps p.tables e below (T0.setTop (mkF m 182 #[.val (.int i0), .val (.ref o1), s2, s3, s4, s5] [])) target := by
  obtain ⟨cq3, kq3, q3a, q3b, q3c⟩ := isOf hZ e0 E_w2
  obtain ⟨_, _, ⟨T3, L3, k3, n3⟩, -, X3, ⟨Lc3, hQ3, l3, y3, z3⟩, st3⟩ := X0.virtualBack hx (y := (⟨"com/example/huron/huron/support/Keyword", "takesCollection", "()Z"⟩ : MethodName)) (z := (⟨"com/example/huron/huron/support/Keyword", "takesCollection", "()Z"⟩ : MethodName)) hown (mvT hZ (hw _ (List.mem_of_getElem? (i := 57) rfl))) (mvT hZ (hw _ (List.mem_of_getElem? (i := 58) rfl))) (notFace_of_selects (args := #[]) (mvT hZ (hw _ (List.mem_of_getElem? (i := 60) rfl)))) (mvT hZ (hw _ (List.mem_of_getElem? (i := 60) rfl))) (mvT hZ (hw _ (List.mem_of_getElem? (i := 59) rfl))) (by decide) (backOf (W := 0) (P1 []) hZ (hw _ (List.mem_of_getElem? (i := 61) rfl)) (hw _ (List.mem_of_getElem? (i := 3) rfl)) (by decide) (by decide)) q3a q3c (g := (mkF m 214 #[.val (.int i0), .val (.ref o1), .val (.int ((i0 &&& (2147483647 : Int32)) - ((i0 &&& (2147483647 : Int32)) / (26 : Int32)) * (26 : Int32))), .val (.ref w2), .val (.int (0 : Int32)), s5] [(.ref w2)])) rfl (by rw [hml]; rfl) (Steps.refl _) (argsL := []) (rest := []) (lenOf pd_0_0 rfl) rfl (by show 2 * 0 + _ ≤ _; exact Nat.le_of_eq rfl) (hb hby at_214) (fun _ _ => ⟨rfl, e0, (by decide : 1 + 0 ≤ _), (by decide : 26 + 0 ≤ _)⟩)
  dsimp only [Pt.U, Pt.locs, Pt.cells, Pt.slots] at X3 l3 y3 z3 st3 hQ3
  subst l3 y3 z3
  obtain ⟨rfl, N3q, e3⟩ := hQ3
  have N3 := Fr.app N0 N3q
  refine ⟨T3, _, X3, e3, N3, fun target kt => ?_⟩
  show Steps p.tables e below (T0.setTop (mkF m 182 #[.val (.int i0), .val (.ref o1), s2, s3, s4, s5] [])) _
  refine XS.iloadN X0.here hx rfl (hb hby at_182) rfl ?_
  show Steps p.tables e below (T0.setTop (mkF m 183 #[.val (.int i0), .val (.ref o1), s2, s3, s4, s5] [(.int i0)])) _
  refine X0.ldcInt hx hown (mvT hZ (hw _ (List.mem_of_getElem? (i := 56) rfl))) (g := (mkF m 183 #[.val (.int i0), .val (.ref o1), s2, s3, s4, s5] [(.int i0)])) rfl (hb hby at_183) _ ?_
  show Steps p.tables e below (T0.setTop (mkF m 185 #[.val (.int i0), .val (.ref o1), s2, s3, s4, s5] [(.int (2147483647 : Int32)), (.int i0)])) _
  refine XS.iand X0.here hx rfl (hb hby at_185) rfl ?_
  show Steps p.tables e below (T0.setTop (mkF m 186 #[.val (.int i0), .val (.ref o1), s2, s3, s4, s5] [(.int (i0 &&& (2147483647 : Int32)))])) _
  refine XS.bipush X0.here hx rfl (hb hby at_186) ?_
  show Steps p.tables e below (T0.setTop (mkF m 188 #[.val (.int i0), .val (.ref o1), s2, s3, s4, s5] [(.int (26 : Int32)), (.int (i0 &&& (2147483647 : Int32)))])) _
  refine XS.irem X0.here hx rfl (hb hby at_188) rfl (by decide) ?_
  show Steps p.tables e below (T0.setTop (mkF m 189 #[.val (.int i0), .val (.ref o1), s2, s3, s4, s5] [(.int ((i0 &&& (2147483647 : Int32)) - ((i0 &&& (2147483647 : Int32)) / (26 : Int32)) * (26 : Int32)))])) _
  refine XS.istoreN X0.here hx rfl (hb hby at_189) rfl (l' := #[.val (.int i0), .val (.ref o1), .val (.int ((i0 &&& (2147483647 : Int32)) - ((i0 &&& (2147483647 : Int32)) / (26 : Int32)) * (26 : Int32))), s3, s4, s5]) (os0_189 hs2) ?_
  show Steps p.tables e below (T0.setTop (mkF m 190 #[.val (.int i0), .val (.ref o1), .val (.int ((i0 &&& (2147483647 : Int32)) - ((i0 &&& (2147483647 : Int32)) / (26 : Int32)) * (26 : Int32))), s3, s4, s5] [])) _
  refine XS.aloadN X0.here hx rfl (hb hby at_190) rfl rfl ?_
  show Steps p.tables e below (T0.setTop (mkF m 191 #[.val (.int i0), .val (.ref o1), .val (.int ((i0 &&& (2147483647 : Int32)) - ((i0 &&& (2147483647 : Int32)) / (26 : Int32)) * (26 : Int32))), s3, s4, s5] [(.ref o1)])) _
  refine XS.iloadN X0.here hx rfl (hb hby at_191) rfl ?_
  show Steps p.tables e below (T0.setTop (mkF m 192 #[.val (.int i0), .val (.ref o1), .val (.int ((i0 &&& (2147483647 : Int32)) - ((i0 &&& (2147483647 : Int32)) / (26 : Int32)) * (26 : Int32))), s3, s4, s5] [(.int ((i0 &&& (2147483647 : Int32)) - ((i0 &&& (2147483647 : Int32)) / (26 : Int32)) * (26 : Int32))), (.ref o1)])) _
  refine X0.aaload hx (j := ((i0 &&& (2147483647 : Int32)) - ((i0 &&& (2147483647 : Int32)) / (26 : Int32)) * (26 : Int32))) (v := (.ref w2)) (by rw [e0]; exact Ar_o1.1) (State.isArrayOf_alike hZ.alike Ar_o1.2.1) rfl Ar_o1.2.2 hin192 hat192 (g := (mkF m 192 #[.val (.int i0), .val (.ref o1), .val (.int ((i0 &&& (2147483647 : Int32)) - ((i0 &&& (2147483647 : Int32)) / (26 : Int32)) * (26 : Int32))), s3, s4, s5] [(.int ((i0 &&& (2147483647 : Int32)) - ((i0 &&& (2147483647 : Int32)) / (26 : Int32)) * (26 : Int32))), (.ref o1)])) rfl rfl (hb hby at_192) _ ?_
  show Steps p.tables e below (T0.setTop (mkF m 193 #[.val (.int i0), .val (.ref o1), .val (.int ((i0 &&& (2147483647 : Int32)) - ((i0 &&& (2147483647 : Int32)) / (26 : Int32)) * (26 : Int32))), s3, s4, s5] [(.ref w2)])) _
  refine XS.astoreN X0.here hx rfl (hb hby at_193) rfl rfl (l' := #[.val (.int i0), .val (.ref o1), .val (.int ((i0 &&& (2147483647 : Int32)) - ((i0 &&& (2147483647 : Int32)) / (26 : Int32)) * (26 : Int32))), .val (.ref w2), s4, s5]) (os0_193 hs3) ?_
  show Steps p.tables e below (T0.setTop (mkF m 194 #[.val (.int i0), .val (.ref o1), .val (.int ((i0 &&& (2147483647 : Int32)) - ((i0 &&& (2147483647 : Int32)) / (26 : Int32)) * (26 : Int32))), .val (.ref w2), s4, s5] [])) _
  refine XS.iloadN X0.here hx rfl (hb hby at_194) rfl ?_
  show Steps p.tables e below (T0.setTop (mkF m 195 #[.val (.int i0), .val (.ref o1), .val (.int ((i0 &&& (2147483647 : Int32)) - ((i0 &&& (2147483647 : Int32)) / (26 : Int32)) * (26 : Int32))), .val (.ref w2), s4, s5] [(.int ((i0 &&& (2147483647 : Int32)) - ((i0 &&& (2147483647 : Int32)) / (26 : Int32)) * (26 : Int32)))])) _
  refine XS.bipush X0.here hx rfl (hb hby at_195) ?_
  show Steps p.tables e below (T0.setTop (mkF m 197 #[.val (.int i0), .val (.ref o1), .val (.int ((i0 &&& (2147483647 : Int32)) - ((i0 &&& (2147483647 : Int32)) / (26 : Int32)) * (26 : Int32))), .val (.ref w2), s4, s5] [(.int (18 : Int32)), (.int ((i0 &&& (2147483647 : Int32)) - ((i0 &&& (2147483647 : Int32)) / (26 : Int32)) * (26 : Int32)))])) _
  refine XS.icmpNo X0.here hx rfl (hb hby at_197) rfl (feq hc197).1 ?_
  show Steps p.tables e below (T0.setTop (mkF m 200 #[.val (.int i0), .val (.ref o1), .val (.int ((i0 &&& (2147483647 : Int32)) - ((i0 &&& (2147483647 : Int32)) / (26 : Int32)) * (26 : Int32))), .val (.ref w2), s4, s5] [])) _
  refine XS.iloadN X0.here hx rfl (hb hby at_200) rfl ?_
  show Steps p.tables e below (T0.setTop (mkF m 201 #[.val (.int i0), .val (.ref o1), .val (.int ((i0 &&& (2147483647 : Int32)) - ((i0 &&& (2147483647 : Int32)) / (26 : Int32)) * (26 : Int32))), .val (.ref w2), s4, s5] [(.int ((i0 &&& (2147483647 : Int32)) - ((i0 &&& (2147483647 : Int32)) / (26 : Int32)) * (26 : Int32)))])) _
  refine XS.bipush X0.here hx rfl (hb hby at_201) ?_
  show Steps p.tables e below (T0.setTop (mkF m 203 #[.val (.int i0), .val (.ref o1), .val (.int ((i0 &&& (2147483647 : Int32)) - ((i0 &&& (2147483647 : Int32)) / (26 : Int32)) * (26 : Int32))), .val (.ref w2), s4, s5] [(.int (19 : Int32)), (.int ((i0 &&& (2147483647 : Int32)) - ((i0 &&& (2147483647 : Int32)) / (26 : Int32)) * (26 : Int32)))])) _
  refine XS.icmpYes X0.here hx rfl (pc0 := 203) (pc' := 210) rfl (hb hby at_203) rfl (feq hc203).2 (by decide) (by decide) ?_
  show Steps p.tables e below (T0.setTop (mkF m 210 #[.val (.int i0), .val (.ref o1), .val (.int ((i0 &&& (2147483647 : Int32)) - ((i0 &&& (2147483647 : Int32)) / (26 : Int32)) * (26 : Int32))), .val (.ref w2), s4, s5] [])) _
  refine XS.iconst X0.here hx rfl (hb hby at_210) ?_
  show Steps p.tables e below (T0.setTop (mkF m 211 #[.val (.int i0), .val (.ref o1), .val (.int ((i0 &&& (2147483647 : Int32)) - ((i0 &&& (2147483647 : Int32)) / (26 : Int32)) * (26 : Int32))), .val (.ref w2), s4, s5] [(.int (0 : Int32))])) _
  refine XS.istore X0.here hx rfl (hb hby at_211) rfl (l' := #[.val (.int i0), .val (.ref o1), .val (.int ((i0 &&& (2147483647 : Int32)) - ((i0 &&& (2147483647 : Int32)) / (26 : Int32)) * (26 : Int32))), .val (.ref w2), .val (.int (0 : Int32)), s5]) (os0_211 hs4) ?_
  show Steps p.tables e below (T0.setTop (mkF m 213 #[.val (.int i0), .val (.ref o1), .val (.int ((i0 &&& (2147483647 : Int32)) - ((i0 &&& (2147483647 : Int32)) / (26 : Int32)) * (26 : Int32))), .val (.ref w2), .val (.int (0 : Int32)), s5] [])) _
  refine XS.aloadN X0.here hx rfl (hb hby at_213) rfl rfl ?_
  show Steps p.tables e below (T0.setTop (mkF m 214 #[.val (.int i0), .val (.ref o1), .val (.int ((i0 &&& (2147483647 : Int32)) - ((i0 &&& (2147483647 : Int32)) / (26 : Int32)) * (26 : Int32))), .val (.ref w2), .val (.int (0 : Int32)), s5] [(.ref w2)])) _
  refine st3.trans ?_
  show Steps p.tables e below (T3.setTop (mkF m 217 #[.val (.int i0), .val (.ref o1), .val (.int ((i0 &&& (2147483647 : Int32)) - ((i0 &&& (2147483647 : Int32)) / (26 : Int32)) * (26 : Int32))), .val (.ref w2), .val (.int (0 : Int32)), s5] [(.int g)])) _
  refine XS.istore X3.here hx rfl (hb hby at_217) rfl (l' := #[.val (.int i0), .val (.ref o1), .val (.int ((i0 &&& (2147483647 : Int32)) - ((i0 &&& (2147483647 : Int32)) / (26 : Int32)) * (26 : Int32))), .val (.ref w2), .val (.int (0 : Int32)), .val (.int g)]) (os0_217 hs5) ?_
  show Steps p.tables e below (T3.setTop (mkF m 219 #[.val (.int i0), .val (.ref o1), .val (.int ((i0 &&& (2147483647 : Int32)) - ((i0 &&& (2147483647 : Int32)) / (26 : Int32)) * (26 : Int32))), .val (.ref w2), .val (.int (0 : Int32)), .val (.int g)] [])) _
  refine XS.iload X3.here hx rfl (hb hby at_219) rfl ?_
  show Steps p.tables e below (T3.setTop (mkF m 221 #[.val (.int i0), .val (.ref o1), .val (.int ((i0 &&& (2147483647 : Int32)) - ((i0 &&& (2147483647 : Int32)) / (26 : Int32)) * (26 : Int32))), .val (.ref w2), .val (.int (0 : Int32)), .val (.int g)] [(.int g)])) _
  refine XS.iload X3.here hx rfl (hb hby at_221) rfl ?_
  show Steps p.tables e below (T3.setTop (mkF m 223 #[.val (.int i0), .val (.ref o1), .val (.int ((i0 &&& (2147483647 : Int32)) - ((i0 &&& (2147483647 : Int32)) / (26 : Int32)) * (26 : Int32))), .val (.ref w2), .val (.int (0 : Int32)), .val (.int g)] [(.int (0 : Int32)), (.int g)])) _
  refine XS.icmpYes X3.here hx rfl (pc0 := 223) (pc' := 228) rfl (hb hby at_223) rfl (teq hc223).1 (by decide) (by decide) ?_
  show Steps p.tables e below (T3.setTop (mkF m 228 #[.val (.int i0), .val (.ref o1), .val (.int ((i0 &&& (2147483647 : Int32)) - ((i0 &&& (2147483647 : Int32)) / (26 : Int32)) * (26 : Int32))), .val (.ref w2), .val (.int (0 : Int32)), .val (.int g)] [])) _
  refine XS.iload X3.here hx rfl (hb hby at_228) rfl ?_
  show Steps p.tables e below (T3.setTop (mkF m 230 #[.val (.int i0), .val (.ref o1), .val (.int ((i0 &&& (2147483647 : Int32)) - ((i0 &&& (2147483647 : Int32)) / (26 : Int32)) * (26 : Int32))), .val (.ref w2), .val (.int (0 : Int32)), .val (.int g)] [(.int g)])) _
  refine XS.ifYes X3.here hx rfl (pc0 := 230) (pc' := 243) rfl (hb hby at_230) rfl ((if0 _ _).trans (teq hc230).1) (by decide) (by decide) ?_
  exact kt
theorem own_inj {i j : Nat} (hi : i < 26) (hj : j < 26) (h : Int32.ofNat i = Int32.ofNat j) : i = j := by
  have z := congrArg Int32.toNatClampNeg h
  rw [own_nat i (by omega), own_nat j (by omega)] at z
  exact z
theorem pn_0 : plainName "com/example/huron/huron/support/KeywordTakesCollectionPinLaw" = true := by first | (simp [plainName, overriddenIn]; done) | decide +kernel
theorem ef_0 (m : MethodId) (x0 : Int32) : entryFrame m #[(.int x0)] maxLocals = mkF m 0 #[.val (.int x0), .unset, .unset, .unset, .unset, .unset] [] := by first | (simp [entryFrame, mkF, argsToLocals, Value.category, maxLocals]; done) | rfl
def Q0 (n0 : Nat) (v : Option Value) (h : Heap) (L : List Loc) : Prop := v = some (.int (1 : Int32)) ∧ Fr n0 L
set_option maxRecDepth 65536 in
set_option maxHeartbeats 40000000 in
theorem rm0 (l : Launch) (Z : State) (a0 : Array Value) (hw : ∀ d ∈ tables_1, d.before a0 Z = true) (ws : List Jvm.Cond) (i0 : Int32) (wa : Nat → Addr) (pa : Nat → Int32) (j : Nat) (hj : j < 26) (hK : ((i0 &&& (2147483647 : Int32)) - ((i0 &&& (2147483647 : Int32)) / (26 : Int32)) * (26 : Int32)) = Int32.ofNat j) (h0 : Heap) (n0 : Nat) (Z0 : n0 ≤ h0.size) (hE : ∀ k, k < 26 → Exa Z h0 (wa k) "com/example/huron/huron/support/Keyword") (hd : ∀ k, k < 26 → (wa k = wa 18 ↔ k = 18) ∧ (wa k = wa 19 ↔ k = 19)) (hP : ∀ k, k < 26 → Fld Z h0 (wa k) "com/example/huron/huron/support/Keyword" "parameters" "I" (.int (pa k))) (hp : pa 18 = 1 ∧ pa 19 = 1) (S0 : Sta Z h0 "com/example/huron/huron/support/Keyword" "EQUALS" "Lcom/example/huron/huron/support/Keyword;" (.ref (wa 0))) (S1 : Sta Z h0 "com/example/huron/huron/support/Keyword" "NOT" "Lcom/example/huron/huron/support/Keyword;" (.ref (wa 1))) (S2 : Sta Z h0 "com/example/huron/huron/support/Keyword" "NULL" "Lcom/example/huron/huron/support/Keyword;" (.ref (wa 2))) (S3 : Sta Z h0 "com/example/huron/huron/support/Keyword" "NOT_NULL" "Lcom/example/huron/huron/support/Keyword;" (.ref (wa 3))) (S4 : Sta Z h0 "com/example/huron/huron/support/Keyword" "TRUE" "Lcom/example/huron/huron/support/Keyword;" (.ref (wa 4))) (S5 : Sta Z h0 "com/example/huron/huron/support/Keyword" "FALSE" "Lcom/example/huron/huron/support/Keyword;" (.ref (wa 5))) (S6 : Sta Z h0 "com/example/huron/huron/support/Keyword" "BETWEEN" "Lcom/example/huron/huron/support/Keyword;" (.ref (wa 6))) (S7 : Sta Z h0 "com/example/huron/huron/support/Keyword" "LESS_THAN" "Lcom/example/huron/huron/support/Keyword;" (.ref (wa 7))) (S8 : Sta Z h0 "com/example/huron/huron/support/Keyword" "LESS_THAN_EQUAL" "Lcom/example/huron/huron/support/Keyword;" (.ref (wa 8))) (S9 : Sta Z h0 "com/example/huron/huron/support/Keyword" "GREATER_THAN" "Lcom/example/huron/huron/support/Keyword;" (.ref (wa 9))) (S10 : Sta Z h0 "com/example/huron/huron/support/Keyword" "GREATER_THAN_EQUAL" "Lcom/example/huron/huron/support/Keyword;" (.ref (wa 10))) (S11 : Sta Z h0 "com/example/huron/huron/support/Keyword" "BEFORE" "Lcom/example/huron/huron/support/Keyword;" (.ref (wa 11))) (S12 : Sta Z h0 "com/example/huron/huron/support/Keyword" "AFTER" "Lcom/example/huron/huron/support/Keyword;" (.ref (wa 12))) (S13 : Sta Z h0 "com/example/huron/huron/support/Keyword" "LIKE" "Lcom/example/huron/huron/support/Keyword;" (.ref (wa 13))) (S14 : Sta Z h0 "com/example/huron/huron/support/Keyword" "NOT_LIKE" "Lcom/example/huron/huron/support/Keyword;" (.ref (wa 14))) (S15 : Sta Z h0 "com/example/huron/huron/support/Keyword" "STARTING_WITH" "Lcom/example/huron/huron/support/Keyword;" (.ref (wa 15))) (S16 : Sta Z h0 "com/example/huron/huron/support/Keyword" "ENDING_WITH" "Lcom/example/huron/huron/support/Keyword;" (.ref (wa 16))) (S17 : Sta Z h0 "com/example/huron/huron/support/Keyword" "CONTAINING" "Lcom/example/huron/huron/support/Keyword;" (.ref (wa 17))) (S18 : Sta Z h0 "com/example/huron/huron/support/Keyword" "IN" "Lcom/example/huron/huron/support/Keyword;" (.ref (wa 18))) (S19 : Sta Z h0 "com/example/huron/huron/support/Keyword" "NOT_IN" "Lcom/example/huron/huron/support/Keyword;" (.ref (wa 19))) (S20 : Sta Z h0 "com/example/huron/huron/support/Keyword" "MATCHES" "Lcom/example/huron/huron/support/Keyword;" (.ref (wa 20))) (S21 : Sta Z h0 "com/example/huron/huron/support/Keyword" "EXISTS" "Lcom/example/huron/huron/support/Keyword;" (.ref (wa 21))) (S22 : Sta Z h0 "com/example/huron/huron/support/Keyword" "EMPTY" "Lcom/example/huron/huron/support/Keyword;" (.ref (wa 22))) (S23 : Sta Z h0 "com/example/huron/huron/support/Keyword" "NOT_EMPTY" "Lcom/example/huron/huron/support/Keyword;" (.ref (wa 23))) (S24 : Sta Z h0 "com/example/huron/huron/support/Keyword" "NEAR" "Lcom/example/huron/huron/support/Keyword;" (.ref (wa 24))) (S25 : Sta Z h0 "com/example/huron/huron/support/Keyword" "WITHIN" "Lcom/example/huron/huron/support/Keyword;" (.ref (wa 25))) :
    MetFree l x (head1 (Jvm.Cond.code x code maxLocals ret :: ws) room_1) (fun a U => a = #[(.int i0)] ∧ Z.Warmed39 U.vm ∧ U.heap = h0) (fun _ _ _ _ _ => True) (fun _ U o U' => ∃ v L, o = .returned v ∧ Q0 n0 v U'.heap L ∧ FrameEnd U o U' L 1 26) := by
  refine MetFree.of_bodySF (plainFor_of_name pn_0) hisR ?_
  intro p e s m args below meth c s₁ Bd hml0 hP' hK'
  obtain ⟨rfl, hZ, hh⟩ := hP'
  have hx := Bd.exec
  have hby := Bd.bytes
  have hml : c.maxLocals = 6 := hml0
  have hown : s.vm.findClass "com/example/huron/huron/support/KeywordTakesCollectionPinLaw" = some m.cls := findClass_of_methodNamed Bd.named
  have X0 : Stand p l e room_1 s m #[(.int i0)] below meth c s₁ [] 0 0 := Stand.of_body Bd
  have e0 : s₁.heap = h0 := by rw [← hh, Bd.state]; rfl
  have pre0 : ∀ t, Steps p.tables e below (s₁.setTop (mkF m 0 #[.val (.int i0), .unset, .unset, .unset, .unset, .unset] [])) t → Steps p.tables e below (s₁.setTop (entryFrame m #[(.int i0)] maxLocals)) t := fun t k => castTop (ef_0 m i0) k
  obtain ⟨T1, h1, kA, X1, e1, E1, A1, O1, st1⟩ := newR X0 hx hZ hown (hw _ (List.mem_of_getElem? (i := 0) rfl)) (hw _ (List.mem_of_getElem? (i := 1) rfl)) e0 (g := (mkF m 2 #[.val (.int i0), .unset, .unset, .unset, .unset, .unset] [(.int (26 : Int32))])) rfl (hb hby at_2) rfl (by decide) (cap := 26) (by decide) (by decide) (by decide) (by decide)
  obtain ⟨arr, ga⟩ : ∃ z, z = h0.size := ⟨_, rfl⟩
  rw [← ga] at A1 st1
  have hn : n0 ≤ arr := by rw [ga]; exact Z0
  have I0 : OwnInv Z h1 arr kA n0 wa 0 h1 [] := ⟨⟨_, A1, rfl, sz_new _ _ _, fun k hk => absurd hk (Nat.not_lt_zero k)⟩, fun _ _ _ _ F => F, fun _ _ F => F, fun _ _ _ _ _ _ F => F, Fr.nil n0⟩
  have hne : ∀ k, k < 26 → wa k ≠ arr := fun k hk => Nat.ne_of_lt (Nat.lt_of_lt_of_le (hE k hk).lt (Nat.le_of_eq ga.symm))
  obtain ⟨T2, h2, locs2, X2, e2, I2, st2⟩ := own_fill i0 X1 hx hZ hw hby hown e1 hn I0 O1 (fun k hk => (hE k hk).ext E1) (S0.ext E1) (S1.ext E1) (S2.ext E1) (S3.ext E1) (S4.ext E1) (S5.ext E1) (S6.ext E1) (S7.ext E1) (S8.ext E1) (S9.ext E1) (S10.ext E1) (S11.ext E1) (S12.ext E1) (S13.ext E1) (S14.ext E1) (S15.ext E1) (S16.ext E1) (S17.ext E1) (S18.ext E1) (S19.ext E1) (S20.ext E1) (S21.ext E1) (S22.ext E1) (S23.ext E1) (S24.ext E1) (S25.ext E1)
  obtain ⟨⟨cl, A, hc, hs, hel⟩, kS, kE, kF, N⟩ := I2
  have eE : ∀ k, k < 26 → Exa Z h2 (wa k) "com/example/huron/huron/support/Keyword" := fun k hk => kE _ _ ((hE k hk).ext E1)
  have fP : ∀ k, k < 26 → Fld Z h2 (wa k) "com/example/huron/huron/support/Keyword" "parameters" "I" (.int (pa k)) := fun k hk => kF _ _ _ _ _ (hne k hk) ((hP k hk).ext E1)
  have sI : Sta Z h2 "com/example/huron/huron/support/Keyword" "IN" "Lcom/example/huron/huron/support/Keyword;" (.ref (wa 18)) := kS _ _ _ _ (S18.ext E1)
  have sN : Sta Z h2 "com/example/huron/huron/support/Keyword" "NOT_IN" "Lcom/example/huron/huron/support/Keyword;" (.ref (wa 19)) := kS _ _ _ _ (S19.ext E1)
  have Z2 : n0 ≤ h2.size := Nat.le_trans hn (Nat.le_of_lt A.lt)
  have hnat : (Int32.ofNat j).toNatClampNeg = j := own_nat j (by omega)
  have hin : ¬ (((i0 &&& (2147483647 : Int32)) - ((i0 &&& (2147483647 : Int32)) / (26 : Int32)) * (26 : Int32)) < 0 ∨ cl.slots.size ≤ (((i0 &&& (2147483647 : Int32)) - ((i0 &&& (2147483647 : Int32)) / (26 : Int32)) * (26 : Int32))).toNatClampNeg) := by
    rw [hK, hnat]
    intro q
    rcases q with q | q
    · exact own_nn (by omega) q
    · omega
  have hat : cl.slots[(((i0 &&& (2147483647 : Int32)) - ((i0 &&& (2147483647 : Int32)) / (26 : Int32)) * (26 : Int32))).toNatClampNeg]? = some (.ref (wa j)) := by rw [hK, hnat]; exact hel j hj
  have key : ∃ (T' : State) (locs' : List Loc) (Ls : Array Slot), Stand p l e room_1 s m #[(.int i0)] below meth c T' locs' 1 26 ∧ Fr n0 locs' ∧ ∀ target, Steps p.tables e below (T'.setTop (mkF m 243 Ls [])) target → Steps p.tables e below (T2.setTop (mkF m 182 #[.val (.int i0), .val (.ref arr), .unset, .unset, .unset, .unset] [])) target := by
    by_cases q18 : j = 18
    · subst q18
      obtain ⟨T3, locs3, X3, e3, N3, st3⟩ := tn0a i0 arr .unset .unset .unset .unset 1 (pa 18) (wa 18) cl X2 hx hZ hw hby hml hown e2 N (fun ws => rm1a l Z _ hw ws (wa 18) (wa 18) h2 n0 Z2 sI rfl) (fun ws => rm2 l Z _ hw ws (wa 18) (pa 18) h2 n0 Z2 (fP 18 hj)) One.u A hin hat One.u One.u (eE 18 hj) One.u hK rfl (by decide) hp.1
      exact ⟨T3, locs3, _, X3, N3, st3⟩
    · by_cases q19 : j = 19
      · subst q19
        obtain ⟨T3, locs3, X3, e3, N3, st3⟩ := tn0b i0 arr .unset .unset .unset .unset 1 (pa 19) (wa 19) cl X2 hx hZ hw hby hml hown e2 N (fun ws => rm1b l Z _ hw ws (wa 19) (wa 18) (wa 19) h2 n0 Z2 sI sN (fun q => absurd ((hd 19 hj).1.mp q) (by decide)) rfl) (fun ws => rm2 l Z _ hw ws (wa 19) (pa 19) h2 n0 Z2 (fP 19 hj)) One.u A hin hat One.u One.u (eE 19 hj) One.u (by rw [hK]; decide) hK rfl (by decide) hp.2
        exact ⟨T3, locs3, _, X3, N3, st3⟩
      · have k18 : ¬ (((i0 &&& (2147483647 : Int32)) - ((i0 &&& (2147483647 : Int32)) / (26 : Int32)) * (26 : Int32)) = (18 : Int32)) := fun q => q18 (own_inj hj (by decide) (hK.symm.trans q))
        have k19 : ¬ (((i0 &&& (2147483647 : Int32)) - ((i0 &&& (2147483647 : Int32)) / (26 : Int32)) * (26 : Int32)) = (19 : Int32)) := fun q => q19 (own_inj hj (by decide) (hK.symm.trans q))
        obtain ⟨T3, locs3, X3, e3, N3, st3⟩ := tn0c i0 arr .unset .unset .unset .unset 0 (wa j) cl X2 hx hZ hw hby hml hown e2 N (fun ws => rm1c l Z _ hw ws (wa j) (wa 18) (wa 19) h2 n0 Z2 sI sN (fun q => q18 ((hd j hj).1.mp q)) (fun q => q19 ((hd j hj).2.mp q))) One.u A hin hat One.u One.u (eE j hj) One.u k18 k19 rfl rfl
        exact ⟨T3, locs3, _, X3, N3, st3⟩
  obtain ⟨T3, locs3, Ls, X3, N3, st3⟩ := key
  obtain ⟨fs, hr, hrun, hended, hW, hsame⟩ := X3.leave (v := some (.int (1 : Int32))) (fun h => by rw [Bd.returns] at h; cases h)
  refine ⟨_, _, pre0 _ ?_, hrun, hended, _, _, rfl, ?_, ⟨_, rfl⟩, hW, hsame.mono (by decide) (by decide)⟩
  · show Steps p.tables e below (s₁.setTop (mkF m 0 #[.val (.int i0), .unset, .unset, .unset, .unset, .unset] [])) _
    refine XS.bipush X0.here hx rfl (hb hby at_0) ?_
    show Steps p.tables e below (s₁.setTop (mkF m 2 #[.val (.int i0), .unset, .unset, .unset, .unset, .unset] [(.int (26 : Int32))])) _
    refine st1 _ ?_
    show Steps p.tables e below (T1.setTop (mkF m 5 #[.val (.int i0), .unset, .unset, .unset, .unset, .unset] [(.ref arr)])) _
    refine st2 _ ?_
    show Steps p.tables e below (T2.setTop (mkF m 181 #[.val (.int i0), .unset, .unset, .unset, .unset, .unset] [(.ref arr)])) _
    refine XS.astoreN X2.here hx rfl (hb hby at_181) rfl rfl (l' := #[.val (.int i0), .val (.ref arr), .unset, .unset, .unset, .unset]) rfl ?_
    show Steps p.tables e below (T2.setTop (mkF m 182 #[.val (.int i0), .val (.ref arr), .unset, .unset, .unset, .unset] [])) _
    refine st3 _ ?_
    refine XS.iconst X3.here hx rfl (hb hby at_243) ?_
    show Steps p.tables e below (T3.setTop (mkF m 244 Ls [(.int (1 : Int32))])) _
    exact retN X3 hx (t := .boolean) Bd.returns (by simp) (hb hby at_244) hr
  · exact ⟨rfl, N3⟩
theorem own_cases (i0 : Int32) : ∃ j : Nat, j < 26 ∧ ((i0 &&& (2147483647 : Int32)) - ((i0 &&& (2147483647 : Int32)) / (26 : Int32)) * (26 : Int32)) = Int32.ofNat j := by
  have h := own_mod i0 26
  have h0 := own_low i0
  have h3 : (26 : Int32).toInt = 26 := rfl
  rw [h3] at h
  generalize ((i0 &&& (2147483647 : Int32)) - ((i0 &&& (2147483647 : Int32)) / (26 : Int32)) * (26 : Int32)) = k at h ⊢
  generalize (i0 &&& (2147483647 : Int32)).toInt = q at h h0
  refine ⟨k.toInt.toNat, by omega, ?_⟩
  apply own_of
  rw [Int32.toInt_ofNat_small (by omega)]
  omega
set_option maxRecDepth 65536 in
set_option maxHeartbeats 40000000 in
theorem comes_1 {Post : Tables → Env → Array Value → State → Outcome → State → Prop} (hpost : ∀ tb e args s v u, (limb_1_1.after args s (.returned v) u = true ∧ limb_1_2.after args s (.returned v) u = true ∧ True) → FrameEnd s (.returned v) u (Jvm.fieldLocs frame_1_writes args s ++ Jvm.arrayLocs frame_1_arrays args s ++ Jvm.staticLocs frame_1_statics s) 16 128 → Post tb e args s (.returned v) u) :
    ArmFor flags0 classFile x code maxLocals ret World_1 tables_1 room_1 Calls_1 rest_1 Pre_1 Post := by
  intro l hfl _ _ p e ha hc hk s m args below hf hA hF happ hP
  obtain ⟨hcalls, hrest, hpre⟩ := hP
  obtain ⟨-, -, -, hnamed, -, -, -, hat⟩ := (Spec.applies_iff hf).mp happ
  obtain ⟨hg, hn⟩ := and_e (Cond.before_iff.mp (show (Jvm.Cond.and given_1 narrow_1).before args s = true from hpre))
  obtain ⟨gc, gr0⟩ := and_e hg
  obtain ⟨w0, rfl⟩ : ∃ w0 : Value, args = #[w0] := by
    have hs : args.size = 1 := by simpa [Cond.value, given_1] using gc
    obtain ⟨L⟩ := args
    match L, hs with
    | [w0], _ => exact ⟨w0, rfl⟩
  have hw := fun d (hd : d ∈ tables_1) => atoms_spec (ws := Jvm.Cond.code x code maxLocals ret :: tables_1) hat d (List.mem_cons_of_mem _ hd)
  obtain ⟨i0, ei0⟩ := is_v gr0
  obtain rfl : w0 = (.int i0) := Option.some.inj ei0
  obtain ⟨nw0, hn⟩ := and_e hn
  obtain ⟨nw1, hn⟩ := and_e hn
  obtain ⟨nw2, hn⟩ := and_e hn
  obtain ⟨nw3, hn⟩ := and_e hn
  obtain ⟨nw4, hn⟩ := and_e hn
  obtain ⟨nw5, hn⟩ := and_e hn
  obtain ⟨nw6, hn⟩ := and_e hn
  obtain ⟨nw7, hn⟩ := and_e hn
  obtain ⟨nw8, hn⟩ := and_e hn
  obtain ⟨nw9, hn⟩ := and_e hn
  obtain ⟨nw10, hn⟩ := and_e hn
  obtain ⟨nw11, hn⟩ := and_e hn
  obtain ⟨nw12, hn⟩ := and_e hn
  obtain ⟨nw13, hn⟩ := and_e hn
  obtain ⟨nw14, hn⟩ := and_e hn
  obtain ⟨nw15, hn⟩ := and_e hn
  obtain ⟨nw16, hn⟩ := and_e hn
  obtain ⟨nw17, hn⟩ := and_e hn
  obtain ⟨nw18, hn⟩ := and_e hn
  obtain ⟨nw19, hn⟩ := and_e hn
  obtain ⟨nw20, hn⟩ := and_e hn
  obtain ⟨nw21, hn⟩ := and_e hn
  obtain ⟨nw22, hn⟩ := and_e hn
  obtain ⟨nw23, hn⟩ := and_e hn
  obtain ⟨nw24, hn⟩ := and_e hn
  obtain ⟨nw25, hn⟩ := and_e hn
  obtain ⟨nw26, hn⟩ := and_e hn
  obtain ⟨nw27, hn⟩ := and_e hn
  obtain ⟨nw28, hn⟩ := and_e hn
  obtain ⟨nw29, hn⟩ := and_e hn
  obtain ⟨nw30, hn⟩ := and_e hn
  obtain ⟨nw31, hn⟩ := and_e hn
  obtain ⟨nw32, hn⟩ := and_e hn
  obtain ⟨nw33, hn⟩ := and_e hn
  obtain ⟨nw34, hn⟩ := and_e hn
  obtain ⟨nw35, hn⟩ := and_e hn
  obtain ⟨nw36, hn⟩ := and_e hn
  obtain ⟨nw37, hn⟩ := and_e hn
  obtain ⟨nw38, hn⟩ := and_e hn
  obtain ⟨nw39, hn⟩ := and_e hn
  obtain ⟨nw40, hn⟩ := and_e hn
  obtain ⟨nw41, hn⟩ := and_e hn
  obtain ⟨nw42, hn⟩ := and_e hn
  obtain ⟨nw43, hn⟩ := and_e hn
  obtain ⟨nw44, hn⟩ := and_e hn
  obtain ⟨nw45, hn⟩ := and_e hn
  obtain ⟨nw46, hn⟩ := and_e hn
  obtain ⟨nw47, hn⟩ := and_e hn
  obtain ⟨nw48, hn⟩ := and_e hn
  obtain ⟨nw49, hn⟩ := and_e hn
  obtain ⟨nw50, hn⟩ := and_e hn
  obtain ⟨nw51, hn⟩ := and_e hn
  obtain ⟨nw52, hn⟩ := and_e hn
  obtain ⟨nw53, hn⟩ := and_e hn
  obtain ⟨nw54, hn⟩ := and_e hn
  obtain ⟨nw55, hn⟩ := and_e hn
  obtain ⟨nw56, hn⟩ := and_e hn
  obtain ⟨nw57, hn⟩ := and_e hn
  obtain ⟨nw58, hn⟩ := and_e hn
  obtain ⟨nw59, hn⟩ := and_e hn
  obtain ⟨nw60, hn⟩ := and_e hn
  obtain ⟨nw61, hn⟩ := and_e hn
  obtain ⟨nw62, hn⟩ := and_e hn
  obtain ⟨nw63, hn⟩ := and_e hn
  obtain ⟨nw64, hn⟩ := and_e hn
  obtain ⟨nw65, hn⟩ := and_e hn
  obtain ⟨nw66, hn⟩ := and_e hn
  obtain ⟨nw67, hn⟩ := and_e hn
  obtain ⟨nw68, hn⟩ := and_e hn
  obtain ⟨nw69, hn⟩ := and_e hn
  obtain ⟨nw70, hn⟩ := and_e hn
  obtain ⟨nw71, hn⟩ := and_e hn
  obtain ⟨nw72, hn⟩ := and_e hn
  obtain ⟨nw73, hn⟩ := and_e hn
  obtain ⟨nw74, hn⟩ := and_e hn
  obtain ⟨nw75, hn⟩ := and_e hn
  obtain ⟨nw76, hn⟩ := and_e hn
  have nw77 := hn
  obtain ⟨a_EQUALS, e_EQUALS⟩ := exa_v nw0
  have x_EQUALS := Exa.start e_EQUALS nw0
  have s_EQUALS := Sta.start e_EQUALS (Or.inr ⟨(hw _ (List.mem_of_getElem? (i := 3) rfl)), (hw _ (List.mem_of_getElem? (i := 4) rfl))⟩)
  obtain ⟨a_NOT, e_NOT⟩ := exa_v nw1
  have x_NOT := Exa.start e_NOT nw1
  have s_NOT := Sta.start e_NOT (Or.inr ⟨(hw _ (List.mem_of_getElem? (i := 3) rfl)), (hw _ (List.mem_of_getElem? (i := 7) rfl))⟩)
  obtain ⟨a_NULL, e_NULL⟩ := exa_v nw2
  have x_NULL := Exa.start e_NULL nw2
  have s_NULL := Sta.start e_NULL (Or.inr ⟨(hw _ (List.mem_of_getElem? (i := 3) rfl)), (hw _ (List.mem_of_getElem? (i := 9) rfl))⟩)
  obtain ⟨a_NOT_NULL, e_NOT_NULL⟩ := exa_v nw3
  have x_NOT_NULL := Exa.start e_NOT_NULL nw3
  have s_NOT_NULL := Sta.start e_NOT_NULL (Or.inr ⟨(hw _ (List.mem_of_getElem? (i := 3) rfl)), (hw _ (List.mem_of_getElem? (i := 11) rfl))⟩)
  obtain ⟨a_TRUE, e_TRUE⟩ := exa_v nw4
  have x_TRUE := Exa.start e_TRUE nw4
  have s_TRUE := Sta.start e_TRUE (Or.inr ⟨(hw _ (List.mem_of_getElem? (i := 3) rfl)), (hw _ (List.mem_of_getElem? (i := 13) rfl))⟩)
  obtain ⟨a_FALSE, e_FALSE⟩ := exa_v nw5
  have x_FALSE := Exa.start e_FALSE nw5
  have s_FALSE := Sta.start e_FALSE (Or.inr ⟨(hw _ (List.mem_of_getElem? (i := 3) rfl)), (hw _ (List.mem_of_getElem? (i := 15) rfl))⟩)
  obtain ⟨a_BETWEEN, e_BETWEEN⟩ := exa_v nw6
  have x_BETWEEN := Exa.start e_BETWEEN nw6
  have s_BETWEEN := Sta.start e_BETWEEN (Or.inr ⟨(hw _ (List.mem_of_getElem? (i := 3) rfl)), (hw _ (List.mem_of_getElem? (i := 17) rfl))⟩)
  obtain ⟨a_LESS_THAN, e_LESS_THAN⟩ := exa_v nw7
  have x_LESS_THAN := Exa.start e_LESS_THAN nw7
  have s_LESS_THAN := Sta.start e_LESS_THAN (Or.inr ⟨(hw _ (List.mem_of_getElem? (i := 3) rfl)), (hw _ (List.mem_of_getElem? (i := 19) rfl))⟩)
  obtain ⟨a_LESS_THAN_EQUAL, e_LESS_THAN_EQUAL⟩ := exa_v nw8
  have x_LESS_THAN_EQUAL := Exa.start e_LESS_THAN_EQUAL nw8
  have s_LESS_THAN_EQUAL := Sta.start e_LESS_THAN_EQUAL (Or.inr ⟨(hw _ (List.mem_of_getElem? (i := 3) rfl)), (hw _ (List.mem_of_getElem? (i := 21) rfl))⟩)
  obtain ⟨a_GREATER_THAN, e_GREATER_THAN⟩ := exa_v nw9
  have x_GREATER_THAN := Exa.start e_GREATER_THAN nw9
  have s_GREATER_THAN := Sta.start e_GREATER_THAN (Or.inr ⟨(hw _ (List.mem_of_getElem? (i := 3) rfl)), (hw _ (List.mem_of_getElem? (i := 23) rfl))⟩)
  obtain ⟨a_GREATER_THAN_EQUAL, e_GREATER_THAN_EQUAL⟩ := exa_v nw10
  have x_GREATER_THAN_EQUAL := Exa.start e_GREATER_THAN_EQUAL nw10
  have s_GREATER_THAN_EQUAL := Sta.start e_GREATER_THAN_EQUAL (Or.inr ⟨(hw _ (List.mem_of_getElem? (i := 3) rfl)), (hw _ (List.mem_of_getElem? (i := 25) rfl))⟩)
  obtain ⟨a_BEFORE, e_BEFORE⟩ := exa_v nw11
  have x_BEFORE := Exa.start e_BEFORE nw11
  have s_BEFORE := Sta.start e_BEFORE (Or.inr ⟨(hw _ (List.mem_of_getElem? (i := 3) rfl)), (hw _ (List.mem_of_getElem? (i := 27) rfl))⟩)
  obtain ⟨a_AFTER, e_AFTER⟩ := exa_v nw12
  have x_AFTER := Exa.start e_AFTER nw12
  have s_AFTER := Sta.start e_AFTER (Or.inr ⟨(hw _ (List.mem_of_getElem? (i := 3) rfl)), (hw _ (List.mem_of_getElem? (i := 29) rfl))⟩)
  obtain ⟨a_LIKE, e_LIKE⟩ := exa_v nw13
  have x_LIKE := Exa.start e_LIKE nw13
  have s_LIKE := Sta.start e_LIKE (Or.inr ⟨(hw _ (List.mem_of_getElem? (i := 3) rfl)), (hw _ (List.mem_of_getElem? (i := 31) rfl))⟩)
  obtain ⟨a_NOT_LIKE, e_NOT_LIKE⟩ := exa_v nw14
  have x_NOT_LIKE := Exa.start e_NOT_LIKE nw14
  have s_NOT_LIKE := Sta.start e_NOT_LIKE (Or.inr ⟨(hw _ (List.mem_of_getElem? (i := 3) rfl)), (hw _ (List.mem_of_getElem? (i := 33) rfl))⟩)
  obtain ⟨a_STARTING_WITH, e_STARTING_WITH⟩ := exa_v nw15
  have x_STARTING_WITH := Exa.start e_STARTING_WITH nw15
  have s_STARTING_WITH := Sta.start e_STARTING_WITH (Or.inr ⟨(hw _ (List.mem_of_getElem? (i := 3) rfl)), (hw _ (List.mem_of_getElem? (i := 35) rfl))⟩)
  obtain ⟨a_ENDING_WITH, e_ENDING_WITH⟩ := exa_v nw16
  have x_ENDING_WITH := Exa.start e_ENDING_WITH nw16
  have s_ENDING_WITH := Sta.start e_ENDING_WITH (Or.inr ⟨(hw _ (List.mem_of_getElem? (i := 3) rfl)), (hw _ (List.mem_of_getElem? (i := 37) rfl))⟩)
  obtain ⟨a_CONTAINING, e_CONTAINING⟩ := exa_v nw17
  have x_CONTAINING := Exa.start e_CONTAINING nw17
  have s_CONTAINING := Sta.start e_CONTAINING (Or.inr ⟨(hw _ (List.mem_of_getElem? (i := 3) rfl)), (hw _ (List.mem_of_getElem? (i := 39) rfl))⟩)
  obtain ⟨a_IN, e_IN⟩ := exa_v nw18
  have x_IN := Exa.start e_IN nw18
  have s_IN := Sta.start e_IN (Or.inr ⟨(hw _ (List.mem_of_getElem? (i := 3) rfl)), (hw _ (List.mem_of_getElem? (i := 41) rfl))⟩)
  obtain ⟨a_NOT_IN, e_NOT_IN⟩ := exa_v nw19
  have x_NOT_IN := Exa.start e_NOT_IN nw19
  have s_NOT_IN := Sta.start e_NOT_IN (Or.inr ⟨(hw _ (List.mem_of_getElem? (i := 3) rfl)), (hw _ (List.mem_of_getElem? (i := 43) rfl))⟩)
  obtain ⟨a_MATCHES, e_MATCHES⟩ := exa_v nw20
  have x_MATCHES := Exa.start e_MATCHES nw20
  have s_MATCHES := Sta.start e_MATCHES (Or.inr ⟨(hw _ (List.mem_of_getElem? (i := 3) rfl)), (hw _ (List.mem_of_getElem? (i := 45) rfl))⟩)
  obtain ⟨a_EXISTS, e_EXISTS⟩ := exa_v nw21
  have x_EXISTS := Exa.start e_EXISTS nw21
  have s_EXISTS := Sta.start e_EXISTS (Or.inr ⟨(hw _ (List.mem_of_getElem? (i := 3) rfl)), (hw _ (List.mem_of_getElem? (i := 47) rfl))⟩)
  obtain ⟨a_EMPTY, e_EMPTY⟩ := exa_v nw22
  have x_EMPTY := Exa.start e_EMPTY nw22
  have s_EMPTY := Sta.start e_EMPTY (Or.inr ⟨(hw _ (List.mem_of_getElem? (i := 3) rfl)), (hw _ (List.mem_of_getElem? (i := 49) rfl))⟩)
  obtain ⟨a_NOT_EMPTY, e_NOT_EMPTY⟩ := exa_v nw23
  have x_NOT_EMPTY := Exa.start e_NOT_EMPTY nw23
  have s_NOT_EMPTY := Sta.start e_NOT_EMPTY (Or.inr ⟨(hw _ (List.mem_of_getElem? (i := 3) rfl)), (hw _ (List.mem_of_getElem? (i := 51) rfl))⟩)
  obtain ⟨a_NEAR, e_NEAR⟩ := exa_v nw24
  have x_NEAR := Exa.start e_NEAR nw24
  have s_NEAR := Sta.start e_NEAR (Or.inr ⟨(hw _ (List.mem_of_getElem? (i := 3) rfl)), (hw _ (List.mem_of_getElem? (i := 53) rfl))⟩)
  obtain ⟨a_WITHIN, e_WITHIN⟩ := exa_v nw25
  have x_WITHIN := Exa.start e_WITHIN nw25
  have s_WITHIN := Sta.start e_WITHIN (Or.inr ⟨(hw _ (List.mem_of_getElem? (i := 3) rfl)), (hw _ (List.mem_of_getElem? (i := 55) rfl))⟩)
  have f_EQUALS_ordinal := own_fld e_EQUALS (own_eqI nw26)
  have f_IN_ordinal := own_fld e_IN (own_eqI nw27)
  have f_NOT_IN_ordinal := own_fld e_NOT_IN (own_eqI nw28)
  have f_NOT_NULL_ordinal := own_fld e_NOT_NULL (own_eqI nw29)
  have f_BETWEEN_ordinal := own_fld e_BETWEEN (own_eqI nw30)
  have f_FALSE_ordinal := own_fld e_FALSE (own_eqI nw31)
  have f_LESS_THAN_ordinal := own_fld e_LESS_THAN (own_eqI nw32)
  have f_EMPTY_ordinal := own_fld e_EMPTY (own_eqI nw33)
  have f_NULL_ordinal := own_fld e_NULL (own_eqI nw34)
  have f_BEFORE_ordinal := own_fld e_BEFORE (own_eqI nw35)
  have f_NOT_LIKE_ordinal := own_fld e_NOT_LIKE (own_eqI nw36)
  have f_LESS_THAN_EQUAL_ordinal := own_fld e_LESS_THAN_EQUAL (own_eqI nw37)
  have f_NOT_ordinal := own_fld e_NOT (own_eqI nw38)
  have f_STARTING_WITH_ordinal := own_fld e_STARTING_WITH (own_eqI nw39)
  have f_ENDING_WITH_ordinal := own_fld e_ENDING_WITH (own_eqI nw40)
  have f_GREATER_THAN_EQUAL_ordinal := own_fld e_GREATER_THAN_EQUAL (own_eqI nw41)
  have f_EXISTS_ordinal := own_fld e_EXISTS (own_eqI nw42)
  have f_LIKE_ordinal := own_fld e_LIKE (own_eqI nw43)
  have f_AFTER_ordinal := own_fld e_AFTER (own_eqI nw44)
  have f_NOT_IN_parameters := own_fld e_NOT_IN (own_eqI nw45)
  have f_IN_parameters := own_fld e_IN (own_eqI nw46)
  have f_TRUE_ordinal := own_fld e_TRUE (own_eqI nw47)
  have f_GREATER_THAN_ordinal := own_fld e_GREATER_THAN (own_eqI nw48)
  have f_WITHIN_ordinal := own_fld e_WITHIN (own_eqI nw49)
  have f_CONTAINING_ordinal := own_fld e_CONTAINING (own_eqI nw50)
  have f_MATCHES_ordinal := own_fld e_MATCHES (own_eqI nw51)
  have f_NOT_EMPTY_ordinal := own_fld e_NOT_EMPTY (own_eqI nw52)
  have f_NEAR_ordinal := own_fld e_NEAR (own_eqI nw53)
  have f_EQUALS_parameters := own_fld e_EQUALS (own_eqI nw54)
  have f_NOT_parameters := own_fld e_NOT (own_eqI nw55)
  have f_NULL_parameters := own_fld e_NULL (own_eqI nw56)
  have f_NOT_NULL_parameters := own_fld e_NOT_NULL (own_eqI nw57)
  have f_TRUE_parameters := own_fld e_TRUE (own_eqI nw58)
  have f_FALSE_parameters := own_fld e_FALSE (own_eqI nw59)
  have f_BETWEEN_parameters := own_fld e_BETWEEN (own_eqI nw60)
  have f_LESS_THAN_parameters := own_fld e_LESS_THAN (own_eqI nw61)
  have f_LESS_THAN_EQUAL_parameters := own_fld e_LESS_THAN_EQUAL (own_eqI nw62)
  have f_GREATER_THAN_parameters := own_fld e_GREATER_THAN (own_eqI nw63)
  have f_GREATER_THAN_EQUAL_parameters := own_fld e_GREATER_THAN_EQUAL (own_eqI nw64)
  have f_BEFORE_parameters := own_fld e_BEFORE (own_eqI nw65)
  have f_AFTER_parameters := own_fld e_AFTER (own_eqI nw66)
  have f_LIKE_parameters := own_fld e_LIKE (own_eqI nw67)
  have f_NOT_LIKE_parameters := own_fld e_NOT_LIKE (own_eqI nw68)
  have f_STARTING_WITH_parameters := own_fld e_STARTING_WITH (own_eqI nw69)
  have f_ENDING_WITH_parameters := own_fld e_ENDING_WITH (own_eqI nw70)
  have f_CONTAINING_parameters := own_fld e_CONTAINING (own_eqI nw71)
  have f_MATCHES_parameters := own_fld e_MATCHES (own_eqI nw72)
  have f_EXISTS_parameters := own_fld e_EXISTS (own_eqI nw73)
  have f_EMPTY_parameters := own_fld e_EMPTY (own_eqI nw74)
  have f_NOT_EMPTY_parameters := own_fld e_NOT_EMPTY (own_eqI nw75)
  have f_NEAR_parameters := own_fld e_NEAR (own_eqI nw76)
  have f_WITHIN_parameters := own_fld e_WITHIN (own_eqI nw77)
  let wa : Nat → Addr := fun k => if k = 0 then a_EQUALS else if k = 1 then a_NOT else if k = 2 then a_NULL else if k = 3 then a_NOT_NULL else if k = 4 then a_TRUE else if k = 5 then a_FALSE else if k = 6 then a_BETWEEN else if k = 7 then a_LESS_THAN else if k = 8 then a_LESS_THAN_EQUAL else if k = 9 then a_GREATER_THAN else if k = 10 then a_GREATER_THAN_EQUAL else if k = 11 then a_BEFORE else if k = 12 then a_AFTER else if k = 13 then a_LIKE else if k = 14 then a_NOT_LIKE else if k = 15 then a_STARTING_WITH else if k = 16 then a_ENDING_WITH else if k = 17 then a_CONTAINING else if k = 18 then a_IN else if k = 19 then a_NOT_IN else if k = 20 then a_MATCHES else if k = 21 then a_EXISTS else if k = 22 then a_EMPTY else if k = 23 then a_NOT_EMPTY else if k = 24 then a_NEAR else a_WITHIN
  let pa : Nat → Int32 := fun k => if k = 0 then (1) else if k = 1 then (1) else if k = 2 then (0) else if k = 3 then (0) else if k = 4 then (0) else if k = 5 then (0) else if k = 6 then (2) else if k = 7 then (1) else if k = 8 then (1) else if k = 9 then (1) else if k = 10 then (1) else if k = 11 then (1) else if k = 12 then (1) else if k = 13 then (1) else if k = 14 then (1) else if k = 15 then (1) else if k = 16 then (1) else if k = 17 then (1) else if k = 18 then (1) else if k = 19 then (1) else if k = 20 then (1) else if k = 21 then (0) else if k = 22 then (0) else if k = 23 then (0) else if k = 24 then (2) else (2)
  have hE : ∀ k, k < 26 → Exa s s.heap (wa k) "com/example/huron/huron/support/Keyword" := fun k hk => by
    have z : k = 0 ∨ k = 1 ∨ k = 2 ∨ k = 3 ∨ k = 4 ∨ k = 5 ∨ k = 6 ∨ k = 7 ∨ k = 8 ∨ k = 9 ∨ k = 10 ∨ k = 11 ∨ k = 12 ∨ k = 13 ∨ k = 14 ∨ k = 15 ∨ k = 16 ∨ k = 17 ∨ k = 18 ∨ k = 19 ∨ k = 20 ∨ k = 21 ∨ k = 22 ∨ k = 23 ∨ k = 24 ∨ k = 25 := by omega
    rcases z with rfl | rfl | rfl | rfl | rfl | rfl | rfl | rfl | rfl | rfl | rfl | rfl | rfl | rfl | rfl | rfl | rfl | rfl | rfl | rfl | rfl | rfl | rfl | rfl | rfl | rfl
    · exact x_EQUALS
    · exact x_NOT
    · exact x_NULL
    · exact x_NOT_NULL
    · exact x_TRUE
    · exact x_FALSE
    · exact x_BETWEEN
    · exact x_LESS_THAN
    · exact x_LESS_THAN_EQUAL
    · exact x_GREATER_THAN
    · exact x_GREATER_THAN_EQUAL
    · exact x_BEFORE
    · exact x_AFTER
    · exact x_LIKE
    · exact x_NOT_LIKE
    · exact x_STARTING_WITH
    · exact x_ENDING_WITH
    · exact x_CONTAINING
    · exact x_IN
    · exact x_NOT_IN
    · exact x_MATCHES
    · exact x_EXISTS
    · exact x_EMPTY
    · exact x_NOT_EMPTY
    · exact x_NEAR
    · exact x_WITHIN
  have hP : ∀ k, k < 26 → Fld s s.heap (wa k) "com/example/huron/huron/support/Keyword" "parameters" "I" (.int (pa k)) := fun k hk => by
    have z : k = 0 ∨ k = 1 ∨ k = 2 ∨ k = 3 ∨ k = 4 ∨ k = 5 ∨ k = 6 ∨ k = 7 ∨ k = 8 ∨ k = 9 ∨ k = 10 ∨ k = 11 ∨ k = 12 ∨ k = 13 ∨ k = 14 ∨ k = 15 ∨ k = 16 ∨ k = 17 ∨ k = 18 ∨ k = 19 ∨ k = 20 ∨ k = 21 ∨ k = 22 ∨ k = 23 ∨ k = 24 ∨ k = 25 := by omega
    rcases z with rfl | rfl | rfl | rfl | rfl | rfl | rfl | rfl | rfl | rfl | rfl | rfl | rfl | rfl | rfl | rfl | rfl | rfl | rfl | rfl | rfl | rfl | rfl | rfl | rfl | rfl
    · exact f_EQUALS_parameters
    · exact f_NOT_parameters
    · exact f_NULL_parameters
    · exact f_NOT_NULL_parameters
    · exact f_TRUE_parameters
    · exact f_FALSE_parameters
    · exact f_BETWEEN_parameters
    · exact f_LESS_THAN_parameters
    · exact f_LESS_THAN_EQUAL_parameters
    · exact f_GREATER_THAN_parameters
    · exact f_GREATER_THAN_EQUAL_parameters
    · exact f_BEFORE_parameters
    · exact f_AFTER_parameters
    · exact f_LIKE_parameters
    · exact f_NOT_LIKE_parameters
    · exact f_STARTING_WITH_parameters
    · exact f_ENDING_WITH_parameters
    · exact f_CONTAINING_parameters
    · exact f_IN_parameters
    · exact f_NOT_IN_parameters
    · exact f_MATCHES_parameters
    · exact f_EXISTS_parameters
    · exact f_EMPTY_parameters
    · exact f_NOT_EMPTY_parameters
    · exact f_NEAR_parameters
    · exact f_WITHIN_parameters
  have d_EQUALS_IN : a_EQUALS ≠ a_IN := own_ne e_EQUALS e_IN nw26 nw27 (by decide)
  have d_NOT_IN : a_NOT ≠ a_IN := own_ne e_NOT e_IN nw38 nw27 (by decide)
  have d_NULL_IN : a_NULL ≠ a_IN := own_ne e_NULL e_IN nw34 nw27 (by decide)
  have d_NOT_NULL_IN : a_NOT_NULL ≠ a_IN := own_ne e_NOT_NULL e_IN nw29 nw27 (by decide)
  have d_TRUE_IN : a_TRUE ≠ a_IN := own_ne e_TRUE e_IN nw47 nw27 (by decide)
  have d_FALSE_IN : a_FALSE ≠ a_IN := own_ne e_FALSE e_IN nw31 nw27 (by decide)
  have d_BETWEEN_IN : a_BETWEEN ≠ a_IN := own_ne e_BETWEEN e_IN nw30 nw27 (by decide)
  have d_LESS_THAN_IN : a_LESS_THAN ≠ a_IN := own_ne e_LESS_THAN e_IN nw32 nw27 (by decide)
  have d_LESS_THAN_EQUAL_IN : a_LESS_THAN_EQUAL ≠ a_IN := own_ne e_LESS_THAN_EQUAL e_IN nw37 nw27 (by decide)
  have d_GREATER_THAN_IN : a_GREATER_THAN ≠ a_IN := own_ne e_GREATER_THAN e_IN nw48 nw27 (by decide)
  have d_GREATER_THAN_EQUAL_IN : a_GREATER_THAN_EQUAL ≠ a_IN := own_ne e_GREATER_THAN_EQUAL e_IN nw41 nw27 (by decide)
  have d_BEFORE_IN : a_BEFORE ≠ a_IN := own_ne e_BEFORE e_IN nw35 nw27 (by decide)
  have d_AFTER_IN : a_AFTER ≠ a_IN := own_ne e_AFTER e_IN nw44 nw27 (by decide)
  have d_LIKE_IN : a_LIKE ≠ a_IN := own_ne e_LIKE e_IN nw43 nw27 (by decide)
  have d_NOT_LIKE_IN : a_NOT_LIKE ≠ a_IN := own_ne e_NOT_LIKE e_IN nw36 nw27 (by decide)
  have d_STARTING_WITH_IN : a_STARTING_WITH ≠ a_IN := own_ne e_STARTING_WITH e_IN nw39 nw27 (by decide)
  have d_ENDING_WITH_IN : a_ENDING_WITH ≠ a_IN := own_ne e_ENDING_WITH e_IN nw40 nw27 (by decide)
  have d_CONTAINING_IN : a_CONTAINING ≠ a_IN := own_ne e_CONTAINING e_IN nw50 nw27 (by decide)
  have d_NOT_IN_IN : a_NOT_IN ≠ a_IN := own_ne e_NOT_IN e_IN nw28 nw27 (by decide)
  have d_MATCHES_IN : a_MATCHES ≠ a_IN := own_ne e_MATCHES e_IN nw51 nw27 (by decide)
  have d_EXISTS_IN : a_EXISTS ≠ a_IN := own_ne e_EXISTS e_IN nw42 nw27 (by decide)
  have d_EMPTY_IN : a_EMPTY ≠ a_IN := own_ne e_EMPTY e_IN nw33 nw27 (by decide)
  have d_NOT_EMPTY_IN : a_NOT_EMPTY ≠ a_IN := own_ne e_NOT_EMPTY e_IN nw52 nw27 (by decide)
  have d_NEAR_IN : a_NEAR ≠ a_IN := own_ne e_NEAR e_IN nw53 nw27 (by decide)
  have d_WITHIN_IN : a_WITHIN ≠ a_IN := own_ne e_WITHIN e_IN nw49 nw27 (by decide)
  have d_EQUALS_NOT_IN : a_EQUALS ≠ a_NOT_IN := own_ne e_EQUALS e_NOT_IN nw26 nw28 (by decide)
  have d_NOT_NOT_IN : a_NOT ≠ a_NOT_IN := own_ne e_NOT e_NOT_IN nw38 nw28 (by decide)
  have d_NULL_NOT_IN : a_NULL ≠ a_NOT_IN := own_ne e_NULL e_NOT_IN nw34 nw28 (by decide)
  have d_NOT_NULL_NOT_IN : a_NOT_NULL ≠ a_NOT_IN := own_ne e_NOT_NULL e_NOT_IN nw29 nw28 (by decide)
  have d_TRUE_NOT_IN : a_TRUE ≠ a_NOT_IN := own_ne e_TRUE e_NOT_IN nw47 nw28 (by decide)
  have d_FALSE_NOT_IN : a_FALSE ≠ a_NOT_IN := own_ne e_FALSE e_NOT_IN nw31 nw28 (by decide)
  have d_BETWEEN_NOT_IN : a_BETWEEN ≠ a_NOT_IN := own_ne e_BETWEEN e_NOT_IN nw30 nw28 (by decide)
  have d_LESS_THAN_NOT_IN : a_LESS_THAN ≠ a_NOT_IN := own_ne e_LESS_THAN e_NOT_IN nw32 nw28 (by decide)
  have d_LESS_THAN_EQUAL_NOT_IN : a_LESS_THAN_EQUAL ≠ a_NOT_IN := own_ne e_LESS_THAN_EQUAL e_NOT_IN nw37 nw28 (by decide)
  have d_GREATER_THAN_NOT_IN : a_GREATER_THAN ≠ a_NOT_IN := own_ne e_GREATER_THAN e_NOT_IN nw48 nw28 (by decide)
  have d_GREATER_THAN_EQUAL_NOT_IN : a_GREATER_THAN_EQUAL ≠ a_NOT_IN := own_ne e_GREATER_THAN_EQUAL e_NOT_IN nw41 nw28 (by decide)
  have d_BEFORE_NOT_IN : a_BEFORE ≠ a_NOT_IN := own_ne e_BEFORE e_NOT_IN nw35 nw28 (by decide)
  have d_AFTER_NOT_IN : a_AFTER ≠ a_NOT_IN := own_ne e_AFTER e_NOT_IN nw44 nw28 (by decide)
  have d_LIKE_NOT_IN : a_LIKE ≠ a_NOT_IN := own_ne e_LIKE e_NOT_IN nw43 nw28 (by decide)
  have d_NOT_LIKE_NOT_IN : a_NOT_LIKE ≠ a_NOT_IN := own_ne e_NOT_LIKE e_NOT_IN nw36 nw28 (by decide)
  have d_STARTING_WITH_NOT_IN : a_STARTING_WITH ≠ a_NOT_IN := own_ne e_STARTING_WITH e_NOT_IN nw39 nw28 (by decide)
  have d_ENDING_WITH_NOT_IN : a_ENDING_WITH ≠ a_NOT_IN := own_ne e_ENDING_WITH e_NOT_IN nw40 nw28 (by decide)
  have d_CONTAINING_NOT_IN : a_CONTAINING ≠ a_NOT_IN := own_ne e_CONTAINING e_NOT_IN nw50 nw28 (by decide)
  have d_IN_NOT_IN : a_IN ≠ a_NOT_IN := own_ne e_IN e_NOT_IN nw27 nw28 (by decide)
  have d_MATCHES_NOT_IN : a_MATCHES ≠ a_NOT_IN := own_ne e_MATCHES e_NOT_IN nw51 nw28 (by decide)
  have d_EXISTS_NOT_IN : a_EXISTS ≠ a_NOT_IN := own_ne e_EXISTS e_NOT_IN nw42 nw28 (by decide)
  have d_EMPTY_NOT_IN : a_EMPTY ≠ a_NOT_IN := own_ne e_EMPTY e_NOT_IN nw33 nw28 (by decide)
  have d_NOT_EMPTY_NOT_IN : a_NOT_EMPTY ≠ a_NOT_IN := own_ne e_NOT_EMPTY e_NOT_IN nw52 nw28 (by decide)
  have d_NEAR_NOT_IN : a_NEAR ≠ a_NOT_IN := own_ne e_NEAR e_NOT_IN nw53 nw28 (by decide)
  have d_WITHIN_NOT_IN : a_WITHIN ≠ a_NOT_IN := own_ne e_WITHIN e_NOT_IN nw49 nw28 (by decide)
  have hd : ∀ k, k < 26 → (wa k = wa 18 ↔ k = 18) ∧ (wa k = wa 19 ↔ k = 19) := fun k hk => by
    have z : k = 0 ∨ k = 1 ∨ k = 2 ∨ k = 3 ∨ k = 4 ∨ k = 5 ∨ k = 6 ∨ k = 7 ∨ k = 8 ∨ k = 9 ∨ k = 10 ∨ k = 11 ∨ k = 12 ∨ k = 13 ∨ k = 14 ∨ k = 15 ∨ k = 16 ∨ k = 17 ∨ k = 18 ∨ k = 19 ∨ k = 20 ∨ k = 21 ∨ k = 22 ∨ k = 23 ∨ k = 24 ∨ k = 25 := by omega
    rcases z with rfl | rfl | rfl | rfl | rfl | rfl | rfl | rfl | rfl | rfl | rfl | rfl | rfl | rfl | rfl | rfl | rfl | rfl | rfl | rfl | rfl | rfl | rfl | rfl | rfl | rfl
    · exact ⟨⟨fun q => absurd q d_EQUALS_IN, fun q => absurd q (by decide)⟩, ⟨fun q => absurd q d_EQUALS_NOT_IN, fun q => absurd q (by decide)⟩⟩
    · exact ⟨⟨fun q => absurd q d_NOT_IN, fun q => absurd q (by decide)⟩, ⟨fun q => absurd q d_NOT_NOT_IN, fun q => absurd q (by decide)⟩⟩
    · exact ⟨⟨fun q => absurd q d_NULL_IN, fun q => absurd q (by decide)⟩, ⟨fun q => absurd q d_NULL_NOT_IN, fun q => absurd q (by decide)⟩⟩
    · exact ⟨⟨fun q => absurd q d_NOT_NULL_IN, fun q => absurd q (by decide)⟩, ⟨fun q => absurd q d_NOT_NULL_NOT_IN, fun q => absurd q (by decide)⟩⟩
    · exact ⟨⟨fun q => absurd q d_TRUE_IN, fun q => absurd q (by decide)⟩, ⟨fun q => absurd q d_TRUE_NOT_IN, fun q => absurd q (by decide)⟩⟩
    · exact ⟨⟨fun q => absurd q d_FALSE_IN, fun q => absurd q (by decide)⟩, ⟨fun q => absurd q d_FALSE_NOT_IN, fun q => absurd q (by decide)⟩⟩
    · exact ⟨⟨fun q => absurd q d_BETWEEN_IN, fun q => absurd q (by decide)⟩, ⟨fun q => absurd q d_BETWEEN_NOT_IN, fun q => absurd q (by decide)⟩⟩
    · exact ⟨⟨fun q => absurd q d_LESS_THAN_IN, fun q => absurd q (by decide)⟩, ⟨fun q => absurd q d_LESS_THAN_NOT_IN, fun q => absurd q (by decide)⟩⟩
    · exact ⟨⟨fun q => absurd q d_LESS_THAN_EQUAL_IN, fun q => absurd q (by decide)⟩, ⟨fun q => absurd q d_LESS_THAN_EQUAL_NOT_IN, fun q => absurd q (by decide)⟩⟩
    · exact ⟨⟨fun q => absurd q d_GREATER_THAN_IN, fun q => absurd q (by decide)⟩, ⟨fun q => absurd q d_GREATER_THAN_NOT_IN, fun q => absurd q (by decide)⟩⟩
    · exact ⟨⟨fun q => absurd q d_GREATER_THAN_EQUAL_IN, fun q => absurd q (by decide)⟩, ⟨fun q => absurd q d_GREATER_THAN_EQUAL_NOT_IN, fun q => absurd q (by decide)⟩⟩
    · exact ⟨⟨fun q => absurd q d_BEFORE_IN, fun q => absurd q (by decide)⟩, ⟨fun q => absurd q d_BEFORE_NOT_IN, fun q => absurd q (by decide)⟩⟩
    · exact ⟨⟨fun q => absurd q d_AFTER_IN, fun q => absurd q (by decide)⟩, ⟨fun q => absurd q d_AFTER_NOT_IN, fun q => absurd q (by decide)⟩⟩
    · exact ⟨⟨fun q => absurd q d_LIKE_IN, fun q => absurd q (by decide)⟩, ⟨fun q => absurd q d_LIKE_NOT_IN, fun q => absurd q (by decide)⟩⟩
    · exact ⟨⟨fun q => absurd q d_NOT_LIKE_IN, fun q => absurd q (by decide)⟩, ⟨fun q => absurd q d_NOT_LIKE_NOT_IN, fun q => absurd q (by decide)⟩⟩
    · exact ⟨⟨fun q => absurd q d_STARTING_WITH_IN, fun q => absurd q (by decide)⟩, ⟨fun q => absurd q d_STARTING_WITH_NOT_IN, fun q => absurd q (by decide)⟩⟩
    · exact ⟨⟨fun q => absurd q d_ENDING_WITH_IN, fun q => absurd q (by decide)⟩, ⟨fun q => absurd q d_ENDING_WITH_NOT_IN, fun q => absurd q (by decide)⟩⟩
    · exact ⟨⟨fun q => absurd q d_CONTAINING_IN, fun q => absurd q (by decide)⟩, ⟨fun q => absurd q d_CONTAINING_NOT_IN, fun q => absurd q (by decide)⟩⟩
    · exact ⟨⟨fun _ => rfl, fun _ => rfl⟩, ⟨fun q => absurd q d_IN_NOT_IN, fun q => absurd q (by decide)⟩⟩
    · exact ⟨⟨fun q => absurd q d_NOT_IN_IN, fun q => absurd q (by decide)⟩, ⟨fun _ => rfl, fun _ => rfl⟩⟩
    · exact ⟨⟨fun q => absurd q d_MATCHES_IN, fun q => absurd q (by decide)⟩, ⟨fun q => absurd q d_MATCHES_NOT_IN, fun q => absurd q (by decide)⟩⟩
    · exact ⟨⟨fun q => absurd q d_EXISTS_IN, fun q => absurd q (by decide)⟩, ⟨fun q => absurd q d_EXISTS_NOT_IN, fun q => absurd q (by decide)⟩⟩
    · exact ⟨⟨fun q => absurd q d_EMPTY_IN, fun q => absurd q (by decide)⟩, ⟨fun q => absurd q d_EMPTY_NOT_IN, fun q => absurd q (by decide)⟩⟩
    · exact ⟨⟨fun q => absurd q d_NOT_EMPTY_IN, fun q => absurd q (by decide)⟩, ⟨fun q => absurd q d_NOT_EMPTY_NOT_IN, fun q => absurd q (by decide)⟩⟩
    · exact ⟨⟨fun q => absurd q d_NEAR_IN, fun q => absurd q (by decide)⟩, ⟨fun q => absurd q d_NEAR_NOT_IN, fun q => absurd q (by decide)⟩⟩
    · exact ⟨⟨fun q => absurd q d_WITHIN_IN, fun q => absurd q (by decide)⟩, ⟨fun q => absurd q d_WITHIN_NOT_IN, fun q => absurd q (by decide)⟩⟩
  obtain ⟨j, hj, hK⟩ := own_cases i0
  obtain ⟨n, o, h1, h2, h3, _, L, rfl, ⟨rfl, N⟩, hq⟩ := rm0 l s _ hw tables_1 i0 wa pa j hj hK s.heap s.heap.size (Nat.le_refl _) hE hd hP ⟨rfl, rfl⟩ s_EQUALS s_NOT s_NULL s_NOT_NULL s_TRUE s_FALSE s_BETWEEN s_LESS_THAN s_LESS_THAN_EQUAL s_GREATER_THAN s_GREATER_THAN_EQUAL s_BEFORE s_AFTER s_LIKE s_NOT_LIKE s_STARTING_WITH s_ENDING_WITH s_CONTAINING s_IN s_NOT_IN s_MATCHES s_EXISTS s_EMPTY s_NOT_EMPTY s_NEAR s_WITHIN p e ha hc hk s m _ below hf ((Spec.applies_iff_loose hf).mp happ).1 ⟨rfl, State.Warmed39.refl s, rfl⟩ trivial
  exact ⟨n, _, h1, h2, h3, hpost _ _ _ _ _ _ ⟨Cond.after_iff.mpr rfl, Cond.after_iff.mpr (eq_i res_at (Term.int_eval (1)) rfl), trivial⟩ ⟨hq.1, hq.2.1, (hq.2.2.sift fun y hy => Or.inr (N y hy)).mono (by decide) (by decide)⟩⟩
theorem main_1_1 : Claimed_1_1 := comes_1 fun _ _ _ _ _ _ h hF => ⟨h.1, hF⟩
theorem main_1_2 : Claimed_1_2 := comes_1 fun _ _ _ _ _ _ h hF => ⟨h.2.1, hF⟩
end Jvm.Pilot.@@N@@
namespace Jvm.Pilot.@@N@@
open Jvm Jvm.ClassFile Sem Op Lib Jvm.Free Jvm.Stand Jvm.Pilot.@@N@@.Jvm.D
/-! MADE BY PROGRAM (witnessworld.py) out of the Statement's table words and the real class files: 13 classes; the members and pool entries that the words name. The judged class is class 1, her method 1. -/
namespace start1
open Jvm.ClassFile
def u (s : String) : CpInfo := .utf8 (stringToUtf16 s)
/-- a pool by its gaps: so many unusable entries, then the entry; so many at the end -/
def gap : Nat → List CpInfo → List CpInfo
  | 0, r => r
  | n + 1, r => .unusable :: gap n r
def poolList (es : List (Nat × CpInfo)) (last : Nat) : List CpInfo := es.foldr (fun e r => gap e.1 (e.2 :: r)) (gap last [])
def pool (es : List (Nat × CpInfo)) (last : Nat) : Array CpInfo := ⟨poolList es last⟩
def fileOf (pool : Array CpInfo) (this : Nat) (attrs : Array Attribute := #[]) (ms : Array MethodInfo := #[]) (fl : Nat := 33) (sup : Nat := 0) (ifs : Array Nat := #[]) (fds : Array FieldInfo := #[]) : ClassFile where
  minorVersion := 0
  majorVersion := 65
  constantPool := pool
  accessFlags := fl
  thisClass := this
  superClass := sup
  interfaces := ifs
  fields := fds
  methods := ms
  attributes := attrs
def plain (name : String) (sup : Option ClassId) : Class where
  name := name
  kind := .ordinary
  loader := none
  accessFlags := 33
  super := sup
  interfaces := #[]
  cf := none
  fields := #[]
  methods := #[]
  instanceTypes := #[]
  staticTypes := #[]
  resolved := #[]
  callSites := []
  init := .initialized
  statics := none
  mirror := none

def pool0 : Array CpInfo := pool [(5, u "<init>"), (0, u "()V"), (1, .class_ 10), (1, u "java/lang/Object")] 113

def k0m0 : Method := { name := "<init>", desc := "()V", sig := { parameters := [], returnType := none }, accessFlags := 1, code := none }
/-- java/lang/Object -/
def k0 : Class := { plain "java/lang/Object" none with
  accessFlags := 33
  interfaces := #[]
  cf := some (fileOf pool0 8 #[] #[{ accessFlags := 1, nameIndex := 5, descriptorIndex := 6, attributes := #[] }] 33 0 #[] #[])
  fields := #[]
  methods := #[k0m0]
  instanceTypes := #[]
  staticTypes := #[]
  resolved := Array.replicate 124 none
  statics := none }

def pool1 : Array CpInfo := pool [(2, .class_ 4), (1, u "java/lang/Object"), (0, u "<init>"), (0, u "()V"), (0, .class_ 8), (0, u "com/example/huron/huron/support/Keyword"), (0, .fieldref 7 10), (0, .nameAndType 11 12), (0, u "EQUALS"), (0, u "Lcom/example/huron/huron/support/Keyword;"), (0, .fieldref 7 14), (0, .nameAndType 15 12), (0, u "NOT"), (0, .fieldref 7 17), (0, .nameAndType 18 12), (0, u "NULL"), (0, .fieldref 7 20), (0, .nameAndType 21 12), (0, u "NOT_NULL"), (0, .fieldref 7 23), (0, .nameAndType 24 12), (0, u "TRUE"), (0, .fieldref 7 26), (0, .nameAndType 27 12), (0, u "FALSE"), (0, .fieldref 7 29), (0, .nameAndType 30 12), (0, u "BETWEEN"), (0, .fieldref 7 32), (0, .nameAndType 33 12), (0, u "LESS_THAN"), (0, .fieldref 7 35), (0, .nameAndType 36 12), (0, u "LESS_THAN_EQUAL"), (0, .fieldref 7 38), (0, .nameAndType 39 12), (0, u "GREATER_THAN"), (0, .fieldref 7 41), (0, .nameAndType 42 12), (0, u "GREATER_THAN_EQUAL"), (0, .fieldref 7 44), (0, .nameAndType 45 12), (0, u "BEFORE"), (0, .fieldref 7 47), (0, .nameAndType 48 12), (0, u "AFTER"), (0, .fieldref 7 50), (0, .nameAndType 51 12), (0, u "LIKE"), (0, .fieldref 7 53), (0, .nameAndType 54 12), (0, u "NOT_LIKE"), (0, .fieldref 7 56), (0, .nameAndType 57 12), (0, u "STARTING_WITH"), (0, .fieldref 7 59), (0, .nameAndType 60 12), (0, u "ENDING_WITH"), (0, .fieldref 7 62), (0, .nameAndType 63 12), (0, u "CONTAINING"), (0, .fieldref 7 65), (0, .nameAndType 66 12), (0, u "IN"), (0, .fieldref 7 68), (0, .nameAndType 69 12), (0, u "NOT_IN"), (0, .fieldref 7 71), (0, .nameAndType 72 12), (0, u "MATCHES"), (0, .fieldref 7 74), (0, .nameAndType 75 12), (0, u "EXISTS"), (0, .fieldref 7 77), (0, .nameAndType 78 12), (0, u "EMPTY"), (0, .fieldref 7 80), (0, .nameAndType 81 12), (0, u "NOT_EMPTY"), (0, .fieldref 7 83), (0, .nameAndType 84 12), (0, u "NEAR"), (0, .fieldref 7 86), (0, .nameAndType 87 12), (0, u "WITHIN"), (0, .integer 2147483647), (0, .methodref 7 90), (0, .nameAndType 91 92), (0, u "takesCollection"), (0, u "()Z"), (0, .methodref 7 94), (0, .nameAndType 95 96), (0, u "parameters"), (0, u "()I"), (0, .class_ 98), (0, u "com/example/huron/huron/support/KeywordTakesCollectionPinLaw"), (2, u "law"), (0, u "(I)Z")] 5

def k1m0 : Method := { name := "<init>", desc := "()V", sig := { parameters := [], returnType := none }, accessFlags := 1, code := none }
def k1c1 : Code := { maxStack := 4, maxLocals := 6, code := code, exceptionTable := #[], attributes := #[] }
def k1m1 : Method := { name := "law", desc := "(I)Z", sig := { parameters := [.int], returnType := some .boolean }, accessFlags := 9, code := some k1c1 }
/-- com/example/huron/huron/support/KeywordTakesCollectionPinLaw -/
def k1 : Class := { plain "com/example/huron/huron/support/KeywordTakesCollectionPinLaw" (some 0) with
  accessFlags := 49
  interfaces := #[]
  cf := some (fileOf pool1 97 #[] #[{ accessFlags := 1, nameIndex := 5, descriptorIndex := 6, attributes := #[] }, { accessFlags := 9, nameIndex := 101, descriptorIndex := 102, attributes := #[] }] 49 2 #[] #[])
  fields := #[]
  methods := #[k1m0, k1m1]
  instanceTypes := #[]
  staticTypes := #[]
  resolved := Array.replicate 108 none
  statics := none }

def pool2 : Array CpInfo := pool [(1, .class_ 2), (0, u "java/lang/constant/Constable"), (0, .class_ 4), (0, u "java/lang/Object")] 6

/-- java/lang/constant/Constable -/
def k2 : Class := { plain "java/lang/constant/Constable" (some 0) with
  accessFlags := 1537
  interfaces := #[]
  cf := some (fileOf pool2 1 #[] #[] 1537 3 #[] #[])
  fields := #[]
  methods := #[]
  instanceTypes := #[]
  staticTypes := #[]
  resolved := Array.replicate 11 none
  statics := none }

def pool3 : Array CpInfo := pool [(1, .class_ 2), (0, u "java/lang/Comparable"), (0, .class_ 4), (0, u "java/lang/Object")] 7

/-- java/lang/Comparable -/
def k3 : Class := { plain "java/lang/Comparable" (some 0) with
  accessFlags := 1537
  interfaces := #[]
  cf := some (fileOf pool3 1 #[] #[] 1537 3 #[] #[])
  fields := #[]
  methods := #[]
  instanceTypes := #[]
  staticTypes := #[]
  resolved := Array.replicate 12 none
  statics := none }

def pool4 : Array CpInfo := pool [(1, .class_ 2), (0, u "java/io/Serializable"), (0, .class_ 4), (0, u "java/lang/Object")] 2

/-- java/io/Serializable -/
def k4 : Class := { plain "java/io/Serializable" (some 0) with
  accessFlags := 1537
  interfaces := #[]
  cf := some (fileOf pool4 1 #[] #[] 1537 3 #[] #[])
  fields := #[]
  methods := #[]
  instanceTypes := #[]
  staticTypes := #[]
  resolved := Array.replicate 7 none
  statics := none }

def pool5 : Array CpInfo := pool [(2, .class_ 4), (1, u "java/lang/Enum"), (0, u "name"), (0, u "Ljava/lang/String;"), (2, u "ordinal"), (0, u "I"), (1, .class_ 14), (1, u "java/lang/Object"), (4, u "hash"), (86, .class_ 108), (1, u "java/lang/Enum$EnumDesc"), (2, .class_ 112), (0, u "java/lang/constant/Constable"), (0, .class_ 114), (0, u "java/lang/Comparable"), (0, .class_ 116), (0, u "java/io/Serializable")] 87

/-- java/lang/Enum -/
def k5 : Class := { plain "java/lang/Enum" (some 0) with
  accessFlags := 1057
  interfaces := #[2, 3, 4]
  cf := some (fileOf pool5 2 #[.nestMembers #[106]] #[] 1057 12 #[111, 113, 115] #[{ accessFlags := 18, nameIndex := 5, descriptorIndex := 6, attributes := #[] }, { accessFlags := 18, nameIndex := 9, descriptorIndex := 10, attributes := #[] }, { accessFlags := 2, nameIndex := 19, descriptorIndex := 10, attributes := #[] }])
  fields := #[{ name := "name", type := (.object "java/lang/String"), accessFlags := 18, slot := 0, constantValue := 0 }, { name := "ordinal", type := .int, accessFlags := 18, slot := 1, constantValue := 0 }, { name := "hash", type := .int, accessFlags := 2, slot := 2, constantValue := 0 }]
  methods := #[]
  instanceTypes := #[(.object "java/lang/String"), .int, .int]
  staticTypes := #[]
  resolved := Array.replicate 204 none
  statics := none }

def pool6 : Array CpInfo := pool [(1, .class_ 2), (0, u "com/example/huron/huron/support/Keyword"), (2, u "EQUALS"), (0, u "Lcom/example/huron/huron/support/Keyword;"), (2, u "NOT"), (2, u "NULL"), (2, u "NOT_NULL"), (2, u "TRUE"), (2, u "FALSE"), (2, u "BETWEEN"), (2, u "LESS_THAN"), (2, u "LESS_THAN_EQUAL"), (2, u "GREATER_THAN"), (2, u "GREATER_THAN_EQUAL"), (2, u "BEFORE"), (2, u "AFTER"), (2, u "LIKE"), (2, u "NOT_LIKE"), (2, u "STARTING_WITH"), (2, u "ENDING_WITH"), (2, u "CONTAINING"), (0, .fieldref 1 59), (0, .nameAndType 60 6), (0, u "IN"), (0, .fieldref 1 62), (0, .nameAndType 63 6), (0, u "NOT_IN"), (2, u "MATCHES"), (2, u "EXISTS"), (2, u "EMPTY"), (2, u "NOT_EMPTY"), (2, u "NEAR"), (2, u "WITHIN"), (2, u "$VALUES"), (0, u "[Lcom/example/huron/huron/support/Keyword;"), (6, .class_ 94), (1, u "java/lang/Enum"), (6, .fieldref 1 102), (0, .nameAndType 103 104), (0, u "parameters"), (0, u "I"), (8, u "parameterTypes"), (0, u "Ljava/util/List;"), (5, u "spellings"), (7, u "()I"), (3, u "()Z"), (24, u "SPELLINGS"), (9, .class_ 168), (0, u "com/example/huron/huron/support/Keyword$Spelling"), (183, u "takesCollection")] 31

def k6c0 : Code := { maxStack := 1, maxLocals := 1, code := prog_39_method_5_code, exceptionTable := #[], attributes := #[] }
def k6m0 : Method := { name := "parameters", desc := "()I", sig := { parameters := [], returnType := some .int }, accessFlags := 1, code := some k6c0 }
def k6c1 : Code := { maxStack := 2, maxLocals := 1, code := prog_39_method_8_code, exceptionTable := #[], attributes := #[] }
def k6m1 : Method := { name := "takesCollection", desc := "()Z", sig := { parameters := [], returnType := some .boolean }, accessFlags := 1, code := some k6c1 }
/-- com/example/huron/huron/support/Keyword -/
def k6 : Class := { plain "com/example/huron/huron/support/Keyword" (some 5) with
  accessFlags := 16433
  interfaces := #[]
  cf := some (fileOf pool6 1 #[.nestMembers #[167]] #[{ accessFlags := 1, nameIndex := 103, descriptorIndex := 128, attributes := #[] }, { accessFlags := 1, nameIndex := 352, descriptorIndex := 132, attributes := #[] }] 16433 92 #[] #[{ accessFlags := 16409, nameIndex := 5, descriptorIndex := 6, attributes := #[] }, { accessFlags := 16409, nameIndex := 9, descriptorIndex := 6, attributes := #[] }, { accessFlags := 16409, nameIndex := 12, descriptorIndex := 6, attributes := #[] }, { accessFlags := 16409, nameIndex := 15, descriptorIndex := 6, attributes := #[] }, { accessFlags := 16409, nameIndex := 18, descriptorIndex := 6, attributes := #[] }, { accessFlags := 16409, nameIndex := 21, descriptorIndex := 6, attributes := #[] }, { accessFlags := 16409, nameIndex := 24, descriptorIndex := 6, attributes := #[] }, { accessFlags := 16409, nameIndex := 27, descriptorIndex := 6, attributes := #[] }, { accessFlags := 16409, nameIndex := 30, descriptorIndex := 6, attributes := #[] }, { accessFlags := 16409, nameIndex := 33, descriptorIndex := 6, attributes := #[] }, { accessFlags := 16409, nameIndex := 36, descriptorIndex := 6, attributes := #[] }, { accessFlags := 16409, nameIndex := 39, descriptorIndex := 6, attributes := #[] }, { accessFlags := 16409, nameIndex := 42, descriptorIndex := 6, attributes := #[] }, { accessFlags := 16409, nameIndex := 45, descriptorIndex := 6, attributes := #[] }, { accessFlags := 16409, nameIndex := 48, descriptorIndex := 6, attributes := #[] }, { accessFlags := 16409, nameIndex := 51, descriptorIndex := 6, attributes := #[] }, { accessFlags := 16409, nameIndex := 54, descriptorIndex := 6, attributes := #[] }, { accessFlags := 16409, nameIndex := 57, descriptorIndex := 6, attributes := #[] }, { accessFlags := 16409, nameIndex := 60, descriptorIndex := 6, attributes := #[] }, { accessFlags := 16409, nameIndex := 63, descriptorIndex := 6, attributes := #[] }, { accessFlags := 16409, nameIndex := 66, descriptorIndex := 6, attributes := #[] }, { accessFlags := 16409, nameIndex := 69, descriptorIndex := 6, attributes := #[] }, { accessFlags := 16409, nameIndex := 72, descriptorIndex := 6, attributes := #[] }, { accessFlags := 16409, nameIndex := 75, descriptorIndex := 6, attributes := #[] }, { accessFlags := 16409, nameIndex := 78, descriptorIndex := 6, attributes := #[] }, { accessFlags := 16409, nameIndex := 81, descriptorIndex := 6, attributes := #[] }, { accessFlags := 26, nameIndex := 157, descriptorIndex := 114, attributes := #[] }, { accessFlags := 18, nameIndex := 103, descriptorIndex := 104, attributes := #[] }, { accessFlags := 18, nameIndex := 113, descriptorIndex := 114, attributes := #[] }, { accessFlags := 18, nameIndex := 120, descriptorIndex := 114, attributes := #[] }, { accessFlags := 4122, nameIndex := 84, descriptorIndex := 85, attributes := #[] }])
  fields := #[{ name := "EQUALS", type := (.object "com/example/huron/huron/support/Keyword"), accessFlags := 16409, slot := 0, constantValue := 0 }, { name := "NOT", type := (.object "com/example/huron/huron/support/Keyword"), accessFlags := 16409, slot := 1, constantValue := 0 }, { name := "NULL", type := (.object "com/example/huron/huron/support/Keyword"), accessFlags := 16409, slot := 2, constantValue := 0 }, { name := "NOT_NULL", type := (.object "com/example/huron/huron/support/Keyword"), accessFlags := 16409, slot := 3, constantValue := 0 }, { name := "TRUE", type := (.object "com/example/huron/huron/support/Keyword"), accessFlags := 16409, slot := 4, constantValue := 0 }, { name := "FALSE", type := (.object "com/example/huron/huron/support/Keyword"), accessFlags := 16409, slot := 5, constantValue := 0 }, { name := "BETWEEN", type := (.object "com/example/huron/huron/support/Keyword"), accessFlags := 16409, slot := 6, constantValue := 0 }, { name := "LESS_THAN", type := (.object "com/example/huron/huron/support/Keyword"), accessFlags := 16409, slot := 7, constantValue := 0 }, { name := "LESS_THAN_EQUAL", type := (.object "com/example/huron/huron/support/Keyword"), accessFlags := 16409, slot := 8, constantValue := 0 }, { name := "GREATER_THAN", type := (.object "com/example/huron/huron/support/Keyword"), accessFlags := 16409, slot := 9, constantValue := 0 }, { name := "GREATER_THAN_EQUAL", type := (.object "com/example/huron/huron/support/Keyword"), accessFlags := 16409, slot := 10, constantValue := 0 }, { name := "BEFORE", type := (.object "com/example/huron/huron/support/Keyword"), accessFlags := 16409, slot := 11, constantValue := 0 }, { name := "AFTER", type := (.object "com/example/huron/huron/support/Keyword"), accessFlags := 16409, slot := 12, constantValue := 0 }, { name := "LIKE", type := (.object "com/example/huron/huron/support/Keyword"), accessFlags := 16409, slot := 13, constantValue := 0 }, { name := "NOT_LIKE", type := (.object "com/example/huron/huron/support/Keyword"), accessFlags := 16409, slot := 14, constantValue := 0 }, { name := "STARTING_WITH", type := (.object "com/example/huron/huron/support/Keyword"), accessFlags := 16409, slot := 15, constantValue := 0 }, { name := "ENDING_WITH", type := (.object "com/example/huron/huron/support/Keyword"), accessFlags := 16409, slot := 16, constantValue := 0 }, { name := "CONTAINING", type := (.object "com/example/huron/huron/support/Keyword"), accessFlags := 16409, slot := 17, constantValue := 0 }, { name := "IN", type := (.object "com/example/huron/huron/support/Keyword"), accessFlags := 16409, slot := 18, constantValue := 0 }, { name := "NOT_IN", type := (.object "com/example/huron/huron/support/Keyword"), accessFlags := 16409, slot := 19, constantValue := 0 }, { name := "MATCHES", type := (.object "com/example/huron/huron/support/Keyword"), accessFlags := 16409, slot := 20, constantValue := 0 }, { name := "EXISTS", type := (.object "com/example/huron/huron/support/Keyword"), accessFlags := 16409, slot := 21, constantValue := 0 }, { name := "EMPTY", type := (.object "com/example/huron/huron/support/Keyword"), accessFlags := 16409, slot := 22, constantValue := 0 }, { name := "NOT_EMPTY", type := (.object "com/example/huron/huron/support/Keyword"), accessFlags := 16409, slot := 23, constantValue := 0 }, { name := "NEAR", type := (.object "com/example/huron/huron/support/Keyword"), accessFlags := 16409, slot := 24, constantValue := 0 }, { name := "WITHIN", type := (.object "com/example/huron/huron/support/Keyword"), accessFlags := 16409, slot := 25, constantValue := 0 }, { name := "SPELLINGS", type := (.object "java/util/List"), accessFlags := 26, slot := 26, constantValue := 0 }, { name := "parameters", type := .int, accessFlags := 18, slot := 3, constantValue := 0 }, { name := "parameterTypes", type := (.object "java/util/List"), accessFlags := 18, slot := 4, constantValue := 0 }, { name := "spellings", type := (.object "java/util/List"), accessFlags := 18, slot := 5, constantValue := 0 }, { name := "$VALUES", type := (.array (.object "com/example/huron/huron/support/Keyword")), accessFlags := 4122, slot := 27, constantValue := 0 }]
  methods := #[k6m0, k6m1]
  instanceTypes := #[(.object "java/lang/String"), .int, .int, .int, (.object "java/util/List"), (.object "java/util/List")]
  staticTypes := #[(.object "com/example/huron/huron/support/Keyword"), (.object "com/example/huron/huron/support/Keyword"), (.object "com/example/huron/huron/support/Keyword"), (.object "com/example/huron/huron/support/Keyword"), (.object "com/example/huron/huron/support/Keyword"), (.object "com/example/huron/huron/support/Keyword"), (.object "com/example/huron/huron/support/Keyword"), (.object "com/example/huron/huron/support/Keyword"), (.object "com/example/huron/huron/support/Keyword"), (.object "com/example/huron/huron/support/Keyword"), (.object "com/example/huron/huron/support/Keyword"), (.object "com/example/huron/huron/support/Keyword"), (.object "com/example/huron/huron/support/Keyword"), (.object "com/example/huron/huron/support/Keyword"), (.object "com/example/huron/huron/support/Keyword"), (.object "com/example/huron/huron/support/Keyword"), (.object "com/example/huron/huron/support/Keyword"), (.object "com/example/huron/huron/support/Keyword"), (.object "com/example/huron/huron/support/Keyword"), (.object "com/example/huron/huron/support/Keyword"), (.object "com/example/huron/huron/support/Keyword"), (.object "com/example/huron/huron/support/Keyword"), (.object "com/example/huron/huron/support/Keyword"), (.object "com/example/huron/huron/support/Keyword"), (.object "com/example/huron/huron/support/Keyword"), (.object "com/example/huron/huron/support/Keyword"), (.object "java/util/List"), (.array (.object "com/example/huron/huron/support/Keyword"))]
  resolved := Array.replicate 384 none
  statics := some 0 }

def pool7 : Array CpInfo := pool [(1, u "java/lang/Cloneable"), (0, .class_ 1), (0, u "java/lang/Object"), (0, .class_ 3)] 3

/-- java/lang/Cloneable -/
def k7 : Class := { plain "java/lang/Cloneable" (some 0) with
  accessFlags := 1537
  interfaces := #[]
  cf := some (fileOf pool7 2 #[] #[] 1537 4 #[] #[])
  fields := #[]
  methods := #[]
  instanceTypes := #[]
  staticTypes := #[]
  resolved := Array.replicate 8 none
  statics := none }

/-- the primitive byte -/
def k8 : Class := { plain "byte" none with kind := .primitive 'B', accessFlags := 0x411 }
/-- [B -/
def k9 : Class := { plain "[B" (some 0) with kind := .array 8 .byte, interfaces := #[7, 4], accessFlags := 1041 }

/-- the primitive int -/
def k10 : Class := { plain "int" none with kind := .primitive 'I', accessFlags := 0x411 }
/-- [I -/
def k11 : Class := { plain "[I" (some 0) with kind := .array 10 .int, interfaces := #[7, 4], accessFlags := 1041 }

/-- [Lcom/example/huron/huron/support/Keyword; -/
def k12 : Class := { plain "[Lcom/example/huron/huron/support/Keyword;" (some 0) with kind := .array 6 (.object "com/example/huron/huron/support/Keyword"), interfaces := #[7, 4], accessFlags := 1041 }

def heap : Heap := #[{ cls := 6, slots := #[.ref 1, .ref 2, .ref 3, .ref 4, .ref 5, .ref 6, .ref 7, .ref 8, .ref 9, .ref 10, .ref 11, .ref 12, .ref 13, .ref 14, .ref 15, .ref 16, .ref 17, .ref 18, .ref 19, .ref 20, .ref 21, .ref 22, .ref 23, .ref 24, .ref 25, .ref 26, .null, .null], vm := .statics 6 },
  { cls := 6, slots := #[.null, .int 0, .int 0, .int 1, .null, .null], vm := .none },
  { cls := 6, slots := #[.null, .int 1, .int 0, .int 1, .null, .null], vm := .none },
  { cls := 6, slots := #[.null, .int 2, .int 0, .int 0, .null, .null], vm := .none },
  { cls := 6, slots := #[.null, .int 3, .int 0, .int 0, .null, .null], vm := .none },
  { cls := 6, slots := #[.null, .int 4, .int 0, .int 0, .null, .null], vm := .none },
  { cls := 6, slots := #[.null, .int 5, .int 0, .int 0, .null, .null], vm := .none },
  { cls := 6, slots := #[.null, .int 6, .int 0, .int 2, .null, .null], vm := .none },
  { cls := 6, slots := #[.null, .int 7, .int 0, .int 1, .null, .null], vm := .none },
  { cls := 6, slots := #[.null, .int 8, .int 0, .int 1, .null, .null], vm := .none },
  { cls := 6, slots := #[.null, .int 9, .int 0, .int 1, .null, .null], vm := .none },
  { cls := 6, slots := #[.null, .int 10, .int 0, .int 1, .null, .null], vm := .none },
  { cls := 6, slots := #[.null, .int 11, .int 0, .int 1, .null, .null], vm := .none },
  { cls := 6, slots := #[.null, .int 12, .int 0, .int 1, .null, .null], vm := .none },
  { cls := 6, slots := #[.null, .int 13, .int 0, .int 1, .null, .null], vm := .none },
  { cls := 6, slots := #[.null, .int 14, .int 0, .int 1, .null, .null], vm := .none },
  { cls := 6, slots := #[.null, .int 15, .int 0, .int 1, .null, .null], vm := .none },
  { cls := 6, slots := #[.null, .int 16, .int 0, .int 1, .null, .null], vm := .none },
  { cls := 6, slots := #[.null, .int 17, .int 0, .int 1, .null, .null], vm := .none },
  { cls := 6, slots := #[.null, .int 18, .int 0, .int 1, .null, .null], vm := .none },
  { cls := 6, slots := #[.null, .int 19, .int 0, .int 1, .null, .null], vm := .none },
  { cls := 6, slots := #[.null, .int 20, .int 0, .int 1, .null, .null], vm := .none },
  { cls := 6, slots := #[.null, .int 21, .int 0, .int 0, .null, .null], vm := .none },
  { cls := 6, slots := #[.null, .int 22, .int 0, .int 0, .null, .null], vm := .none },
  { cls := 6, slots := #[.null, .int 23, .int 0, .int 0, .null, .null], vm := .none },
  { cls := 6, slots := #[.null, .int 24, .int 0, .int 2, .null, .null], vm := .none },
  { cls := 6, slots := #[.null, .int 25, .int 0, .int 2, .null, .null], vm := .none }]
def classes : Array Class := #[k0, k1, k2, k3, k4, k5, k6, k7, k8, k9, k10, k11, k12]
def interned : List (Array UInt16 × Addr) := []
def slotsUsed : Nat := 184
def theMethod : MethodId := ⟨1, 1⟩
def args0 : Array Value := #[.int 5]
def aboutOver (below : List Frame) : State where
  vm := { classes := classes, interned := interned.toArray }
  heap := heap
  slotsUsed := slotsUsed
  threads := #[{ frames := .invoking theMethod args0 :: below }]
def below0 : List Frame := [.native { method := ⟨0, 0⟩, args := #[] }]
def about1 : State := aboutOver below0
def p0 : Program := .bare "" "" ""
def e0 : Env := launch0.env 0 0 0
theorem w_frames : about1.frames = Frame.invoking theMethod args0 :: below0 := rfl
set_option maxRecDepth 65536 in
theorem w_args : argsFit about1.vm theMethod args0 = true := by decide +kernel
set_option maxRecDepth 65536 in
theorem w_heap : heapFits about1 = true := by decide +kernel
set_option maxRecDepth 65536 in
theorem w_runnable : about1.curStatus? = some .runnable := by decide +kernel
set_option maxRecDepth 65536 in
theorem w_alone : about1.alone = true := by decide +kernel
set_option maxRecDepth 65536 in
theorem w_named : about1.methodNamed? x = some theMethod := by decide +kernel
set_option maxRecDepth 65536 in
theorem w_hears : about1.hears theMethod below0 = true := by decide +kernel
set_option maxRecDepth 65536 in
theorem w_ripe : about1.ripe theMethod args0 below0 = true := by decide +kernel
theorem w_running : about1.status = .running := rfl
set_option maxRecDepth 65536 in
theorem w_room : about1.hasRoom e0.platform room_1 = true :=
  launch0.hasRoom_least _ room_1 (by decide +kernel) (by decide +kernel) (by decide +kernel) (by decide +kernel) (by decide +kernel) (by decide +kernel)
theorem allAtoms_all (ts : List Jvm.Cond) (a : Array Jvm.Value) (st : Jvm.State) : (allAtoms ts).before a st = ts.all (fun c => c.before a st) := by
  induction ts with
  | nil => rfl
  | cons c t ih =>
    show (Jvm.Cond.and c (allAtoms t)).before a st = _
    rw [Jvm.Cond.before_and, ih, List.all_cons]
def words1 : List Jvm.Cond := Jvm.Cond.code x code maxLocals ret :: tables_1
/-- a 'code' word, met by the world's own term for the bytes: nothing is compared byte by byte -/
theorem code_word {y : MethodName} {bytes : ByteArray} {mx : Nat} {rt : Option FieldType} {a : Array Value} {s : State} {m : MethodId} {meth : Method} {c : Code} (h1 : s.methodNamed? y = some m) (h2 : s.vm.method? m = some meth) (h3 : meth.code = some c) (h4 : c.code = bytes)
    (h5 : (c.maxLocals == mx && c.exceptionTable.isEmpty && decide (c.maxStack ≤ mostOperands) && decide (meth.sig.returnType = rt) && !meth.locks && decide (parseMethodDescriptor y.desc = some meth.sig)) = true) : (Jvm.Cond.code y bytes mx rt).before a s = true := by
  simp only [Bool.and_eq_true, beq_iff_eq, Bool.not_eq_true', decide_eq_true_eq] at h5
  obtain ⟨⟨⟨⟨⟨g1, g2⟩, g3⟩, g4⟩, g5⟩, g6⟩ := h5
  simp [Cond.before, Cond.holds, Cond.value, h1, h2, h3, h4, g1, g2, g3, g4, g5, g6]
def isCode : Jvm.Cond → Bool
  | .code _ _ _ _ => true
  | _ => false
theorem all_split {L : List Jvm.Cond} {P : Jvm.Cond → Bool} (h1 : L.all (fun c => isCode c || P c) = true) (h2 : ∀ c ∈ L.filter isCode, P c = true) : L.all P = true := by
  refine List.all_eq_true.mpr fun c hc => ?_
  have h := List.all_eq_true.mp h1 c hc
  rcases Bool.eq_false_or_eq_true (isCode c) with hi | hi
  · exact h2 c (List.mem_filter.mpr ⟨hc, hi⟩)
  · simpa [hi] using h
set_option maxRecDepth 65536 in
theorem w_c0 : (Jvm.Cond.code x code maxLocals ret).before args0 about1 = true := code_word (m := ⟨1, 1⟩) (meth := k1m1) (c := k1c1) (by decide +kernel) rfl rfl rfl (by decide +kernel)
set_option maxRecDepth 65536 in
theorem w_c1 : (Jvm.Cond.code ({ cls := "com/example/huron/huron/support/Keyword", name := "takesCollection", desc := "()Z" } : Jvm.MethodName) prog_39_method_8_code (1 : Nat) (Option.some Jvm.ClassFile.FieldType.boolean)).before args0 about1 = true := code_word (m := ⟨6, 1⟩) (meth := k6m1) (c := k6c1) (by decide +kernel) rfl rfl rfl (by decide +kernel)
set_option maxRecDepth 65536 in
theorem w_c2 : (Jvm.Cond.code ({ cls := "com/example/huron/huron/support/Keyword", name := "parameters", desc := "()I" } : Jvm.MethodName) prog_39_method_5_code (1 : Nat) (Option.some Jvm.ClassFile.FieldType.int)).before args0 about1 = true := code_word (m := ⟨6, 0⟩) (meth := k6m0) (c := k6c0) (by decide +kernel) rfl rfl rfl (by decide +kernel)
def codes1 : List Jvm.Cond := [Jvm.Cond.code x code maxLocals ret, Jvm.Cond.code ({ cls := "com/example/huron/huron/support/Keyword", name := "takesCollection", desc := "()Z" } : Jvm.MethodName) prog_39_method_8_code (1 : Nat) (Option.some Jvm.ClassFile.FieldType.boolean), Jvm.Cond.code ({ cls := "com/example/huron/huron/support/Keyword", name := "parameters", desc := "()I" } : Jvm.MethodName) prog_39_method_5_code (1 : Nat) (Option.some Jvm.ClassFile.FieldType.int)]
set_option maxRecDepth 65536 in
theorem codes_eq : words1.filter isCode = codes1 := rfl
theorem w_codes : ∀ c ∈ words1.filter isCode, c.before args0 about1 = true := by
  rw [codes_eq]
  intro c hc
  simp only [codes1, List.mem_cons, List.not_mem_nil, or_false] at hc
  rcases hc with rfl | rfl | rfl
  · exact w_c0
  · exact w_c1
  · exact w_c2
set_option maxRecDepth 65536 in
theorem w_t1 : (words1.take 24).all (fun c => isCode c || c.before args0 about1) = true := by decide +kernel
set_option maxRecDepth 65536 in
theorem w_t2 : ((words1.drop 24).take 24).all (fun c => isCode c || c.before args0 about1) = true := by decide +kernel
set_option maxRecDepth 65536 in
theorem w_t3 : ((words1.drop 24).drop 24).all (fun c => isCode c || c.before args0 about1) = true := by decide +kernel
theorem w_tables : (allAtoms (Jvm.Cond.code x code maxLocals ret :: tables_1)).before args0 about1 = true := by
  rw [allAtoms_all]
  show words1.all (fun c => c.before args0 about1) = true
  refine all_split ?_ w_codes
  rw [← List.take_append_drop 24 words1, List.all_append, w_t1, ← List.take_append_drop 24 (words1.drop 24), List.all_append, w_t2, w_t3]
  rfl
set_option maxRecDepth 65536 in
theorem w_case : (Jvm.Cond.and given_1 narrow_1).before args0 about1 = true := by decide +kernel
theorem w_applies : (headSpec (Jvm.Cond.code x code maxLocals ret :: tables_1) room_1).applies x e0.platform about1 = true :=
  (Spec.applies_iff w_frames).mpr ⟨w_running, w_runnable, w_alone, w_named, w_hears, w_ripe, w_room, w_tables⟩
theorem atStart : AtStart classFile x code maxLocals ret World_1 tables_1 room_1 Calls_1 rest_1 Pre_1 launch0 p0 e0 about1 theMethod args0 below0 :=
  ⟨lists_1, trivial, launch0.admits_env _ _ _, launch0.least_env, fairChoices_fair.cas, fairChoices_fair.clock, w_frames, w_args, w_heap, w_applies, trivial, trivial, w_case⟩
end start1
theorem witness_1 : WitnessClaimed_1 := ⟨start1.p0, start1.e0, start1.about1, start1.theMethod, start1.args0, start1.below0, start1.atStart⟩
end Jvm.Pilot.@@N@@
