import JvmDerived
import JvmDerived.Pilot.@@N@@Statement
import JvmDerived.Pilot.@@N@@Code
set_option linter.unusedVariables false
set_option linter.unusedSimpArgs false
@@BLOCK:NumsL.lean.txt@@
namespace Jvm.RoadKit
open Sem ClassFile Op Lib Jvm.Stand Jvm.Free Jvm.LawKit
section New
variable {p : Program} {l : Launch} {e : Env} {R : Room} {s : State} {m : MethodId} {args : Array Value} {below : List Frame} {meth : Method} {c : Code} {T : State} {locs : List Loc} {cells slots : Nat}
theorem retI (X : Stand p l e R s m args below meth c T locs cells slots) (hx : p.tables.exec = Jvm.exec) {pc : Nat} {Ls : Array Slot} {z : Int32} {rest : List Value} (hret : meth.sig.returnType = some .int) (hd : decode c.code pc = .ok (.ireturn, 1)) {fs : List Frame}
    (hl : ∀ (f : JFrame) (acts : List Action), f.method = m → f.locked = none → f.entered = [] → (doReturn e (T.setTop f) acts (some (.int z))).1 = T.setFrames fs) : Steps p.tables e below (T.setTop (mkF m pc Ls (.int z :: rest))) (T.setFrames fs) := by
  have hm' : T.vm.method? m = some meth := X.method'
  have hn : narrow .int (.int z) = .int z := rfl
  show Steps p.tables e below (T.setTop { method := m, pc := pc, locals := Ls, stack := _ :: rest, locked := none }) _
  jvm_step X.here [X.here.top, hx, hd, hm', hret, hn]
  first | (intro acts; rw [hl _ acts rfl rfl rfl]) | rw [hl _ _ rfl rfl rfl]
  exact Steps.refl _
end New
end Jvm.RoadKit
/- laws to paste: Road.backV, Road.eqW (cut by pick.py; bodies as the Statement names them) -/
namespace Jvm.Pilot.@@N@@
namespace StrChars
open Jvm Sem ClassFile Op Lib Jvm.Stand Jvm.Free.XT Jvm.Free.ALB Jvm.Free.JM Jvm.Free
open Jvm.Lib.Cold (StaticIs)
/-- a char array whose places are chars -/
def Ch (a : Addr) (A : Cell) (U : State) : Prop := Arr .char a A U ∧ Typed .char A
theorem Ch.mv {a : Addr} {A : Cell} {U U' : State} (h : Ch a A U) (hal : U.vm.Alike U'.vm) (hh : U'.heap = U.heap) : Ch a A U' := ⟨h.1.mv hal hh, h.2⟩
theorem Ch.keep {a : Addr} {A : Cell} {U U' : State} (h : Ch a A U) (hal : U.vm.Alike U'.vm) (hk : U'.heap[a]? = some A) : Ch a A U' := ⟨h.1.keep hal hk, h.2⟩
/-- what place i of a char[]'s cell holds -/
def cv (A : Cell) (i : Nat) : Int32 := match A.slots[i]? with | some (.int x) => x | _ => 0
theorem Ch.get {a : Addr} {A : Cell} {U : State} (h : Ch a A U) {i : Nat} (hi : i < A.slots.size) : A.slots[i]? = some (.int (cv A i)) := by
  have e := Array.getElem?_eq_getElem hi
  have f := h.2 i _ e
  unfold cv; rw [e]
  generalize A.slots[i] = v at f
  cases v <;> simp [fits] at f ⊢
/-- the byte that i2b leaves of a char -/
def lo8 (x : Int32) : Int32 := x.toInt8.toInt32
theorem fits_lo8 (y : Int32) : fits .byte (.int (lo8 y)) = true := by
  have h1 := y.toInt8.le_toInt
  have h2 := y.toInt8.toInt_lt
  simp only [lo8, fits, Bool.and_eq_true, decide_eq_true_eq, Int32.le_iff_toInt_le, Int8.toInt_toInt32, show (-128 : Int32).toInt = -128 from by decide, show (127 : Int32).toInt = 127 from by decide]
  omega
/-- A' is A but that each place j of lo .. hi - 1 holds f j -/
def Laid (A A' : Cell) (lo hi : Nat) (f : Nat → Value) : Prop := A'.cls = A.cls ∧ A'.vm = A.vm ∧ A'.slots.size = A.slots.size ∧ ∀ i, A'.slots[i]? = if lo ≤ i ∧ i < hi then some (f i) else A.slots[i]?
theorem Laid.zero (A : Cell) (lo : Nat) (f : Nat → Value) : Laid A A lo (lo + 0) f := ⟨rfl, rfl, rfl, fun i => by rw [if_neg (by omega)]⟩
theorem Laid.step {A Ak : Cell} {lo k : Nat} {f : Nat → Value} {v : Value} (h : Laid A Ak lo k f) (hlo : lo ≤ k) (hk : k < Ak.slots.size) (hv : v = f k) : Laid A (Ak.setSlot k v) lo (k + 1) f := by
  refine ⟨h.1, h.2.1, by simpa [Cell.setSlot] using h.2.2.1, fun i => ?_⟩
  by_cases e : k = i
  · subst e; rw [Cell.slots_setSlot_self v hk, if_pos (by omega), hv]
  · rw [Cell.slots_setSlot_ne v e, h.2.2.2 i]
    by_cases q : lo ≤ i ∧ i < k
    · rw [if_pos q, if_pos (by omega)]
    · rw [if_neg q, if_neg (by omega)]
def U16 : String := "java/lang/StringUTF16"
namespace Cmp5
def yN : MethodName := ⟨"java/lang/StringUTF16", "compress", "([CI[BII)I"⟩
abbrev yB : ByteArray := jdk_52_method_21_code
theorem d0 : decode yB 0 = .ok (.iconst 0, 1) := by decide +kernel
theorem d1 : decode yB 1 = .ok (.istore 5, 2) := by decide +kernel
theorem d3 : decode yB 3 = .ok (.iload 5, 2) := by decide +kernel
theorem d5 : decode yB 5 = .ok (.iload 4, 2) := by decide +kernel
theorem d7 : decode yB 7 = .ok (.if_icmp (.ge) 37, 3) := by decide +kernel
theorem d10 : decode yB 10 = .ok (.aload_n 0, 1) := by decide +kernel
theorem d11 : decode yB 11 = .ok (.iload_n 1, 1) := by decide +kernel
theorem d12 : decode yB 12 = .ok (.caload, 1) := by decide +kernel
theorem d13 : decode yB 13 = .ok (.istore 6, 2) := by decide +kernel
theorem d15 : decode yB 15 = .ok (.iload 6, 2) := by decide +kernel
theorem d17 : decode yB 17 = .ok (.sipush 255, 3) := by decide +kernel
theorem d20 : decode yB 20 = .ok (.if_icmp (.le) 6, 3) := by decide +kernel
theorem d26 : decode yB 26 = .ok (.aload_n 2, 1) := by decide +kernel
theorem d27 : decode yB 27 = .ok (.iload_n 3, 1) := by decide +kernel
theorem d28 : decode yB 28 = .ok (.iload 6, 2) := by decide +kernel
theorem d30 : decode yB 30 = .ok (.i2b, 1) := by decide +kernel
theorem d31 : decode yB 31 = .ok (.bastore, 1) := by decide +kernel
theorem d32 : decode yB 32 = .ok (.iinc 1 1, 3) := by decide +kernel
theorem d35 : decode yB 35 = .ok (.iinc 3 1, 3) := by decide +kernel
theorem d38 : decode yB 38 = .ok (.iinc 5 1, 3) := by decide +kernel
theorem d41 : decode yB 41 = .ok (.goto (-38), 3) := by decide +kernel
theorem d44 : decode yB 44 = .ok (.iload 4, 2) := by decide +kernel
theorem d46 : decode yB 46 = .ok (.ireturn, 1) := by decide +kernel
def site : List Cond := []
def tab : Cond := tabOf yN yB 7 (some .int) site
def P (b : Addr) (A : Cell) (d : Addr) (B : Cell) (o q len : Nat) (args : Array Value) (s : State) : Prop := args = #[.ref b, .int (Int32.ofNat o), .ref d, .int (Int32.ofNat q), .int (Int32.ofNat len)] ∧ Ch b A s ∧ Arr .byte d B s ∧ b ≠ d ∧ o + len ≤ A.slots.size ∧ q + len ≤ B.slots.size ∧ ∀ i, i < len → ¬ 255 < cv A (o + i)
def E (b : Addr) (A : Cell) (d : Addr) (B : Cell) (o q len : Nat) (r : Option Value) (s u : State) : Prop := r = some (.int (Int32.ofNat len)) ∧ ∃ B', Put d B' s u ∧ Laid B B' q (q + len) (fun j => Value.int (lo8 (cv A (o + (j - q)))))
/-- no char of the range above 255: len; the places written hold each char's low byte -/
theorem law (l : Launch) (b : Addr) (A : Cell) (d : Addr) (B : Cell) (o q len : Nat) : Law l yN 5 5 0 0 yB 7 (some .int) site (P b A d B o q len) (E b A d B o q len) (copyLocs d q len) 0 0 := by
  refine Law.of_walk (plainFor_of_name (by decide +kernel)) (by decide +kernel) (by decide +kernel) (by decide) (fun _ _ h => by rw [h.1]; rfl) (fun _ U U' hal hh h => ⟨h.1, h.2.1.mv hal hh, h.2.2.1.mv hal hh, h.2.2.2⟩) (fun r U U' V V' h1 hal h2 h => ⟨h.1, h.2.elim fun B' q => ⟨B', q.1.mv h1 h2, q.2⟩⟩) ?_
  intro p e s m args below meth c s₁ X0 hexec hbytes hml hret hlk hnm hown hh0 W hP
  obtain ⟨rfl, hA, hB, hne, l1, l2, hp⟩ := hP
  have c1 : Steps p.tables e below (s₁.setTop (entryFrame m #[.ref b, .int (Int32.ofNat o), .ref d, .int (Int32.ofNat q), .int (Int32.ofNat len)] 7)) (s₁.setTop (mkF m 0 #[.val (.ref b), .val (.int (Int32.ofNat o)), .val (.ref d), .val (.int (Int32.ofNat q)), .val (.int (Int32.ofNat len)), .unset, .unset] [])) := entry rfl
  have hA0 := hA.1.mv X0.warmed.alike hh0
  have hB0 := hB.mv X0.warmed.alike hh0
  have a31 := hA.1.2.2.2
  have c2 : Steps p.tables e below (s₁.setTop (entryFrame m #[.ref b, .int (Int32.ofNat o), .ref d, .int (Int32.ofNat q), .int (Int32.ofNat len)] 7)) (s₁.setTop (mkF m 3 #[.val (.ref b), .val (.int (Int32.ofNat o)), .val (.ref d), .val (.int (Int32.ofNat q)), .val (.int (Int32.ofNat len)), .val (.int 0), .unset] [])) := c1.trans (by
    refine iconstV X0.here hexec rfl 0 (hb hbytes d0) (by decide) ?_
    refine XS.istore X0.here hexec rfl (hb hbytes d1) rfl rfl ?_
    exact Steps.refl _)
  have loop : ∀ (r i : Nat), i + r = len → ∀ (z : Slot), (z = .unset ∨ ∃ w, z = .val w ∧ w.category = 1) → ∀ (Tl : State) (Bk : Cell), Stand p l e { frames := 0, locals := 0, cells := 0, slots := 0 } s m #[.ref b, .int (Int32.ofNat o), .ref d, .int (Int32.ofNat q), .int (Int32.ofNat len)] below meth c Tl ([] ++ copyLocs d q i) 0 0 → Put d Bk s₁ Tl → Laid B Bk q (q + i) (fun j => Value.int (lo8 (cv A (o + (j - q))))) →
      Steps p.tables e below (s₁.setTop (entryFrame m #[.ref b, .int (Int32.ofNat o), .ref d, .int (Int32.ofNat q), .int (Int32.ofNat len)] 7)) (Tl.setTop (mkF m 3 #[.val (.ref b), .val (.int (Int32.ofNat (o + i))), .val (.ref d), .val (.int (Int32.ofNat (q + i))), .val (.int (Int32.ofNat len)), .val (.int (Int32.ofNat i)), z] [])) → ∃ (T' : State) (B' : Cell) (z' : Slot), Stand p l e { frames := 0, locals := 0, cells := 0, slots := 0 } s m #[.ref b, .int (Int32.ofNat o), .ref d, .int (Int32.ofNat q), .int (Int32.ofNat len)] below meth c T' ([] ++ copyLocs d q len) 0 0 ∧ Put d B' s₁ T' ∧ Laid B B' q (q + len) (fun j => Value.int (lo8 (cv A (o + (j - q))))) ∧
      Steps p.tables e below (s₁.setTop (entryFrame m #[.ref b, .int (Int32.ofNat o), .ref d, .int (Int32.ofNat q), .int (Int32.ofNat len)] 7)) (T'.setTop (mkF m 3 #[.val (.ref b), .val (.int (Int32.ofNat (o + len))), .val (.ref d), .val (.int (Int32.ofNat (q + len))), .val (.int (Int32.ofNat len)), .val (.int (Int32.ofNat len)), z'] [])) := by
    intro r
    induction r with
    | zero =>
      intro i hi z hz Tl Bk Xl pl fl cl
      have hil : i = len := by omega
      rw [hil] at Xl fl cl
      exact ⟨Tl, Bk, z, Xl, pl, fl, cl⟩
    | succ r ih =>
      intro i hi z hz Tl Bk Xl pl fl cl
      have all := X0.warmed.alike.symm.trans Xl.warmed.alike
      have hAl := hA0.keep all (pl.other hne hA0.1)
      have hBk := hB0.like all pl.1 fl.1 fl.2.1 fl.2.2.1
      have hlt : q + i < Bk.slots.size := by rw [fl.2.2.1]; omega
      have c3 : Steps p.tables e below (s₁.setTop (entryFrame m #[.ref b, .int (Int32.ofNat o), .ref d, .int (Int32.ofNat q), .int (Int32.ofNat len)] 7)) (Tl.setTop (mkF m 12 #[.val (.ref b), .val (.int (Int32.ofNat (o + i))), .val (.ref d), .val (.int (Int32.ofNat (q + i))), .val (.int (Int32.ofNat len)), .val (.int (Int32.ofNat i)), z] [.int (Int32.ofNat (o + i)), .ref b])) := cl.trans (by
        refine XS.iload Xl.here hexec rfl (hb hbytes d3) rfl ?_
        refine XS.iload Xl.here hexec rfl (hb hbytes d5) rfl ?_
        refine XS.icmpNo Xl.here hexec rfl (hb hbytes d7) rfl (ii_ge_f (lt32 (by omega) (by omega))) ?_
        refine XS.aloadN Xl.here hexec rfl (hb hbytes d10) rfl rfl ?_
        refine XS.iloadN Xl.here hexec rfl (hb hbytes d11) rfl ?_
        exact Steps.refl _)
      have c4 : Steps p.tables e below (s₁.setTop (entryFrame m #[.ref b, .int (Int32.ofNat o), .ref d, .int (Int32.ofNat q), .int (Int32.ofNat len)] 7)) (Tl.setTop (mkF m 13 #[.val (.ref b), .val (.int (Int32.ofNat (o + i))), .val (.ref d), .val (.int (Int32.ofNat (q + i))), .val (.int (Int32.ofNat len)), .val (.int (Int32.ofNat i)), z] [.int (cv A (o + i))])) := c3.trans (by
        refine Xl.aget hexec hAl rfl (hA.get (i := o + i) (by omega)) rfl rfl (hb hbytes d12) ?_
        exact Steps.refl _)
      have c5 : Steps p.tables e below (s₁.setTop (entryFrame m #[.ref b, .int (Int32.ofNat o), .ref d, .int (Int32.ofNat q), .int (Int32.ofNat len)] 7)) (Tl.setTop (mkF m 15 #[.val (.ref b), .val (.int (Int32.ofNat (o + i))), .val (.ref d), .val (.int (Int32.ofNat (q + i))), .val (.int (Int32.ofNat len)), .val (.int (Int32.ofNat i)), .val (.int (cv A (o + i)))] [])) := c4.trans (by
        refine XS.istoreS Xl.here hexec rfl (hb hbytes d13) rfl rfl hz ?_
        exact Steps.refl _)
      have c6 : Steps p.tables e below (s₁.setTop (entryFrame m #[.ref b, .int (Int32.ofNat o), .ref d, .int (Int32.ofNat q), .int (Int32.ofNat len)] 7)) (Tl.setTop (mkF m 31 #[.val (.ref b), .val (.int (Int32.ofNat (o + i))), .val (.ref d), .val (.int (Int32.ofNat (q + i))), .val (.int (Int32.ofNat len)), .val (.int (Int32.ofNat i)), .val (.int (cv A (o + i)))] [.int (lo8 (cv A (o + i))), .int (Int32.ofNat (q + i)), .ref d])) := c5.trans (by
        refine XS.iload Xl.here hexec rfl (hb hbytes d15) rfl ?_
        refine sipushV Xl.here hexec rfl 255 (hb hbytes d17) (by decide) ?_
        refine XS.icmpYes Xl.here hexec rfl (pc0 := 20) rfl (hb hbytes d20) rfl (ii_le_t (hp i (by omega))) (by decide) rfl ?_
        refine XS.aloadN Xl.here hexec rfl (hb hbytes d26) rfl rfl ?_
        refine XS.iloadN Xl.here hexec rfl (hb hbytes d27) rfl ?_
        refine XS.iload Xl.here hexec rfl (hb hbytes d28) rfl ?_
        refine i2b Xl.here hexec rfl (hb hbytes d30) rfl ?_
        exact Steps.refl _)
      obtain ⟨T7, X7, p7, st7⟩ := Xl.aput hexec hBk rfl hlt rfl (fits_lo8 (cv A (o + i))) (g := (mkF m 31 #[.val (.ref b), .val (.int (Int32.ofNat (o + i))), .val (.ref d), .val (.int (Int32.ofNat (q + i))), .val (.int (Int32.ofNat len)), .val (.int (Int32.ofNat i)), .val (.int (cv A (o + i)))] [.int (lo8 (cv A (o + i))), .int (Int32.ofNat (q + i)), .ref d])) rfl (rest := []) rfl (hb hbytes d31)
      have c8 : Steps p.tables e below (s₁.setTop (entryFrame m #[.ref b, .int (Int32.ofNat o), .ref d, .int (Int32.ofNat q), .int (Int32.ofNat len)] 7)) (T7.setTop (mkF m 32 #[.val (.ref b), .val (.int (Int32.ofNat (o + i))), .val (.ref d), .val (.int (Int32.ofNat (q + i))), .val (.int (Int32.ofNat len)), .val (.int (Int32.ofNat i)), .val (.int (cv A (o + i)))] [])) := c6.trans (st7 _ (Steps.refl _))
      have c9 : Steps p.tables e below (s₁.setTop (entryFrame m #[.ref b, .int (Int32.ofNat o), .ref d, .int (Int32.ofNat q), .int (Int32.ofNat len)] 7)) (T7.setTop (mkF m 3 #[.val (.ref b), .val (.int (Int32.ofNat (o + i) + 1)), .val (.ref d), .val (.int (Int32.ofNat (q + i) + 1)), .val (.int (Int32.ofNat len)), .val (.int (Int32.ofNat i + 1)), .val (.int (cv A (o + i)))] [])) := c8.trans (by
        refine iincV X7.here hexec rfl 1 (hb hbytes d32) (by decide) rfl rfl ?_
        refine iincV X7.here hexec rfl 1 (hb hbytes d35) (by decide) rfl rfl ?_
        refine iincV X7.here hexec rfl 1 (hb hbytes d38) (by decide) rfl rfl ?_
        refine XS.goto X7.here hexec rfl (pc0 := 41) rfl (hb hbytes d41) (by decide) rfl ?_
        exact Steps.refl _)
      have c10 : Steps p.tables e below (s₁.setTop (entryFrame m #[.ref b, .int (Int32.ofNat o), .ref d, .int (Int32.ofNat q), .int (Int32.ofNat len)] 7)) (T7.setTop (mkF m 3 #[.val (.ref b), .val (.int (Int32.ofNat (o + (i + 1)))), .val (.ref d), .val (.int (Int32.ofNat (q + (i + 1)))), .val (.int (Int32.ofNat len)), .val (.int (Int32.ofNat (i + 1))), .val (.int (cv A (o + i)))] [])) := by
        have := c9
        rw [succ32, succ32, succ32] at this
        exact this
      exact ih (i + 1) (by omega) _ (Or.inr ⟨_, rfl, rfl⟩) T7 _ (by rw [copyLocs_step, ← List.append_assoc]; exact X7) (pl.trans p7) (fl.step (by omega) hlt (by simp)) c10
  obtain ⟨T9, B9, z9, X9, p9, f9, g9⟩ := loop len 0 (by omega) .unset (Or.inl rfl) s₁ B (by simpa [copyLocs] using X0) ⟨hB0.1, fun _ _ => rfl, rfl⟩ (Laid.zero _ _ _) c2
  have c11 : Steps p.tables e below (s₁.setTop (entryFrame m #[.ref b, .int (Int32.ofNat o), .ref d, .int (Int32.ofNat q), .int (Int32.ofNat len)] 7)) (T9.setTop (mkF m 46 #[.val (.ref b), .val (.int (Int32.ofNat (o + len))), .val (.ref d), .val (.int (Int32.ofNat (q + len))), .val (.int (Int32.ofNat len)), .val (.int (Int32.ofNat len)), z9] [.int (Int32.ofNat len)])) := g9.trans (by
    refine XS.iload X9.here hexec rfl (hb hbytes d3) rfl ?_
    refine XS.iload X9.here hexec rfl (hb hbytes d5) rfl ?_
    refine XS.icmpYes X9.here hexec rfl (pc0 := 7) rfl (hb hbytes d7) rfl (ii_ge_t (nlt32 (by omega) (Nat.le_refl _))) (by decide) rfl ?_
    refine XS.iload X9.here hexec rfl (hb hbytes d44) rfl ?_
    exact Steps.refl _)
  exact ⟨T9, some (.int (Int32.ofNat len)), _, _, _, X9, by simp, rfl, rfl, (fun h => by cases h), ⟨rfl, B9, p9.from hh0, f9⟩, fun fs hl => c11.trans (X9.ireturnOut hexec hret rfl (Or.inl rfl) (hb hbytes d46) hl)⟩
end Cmp5
namespace Cmp3
def yN : MethodName := ⟨"java/lang/StringUTF16", "compress", "([CII)[B"⟩
abbrev yB : ByteArray := jdk_52_method_16_code
theorem d0 : decode yB 0 = .ok (.iload_n 2, 1) := by decide +kernel
theorem d1 : decode yB 1 = .ok (.newarray .byte, 2) := by decide +kernel
theorem d3 : decode yB 3 = .ok (.astore_n 3, 1) := by decide +kernel
theorem d4 : decode yB 4 = .ok (.aload_n 0, 1) := by decide +kernel
theorem d5 : decode yB 5 = .ok (.iload_n 1, 1) := by decide +kernel
theorem d6 : decode yB 6 = .ok (.aload_n 3, 1) := by decide +kernel
theorem d7 : decode yB 7 = .ok (.iconst 0, 1) := by decide +kernel
theorem d8 : decode yB 8 = .ok (.iload_n 2, 1) := by decide +kernel
theorem d9 : decode yB 9 = .ok (.invokestatic 115, 3) := by decide +kernel
theorem d12 : decode yB 12 = .ok (.istore 4, 2) := by decide +kernel
theorem d14 : decode yB 14 = .ok (.iload 4, 2) := by decide +kernel
theorem d16 : decode yB 16 = .ok (.iload_n 2, 1) := by decide +kernel
theorem d17 : decode yB 17 = .ok (.if_icmp (.eq) 40, 3) := by decide +kernel
theorem d57 : decode yB 57 = .ok (.aload_n 3, 1) := by decide +kernel
theorem d58 : decode yB 58 = .ok (.areturn, 1) := by decide +kernel
def site : List Cond := [.arrayClass .byte, Cmp5.tab] ++ staticW U16 115 Cmp5.yN
def tab : Cond := tabOf yN yB 6 (some (.array .byte)) site
def P (b : Addr) (A : Cell) (o len : Nat) (args : Array Value) (s : State) : Prop := args = #[.ref b, .int (Int32.ofNat o), .int (Int32.ofNat len)] ∧ Ch b A s ∧ o + len ≤ A.slots.size ∧ len ≤ 536870912 ∧ ∀ i, i < len → ¬ 255 < cv A (o + i)
def E (b : Addr) (A : Cell) (o len : Nat) (r : Option Value) (s u : State) : Prop := NewArr .byte "[B" len (fun j => .int (lo8 (cv A (o + j)))) r s u ∧ u.heap.size = s.heap.size + 1
/-- no char of the range above 255: a new byte[] of their low bytes -/
theorem law (l : Launch) (b : Addr) (A : Cell) (o len : Nat) : Law l yN 3 3 1 18 yB 6 (some (.array .byte)) site (P b A o len) (E b A o len) [] 1 len := by
  refine Law.of_walk (plainFor_of_name (by decide +kernel)) (by decide +kernel) (by decide +kernel) (by decide) (fun _ _ h => by rw [h.1]; rfl) (fun _ U U' hal hh h => ⟨h.1, h.2.1.mv hal hh, h.2.2⟩) (fun r U U' V V' h1 hal h2 h => ⟨NewArr.mv r U U' V V' h1 hal h2 h.1, by rw [h1, h2]; exact h.2⟩) ?_
  intro p e s m args below meth c s₁ X0 hexec hbytes hml hret hlk hnm hown hh0 W hP
  obtain ⟨rfl, hA, l1, l2, hp⟩ := hP
  have a31 := hA.1.2.2.2
  have c1 : Steps p.tables e below (s₁.setTop (entryFrame m #[.ref b, .int (Int32.ofNat o), .int (Int32.ofNat len)] 6)) (s₁.setTop (mkF m 0 #[.val (.ref b), .val (.int (Int32.ofNat o)), .val (.int (Int32.ofNat len)), .unset, .unset, .unset] [])) := entry rfl
  have c2 : Steps p.tables e below (s₁.setTop (entryFrame m #[.ref b, .int (Int32.ofNat o), .int (Int32.ofNat len)] 6)) (s₁.setTop (mkF m 1 #[.val (.ref b), .val (.int (Int32.ofNat o)), .val (.int (Int32.ofNat len)), .unset, .unset, .unset] [.int (Int32.ofNat len)])) := c1.trans (by
    refine XS.iloadN X0.here hexec rfl (hb hbytes d0) rfl ?_
    exact Steps.refl _)
  obtain ⟨T3, B3, X3, ba3, bs3, bv3, bh3, bf3, st3⟩ := X0.anew hexec (atype := .byte) (wk W (.arrayClass .byte)) rfl (by show len * 1 ≤ _; omega) (by omega) (g := (mkF m 1 #[.val (.ref b), .val (.int (Int32.ofNat o)), .val (.int (Int32.ofNat len)), .unset, .unset, .unset] [.int (Int32.ofNat len)])) rfl (hb hbytes d1) (rest := []) rfl (Nat.le_refl _) (by show 0 + len ≤ len; omega)
  rw [hh0] at ba3 st3
  have kp3 : XT.Kept s T3 := (XT.Kept.of_eq hh0).push bh3
  have hA3 := hA.keep X3.warmed.alike (kp3 _ _ hA.1.1)
  have hne : b ≠ s.heap.size := hA.1.ne
  have c4 : Steps p.tables e below (s₁.setTop (entryFrame m #[.ref b, .int (Int32.ofNat o), .int (Int32.ofNat len)] 6)) (T3.setTop (mkF m 3 #[.val (.ref b), .val (.int (Int32.ofNat o)), .val (.int (Int32.ofNat len)), .unset, .unset, .unset] [.ref s.heap.size])) := c2.trans (st3 _ (Steps.refl _))
  have c5 : Steps p.tables e below (s₁.setTop (entryFrame m #[.ref b, .int (Int32.ofNat o), .int (Int32.ofNat len)] 6)) (T3.setTop (mkF m 9 #[.val (.ref b), .val (.int (Int32.ofNat o)), .val (.int (Int32.ofNat len)), .val (.ref s.heap.size), .unset, .unset] [.int (Int32.ofNat len), .int 0, .ref s.heap.size, .int (Int32.ofNat o), .ref b])) := c4.trans (by
    refine XS.astoreN X3.here hexec rfl (hb hbytes d3) rfl rfl rfl ?_
    refine XS.aloadN X3.here hexec rfl (hb hbytes d4) rfl rfl ?_
    refine XS.iloadN X3.here hexec rfl (hb hbytes d5) rfl ?_
    refine XS.aloadN X3.here hexec rfl (hb hbytes d6) rfl rfl ?_
    refine iconstV X3.here hexec rfl 0 (hb hbytes d7) (by decide) ?_
    refine XS.iloadN X3.here hexec rfl (hb hbytes d8) rfl ?_
    exact Steps.refl _)
  obtain ⟨v6, T6, X6, E6, g6⟩ := X3.callS hexec (Cmp5.law l b A s.heap.size B3 o 0 len) hown (wks W (staticW U16 115 Cmp5.yN)) (wk W Cmp5.tab) (W := 0) (Nat.le_of_ble_eq_true rfl) (Nat.le_of_ble_eq_true rfl) (Nat.le_refl _) (by show 0 + len + 0 ≤ len; omega) (g := (mkF m 9 #[.val (.ref b), .val (.int (Int32.ofNat o)), .val (.int (Int32.ofNat len)), .val (.ref s.heap.size), .unset, .unset] [.int (Int32.ofNat len), .int (Int32.ofNat 0), .ref s.heap.size, .int (Int32.ofNat o), .ref b])) rfl (by rw [hml]; rfl) c5 (argsL := [.ref b, .int (Int32.ofNat o), .ref s.heap.size, .int (Int32.ofNat 0), .int (Int32.ofNat len)]) (rest := []) rfl rfl (by show 2 * 0 + 0 ≤ _; decide) (hb hbytes d9) (⟨rfl, hA3, ba3, hne, l1, by rw [bs3]; simp, hp⟩)
  obtain ⟨rfl, B6, p6, f6⟩ := E6
  have c7 : Steps p.tables e below (s₁.setTop (entryFrame m #[.ref b, .int (Int32.ofNat o), .int (Int32.ofNat len)] 6)) (T6.setTop (mkF m 12 #[.val (.ref b), .val (.int (Int32.ofNat o)), .val (.int (Int32.ofNat len)), .val (.ref s.heap.size), .unset, .unset] [.int (Int32.ofNat len)])) := g6
  have c8 : Steps p.tables e below (s₁.setTop (entryFrame m #[.ref b, .int (Int32.ofNat o), .int (Int32.ofNat len)] 6)) (T6.setTop (mkF m 58 #[.val (.ref b), .val (.int (Int32.ofNat o)), .val (.int (Int32.ofNat len)), .val (.ref s.heap.size), .val (.int (Int32.ofNat len)), .unset] [.ref s.heap.size])) := c7.trans (by
    refine XS.istore X6.here hexec rfl (hb hbytes d12) rfl rfl ?_
    refine XS.iload X6.here hexec rfl (hb hbytes d14) rfl ?_
    refine XS.iloadN X6.here hexec rfl (hb hbytes d16) rfl ?_
    refine XS.icmpYes X6.here hexec rfl (pc0 := 17) rfl (hb hbytes d17) rfl (ii_eq_t rfl) (by decide) rfl ?_
    refine XS.aloadN X6.here hexec rfl (hb hbytes d57) rfl rfl ?_
    exact Steps.refl _)
  have X8 := X6.wide (L' := []) (cells' := 1) (slots' := len) (fun x hx hlt => by
    simp only [List.nil_append, copyLocs, List.mem_map, List.mem_range] at hx
    obtain ⟨i, -, rfl⟩ := hx
    exact absurd hlt (Nat.lt_irrefl _)) (Nat.le_refl _) (by omega)
  exact ⟨T6, some (.ref s.heap.size), _, _, _, X8, rfl, rfl, rfl, (fun h => by cases h), ⟨⟨rfl, B6, ba3.like (X3.warmed.alike.symm.trans X6.warmed.alike) p6.1 f6.1 f6.2.1 f6.2.2.1, f6.2.1.trans bv3, by rw [X6.warmed.alike.findClass, f6.1]; exact bf3, by rw [f6.2.2.1, bs3]; simp, fun j hj => by rw [f6.2.2.2 j, if_pos (by omega)]; rfl, kp3.put p6 (Nat.le_refl _)⟩, by rw [p6.2.2, bh3, hh0]; simp⟩, fun fs hl => c8.trans (X8.areturnOut hexec rfl hret rfl (hb hbytes d58) hl)⟩
end Cmp3
namespace CodL
def yN : MethodName := ⟨"java/lang/StringUTF16", "coderFromArrayLen", "([BI)B"⟩
abbrev yB : ByteArray := jdk_52_method_15_code
theorem d0 : decode yB 0 = .ok (.iload_n 1, 1) := by decide +kernel
theorem d1 : decode yB 1 = .ok (.aload_n 0, 1) := by decide +kernel
theorem d2 : decode yB 2 = .ok (.arraylength, 1) := by decide +kernel
theorem d3 : decode yB 3 = .ok (.isub, 1) := by decide +kernel
theorem d4 : decode yB 4 = .ok (.bipush 31, 2) := by decide +kernel
theorem d6 : decode yB 6 = .ok (.iushr, 1) := by decide +kernel
theorem d7 : decode yB 7 = .ok (.i2b, 1) := by decide +kernel
theorem d8 : decode yB 8 = .ok (.ireturn, 1) := by decide +kernel
def site : List Cond := []
def tab : Cond := tabOf yN yB 2 (some .byte) site
def P (d : Addr) (B : Cell) (args : Array Value) (s : State) : Prop := args = #[.ref d, .int (Int32.ofNat B.slots.size)] ∧ Arr .byte d B s
def E (r : Option Value) (s u : State) : Prop := XT.PureE (some (.int 0)) r s u
/-- an array as long as the number of chars: LATIN1 -/
theorem law (l : Launch) (d : Addr) (B : Cell) : Law l yN 2 2 0 0 yB 2 (some .byte) site (P d B) E [] 0 0 := by
  refine Law.of_walk (plainFor_of_name (by decide +kernel)) (by decide +kernel) (by decide +kernel) (by decide) (fun _ _ h => by rw [h.1]; rfl) (fun _ U U' hal hh h => ⟨h.1, h.2.mv hal hh⟩) (fun r U U' V V' h1 hal h2 h => XT.PureE.mv r U U' V V' h1 hal h2 h) ?_
  intro p e s m args below meth c s₁ X0 hexec hbytes hml hret hlk hnm hown hh0 W hP
  obtain ⟨rfl, hB⟩ := hP
  have hB0 := hB.mv X0.warmed.alike hh0
  have c1 : Steps p.tables e below (s₁.setTop (entryFrame m #[.ref d, .int (Int32.ofNat B.slots.size)] 2)) (s₁.setTop (mkF m 0 #[.val (.ref d), .val (.int (Int32.ofNat B.slots.size))] [])) := entry rfl
  have c2 : Steps p.tables e below (s₁.setTop (entryFrame m #[.ref d, .int (Int32.ofNat B.slots.size)] 2)) (s₁.setTop (mkF m 2 #[.val (.ref d), .val (.int (Int32.ofNat B.slots.size))] [.ref d, .int (Int32.ofNat B.slots.size)])) := c1.trans (by
    refine XS.iloadN X0.here hexec rfl (hb hbytes d0) rfl ?_
    refine XS.aloadN X0.here hexec rfl (hb hbytes d1) rfl rfl ?_
    exact Steps.refl _)
  have c3 : Steps p.tables e below (s₁.setTop (entryFrame m #[.ref d, .int (Int32.ofNat B.slots.size)] 2)) (s₁.setTop (mkF m 8 #[.val (.ref d), .val (.int (Int32.ofNat B.slots.size))] [.int (lo8 (ushr (Int32.ofNat B.slots.size - Int32.ofNat B.slots.size) 31))])) := c2.trans (by
    refine X0.alen hexec hB0 rfl rfl (hb hbytes d2) ?_
    refine XS.isub X0.here hexec rfl (hb hbytes d3) rfl ?_
    refine bipushV X0.here hexec rfl 31 (hb hbytes d4) (by decide) ?_
    refine iushr X0.here hexec rfl (hb hbytes d6) rfl ?_
    refine i2b X0.here hexec rfl (hb hbytes d7) rfl ?_
    exact Steps.refl _)
  have e0 : lo8 (ushr (Int32.ofNat B.slots.size - Int32.ofNat B.slots.size) 31) = 0 := by rw [Int32.sub_self]; decide
  rw [e0] at c3
  exact ⟨s₁, some (.int 0), _, _, _, X0, rfl, rfl, rfl, (fun h => by cases h), ⟨rfl, hh0⟩, fun fs hl => c3.trans (X0.ireturnOut hexec hret rfl (Or.inr (Or.inr (Or.inl rfl))) (hb hbytes d8) hl)⟩
end CodL
/-- the String at a is Latin-1 over a new byte[] (the heap's one new cell): the low bytes of the len chars of A from o on; every cell but a is kept -/
def Got (a : Addr) (D : Cell) (fV fC : Field) (A : Cell) (o len : Nat) (r : Option Value) (s u : State) : Prop := r = none ∧ ∃ D' V : Cell, Blank "java/lang/String" a D' u ∧ Same D D' [fV.slot, fC.slot] ∧ D'.slots[fV.slot]? = some (.ref s.heap.size) ∧ D'.slots[fC.slot]? = some (.int 0) ∧ Arr .byte s.heap.size V u ∧ V.vm = .none ∧ u.vm.findClass "[B" = some V.cls ∧ V.slots.size = len ∧ (∀ j, j < len → V.slots[j]? = some (.int (lo8 (cv A (o + j))))) ∧ (∀ (y : Addr) (c : Cell), y ≠ a → s.heap[y]? = some c → u.heap[y]? = some c) ∧ u.heap.size = s.heap.size + 1
theorem Got.mv {a : Addr} {D A : Cell} {fV fC : Field} {o len : Nat} : ∀ r (U U' V V' : State), U'.heap = U.heap → V.vm.Alike V'.vm → V'.heap = V.heap → Got a D fV fC A o len r U V → Got a D fV fC A o len r U' V' :=
  fun r U U' V V' h1 hal h2 ⟨e0, D', X, a1, a2, a3, a4, a5, a6, a7, a8, a9, a10, a11⟩ => ⟨e0, D', X, a1.mv hal h2, a2, by rw [h1]; exact a3, a4, by rw [h1]; exact a5.mv hal h2, a6, by rw [hal.findClass]; exact a7, a8, a9, by rw [h1, h2]; exact a10, by rw [h1, h2]; exact a11⟩
namespace New4
def yN : MethodName := ⟨"java/lang/String", "<init>", "([CIILjava/lang/Void;)V"⟩
abbrev yB : ByteArray := jdk_42_method_149_code
theorem d0 : decode yB 0 = .ok (.aload_n 0, 1) := by decide +kernel
theorem d1 : decode yB 1 = .ok (.invokespecial 1, 3) := by decide +kernel
theorem d4 : decode yB 4 = .ok (.iload_n 3, 1) := by decide +kernel
theorem d5 : decode yB 5 = .ok (.ifCond (.ne) 22, 3) := by decide +kernel
theorem d27 : decode yB 27 = .ok (.getstatic 38, 3) := by decide +kernel
theorem d30 : decode yB 30 = .ok (.ifCond (.eq) 28, 3) := by decide +kernel
theorem d33 : decode yB 33 = .ok (.aload_n 1, 1) := by decide +kernel
theorem d34 : decode yB 34 = .ok (.iload_n 2, 1) := by decide +kernel
theorem d35 : decode yB 35 = .ok (.iload_n 3, 1) := by decide +kernel
theorem d36 : decode yB 36 = .ok (.invokestatic 177, 3) := by decide +kernel
theorem d39 : decode yB 39 = .ok (.astore 5, 2) := by decide +kernel
theorem d41 : decode yB 41 = .ok (.aload_n 0, 1) := by decide +kernel
theorem d42 : decode yB 42 = .ok (.aload 5, 2) := by decide +kernel
theorem d44 : decode yB 44 = .ok (.iload_n 3, 1) := by decide +kernel
theorem d45 : decode yB 45 = .ok (.invokestatic 47, 3) := by decide +kernel
theorem d48 : decode yB 48 = .ok (.putfield 15, 3) := by decide +kernel
theorem d51 : decode yB 51 = .ok (.aload_n 0, 1) := by decide +kernel
theorem d52 : decode yB 52 = .ok (.aload 5, 2) := by decide +kernel
theorem d54 : decode yB 54 = .ok (.putfield 9, 3) := by decide +kernel
theorem d57 : decode yB 57 = .ok (.return_, 1) := by decide +kernel
def site : List Cond := [.fieldLink "java/lang/String" 38 "java/lang/String" "COMPACT_STRINGS" "Z", Cmp3.tab, CodL.tab, .laysFinal "java/lang/String" "java/lang/String" "value" "[B", .fieldLink "java/lang/String" 9 "java/lang/String" "value" "[B", .laysFinal "java/lang/String" "java/lang/String" "coder" "B", .fieldLink "java/lang/String" 15 "java/lang/String" "coder" "B"] ++ objW "java/lang/String" 1 ++ staticW "java/lang/String" 177 Cmp3.yN ++ staticW "java/lang/String" 47 CodL.yN
def tab : Cond := tabOf yN yB 6 none site
def P (a : Addr) (D : Cell) (fV fC : Field) (b : Addr) (A : Cell) (z : Int32) (o len : Nat) (args : Array Value) (s : State) : Prop := args = #[.ref a, .ref b, .int (Int32.ofNat o), .int (Int32.ofNat len), .null] ∧ Blank "java/lang/String" a D s ∧ Found "java/lang/String" "value" "[B" fV s ∧ Found "java/lang/String" "coder" "B" fC s ∧ Ch b A s ∧ StaticIs s "java/lang/String" "COMPACT_STRINGS" "Z" (.int z) ∧ ¬ z = 0 ∧ 0 < len ∧ o + len ≤ A.slots.size ∧ len ≤ 536870912 ∧ ∀ i, i < len → ¬ 255 < cv A (o + i)
def E (a : Addr) (D : Cell) (fV fC : Field) (A : Cell) (o len : Nat) (r : Option Value) (s u : State) : Prop := Got a D fV fC A o len r s u
/-- len > 0, no char of the range above 255: a Latin-1 String of their low bytes -/
theorem law (l : Launch) (a : Addr) (D : Cell) (fV fC : Field) (b : Addr) (A : Cell) (z : Int32) (o len : Nat) : Law l yN 5 4 2 35 yB 6 none site (P a D fV fC b A z o len) (E a D fV fC A o len) [⟨a, fC.slot⟩, ⟨a, fV.slot⟩] 1 len := by
  refine Law.of_walk (plainFor_of_name (by decide +kernel)) (by decide +kernel) (by decide +kernel) (by decide) (fun _ _ h => by rw [h.1]; rfl) (fun _ U U' hal hh h => ⟨h.1, h.2.1.mv hal hh, h.2.2.1.al hal, h.2.2.2.1.al hal, h.2.2.2.2.1.mv hal hh, h.2.2.2.2.2.1.there hal hh, h.2.2.2.2.2.2⟩) (fun r U U' V V' h1 hal h2 h => Got.mv r U U' V V' h1 hal h2 h) ?_
  intro p e s m args below meth c s₁ X0 hexec hbytes hml hret hlk hnm hown hh0 W hP
  obtain ⟨rfl, hB, f1, f2, hA, s1, hz, l0, l1, l2, hp⟩ := hP
  have a31 := hA.1.2.2.2
  have c1 : Steps p.tables e below (s₁.setTop (entryFrame m #[.ref a, .ref b, .int (Int32.ofNat o), .int (Int32.ofNat len), .null] 6)) (s₁.setTop (mkF m 0 #[.val (.ref a), .val (.ref b), .val (.int (Int32.ofNat o)), .val (.int (Int32.ofNat len)), .val .null, .unset] [])) := entry rfl
  have c2 : Steps p.tables e below (s₁.setTop (entryFrame m #[.ref a, .ref b, .int (Int32.ofNat o), .int (Int32.ofNat len), .null] 6)) (s₁.setTop (mkF m 1 #[.val (.ref a), .val (.ref b), .val (.int (Int32.ofNat o)), .val (.int (Int32.ofNat len)), .val .null, .unset] [.ref a])) := c1.trans (by
    refine XS.aloadN X0.here hexec rfl (hb hbytes d0) rfl rfl ?_
    exact Steps.refl _)
  obtain ⟨T3, X3, q3, st3⟩ := X0.oinit hexec hown (wks W (objW "java/lang/String" 1)) (g := (mkF m 1 #[.val (.ref a), .val (.ref b), .val (.int (Int32.ofNat o)), .val (.int (Int32.ofNat len)), .val .null, .unset] [.ref a])) rfl (by rw [hml]; rfl) (rest := []) rfl (hb hbytes d1) (W := 0) (by show 2 * 0 + 0 ≤ _; decide) (Nat.le_of_ble_eq_true rfl) (Nat.le_of_ble_eq_true rfl)
  have hh3 := q3.trans hh0
  have c4 : Steps p.tables e below (s₁.setTop (entryFrame m #[.ref a, .ref b, .int (Int32.ofNat o), .int (Int32.ofNat len), .null] 6)) (T3.setTop (mkF m 27 #[.val (.ref a), .val (.ref b), .val (.int (Int32.ofNat o)), .val (.int (Int32.ofNat len)), .val .null, .unset] [])) := (c2.trans (st3 _ (Steps.refl _))).trans (by
    refine XS.iloadN X3.here hexec rfl (hb hbytes d4) rfl ?_
    refine XS.ifYes X3.here hexec rfl (pc0 := 5) rfl (hb hbytes d5) rfl (i0_ne_t (nz32 (by omega) l0)) (by decide) rfl ?_
    exact Steps.refl _)
  obtain ⟨T5, X5, q5, st5⟩ := X3.sget hexec hown (wk W (.fieldLink "java/lang/String" 38 "java/lang/String" "COMPACT_STRINGS" "Z")) s1 (fun _ _ h => by rw [hh3]; exact h) (g := (mkF m 27 #[.val (.ref a), .val (.ref b), .val (.int (Int32.ofNat o)), .val (.int (Int32.ofNat len)), .val .null, .unset] [])) rfl (hb hbytes d27)
  have hh5 := q5.trans hh3
  have c6 : Steps p.tables e below (s₁.setTop (entryFrame m #[.ref a, .ref b, .int (Int32.ofNat o), .int (Int32.ofNat len), .null] 6)) (T5.setTop (mkF m 30 #[.val (.ref a), .val (.ref b), .val (.int (Int32.ofNat o)), .val (.int (Int32.ofNat len)), .val .null, .unset] [.int z])) := c4.trans (st5 _ (Steps.refl _))
  have c7 : Steps p.tables e below (s₁.setTop (entryFrame m #[.ref a, .ref b, .int (Int32.ofNat o), .int (Int32.ofNat len), .null] 6)) (T5.setTop (mkF m 36 #[.val (.ref a), .val (.ref b), .val (.int (Int32.ofNat o)), .val (.int (Int32.ofNat len)), .val .null, .unset] [.int (Int32.ofNat len), .int (Int32.ofNat o), .ref b])) := c6.trans (by
    refine XS.ifNo X5.here hexec rfl (hb hbytes d30) rfl (i0_eq_f hz) ?_
    refine XS.aloadN X5.here hexec rfl (hb hbytes d33) rfl rfl ?_
    refine XS.iloadN X5.here hexec rfl (hb hbytes d34) rfl ?_
    refine XS.iloadN X5.here hexec rfl (hb hbytes d35) rfl ?_
    exact Steps.refl _)
  obtain ⟨v8, T8, X8, E8, g8⟩ := X5.callS hexec (Cmp3.law l b A o len) hown (wks W (staticW "java/lang/String" 177 Cmp3.yN)) (wk W Cmp3.tab) (W := 0) (Nat.le_of_ble_eq_true rfl) (Nat.le_of_ble_eq_true rfl) (Nat.le_refl _) (by show 0 + len ≤ len; omega) (g := (mkF m 36 #[.val (.ref a), .val (.ref b), .val (.int (Int32.ofNat o)), .val (.int (Int32.ofNat len)), .val .null, .unset] [.int (Int32.ofNat len), .int (Int32.ofNat o), .ref b])) rfl (by rw [hml]; rfl) c7 (argsL := [.ref b, .int (Int32.ofNat o), .int (Int32.ofNat len)]) (rest := []) rfl rfl (by show 2 * 0 + 0 ≤ _; decide) (hb hbytes d36) (⟨rfl, hA.mv X5.warmed.alike hh5, l1, l2, hp⟩)
  obtain ⟨e8, z8⟩ := E8
  obtain ⟨rfl, N, n1, n2, n3, n4, n5, n6⟩ := NewArr.mv _ T5 s _ _ hh5.symm (Vm.Alike.refl _) rfl e8
  rw [hh5] at z8
  have hB1 := hB.keep X8.warmed.alike (n6 _ _ hB.1)
  have hne : s.heap.size ≠ a := (Nat.ne_of_lt (Array.getElem?_eq_some_iff.mp hB.1).1).symm
  have c9 : Steps p.tables e below (s₁.setTop (entryFrame m #[.ref a, .ref b, .int (Int32.ofNat o), .int (Int32.ofNat len), .null] 6)) (T8.setTop (mkF m 39 #[.val (.ref a), .val (.ref b), .val (.int (Int32.ofNat o)), .val (.int (Int32.ofNat len)), .val .null, .unset] [.ref s.heap.size])) := g8
  have c10 : Steps p.tables e below (s₁.setTop (entryFrame m #[.ref a, .ref b, .int (Int32.ofNat o), .int (Int32.ofNat len), .null] 6)) (T8.setTop (mkF m 45 #[.val (.ref a), .val (.ref b), .val (.int (Int32.ofNat o)), .val (.int (Int32.ofNat len)), .val .null, .val (.ref s.heap.size)] [.int (Int32.ofNat N.slots.size), .ref s.heap.size, .ref a])) := by
    have hc : Steps p.tables e below (s₁.setTop (entryFrame m #[.ref a, .ref b, .int (Int32.ofNat o), .int (Int32.ofNat len), .null] 6)) (T8.setTop (mkF m 45 #[.val (.ref a), .val (.ref b), .val (.int (Int32.ofNat o)), .val (.int (Int32.ofNat len)), .val .null, .val (.ref s.heap.size)] [.int (Int32.ofNat len), .ref s.heap.size, .ref a])) := c9.trans (by
      refine XS.astore X8.here hexec rfl (hb hbytes d39) rfl rfl rfl ?_
      refine XS.aloadN X8.here hexec rfl (hb hbytes d41) rfl rfl ?_
      refine XS.aload X8.here hexec rfl (hb hbytes d42) rfl rfl ?_
      refine XS.iloadN X8.here hexec rfl (hb hbytes d44) rfl ?_
      exact Steps.refl _)
    rw [n4]; exact hc
  obtain ⟨v11, T11, X11, E11, g11⟩ := X8.callS hexec (CodL.law l s.heap.size N) hown (wks W (staticW "java/lang/String" 47 CodL.yN)) (wk W CodL.tab) (W := 1) (Nat.le_of_ble_eq_true rfl) (Nat.le_of_ble_eq_true rfl) (Nat.le_refl _) (by show 0 + len + 0 ≤ len; omega) (g := (mkF m 45 #[.val (.ref a), .val (.ref b), .val (.int (Int32.ofNat o)), .val (.int (Int32.ofNat len)), .val .null, .val (.ref s.heap.size)] [.int (Int32.ofNat N.slots.size), .ref s.heap.size, .ref a])) rfl (by rw [hml]; rfl) c10 (argsL := [.ref s.heap.size, .int (Int32.ofNat N.slots.size)]) (rest := [.ref a]) rfl rfl (by show 2 * 0 + (1 + 0) ≤ _; decide) (hb hbytes d45) (⟨rfl, n1⟩)
  obtain ⟨rfl, q11⟩ := E11
  have hB11 := hB1.mv (X8.warmed.alike.symm.trans X11.warmed.alike) q11
  have c12 : Steps p.tables e below (s₁.setTop (entryFrame m #[.ref a, .ref b, .int (Int32.ofNat o), .int (Int32.ofNat len), .null] 6)) (T11.setTop (mkF m 48 #[.val (.ref a), .val (.ref b), .val (.int (Int32.ofNat o)), .val (.int (Int32.ofNat len)), .val .null, .val (.ref s.heap.size)] [.int 0, .ref a])) := g11
  obtain ⟨T13, X13, p13, bl13, sl13, st13⟩ := X11.finit hexec hown (wk W (.fieldLink "java/lang/String" 15 "java/lang/String" "coder" "B")) (Or.inr ⟨_, (wk W (.laysFinal "java/lang/String" "java/lang/String" "coder" "B"))⟩) (Or.inl ⟨rfl, hnm⟩) f2 (Or.inl rfl) hB11 (t := .byte) (by decide +kernel) rfl (g := (mkF m 48 #[.val (.ref a), .val (.ref b), .val (.int (Int32.ofNat o)), .val (.int (Int32.ofNat len)), .val .null, .val (.ref s.heap.size)] [.int 0, .ref a])) rfl (rest := []) rfl (hb hbytes d48)
  have c14 : Steps p.tables e below (s₁.setTop (entryFrame m #[.ref a, .ref b, .int (Int32.ofNat o), .int (Int32.ofNat len), .null] 6)) (T13.setTop (mkF m 54 #[.val (.ref a), .val (.ref b), .val (.int (Int32.ofNat o)), .val (.int (Int32.ofNat len)), .val .null, .val (.ref s.heap.size)] [.ref s.heap.size, .ref a])) := (c12.trans (st13 _ (Steps.refl _))).trans (by
    refine XS.aloadN X13.here hexec rfl (hb hbytes d51) rfl rfl ?_
    refine XS.aload X13.here hexec rfl (hb hbytes d52) rfl rfl ?_
    exact Steps.refl _)
  obtain ⟨T15, X15, p15, bl15, sl15, st15⟩ := X13.finit hexec hown (wk W (.fieldLink "java/lang/String" 9 "java/lang/String" "value" "[B")) (Or.inr ⟨_, (wk W (.laysFinal "java/lang/String" "java/lang/String" "value" "[B"))⟩) (Or.inl ⟨rfl, hnm⟩) f1 (Or.inl rfl) bl13 (t := (.array .byte)) (by decide +kernel) rfl (g := (mkF m 54 #[.val (.ref a), .val (.ref b), .val (.int (Int32.ofNat o)), .val (.int (Int32.ofNat len)), .val .null, .val (.ref s.heap.size)] [.ref s.heap.size, .ref a])) rfl (rest := []) rfl (hb hbytes d54)
  have c16 : Steps p.tables e below (s₁.setTop (entryFrame m #[.ref a, .ref b, .int (Int32.ofNat o), .int (Int32.ofNat len), .null] 6)) (T15.setTop (mkF m 57 #[.val (.ref a), .val (.ref b), .val (.int (Int32.ofNat o)), .val (.int (Int32.ofNat len)), .val .null, .val (.ref s.heap.size)] [])) := c14.trans (st15 _ (Steps.refl _))
  have ap := apart (Or.inr ⟨_, (wk W (.laysFinal "java/lang/String" "java/lang/String" "value" "[B"))⟩) (Or.inr ⟨_, (wk W (.laysFinal "java/lang/String" "java/lang/String" "coder" "B"))⟩) f1 f2 (t₁ := .array .byte) (t₂ := .byte) (by decide +kernel) (by decide +kernel) (by decide)
  have al := X8.warmed.alike.symm.trans X15.warmed.alike
  have n7 : T11.heap[s.heap.size]? = some N := by rw [q11]; exact n1.1
  exact ⟨T15, none, _, _, _, X15, by simp, rfl, by omega, (fun _ => rfl), ⟨rfl, _, N, bl15, ((Same.refl D _).set _ (by simp)).set _ (by simp), sl15, (Cell.slots_setSlot_ne _ ap).trans sl13, n1.keep al (p15.other hne (p13.other hne n7)), n2, by rw [al.findClass]; exact n3, n4, n5, fun y c h1 h2 => p15.other h1 (p13.other h1 (by rw [q11]; exact n6 y c h2)), by rw [p15.2.2, p13.2.2, q11]; exact z8⟩, fun fs hl => c16.trans (X15.returnOut hexec hret (hb hbytes d57) hl)⟩
end New4
namespace New1
def yN : MethodName := ⟨"java/lang/String", "<init>", "([C)V"⟩
abbrev yB : ByteArray := jdk_42_method_3_code
theorem d0 : decode yB 0 = .ok (.aload_n 0, 1) := by decide +kernel
theorem d1 : decode yB 1 = .ok (.aload_n 1, 1) := by decide +kernel
theorem d2 : decode yB 2 = .ok (.iconst 0, 1) := by decide +kernel
theorem d3 : decode yB 3 = .ok (.aload_n 1, 1) := by decide +kernel
theorem d4 : decode yB 4 = .ok (.arraylength, 1) := by decide +kernel
theorem d5 : decode yB 5 = .ok (.aconst_null, 1) := by decide +kernel
theorem d6 : decode yB 6 = .ok (.invokespecial 27, 3) := by decide +kernel
theorem d9 : decode yB 9 = .ok (.return_, 1) := by decide +kernel
def site : List Cond := [New4.tab] ++ initW "java/lang/String" 27 New4.yN
def tab : Cond := tabOf yN yB 2 none site
def P (a : Addr) (D : Cell) (fV fC : Field) (b : Addr) (A : Cell) (z : Int32) (args : Array Value) (s : State) : Prop := args = #[.ref a, .ref b] ∧ Blank "java/lang/String" a D s ∧ Found "java/lang/String" "value" "[B" fV s ∧ Found "java/lang/String" "coder" "B" fC s ∧ Ch b A s ∧ StaticIs s "java/lang/String" "COMPACT_STRINGS" "Z" (.int z) ∧ ¬ z = 0 ∧ 0 < A.slots.size ∧ A.slots.size ≤ 536870912 ∧ ∀ i, i < A.slots.size → ¬ 255 < cv A i
def E (a : Addr) (D : Cell) (fV fC : Field) (A : Cell) (r : Option Value) (s u : State) : Prop := Got a D fV fC A 0 A.slots.size r s u
/-- new String(chars), not empty, no char above 255: a Latin-1 String of their low bytes -/
theorem law (l : Launch) (a : Addr) (D : Cell) (fV fC : Field) (b : Addr) (A : Cell) (z : Int32) : Law l yN 2 1 3 52 yB 2 none site (P a D fV fC b A z) (E a D fV fC A) [⟨a, fC.slot⟩, ⟨a, fV.slot⟩] 1 A.slots.size := by
  refine Law.of_walk (plainFor_of_name (by decide +kernel)) (by decide +kernel) (by decide +kernel) (by decide) (fun _ _ h => by rw [h.1]; rfl) (fun _ U U' hal hh h => ⟨h.1, h.2.1.mv hal hh, h.2.2.1.al hal, h.2.2.2.1.al hal, h.2.2.2.2.1.mv hal hh, h.2.2.2.2.2.1.there hal hh, h.2.2.2.2.2.2⟩) (fun r U U' V V' h1 hal h2 h => Got.mv r U U' V V' h1 hal h2 h) ?_
  intro p e s m args below meth c s₁ X0 hexec hbytes hml hret hlk hnm hown hh0 W hP
  obtain ⟨rfl, hB, f1, f2, hA, s1, hz, l0, l2, hp⟩ := hP
  have c1 : Steps p.tables e below (s₁.setTop (entryFrame m #[.ref a, .ref b] 2)) (s₁.setTop (mkF m 0 #[.val (.ref a), .val (.ref b)] [])) := entry rfl
  have c2 : Steps p.tables e below (s₁.setTop (entryFrame m #[.ref a, .ref b] 2)) (s₁.setTop (mkF m 6 #[.val (.ref a), .val (.ref b)] [.null, .int (Int32.ofNat A.slots.size), .int 0, .ref b, .ref a])) := c1.trans (by
    refine XS.aloadN X0.here hexec rfl (hb hbytes d0) rfl rfl ?_
    refine XS.aloadN X0.here hexec rfl (hb hbytes d1) rfl rfl ?_
    refine iconstV X0.here hexec rfl 0 (hb hbytes d2) (by decide) ?_
    refine XS.aloadN X0.here hexec rfl (hb hbytes d3) rfl rfl ?_
    refine X0.alen hexec (hA.1.mv X0.warmed.alike hh0) rfl rfl (hb hbytes d4) ?_
    refine XS.aconstNull X0.here hexec rfl (hb hbytes d5) ?_
    exact Steps.refl _)
  obtain ⟨v3, T3, X3, E3, g3⟩ := X0.callN hexec (New4.law l a D fV fC b A z 0 A.slots.size) rfl hown (wks W (initW "java/lang/String" 27 New4.yN)) (W New4.tab (by simp only [site, List.mem_cons, List.mem_append, true_or, or_true])) (W := 0) (Nat.le_of_ble_eq_true rfl) (Nat.le_of_ble_eq_true rfl) (Nat.le_refl _) (by show 0 + A.slots.size ≤ A.slots.size; omega) (g := (mkF m 6 #[.val (.ref a), .val (.ref b)] [.null, .int (Int32.ofNat A.slots.size), .int (Int32.ofNat 0), .ref b, .ref a])) rfl (by rw [hml]; rfl) c2 (argsL := [.ref b, .int (Int32.ofNat 0), .int (Int32.ofNat A.slots.size), .null]) (rest := []) rfl rfl (by show 2 * 0 + 0 ≤ _; decide) (hb hbytes d6) (⟨rfl, hB.mv X0.warmed.alike hh0, f1.al X0.warmed.alike, f2.al X0.warmed.alike, hA.mv X0.warmed.alike hh0, s1.there X0.warmed.alike hh0, hz, l0, by omega, l2, fun i hi => by rw [Nat.zero_add]; exact hp i hi⟩)
  have e0 := Got.mv _ s₁ s _ _ hh0.symm (Vm.Alike.refl _) rfl E3
  obtain rfl := e0.1
  have c4 : Steps p.tables e below (s₁.setTop (entryFrame m #[.ref a, .ref b] 2)) (T3.setTop (mkF m 9 #[.val (.ref a), .val (.ref b)] [])) := g3
  exact ⟨T3, none, _, _, _, X3, by simp, rfl, by omega, (fun _ => rfl), e0, fun fs hl => c4.trans (X3.returnOut hexec hret (hb hbytes d9) hl)⟩
theorem pays {l : Launch} {R : Room} {p : Program} {e : Env} {below : List Frame} {s : State} {sargs : Array Value} {len W : Nat} (a : Addr) (D : Cell) (fV fC : Field) (b : Addr) (A : Cell) (z : Int32) (htab : tab.before sargs s = true) (hfr : 4 ≤ R.frames) (hlo : W + 65 ≤ R.locals) :
    Back l R p e below s sargs yN len W (fun A₁ a₁ => A₁.cells + 1 ≤ R.cells ∧ A₁.slots + A.slots.size ≤ R.slots ∧ P a D fV fC b A z a₁ A₁.U) (fun A₁ _ v₁ B₁ => E a D fV fC A v₁ A₁.U B₁.U ∧ B₁.locs = A₁.locs ++ [⟨a, fC.slot⟩, ⟨a, fV.slot⟩] ∧ B₁.cells = A₁.cells + 1 ∧ B₁.slots = A₁.slots + A.slots.size) :=
  (law l a D fV fC b A z).pays htab hfr (by omega)
end New1
/-- the byte, read back as charAt reads it, is the char -/
theorem lo8_mask {x : Int32} (h0 : ¬ x < 0) (h1 : ¬ 255 < x) : lo8 x &&& 255 = x := by
  have t : ∀ k : Fin 256, lo8 (Int32.ofNat k.val) &&& 255 = Int32.ofNat k.val := by decide +kernel
  rw [Int32.lt_iff_toInt_lt] at h0 h1
  have e0 : (0 : Int32).toInt = 0 := rfl
  have e1 : (255 : Int32).toInt = 255 := rfl
  obtain ⟨k, hk⟩ : ∃ k : Nat, x.toInt = k := ⟨x.toInt.toNat, by omega⟩
  have hx : x = Int32.ofNat k := Int32.toInt_inj.mp (by rw [hk, Int32.toInt_ofNat_small (by omega)])
  rw [hx]
  exact t ⟨k, by omega⟩
end StrChars
namespace StrChars.Road
open Jvm Sem ClassFile Op Lib Jvm.Stand Jvm.Free Jvm.Free.XT
open Jvm.Lib.Cold (StaticIs)
abbrev ST : String := "java/lang/String"
/-- every table word that New1's law asks, flat -/
abbrev words : List Jvm.Cond := [.code New1.yN New1.yB 2 none, .initialized ST, .methodLink ST 27 New4.yN, .instanceMethod New4.yN,
  .code New4.yN New4.yB 6 none, .fieldLink ST 38 ST "COMPACT_STRINGS" "Z", .laysFinal ST ST "value" "[B", .fieldLink ST 9 ST "value" "[B", .laysFinal ST ST "coder" "B", .fieldLink ST 15 ST "coder" "B",
  .methodLink ST 1 Lib.objectInit, .instanceMethod Lib.objectInit, .code Lib.objectInit ⟨#[0xb1]⟩ 1 none, .methodLink ST 177 Cmp3.yN, .static Cmp3.yN, .methodLink ST 47 CodL.yN, .static CodL.yN,
  .code Cmp3.yN Cmp3.yB 6 (some (.array .byte)), .initialized U16, .arrayClass .byte, .methodLink U16 115 Cmp5.yN, .static Cmp5.yN, .code Cmp5.yN Cmp5.yB 7 (some .int), .code CodL.yN CodL.yB 2 (some .byte)]
theorem tab_of {a : Array Value} {s : State} (h : ∀ w ∈ words, w.before a s = true) : New1.tab.before a s = true := by
  have h5 : Cmp5.tab.before a s = true := unparts (wk h (.code Cmp5.yN Cmp5.yB 7 (some .int))) (wks h (.initialized Cmp5.yN.cls :: Cmp5.site))
  have hc : CodL.tab.before a s = true := unparts (wk h (.code CodL.yN CodL.yB 2 (some .byte))) (wks h (.initialized CodL.yN.cls :: CodL.site))
  have q5 : ∀ w ∈ Cmp5.tab :: words, w.before a s = true := fun w hw => (List.mem_cons.mp hw).elim (fun e => e ▸ h5) (h w)
  have h3 : Cmp3.tab.before a s = true := unparts (wk q5 (.code Cmp3.yN Cmp3.yB 6 (some (.array .byte)))) (wks q5 (.initialized Cmp3.yN.cls :: Cmp3.site))
  have q3 : ∀ w ∈ Cmp3.tab :: CodL.tab :: words, w.before a s = true := fun w hw => (List.mem_cons.mp hw).elim (fun e => e ▸ h3) fun hw => (List.mem_cons.mp hw).elim (fun e => e ▸ hc) (h w)
  have h4 : New4.tab.before a s = true := unparts (wk q3 (.code New4.yN New4.yB 6 none)) (wks q3 (.initialized New4.yN.cls :: New4.site))
  have q4 : ∀ w ∈ New4.tab :: words, w.before a s = true := fun w hw => (List.mem_cons.mp hw).elim (fun e => e ▸ h4) (h w)
  exact unparts (wk q4 (.code New1.yN New1.yB 2 none)) (wks q4 (.initialized New1.yN.cls :: New1.site))
/-- the words ride from the start Z to the walk's own state -/
theorem moved {Z s : State} {a0 args : Array Value} (hZ : Z.Warmed39 s.vm) (hw : ∀ d ∈ words, d.before a0 Z = true) : ∀ d ∈ words, d.before args s = true := fun d hd => by
  have q := hw d hd
  have t : ∀ d ∈ words, d = .arrayClass .byte ∨ (d.onTables && d.keepsFace) = true := by decide +kernel
  rcases t d hd with rfl | t
  · exact RoadKit.mvA hZ q
  · exact RoadKit.mv hZ q t
/-- WHAT COMES BACK, over the tables of the start Z: h the heap at the call, h' behind it -/
def Q (Z : State) (x : Addr) (A : Cell) (h : Heap) (v : Option Value) (h' : Heap) (L : List Loc) : Prop := v = none ∧ (∀ y ∈ L, y.base = x) ∧ RoadKit.Keep h h' [x] ∧ h'.size = h.size + 1 ∧ RoadKit.Exa Z h' x ST ∧ RoadKit.Fld Z h' x ST "value" "[B" (.ref h.size) ∧ RoadKit.Fld Z h' x ST "coder" "B" (.int 0) ∧
  (∃ V : Cell, RoadKit.Arr Z h' h.size V .byte ∧ V.vm = .none ∧ Z.vm.findClass "[B" = some V.cls ∧ V.slots.size = A.slots.size ∧ ∀ j, j < A.slots.size → V.slots[j]? = some (.int (lo8 (cv A j)))) ∧
  ∀ (O n d : String) (w : Value), RoadKit.Fld Z h x O n d w → RoadKit.slotOf Z O n d ≠ RoadKit.slotOf Z ST "value" "[B" → RoadKit.slotOf Z O n d ≠ RoadKit.slotOf Z ST "coder" "B" → RoadKit.Fld Z h' x O n d w
/-- **new String(chars) AT A CALL, IN THE ROAD'S FORM**: for specialBack behind newO: x the fresh String, b the char[] with the cell A -/
theorem back {p : Program} {l : Launch} {e : Env} {R : Room} {s : State} {args : Array Value} {below : List Frame} {len W : Nat} {Z : State} {a0 : Array Value} {h : Heap} (hZ : Z.Warmed39 s.vm) (hw : ∀ d ∈ words, d.before a0 Z = true) {kI : Nat} (wi : (Jvm.Cond.instantiable ST kI).before a0 Z = true)
    {x b : Addr} {A : Cell} {z : Int32} {v0 c0 : Value} (E : RoadKit.Exa Z h x ST) (V : RoadKit.Fld Z h x ST "value" "[B" v0) (C : RoadKit.Fld Z h x ST "coder" "B" c0) (K : RoadKit.Arr Z h b A .char) (hty : Typed .char A) (S : RoadKit.Sta Z h ST "COMPACT_STRINGS" "Z" (.int z)) (hz : ¬ z = 0)
    (l0 : 0 < A.slots.size) (l2 : A.slots.size ≤ 536870912) (hp : ∀ i, i < A.slots.size → ¬ 255 < cv A i) (hfr : 4 ≤ R.frames) (hlo : W + 65 ≤ R.locals) :
    Back l R p e below s args New1.yN len W (fun P a => a = #[.ref x, .ref b] ∧ P.U.heap = h ∧ P.cells + 1 ≤ R.cells ∧ P.slots + A.slots.size ≤ R.slots)
      (fun P _ v B => ∃ L, Q Z x A h v B.U.heap L ∧ B.locs = P.locs ++ L ∧ B.cells = P.cells + 1 ∧ B.slots = P.slots + A.slots.size) := by
  intro m meth c P g ig mk a X hg hsize hdg hW hn hp'
  obtain ⟨rfl, rfl, r1, r2⟩ := hp'
  have al : Z.vm.Alike P.U.vm := hZ.alike.trans X.warmed.alike
  obtain ⟨D, cfV, kV, iV, fV, hD, gV, stV, knV, obV, asV, slV⟩ := id V
  obtain ⟨D', cfC, kC, iC, fC, hD', gC, stC, -, -, asC, slC⟩ := id C
  cases hD.symm.trans hD'
  obtain ⟨D2, kD, e1, e2, e3, e4, e5⟩ := id E
  cases hD.symm.trans e1
  obtain ⟨c2, k2, i1, i2, i3, -⟩ := Cond.instantiable_spec wi
  cases e2.symm.trans i1
  cases e3.symm.trans i2
  obtain ⟨kU, u1, u2⟩ := al.2.2 _ _ e3
  have hB : Blank ST x D P.U := ⟨hD, ⟨knV, fun q hq => by rw [hq] at obV; cases obV⟩, by rw [al.findClass]; exact e2, kU, u1, by rw [u2]; exact i3, by rw [u2]; exact e5 i3⟩
  have F1 : Found ST "value" "[B" fV P.U := ⟨SBG.found_only al ⟨cfV, kV, iV, gV⟩, stV⟩
  have F2 : Found ST "coder" "B" fC P.U := ⟨SBG.found_only al ⟨cfC, kC, iC, gC⟩, stC⟩
  have hA : Ch b A P.U := ⟨⟨K.1, State.isArrayOf_alike al K.2.1, K.2.2, by omega⟩, hty⟩
  have hS : StaticIs P.U ST "COMPACT_STRINGS" "Z" (.int z) := by
    obtain ⟨cfS, iS, kS, fS, st, cS, t1, t2, t3, t4, t5, t6, t7⟩ := S
    exact StaticIs.there (s := { Z with heap := P.U.heap }) ⟨cfS, iS, kS, fS, st, cS, t1, t2, t3, t4, t5, (fun q => by rw [q] at t6; cases t6), t7⟩ al rfl
  obtain ⟨v, B, X', ⟨⟨hv, E', V', q1, q2, q3, q4, q5, q6, q7, q8, q9, q10, q11⟩, hl, hc, hs⟩, st⟩ := New1.pays x D fV fC b A z (tab_of (moved hZ hw)) hfr hlo m meth c P g ig mk _ X hg hsize hdg hW hn ⟨r1, r2, rfl, hB, F1, F2, hA, hS, hz, l0, l2, hp⟩
  have al' : Z.vm.Alike B.U.vm := hZ.alike.trans X'.warmed.alike
  have hsz : E'.slots.size = D.slots.size := by
    obtain ⟨-, -, -, kB, w1, w2, w3⟩ := q1
    obtain ⟨kB', y1, y2⟩ := al'.2.2 _ _ e3
    rw [q2.2.1] at w1
    cases w1.symm.trans y1
    rw [w3, e5 i3, y2]
  refine ⟨v, B, X', ⟨_, ⟨hv, ?_, ⟨by omega, fun y cy hy hn' => q10 y cy (by simpa using hn') hy, fun y cy hy => ?_⟩, q11, ⟨E', _, q1.1, by rw [q2.2.1]; exact e2, by rw [q2.2.1]; exact e3, by rw [q2.1]; exact obV, fun _ => by rw [hsz]; exact e5 i3⟩,
    ⟨E', cfV, kV, iV, fV, q1.1, gV, stV, by rw [q2.1]; exact knV, by rw [q2.1]; exact obV, by rw [q2.2.1]; exact asV, q3⟩, ⟨E', cfC, kC, iC, fC, q1.1, gC, stC, by rw [q2.1]; exact knV, by rw [q2.1]; exact obV, by rw [q2.2.1]; exact asC, q4⟩,
    ⟨V', ⟨q5.1, State.isArrayOf_alike al'.symm q5.2.1, q5.2.2.1⟩, q6, by rw [← al'.findClass]; exact q7, q8, fun j hj => by have := q9 j hj; rwa [Nat.zero_add] at this⟩, fun O n d w F n1 n2 => ?_⟩, hl, hc, hs⟩, st⟩
  · intro y hy
    simp only [List.mem_cons, List.not_mem_nil, or_false] at hy
    rcases hy with rfl | rfl <;> rfl
  · by_cases q : y = x
    · subst q
      cases hD.symm.trans hy
      exact ⟨E', q1.1, q2.2.1, q2.1, hsz⟩
    · exact ⟨cy, q10 y cy q hy, rfl, rfl, rfl⟩
  · obtain ⟨D3, cf, k, i, f, g1, g2, g3, g4, g5, g6, g7⟩ := F
    cases hD.symm.trans g1
    simp only [RoadKit.slotOf, g2, gV, gC, Option.map_some, Option.getD_some] at n1 n2
    exact ⟨E', cf, k, i, f, q1.1, g2, g3, by rw [q2.1]; exact g4, by rw [q2.1]; exact g5, by rw [q2.2.1]; exact g6, by rw [q2.2.2 f.slot (by simp [n1, n2])]; exact g7⟩
end StrChars.Road
namespace StrChars.Road
open Jvm Sem ClassFile Op Lib Jvm.Stand Jvm.Free Jvm.Free.XT
/-- WHAT COMES BACK, the byte[] as a list of values -/
def QA (Z : State) (x : Addr) (zn : Int32) (cs : List Int32) (h : Heap) (v : Option Value) (h' : Heap) (L : List Loc) : Prop := v = none ∧ (∀ y ∈ L, y.base = x) ∧ RoadKit.Keep h h' [x] ∧ h'.size = h.size + 1 ∧ RoadKit.Exa Z h' x ST ∧ RoadKit.Fld Z h' x ST "value" "[B" (.ref h.size) ∧ RoadKit.Fld Z h' x ST "coder" "B" (.int 0) ∧
  (∃ kb, Z.vm.findClass "[B" = some kb ∧ RoadKit.Arv Z h' h.size kb .byte zn (cs.map fun c => .int (lo8 c)) (.int 0)) ∧
  ∀ (O n d : String) (w : Value), RoadKit.Fld Z h x O n d w → RoadKit.slotOf Z O n d ≠ RoadKit.slotOf Z ST "value" "[B" → RoadKit.slotOf Z O n d ≠ RoadKit.slotOf Z ST "coder" "B" → RoadKit.Fld Z h' x O n d w
/-- **new String(chars) AT A CALL, THE ARRAYS AS LISTS**: the char[] at b holds cs, not empty, no char above 255 -/
theorem backArv {p : Program} {l : Launch} {e : Env} {R : Room} {s : State} {args : Array Value} {below : List Frame} {len W : Nat} {Z : State} {a0 : Array Value} {h : Heap} (hZ : Z.Warmed39 s.vm) (hw : ∀ d ∈ words, d.before a0 Z = true) {kI : Nat} (wi : (Jvm.Cond.instantiable ST kI).before a0 Z = true)
    {x b : Addr} {k : ClassId} {zn z : Int32} {cs : List Int32} {dv v0 c0 : Value} (E : RoadKit.Exa Z h x ST) (V : RoadKit.Fld Z h x ST "value" "[B" v0) (C : RoadKit.Fld Z h x ST "coder" "B" c0) (K : RoadKit.Arv Z h b k .char zn (cs.map Value.int) dv) (S : RoadKit.Sta Z h ST "COMPACT_STRINGS" "Z" (.int z)) (hz : ¬ z = 0)
    (hlen : zn.toNatClampNeg = cs.length) (h0 : 0 < cs.length) (hbig : cs.length ≤ 536870912) (hall : ∀ c ∈ cs, ¬ 255 < c) (hfr : 4 ≤ R.frames) (hlo : W + 65 ≤ R.locals) :
    Back l R p e below s args New1.yN len W (fun P a => a = #[.ref x, .ref b] ∧ P.U.heap = h ∧ P.cells + 1 ≤ R.cells ∧ P.slots + cs.length ≤ R.slots)
      (fun P _ v B => ∃ L, QA Z x zn cs h v B.U.heap L ∧ B.locs = P.locs ++ L ∧ B.cells = P.cells + 1 ∧ B.slots = P.slots + cs.length) := by
  obtain ⟨A, K1, K2, K3, K4, K5, K6⟩ := K
  have e : A.slots.size = cs.length := K3.trans hlen
  have hat : ∀ (i : Nat) (hi : i < cs.length), A.slots[i]? = some (.int cs[i]) := fun i hi => by rw [K5 i (by omega)]; simp [List.getD_eq_getElem?_getD, hi]
  have hcv : ∀ (i : Nat) (hi : i < cs.length), cv A i = cs[i] := fun i hi => by unfold cv; rw [hat i hi]
  have hty : Typed .char A := fun i v hv => by
    have hi : i < A.slots.size := (Array.getElem?_eq_some_iff.mp hv).1
    have q := K5 i hi
    rw [hv] at q
    rw [Option.some.inj q]
    exact K6 i hi
  refine Back.mono (back hZ hw wi E V C K1 hty S hz (by omega) (by omega) (fun i hi => by rw [hcv i (by omega)]; exact hall _ (List.getElem_mem _)) hfr hlo) (fun P a hp => ⟨hp.1, hp.2.1, hp.2.2.1, by rw [e]; exact hp.2.2.2⟩) (fun P a v B hp hq => ?_)
  obtain ⟨L, ⟨q1, q2, q3, q4, q5, q6, q7, ⟨V', v1, v2, v3, v4, v5⟩, q9⟩, hl, hc, hs⟩ := hq
  refine ⟨L, ⟨q1, q2, q3, q4, q5, q6, q7, ⟨V'.cls, v3, V', v1, rfl, by rw [v4, e, hlen], K4, fun i hi => ?_, fun i hi => ?_⟩, q9⟩, hl, hc, by rw [hs, e]⟩
  · have hi' : i < cs.length := by omega
    rw [v5 i (by omega), hcv i hi']; simp [List.getD_eq_getElem?_getD, hi']
  · have hi' : i < cs.length := by omega
    simp only [List.getD_eq_getElem?_getD, List.getElem?_map, List.getElem?_eq_getElem hi', Option.map_some, Option.getD_some]
    exact fits_lo8 _
end StrChars.Road
namespace StrChars.Road
open Jvm Sem ClassFile Op Lib Jvm.Stand Jvm.Free Jvm.Free.XT
/-- WHAT COMES BACK, in the writer's own shape -/
def QV (Z : State) (x : Addr) (N : Int32) (bs : List Int32) (h : Heap) (n0 : Nat) (v : Option Value) (h' : Heap) (L : List Loc) : Prop := v = none ∧ RoadKit.Fr n0 L ∧ RoadKit.Keep h h' [x] ∧ RoadKit.Exa Z h' x ST ∧ RoadKit.Fld Z h' x ST "coder" "B" (.int 0) ∧
  ∃ (t : Addr) (kb : ClassId), n0 ≤ t ∧ h.size ≤ t ∧ ¬ t = x ∧ RoadKit.Fld Z h' x ST "value" "[B" (.ref t) ∧ RoadKit.Arv Z h' t kb .byte N (bs.map Value.int) (.int 0)
/-- **new String(chars) AT A CALL, FOR THE WRITER**: a char[] of n known ints, each 0 to 255 -/
theorem backV {p : Program} {l : Launch} {e : Env} {R : Room} {s : State} {args : Array Value} {below : List Frame} {len W : Nat} {Z : State} {a0 : Array Value} {h : Heap} (hZ : Z.Warmed39 s.vm) (hw : ∀ d ∈ words, d.before a0 Z = true) {kI : Nat} (wi : (Jvm.Cond.instantiable ST kI).before a0 Z = true)
    {x b : Addr} {kC : ClassId} {cs bs : List Int32} {d v0 c0 : Value} {z N : Int32} {n n0 : Nat} (hx0 : n0 ≤ x) (hh0 : n0 ≤ h.size) (E : RoadKit.Exa Z h x ST) (V : RoadKit.Fld Z h x ST "value" "[B" v0) (C : RoadKit.Fld Z h x ST "coder" "B" c0) (K : RoadKit.Arv Z h b kC .char N (cs.map Value.int) d) (S : RoadKit.Sta Z h ST "COMPACT_STRINGS" "Z" (.int z)) (hz : ¬ z = 0)
    (hn : cs.length = n) (hN : N = Int32.ofNat n) (l0 : 0 < n) (l2 : n ≤ 4000) (hp : ∀ c ∈ cs, ¬ c < 0 ∧ ¬ (255 : Int32) < c) (hb : bs = cs.map (fun c => c.toInt8.toInt32)) (hfr : 4 ≤ R.frames) (hlo : W + 65 ≤ R.locals) :
    Back l R p e below s args (⟨"java/lang/String", "<init>", "([C)V"⟩ : MethodName) len W (fun P a => a = #[.ref x, .ref b] ∧ P.U.heap = h ∧ P.cells + 1 ≤ R.cells ∧ P.slots + n ≤ R.slots)
      (fun P _ v B => ∃ L, QV Z x N bs h n0 v B.U.heap L ∧ B.locs = P.locs ++ L ∧ B.cells = P.cells + 1 ∧ B.slots = P.slots + n) := by
  subst hn hN hb
  refine Back.mono (backArv hZ hw wi E V C K S hz (n32 (by omega)) l0 (by omega) (fun c hc => (hp c hc).2) hfr hlo) (fun P a hp => hp) (fun P a v B hp hq => ?_)
  obtain ⟨L, ⟨q1, q2, q3, q4, q5, q6, q7, ⟨kb, v1, v2⟩, q9⟩, hl, hc, hs⟩ := hq
  exact ⟨L, ⟨q1, fun y hy => by rw [q2 y hy]; exact hx0, q3, q5, q7, h.size, kb, hh0, Nat.le_refl _, Nat.ne_of_gt E.lt, q6, by rw [List.map_map]; exact v2⟩, hl, hc, hs⟩
end StrChars.Road
namespace StrChars
open Jvm Sem ClassFile Op Lib Jvm.Stand Jvm.Free.XT Jvm.Free.ALB Jvm.Free.JM Jvm.Free
open Jvm.Lib.Cold (StaticIs)
def hi8 (x : Int32) : Int32 := lo8 (x >>> ((8 : Int32) &&& 31))
/-- what StringUTF16.getChar makes of two bytes -/
def pairCh (u v : Int32) : Int32 := (((u &&& 255) <<< ((0 : Int32) &&& 31)) ||| ((v &&& 255) <<< ((8 : Int32) &&& 31))).toUInt32.toUInt16.toUInt32.toInt32
theorem lo8_and (x : Int32) : (lo8 x &&& 255).toBitVec.toNat = x.toBitVec.toNat % 256 := by
  have h : (lo8 x).toBitVec = (x.toBitVec.signExtend 8).signExtend 32 := by rw [lo8, Int8.toBitVec_toInt32, Int32.toBitVec_toInt8]
  rw [Int32.toBitVec_and, BitVec.toNat_and, h]
  have e : ((x.toBitVec.signExtend 8).signExtend 32).toNat % 256 = x.toBitVec.toNat % 256 := by
    rw [BitVec.toNat_signExtend]
    have hlt := x.toBitVec.isLt
    simp only [BitVec.toNat_setWidth, BitVec.toNat_signExtend]
    split <;> split <;> omega
  rw [← e]
  exact Nat.and_two_pow_sub_one_eq_mod _ 8
theorem pair_says {c : Int32} (h0 : ¬ c < 0) (h1 : ¬ 65535 < c) : pairCh (lo8 c) (hi8 c) = c := by
  rw [Int32.lt_iff_toInt_lt] at h0 h1
  have e0 : (0 : Int32).toInt = 0 := rfl
  have e1 : (65535 : Int32).toInt = 65535 := rfl
  have hc : c.toInt = c.toBitVec.toNat := by
    have := c.toBitVec.isLt
    have e : c.toInt = c.toBitVec.toInt := rfl
    rw [e] at h0 h1
    rw [e]
    rw [BitVec.toInt_eq_toNat_cond] at h0 h1 ⊢
    split at h0 <;> split <;> omega
  have hn : c.toBitVec.toNat < 65536 := by omega
  have a1 := lo8_and c
  have a2 : (hi8 c &&& 255).toBitVec.toNat = c.toBitVec.toNat / 256 := by
    rw [hi8, lo8_and]
    have e : ((8 : Int32) &&& 31) = 8 := by decide
    rw [e, Int32.toBitVec_shiftRight]
    have e2 : ((8 : Int32).toBitVec.smod 32) = 8#32 := by decide
    rw [e2, BitVec.sshiftRight_eq', BitVec.toNat_sshiftRight_of_msb_false (by rw [BitVec.msb_eq_false_iff_two_mul_lt]; omega)]
    show c.toBitVec.toNat >>> 8 % 256 = _
    rw [Nat.shiftRight_eq_div_pow]
    omega
  unfold pairCh
  apply Int32.toBitVec_inj.mp
  apply BitVec.eq_of_toNat_eq
  have f0 : ((0 : Int32) &&& 31) = 0 := by decide
  have f8 : ((8 : Int32) &&& 31) = 8 := by decide
  rw [f0, f8]
  have g : (((lo8 c &&& 255) <<< (0 : Int32)) ||| ((hi8 c &&& 255) <<< (8 : Int32))).toBitVec.toNat = c.toBitVec.toNat := by
    rw [Int32.toBitVec_or, Int32.toBitVec_shiftLeft, Int32.toBitVec_shiftLeft]
    have s0 : ((0 : Int32).toBitVec.smod 32) = 0#32 := by decide
    have s8 : ((8 : Int32).toBitVec.smod 32) = 8#32 := by decide
    rw [s0, s8, BitVec.toNat_or]
    simp only [BitVec.shiftLeft_eq', BitVec.toNat_shiftLeft, a1, a2]
    show (c.toBitVec.toNat % 256) <<< 0 % 2 ^ 32 ||| (c.toBitVec.toNat / 256) <<< 8 % 2 ^ 32 = _
    rw [Nat.shiftLeft_zero, Nat.mod_eq_of_lt (show c.toBitVec.toNat % 256 < 2 ^ 32 by omega), Nat.mod_eq_of_lt (show (c.toBitVec.toNat / 256) <<< 8 < 2 ^ 32 by rw [Nat.shiftLeft_eq]; omega), Nat.or_comm, ← Nat.shiftLeft_add_eq_or_of_lt (by omega), Nat.shiftLeft_eq]
    omega
  show BitVec.toNat (((((lo8 c &&& 255) <<< (0 : Int32)) ||| ((hi8 c &&& 255) <<< (8 : Int32))).toBitVec.setWidth 16).setWidth 32) = _
  rw [BitVec.toNat_setWidth, BitVec.toNat_setWidth, g]
  omega
end StrChars
namespace StrChars
open Jvm Sem ClassFile Op Lib Jvm.Stand Jvm.Free.XT Jvm.Free.ALB Jvm.Free.JM Jvm.Free
open Jvm.Lib.Cold (StaticIs)
/-- the array's cell V codes the n chars f 0 .. f (n - 1) by the coder cd, as the JDK does: coder 1 just where some char is above 255 -/
def Cod (cd : Int32) (n : Nat) (f : Nat → Int32) (V : Cell) : Prop := (cd = 0 ∧ V.slots.size = n ∧ ∀ j, j < n → V.slots[j]? = some (.int (lo8 (f j))) ∧ ¬ 255 < f j) ∨ (cd = 1 ∧ V.slots.size = 2 * n ∧ (∀ j, j < n → V.slots[2 * j]? = some (.int (lo8 (f j))) ∧ V.slots[2 * j + 1]? = some (.int (hi8 (f j)))) ∧ ∃ j, j < n ∧ 255 < f j)
/-- **x is a String of the n chars f 0 .. f (n - 1)**, Latin-1 or UTF-16; its array at t has the cell V -/
def Txt (x t : Addr) (V : Cell) (cd : Int32) (n : Nat) (f : Nat → Int32) (U : State) : Prop := Exact "java/lang/String" x U ∧ Has x "java/lang/String" "value" "[B" (.ref t) U ∧ Has x "java/lang/String" "coder" "B" (.int cd) U ∧ XT.Arr .byte t V U ∧ Cod cd n f V ∧ ∀ j, j < n → ¬ f j < 0 ∧ ¬ 65535 < f j
theorem Txt.mv {x t : Addr} {V : Cell} {cd : Int32} {n : Nat} {f : Nat → Int32} {U U' : State} (h : Txt x t V cd n f U) (hal : U.vm.Alike U'.vm) (hh : U'.heap = U.heap) : Txt x t V cd n f U' := ⟨h.1.mv hal hh, h.2.1.mv hal hh, h.2.2.1.mv hal hh, h.2.2.2.1.mv hal hh, h.2.2.2.2⟩
end StrChars
namespace StrChars.Road
open Jvm Sem ClassFile Op Lib Jvm.Stand Jvm.Free Jvm.Free.XT
open Jvm.Lib.Cold (StaticIs)
theorem consq {a : Array Value} {s : State} {c : Jvm.Cond} {L : List Jvm.Cond} (h0 : c.before a s = true) (h : ∀ w ∈ L, w.before a s = true) : ∀ w ∈ c :: L, w.before a s = true := fun w hw => (List.mem_cons.mp hw).elim (fun e => e ▸ h0) (h w)
/-- the bytes of the chars cs, low before high -/
def wideBytes : List Int32 → List Value
  | [] => []
  | c :: cs => .int (lo8 c) :: .int (hi8 c) :: wideBytes cs
theorem wide_lo (d : Value) : ∀ (cs : List Int32) (j : Nat), j < cs.length → (wideBytes cs).getD (2 * j) d = .int (lo8 (cs.getD j 0))
  | [], j, h => absurd h (Nat.not_lt_zero j)
  | c :: cs, 0, _ => rfl
  | c :: cs, j + 1, h => by
    have q := wide_lo d cs j (by simpa using h)
    rw [show 2 * (j + 1) = 2 * j + 1 + 1 from by omega]
    simpa [wideBytes] using q
theorem wide_hi (d : Value) : ∀ (cs : List Int32) (j : Nat), j < cs.length → (wideBytes cs).getD (2 * j + 1) d = .int (hi8 (cs.getD j 0))
  | [], j, h => absurd h (Nat.not_lt_zero j)
  | c :: cs, 0, _ => rfl
  | c :: cs, j + 1, h => by
    have q := wide_hi d cs j (by simpa using h)
    rw [show 2 * (j + 1) + 1 = 2 * j + 1 + 1 + 1 from by omega]
    simpa [wideBytes] using q
theorem low_at (d : Value) (cs : List Int32) (j : Nat) (h : j < cs.length) : (cs.map fun c => Value.int (lo8 c)).getD j d = .int (lo8 (cs.getD j 0)) := by
  simp [List.getD_eq_getElem?_getD, h]
/-- an array of N2 bytes vs codes the chars cs by the coder cd -/
def CodA (cs : List Int32) (cd N2 : Int32) (vs : List Value) : Prop := (cd = 0 ∧ N2 = Int32.ofNat cs.length ∧ vs = (cs.map fun c => Value.int (lo8 c)) ∧ ∀ c ∈ cs, ¬ 255 < c) ∨ (cd = 1 ∧ N2 = Int32.ofNat (2 * cs.length) ∧ vs = wideBytes cs ∧ ∃ c ∈ cs, 255 < c)
theorem CodA.cod {cs : List Int32} {cd N2 : Int32} {vs : List Value} {V : Cell} (h : CodA cs cd N2 vs) (hn : 2 * cs.length < 2 ^ 31) (hs : V.slots.size = N2.toNatClampNeg) (hv : RoadKit.Has V vs (.int 0)) : Cod cd cs.length (fun j => cs.getD j 0) V := by
  rcases h with ⟨rfl, rfl, rfl, h⟩ | ⟨rfl, rfl, rfl, c, hc, hw⟩
  · rw [n32 (by omega)] at hs
    exact Or.inl ⟨rfl, hs, fun j hj => ⟨by rw [hv j (by omega), low_at _ _ _ hj], by
      have e : cs.getD j 0 = cs[j] := by simp [List.getD_eq_getElem?_getD, hj]
      show ¬ 255 < cs.getD j 0
      rw [e]; exact h _ (List.getElem_mem _)⟩⟩
  · rw [n32 (by omega)] at hs
    obtain ⟨j, hj, rfl⟩ := List.getElem_of_mem hc
    exact Or.inr ⟨rfl, hs, fun j hj => ⟨by rw [hv _ (by omega), wide_lo _ _ _ hj], by rw [hv _ (by omega), wide_hi _ _ _ hj]⟩, j, hj, by
      have e : cs.getD j 0 = cs[j] := by simp [List.getD_eq_getElem?_getD, hj]
      show 255 < cs.getD j 0
      rw [e]; exact hw⟩
/-- an object of exactly java/lang/String, its two fields found: as the laws ask it -/
theorem strObj {Z U : State} {a0 : Array Value} {kI : Nat} (wi : (Jvm.Cond.instantiable ST kI).before a0 Z = true) (al : Z.vm.Alike U.vm) {x : Addr} {v0 c0 : Value} (E : RoadKit.Exa Z U.heap x ST) (V : RoadKit.Fld Z U.heap x ST "value" "[B" v0) (C : RoadKit.Fld Z U.heap x ST "coder" "B" c0) :
    ∃ (D : Cell) (fV fC : Field), Blank ST x D U ∧ Found ST "value" "[B" fV U ∧ Found ST "coder" "B" fC U ∧ D.slots[fV.slot]? = some v0 ∧ D.slots[fC.slot]? = some c0 ∧ RoadKit.slotOf Z ST "value" "[B" = fV.slot ∧ RoadKit.slotOf Z ST "coder" "B" = fC.slot := by
  obtain ⟨D, cfV, kV, iV, fV, hD, gV, stV, knV, obV, asV, slV⟩ := V
  obtain ⟨D', cfC, kC, iC, fC, hD', gC, stC, -, -, asC, slC⟩ := C
  cases hD.symm.trans hD'
  obtain ⟨D2, kD, e1, e2, e3, e4, e5⟩ := E
  cases hD.symm.trans e1
  obtain ⟨c2, k2, i1, i2, i3, -⟩ := Cond.instantiable_spec wi
  cases e2.symm.trans i1
  cases e3.symm.trans i2
  obtain ⟨kU, u1, u2⟩ := al.2.2 _ _ e3
  exact ⟨D, fV, fC, ⟨hD, ⟨knV, fun q hq => by rw [hq] at obV; cases obV⟩, by rw [al.findClass]; exact e2, kU, u1, by rw [u2]; exact i3, by rw [u2]; exact e5 i3⟩, ⟨SBG.found_only al ⟨cfV, kV, iV, gV⟩, stV⟩, ⟨SBG.found_only al ⟨cfC, kC, iC, gC⟩, stC⟩, slV, slC, by simp [RoadKit.slotOf, gV], by simp [RoadKit.slotOf, gC]⟩
theorem sta_is {Z U : State} (al : Z.vm.Alike U.vm) {C n d : String} {v : Value} (S : RoadKit.Sta Z U.heap C n d v) : StaticIs U C n d v := by
  obtain ⟨cfS, iS, kS, fS, st, cS, t1, t2, t3, t4, t5, t6, t7⟩ := S
  exact StaticIs.there (s := { Z with heap := U.heap }) ⟨cfS, iS, kS, fS, st, cS, t1, t2, t3, t4, t5, (fun q => by rw [q] at t6; cases t6), t7⟩ al rfl
end StrChars.Road
namespace StrChars
open Jvm Sem ClassFile Op Lib Jvm.Stand Jvm.Free.XT Jvm.Free.ALB Jvm.Free.JM Jvm.Free
open Jvm.Lib.Cold (StaticIs)
/-- what place i of a byte[]'s cell holds -/
def yv (A : Cell) (i : Nat) : Int32 := match A.slots[i]? with | some (.int x) => x | _ => 0
theorem yv_get {a : Addr} {A : Cell} {U : State} (h : XT.Arr .byte a A U) (ht : Typed .byte A) {i : Nat} (hi : i < A.slots.size) : A.slots[i]? = some (.int (yv A i)) := by
  have e := Array.getElem?_eq_getElem hi
  have f := ht i _ e
  unfold yv; rw [e]
  generalize A.slots[i] = v at f
  cases v <;> simp [fits] at f ⊢
/-- the two arrays are equal, place for place -/
def EqC (A B : Cell) : Prop := A.slots.size = B.slots.size ∧ ∀ i, i < A.slots.size → yv A i = yv B i
/-- a boolean that says whether p -/
def Says01 (q : Prop) (r : Option Value) (s u : State) : Prop := ∃ v : Int32, r = some (.int v) ∧ u.heap = s.heap ∧ ((v = 1 ∧ q) ∨ (v = 0 ∧ ¬ q))
theorem Says01.mv {q : Prop} : ∀ r (U U' V V' : State), U'.heap = U.heap → V.vm.Alike V'.vm → V'.heap = V.heap → Says01 q r U V → Says01 q r U' V' :=
  fun r U U' V V' h1 _ h2 ⟨v, a, b, c⟩ => ⟨v, a, by rw [h1, h2]; exact b, c⟩
namespace LEq
def yN : MethodName := ⟨"java/lang/StringLatin1", "equals", "([B[B)Z"⟩
abbrev yB : ByteArray := jdk_43_method_13_code
theorem d0 : decode yB 0 = .ok (.aload_n 0, 1) := by decide +kernel
theorem d1 : decode yB 1 = .ok (.arraylength, 1) := by decide +kernel
theorem d2 : decode yB 2 = .ok (.aload_n 1, 1) := by decide +kernel
theorem d3 : decode yB 3 = .ok (.arraylength, 1) := by decide +kernel
theorem d4 : decode yB 4 = .ok (.if_icmp (.ne) 30, 3) := by decide +kernel
theorem d7 : decode yB 7 = .ok (.iconst 0, 1) := by decide +kernel
theorem d8 : decode yB 8 = .ok (.istore_n 2, 1) := by decide +kernel
theorem d9 : decode yB 9 = .ok (.iload_n 2, 1) := by decide +kernel
theorem d10 : decode yB 10 = .ok (.aload_n 0, 1) := by decide +kernel
theorem d11 : decode yB 11 = .ok (.arraylength, 1) := by decide +kernel
theorem d12 : decode yB 12 = .ok (.if_icmp (.ge) 20, 3) := by decide +kernel
theorem d15 : decode yB 15 = .ok (.aload_n 0, 1) := by decide +kernel
theorem d16 : decode yB 16 = .ok (.iload_n 2, 1) := by decide +kernel
theorem d17 : decode yB 17 = .ok (.baload, 1) := by decide +kernel
theorem d18 : decode yB 18 = .ok (.aload_n 1, 1) := by decide +kernel
theorem d19 : decode yB 19 = .ok (.iload_n 2, 1) := by decide +kernel
theorem d20 : decode yB 20 = .ok (.baload, 1) := by decide +kernel
theorem d21 : decode yB 21 = .ok (.if_icmp (.eq) 5, 3) := by decide +kernel
theorem d24 : decode yB 24 = .ok (.iconst 0, 1) := by decide +kernel
theorem d25 : decode yB 25 = .ok (.ireturn, 1) := by decide +kernel
theorem d26 : decode yB 26 = .ok (.iinc 2 1, 3) := by decide +kernel
theorem d29 : decode yB 29 = .ok (.goto (-20), 3) := by decide +kernel
theorem d32 : decode yB 32 = .ok (.iconst 1, 1) := by decide +kernel
theorem d33 : decode yB 33 = .ok (.ireturn, 1) := by decide +kernel
theorem d34 : decode yB 34 = .ok (.iconst 0, 1) := by decide +kernel
theorem d35 : decode yB 35 = .ok (.ireturn, 1) := by decide +kernel
def site : List Cond := []
def tab : Cond := tabOf yN yB 3 (some .boolean) site
def P (a : Addr) (A : Cell) (b : Addr) (B : Cell) (args : Array Value) (s : State) : Prop := args = #[.ref a, .ref b] ∧ XT.Arr .byte a A s ∧ Typed .byte A ∧ XT.Arr .byte b B s ∧ Typed .byte B
/-- whether two byte[] are equal, place for place -/
theorem law (l : Launch) (a : Addr) (A : Cell) (b : Addr) (B : Cell) : Law l yN 2 2 0 0 yB 3 (some .boolean) site (P a A b B) (Says01 (EqC A B)) [] 0 0 := by
  refine Law.of_walk (plainFor_of_name (by decide +kernel)) (by decide +kernel) (by decide +kernel) (by decide) (fun _ _ h => by rw [h.1]; rfl) (fun _ U U' hal hh h => ⟨h.1, h.2.1.mv hal hh, h.2.2.1, h.2.2.2.1.mv hal hh, h.2.2.2.2⟩) (fun r U U' V V' h1 hal h2 h => Says01.mv r U U' V V' h1 hal h2 h) ?_
  intro p e s m args below meth c s₁ X0 hexec hbytes hml hret hlk hnm hown hh0 W hP
  obtain ⟨rfl, hA, tA, hB, tB⟩ := hP
  have a31 := hA.2.2.2
  have b31 := hB.2.2.2
  have hA0 := hA.mv X0.warmed.alike hh0
  have hB0 := hB.mv X0.warmed.alike hh0
  have c1 : Steps p.tables e below (s₁.setTop (entryFrame m #[.ref a, .ref b] 3)) (s₁.setTop (mkF m 0 #[.val (.ref a), .val (.ref b), .unset] [])) := entry rfl
  have c2 : Steps p.tables e below (s₁.setTop (entryFrame m #[.ref a, .ref b] 3)) (s₁.setTop (mkF m 4 #[.val (.ref a), .val (.ref b), .unset] [.int (Int32.ofNat B.slots.size), .int (Int32.ofNat A.slots.size)])) := c1.trans (by
    refine XS.aloadN X0.here hexec rfl (hb hbytes d0) rfl rfl ?_
    refine X0.alen hexec hA0 rfl rfl (hb hbytes d1) ?_
    refine XS.aloadN X0.here hexec rfl (hb hbytes d2) rfl rfl ?_
    refine X0.alen hexec hB0 rfl rfl (hb hbytes d3) ?_
    exact Steps.refl _)
  by_cases hs : A.slots.size = B.slots.size
  · have c3 : Steps p.tables e below (s₁.setTop (entryFrame m #[.ref a, .ref b] 3)) (s₁.setTop (mkF m 9 #[.val (.ref a), .val (.ref b), .val (.int 0)] [])) := c2.trans (by
      refine XS.icmpNo X0.here hexec rfl (hb hbytes d4) rfl (ii_ne_f (by rw [hs])) ?_
      refine iconstV X0.here hexec rfl 0 (hb hbytes d7) (by decide) ?_
      refine XS.istoreN X0.here hexec rfl (hb hbytes d8) rfl rfl ?_
      exact Steps.refl _)
    have loop : ∀ (r i : Nat), i + r = A.slots.size → (∀ j, j < i → yv A j = yv B j) → Steps p.tables e below (s₁.setTop (entryFrame m #[.ref a, .ref b] 3)) (s₁.setTop (mkF m 9 #[.val (.ref a), .val (.ref b), .val (.int (Int32.ofNat i))] [])) → ∃ (pc : Nat) (Ls : Array Slot) (v : Int32), (pc = 25 ∨ pc = 33) ∧ ((v = 1 ∧ EqC A B) ∨ (v = 0 ∧ ¬ EqC A B)) ∧ Steps p.tables e below (s₁.setTop (entryFrame m #[.ref a, .ref b] 3)) (s₁.setTop (mkF m pc Ls [.int v])) := by
      intro r
      induction r with
      | zero =>
        intro i hi he cl
        exact ⟨33, _, 1, Or.inr rfl, Or.inl ⟨rfl, hs, fun j hj => he j (by omega)⟩, cl.trans (by
          refine XS.iloadN X0.here hexec rfl (hb hbytes d9) rfl ?_
          refine XS.aloadN X0.here hexec rfl (hb hbytes d10) rfl rfl ?_
          refine X0.alen hexec hA0 rfl rfl (hb hbytes d11) ?_
          refine XS.icmpYes X0.here hexec rfl (pc0 := 12) rfl (hb hbytes d12) rfl (ii_ge_t (nlt32 (by omega) (by omega))) (by decide) rfl ?_
          refine iconstV X0.here hexec rfl 1 (hb hbytes d32) (by decide) ?_
          exact Steps.refl _)⟩
      | succ r ih =>
        intro i hi he cl
        have c4 : Steps p.tables e below (s₁.setTop (entryFrame m #[.ref a, .ref b] 3)) (s₁.setTop (mkF m 21 #[.val (.ref a), .val (.ref b), .val (.int (Int32.ofNat i))] [.int (yv B i), .int (yv A i)])) := cl.trans (by
          refine XS.iloadN X0.here hexec rfl (hb hbytes d9) rfl ?_
          refine XS.aloadN X0.here hexec rfl (hb hbytes d10) rfl rfl ?_
          refine X0.alen hexec hA0 rfl rfl (hb hbytes d11) ?_
          refine XS.icmpNo X0.here hexec rfl (hb hbytes d12) rfl (ii_ge_f (lt32 (by omega) (by omega))) ?_
          refine XS.aloadN X0.here hexec rfl (hb hbytes d15) rfl rfl ?_
          refine XS.iloadN X0.here hexec rfl (hb hbytes d16) rfl ?_
          refine X0.aget hexec hA0 rfl (yv_get hA tA (i := i) (by omega)) rfl rfl (hb hbytes d17) ?_
          refine XS.aloadN X0.here hexec rfl (hb hbytes d18) rfl rfl ?_
          refine XS.iloadN X0.here hexec rfl (hb hbytes d19) rfl ?_
          refine X0.aget hexec hB0 rfl (yv_get hB tB (i := i) (by omega)) rfl rfl (hb hbytes d20) ?_
          exact Steps.refl _)
        by_cases hv : yv A i = yv B i
        · have c5 : Steps p.tables e below (s₁.setTop (entryFrame m #[.ref a, .ref b] 3)) (s₁.setTop (mkF m 9 #[.val (.ref a), .val (.ref b), .val (.int (Int32.ofNat i + 1))] [])) := c4.trans (by
            refine XS.icmpYes X0.here hexec rfl (pc0 := 21) rfl (hb hbytes d21) rfl (ii_eq_t hv) (by decide) rfl ?_
            refine iincV X0.here hexec rfl 1 (hb hbytes d26) (by decide) rfl rfl ?_
            refine XS.goto X0.here hexec rfl (pc0 := 29) rfl (hb hbytes d29) (by decide) rfl ?_
            exact Steps.refl _)
          rw [succ32] at c5
          exact ih (i + 1) (by omega) (fun j hj => by
            by_cases e : j = i
            · rw [e]; exact hv
            · exact he j (by omega)) c5
        · exact ⟨25, _, 0, Or.inl rfl, Or.inr ⟨rfl, fun q => hv (q.2 i (by omega))⟩, c4.trans (by
            refine XS.icmpNo X0.here hexec rfl (hb hbytes d21) rfl (ii_eq_f hv) ?_
            refine iconstV X0.here hexec rfl 0 (hb hbytes d24) (by decide) ?_
            exact Steps.refl _)⟩
    obtain ⟨pc, Ls, v, hpc, hv, cz⟩ := loop A.slots.size 0 (by omega) (fun j hj => absurd hj (Nat.not_lt_zero j)) c3
    have nv : narrow .boolean (.int v) = .int v := by rcases hv with ⟨rfl, -⟩ | ⟨rfl, -⟩ <;> rfl
    rcases hpc with rfl | rfl
    · exact ⟨s₁, some (.int v), _, _, _, X0, rfl, rfl, rfl, (fun h => by cases h), ⟨v, rfl, hh0, hv⟩, fun fs hl => cz.trans (X0.ireturnOut hexec hret nv (Or.inr (Or.inl rfl)) (hb hbytes d25) hl)⟩
    · exact ⟨s₁, some (.int v), _, _, _, X0, rfl, rfl, rfl, (fun h => by cases h), ⟨v, rfl, hh0, hv⟩, fun fs hl => cz.trans (X0.ireturnOut hexec hret nv (Or.inr (Or.inl rfl)) (hb hbytes d33) hl)⟩
  · have c3 : Steps p.tables e below (s₁.setTop (entryFrame m #[.ref a, .ref b] 3)) (s₁.setTop (mkF m 35 #[.val (.ref a), .val (.ref b), .unset] [.int 0])) := c2.trans (by
      refine XS.icmpYes X0.here hexec rfl (pc0 := 4) rfl (hb hbytes d4) rfl (ii_ne_t (ne32 a31 b31 hs)) (by decide) rfl ?_
      refine iconstV X0.here hexec rfl 0 (hb hbytes d34) (by decide) ?_
      exact Steps.refl _)
    exact ⟨s₁, some (.int 0), _, _, _, X0, rfl, rfl, rfl, (fun h => by cases h), ⟨0, rfl, hh0, Or.inr ⟨rfl, fun q => hs q.1⟩⟩, fun fs hl => c3.trans (X0.ireturnOut hexec hret rfl (Or.inr (Or.inl rfl)) (hb hbytes d35) hl)⟩
end LEq
theorem Cod.ty {cd : Int32} {n : Nat} {f : Nat → Int32} {V : Cell} (h : Cod cd n f V) : Typed .byte V := fun i v hv => by
  have hi : i < V.slots.size := (Array.getElem?_eq_some_iff.mp hv).1
  rcases h with ⟨-, k1, k2⟩ | ⟨-, k1, k2, -⟩
  · rw [(k2 i (by omega)).1] at hv; cases hv; exact fits_lo8 _
  · rcases Nat.mod_two_eq_zero_or_one i with e | e
    · obtain ⟨j, rfl⟩ : ∃ j, i = 2 * j := ⟨i / 2, by omega⟩
      rw [(k2 j (by omega)).1] at hv; cases hv; exact fits_lo8 _
    · obtain ⟨j, rfl⟩ : ∃ j, i = 2 * j + 1 := ⟨i / 2, by omega⟩
      rw [(k2 j (by omega)).2] at hv; cases hv; exact fits_lo8 _
/-- the same text -/
def SameT (n : Nat) (f : Nat → Int32) (k : Nat) (g : Nat → Int32) : Prop := n = k ∧ ∀ j, j < n → f j = g j
theorem lo8_inj {x y : Int32} (h0 : ¬ x < 0) (h1 : ¬ 255 < x) (k0 : ¬ y < 0) (k1 : ¬ 255 < y) (h : lo8 x = lo8 y) : x = y := by
  rw [← lo8_mask h0 h1, ← lo8_mask k0 k1, h]
/-- arrays coded by one coder are equal just where the texts are -/
theorem Cod.eqv {cd : Int32} {n k : Nat} {f g : Nat → Int32} {V V' : Cell} (h : Cod cd n f V) (h' : Cod cd k g V') (hf : ∀ j, j < n → ¬ f j < 0 ∧ ¬ 65535 < f j) (hg : ∀ j, j < k → ¬ g j < 0 ∧ ¬ 65535 < g j) : EqC V V' ↔ SameT n f k g := by
  have yvv : ∀ {W : Cell} {i : Nat} {x : Int32}, W.slots[i]? = some (.int x) → yv W i = x := fun q => by unfold yv; rw [q]
  rcases h with ⟨rfl, k1, k2⟩ | ⟨rfl, k1, k2, -⟩
  · rcases h' with ⟨-, m1, m2⟩ | ⟨e, -⟩
    · constructor
      · rintro ⟨e1, e2⟩
        refine ⟨by omega, fun j hj => ?_⟩
        have q := e2 j (by omega)
        rw [yvv (k2 j hj).1, yvv (m2 j (by omega)).1] at q
        exact lo8_inj (hf j hj).1 (k2 j hj).2 (hg j (by omega)).1 (m2 j (by omega)).2 q
      · rintro ⟨rfl, e2⟩
        refine ⟨by omega, fun j hj => ?_⟩
        rw [yvv (k2 j (by omega)).1, yvv (m2 j (by omega)).1, e2 j (by omega)]
    · exact absurd e (by decide)
  · rcases h' with ⟨e, -⟩ | ⟨-, m1, m2, -⟩
    · exact absurd e (by decide)
    · constructor
      · rintro ⟨e1, e2⟩
        refine ⟨by omega, fun j hj => ?_⟩
        have q1 := e2 (2 * j) (by omega)
        have q2 := e2 (2 * j + 1) (by omega)
        rw [yvv (k2 j hj).1, yvv (m2 j (by omega)).1] at q1
        rw [yvv (k2 j hj).2, yvv (m2 j (by omega)).2] at q2
        rw [← pair_says (hf j hj).1 (hf j hj).2, ← pair_says (hg j (by omega)).1 (hg j (by omega)).2, q1, q2]
      · rintro ⟨rfl, e2⟩
        refine ⟨by omega, fun i hi => ?_⟩
        rcases Nat.mod_two_eq_zero_or_one i with e | e
        · obtain ⟨j, rfl⟩ : ∃ j, i = 2 * j := ⟨i / 2, by omega⟩
          rw [yvv (k2 j (by omega)).1, yvv (m2 j (by omega)).1, e2 j (by omega)]
        · obtain ⟨j, rfl⟩ : ∃ j, i = 2 * j + 1 := ⟨i / 2, by omega⟩
          rw [yvv (k2 j (by omega)).2, yvv (m2 j (by omega)).2, e2 j (by omega)]
/-- two codings differ: so do the texts -/
theorem Cod.dif {cd cd' : Int32} {n k : Nat} {f g : Nat → Int32} {V V' : Cell} (h : Cod cd n f V) (h' : Cod cd' k g V') (hne : ¬ cd = cd') : ¬ SameT n f k g := by
  rintro ⟨rfl, e⟩
  rcases h with ⟨rfl, -, k2⟩ | ⟨rfl, -, -, j, hj, hw⟩
  · rcases h' with ⟨rfl, -⟩ | ⟨-, -, -, j, hj, hw⟩
    · exact hne rfl
    · exact (k2 j hj).2 (by rw [e j hj]; exact hw)
  · rcases h' with ⟨-, -, m2⟩ | ⟨rfl, -⟩
    · exact (m2 j hj).2 (by rw [← e j hj]; exact hw)
    · exact hne rfl
/-- an object of exactly C is an instance of C -/
theorem cinst {p : Program} {l : Launch} {e : Env} {R : Room} {s : State} {m : MethodId} {args : Array Value} {below : List Frame} {meth : Method} {c : Code} {T : State} {locs : List Loc} {cells slots : Nat} (X : Stand p l e R s m args below meth c T locs cells slots) (hexec : p.tables.exec = Jvm.exec) {own C : String} {index : Nat} (hown : s.vm.findClass own = some m.cls) (hlink : (Cond.classLink own index C).before args s = true) {a : Addr} (hE : Exact C a T)
    {g : JFrame} (hg : g.method = m) {rest : List Value} (hstack : g.stack = .ref a :: rest) (hdg : decode c.code g.pc = .ok (.instanceof index, 3)) :
    ∃ T', Stand p l e R s m args below meth c T' locs cells slots ∧ T'.heap = T.heap ∧ ∀ target, Steps p.tables e below (T'.setTop { g with pc := g.pc + 3, stack := .int 1 :: rest }) target → Steps p.tables e below (T.setTop g) target := by
  obtain ⟨cB, h1, D, h2, h3, h4⟩ := hE
  have h1' : s.vm.findClass C = some cB := by rw [← X.warmed.alike.findClass]; exact h1
  obtain ⟨vm', X', st⟩ := X.instanceofYes hexec hown hlink h2 h4 h1' (by rw [h3]; exact Jvm.Free.SB.assignable_self _ _) hg hstack hdg
  exact ⟨_, X', rfl, st⟩
theorem cself {p : Program} {l : Launch} {e : Env} {R : Room} {s : State} {m : MethodId} {args : Array Value} {below : List Frame} {meth : Method} {c : Code} {T : State} {locs : List Loc} {cells slots : Nat} (X : Stand p l e R s m args below meth c T locs cells slots) (hexec : p.tables.exec = Jvm.exec) {own C : String} {index : Nat} (hown : s.vm.findClass own = some m.cls) (hlink : (Cond.classLink own index C).before args s = true) {a : Addr} (hE : Exact C a T)
    {g : JFrame} (hg : g.method = m) {rest : List Value} (hstack : g.stack = .ref a :: rest) (hdg : decode c.code g.pc = .ok (.checkcast index, 3)) :
    ∃ T', Stand p l e R s m args below meth c T' locs cells slots ∧ T'.heap = T.heap ∧ ∀ target, Steps p.tables e below (T'.setTop { g with pc := g.pc + 3, stack := .ref a :: rest }) target → Steps p.tables e below (T.setTop g) target := by
  obtain ⟨cB, h1, D, h2, h3, h4⟩ := hE
  have h1' : s.vm.findClass C = some cB := by rw [← X.warmed.alike.findClass]; exact h1
  obtain ⟨vm', X', st⟩ := X.checkcastYes hexec hown hlink h2 h4 h1' (by rw [h3]; exact Jvm.Free.SB.assignable_self _ _) hg hstack hdg
  exact ⟨_, X', rfl, fun t h => st t (by rw [← hstack] at h; exact h)⟩
namespace SEq
def yN : MethodName := ⟨"java/lang/String", "equals", "(Ljava/lang/Object;)Z"⟩
abbrev yB : ByteArray := jdk_42_method_66_code
theorem d0 : decode yB 0 = .ok (.aload_n 0, 1) := by decide +kernel
theorem d1 : decode yB 1 = .ok (.aload_n 1, 1) := by decide +kernel
theorem d2 : decode yB 2 = .ok (.if_acmp (.ne) 5, 3) := by decide +kernel
theorem d5 : decode yB 5 = .ok (.iconst 1, 1) := by decide +kernel
theorem d6 : decode yB 6 = .ok (.ireturn, 1) := by decide +kernel
theorem d7 : decode yB 7 = .ok (.aload_n 1, 1) := by decide +kernel
theorem d8 : decode yB 8 = .ok (.instanceof 10, 3) := by decide +kernel
theorem d11 : decode yB 11 = .ok (.ifCond (.eq) 43, 3) := by decide +kernel
theorem d14 : decode yB 14 = .ok (.aload_n 1, 1) := by decide +kernel
theorem d15 : decode yB 15 = .ok (.checkcast 10, 3) := by decide +kernel
theorem d18 : decode yB 18 = .ok (.astore_n 2, 1) := by decide +kernel
theorem d19 : decode yB 19 = .ok (.getstatic 38, 3) := by decide +kernel
theorem d22 : decode yB 22 = .ok (.ifCond (.eq) 14, 3) := by decide +kernel
theorem d25 : decode yB 25 = .ok (.aload_n 0, 1) := by decide +kernel
theorem d26 : decode yB 26 = .ok (.getfield 15, 3) := by decide +kernel
theorem d29 : decode yB 29 = .ok (.aload_n 2, 1) := by decide +kernel
theorem d30 : decode yB 30 = .ok (.getfield 15, 3) := by decide +kernel
theorem d33 : decode yB 33 = .ok (.if_icmp (.ne) 21, 3) := by decide +kernel
theorem d36 : decode yB 36 = .ok (.aload_n 0, 1) := by decide +kernel
theorem d37 : decode yB 37 = .ok (.getfield 9, 3) := by decide +kernel
theorem d40 : decode yB 40 = .ok (.aload_n 2, 1) := by decide +kernel
theorem d41 : decode yB 41 = .ok (.getfield 9, 3) := by decide +kernel
theorem d44 : decode yB 44 = .ok (.invokestatic 541, 3) := by decide +kernel
theorem d47 : decode yB 47 = .ok (.ifCond (.eq) 7, 3) := by decide +kernel
theorem d50 : decode yB 50 = .ok (.iconst 1, 1) := by decide +kernel
theorem d51 : decode yB 51 = .ok (.goto 4, 3) := by decide +kernel
theorem d54 : decode yB 54 = .ok (.iconst 0, 1) := by decide +kernel
theorem d55 : decode yB 55 = .ok (.ireturn, 1) := by decide +kernel
def site : List Cond := [.classLink "java/lang/String" 10 "java/lang/String", .fieldLink "java/lang/String" 38 "java/lang/String" "COMPACT_STRINGS" "Z", .fieldLink "java/lang/String" 15 "java/lang/String" "coder" "B", .fieldLink "java/lang/String" 9 "java/lang/String" "value" "[B", LEq.tab] ++ staticW "java/lang/String" 541 LEq.yN
def tab : Cond := tabOf yN yB 3 (some .boolean) site
def P (x t : Addr) (V : Cell) (cd : Int32) (n : Nat) (f : Nat → Int32) (y t' : Addr) (V' : Cell) (cd' : Int32) (k : Nat) (g : Nat → Int32) (z : Int32) (args : Array Value) (s : State) : Prop := args = #[.ref x, .ref y] ∧ Txt x t V cd n f s ∧ Txt y t' V' cd' k g s ∧ StaticIs s "java/lang/String" "COMPACT_STRINGS" "Z" (.int z) ∧ ¬ z = 0
/-- equals(Object) of two Strings: whether the texts are the same -/
theorem law (l : Launch) (x t : Addr) (V : Cell) (cd : Int32) (n : Nat) (f : Nat → Int32) (y t' : Addr) (V' : Cell) (cd' : Int32) (k : Nat) (g : Nat → Int32) (z : Int32) : Law l yN 2 1 1 14 yB 3 (some .boolean) site (P x t V cd n f y t' V' cd' k g z) (Says01 (SameT n f k g)) [] 0 0 := by
  refine Law.of_walk (plainFor_of_name (by decide +kernel)) (by decide +kernel) (by decide +kernel) (by decide) (fun _ _ h => by rw [h.1]; rfl) (fun _ U U' hal hh h => ⟨h.1, h.2.1.mv hal hh, h.2.2.1.mv hal hh, h.2.2.2.1.there hal hh, h.2.2.2.2⟩) (fun r U U' V V' h1 hal h2 h => Says01.mv r U U' V V' h1 hal h2 h) ?_
  intro p e s m args below meth c s₁ X0 hexec hbytes hml hret hlk hnm hown hh0 W hP
  obtain ⟨rfl, hx, hy, s1, hz⟩ := hP
  have c1 : Steps p.tables e below (s₁.setTop (entryFrame m #[.ref x, .ref y] 3)) (s₁.setTop (mkF m 2 #[.val (.ref x), .val (.ref y), .unset] [.ref y, .ref x])) := Steps.trans (entry rfl) (by
    show Steps p.tables e below (s₁.setTop (mkF m 0 #[.val (.ref x), .val (.ref y), .unset] [])) _
    refine XS.aloadN X0.here hexec rfl (hb hbytes d0) rfl rfl ?_
    refine XS.aloadN X0.here hexec rfl (hb hbytes d1) rfl rfl ?_
    exact Steps.refl _)
  by_cases hxy : x = y
  · have c2 : Steps p.tables e below (s₁.setTop (entryFrame m #[.ref x, .ref y] 3)) (s₁.setTop (mkF m 6 #[.val (.ref x), .val (.ref y), .unset] [.int 1])) := c1.trans (by
      refine acmpNo X0.here hexec rfl (hb hbytes d2) rfl rfl rfl (by simp [acmp, hxy]) ?_
      refine iconstV X0.here hexec rfl 1 (hb hbytes d5) (by decide) ?_
      exact Steps.refl _)
    subst hxy
    have ec : cd = cd' := by
      obtain ⟨D, fd, a1, a2, a3⟩ := hx.2.2.1
      obtain ⟨D', fd', b1, b2, b3⟩ := hy.2.2.1
      cases a1.symm.trans b1
      obtain ⟨q1, q2, q3, q4⟩ := a2.1
      obtain ⟨r1, r2, r3, r4⟩ := b2.1
      cases q4.symm.trans r4
      cases a3.symm.trans b3; rfl
    have et : t = t' := by
      obtain ⟨D, fd, a1, a2, a3⟩ := hx.2.1
      obtain ⟨D', fd', b1, b2, b3⟩ := hy.2.1
      cases a1.symm.trans b1
      obtain ⟨q1, q2, q3, q4⟩ := a2.1
      obtain ⟨r1, r2, r3, r4⟩ := b2.1
      cases q4.symm.trans r4
      cases a3.symm.trans b3; rfl
    subst ec et
    have ev : V = V' := by cases hx.2.2.2.1.1.symm.trans hy.2.2.2.1.1; rfl
    subst ev
    have hs : SameT n f k g := (Cod.eqv hx.2.2.2.2.1 hy.2.2.2.2.1 hx.2.2.2.2.2 hy.2.2.2.2.2).mp ⟨rfl, fun _ _ => rfl⟩
    exact ⟨s₁, some (.int 1), _, _, _, X0, rfl, rfl, rfl, (fun h => by cases h), ⟨1, rfl, hh0, Or.inl ⟨rfl, hs⟩⟩, fun fs hl => c2.trans (X0.ireturnOut hexec hret rfl (Or.inr (Or.inl rfl)) (hb hbytes d6) hl)⟩
  · have c2 : Steps p.tables e below (s₁.setTop (entryFrame m #[.ref x, .ref y] 3)) (s₁.setTop (mkF m 8 #[.val (.ref x), .val (.ref y), .unset] [.ref y])) := c1.trans (by
      refine acmpYes X0.here hexec rfl (pc0 := 2) rfl (hb hbytes d2) rfl rfl rfl (by simp [acmp, hxy]) (by decide) rfl ?_
      refine XS.aloadN X0.here hexec rfl (hb hbytes d7) rfl rfl ?_
      exact Steps.refl _)
    obtain ⟨T3, X3, q3, st3⟩ := cinst X0 hexec hown (wk W (.classLink "java/lang/String" 10 "java/lang/String")) (hy.mv X0.warmed.alike hh0).1 (g := (mkF m 8 #[.val (.ref x), .val (.ref y), .unset] [.ref y])) rfl (rest := []) rfl (hb hbytes d8)
    have hh3 := q3.trans hh0
    have c4 : Steps p.tables e below (s₁.setTop (entryFrame m #[.ref x, .ref y] 3)) (T3.setTop (mkF m 15 #[.val (.ref x), .val (.ref y), .unset] [.ref y])) := (c2.trans (st3 _ (Steps.refl _))).trans (by
      refine XS.ifNo X3.here hexec rfl (hb hbytes d11) rfl (i0_eq_f (by decide)) ?_
      refine XS.aloadN X3.here hexec rfl (hb hbytes d14) rfl rfl ?_
      exact Steps.refl _)
    obtain ⟨T5, X5, q5, st5⟩ := cself X3 hexec hown (wk W (.classLink "java/lang/String" 10 "java/lang/String")) (hy.mv X3.warmed.alike hh3).1 (g := (mkF m 15 #[.val (.ref x), .val (.ref y), .unset] [.ref y])) rfl (rest := []) rfl (hb hbytes d15)
    have hh5 := q5.trans hh3
    have c6 : Steps p.tables e below (s₁.setTop (entryFrame m #[.ref x, .ref y] 3)) (T5.setTop (mkF m 19 #[.val (.ref x), .val (.ref y), .val (.ref y)] [])) := (c4.trans (st5 _ (Steps.refl _))).trans (by
      refine XS.astoreN X5.here hexec rfl (hb hbytes d18) rfl rfl rfl ?_
      exact Steps.refl _)
    obtain ⟨T7, X7, q7, st7⟩ := X5.sget hexec hown (wk W (.fieldLink "java/lang/String" 38 "java/lang/String" "COMPACT_STRINGS" "Z")) s1 (fun _ _ h => by rw [hh5]; exact h) (g := (mkF m 19 #[.val (.ref x), .val (.ref y), .val (.ref y)] [])) rfl (hb hbytes d19)
    have hh7 := q7.trans hh5
    have c8 : Steps p.tables e below (s₁.setTop (entryFrame m #[.ref x, .ref y] 3)) (T7.setTop (mkF m 26 #[.val (.ref x), .val (.ref y), .val (.ref y)] [.ref x])) := (c6.trans (st7 _ (Steps.refl _))).trans (by
      refine XS.ifNo X7.here hexec rfl (hb hbytes d22) rfl (i0_eq_f hz) ?_
      refine XS.aloadN X7.here hexec rfl (hb hbytes d25) rfl rfl ?_
      exact Steps.refl _)
    obtain ⟨T9, X9, q9, st9⟩ := X7.hget hexec hown (wk W (.fieldLink "java/lang/String" 15 "java/lang/String" "coder" "B")) (hx.mv X7.warmed.alike hh7).2.2.1 (g := (mkF m 26 #[.val (.ref x), .val (.ref y), .val (.ref y)] [.ref x])) rfl (rest := []) rfl (hb hbytes d26)
    have hh9 := q9.trans hh7
    have c10 : Steps p.tables e below (s₁.setTop (entryFrame m #[.ref x, .ref y] 3)) (T9.setTop (mkF m 30 #[.val (.ref x), .val (.ref y), .val (.ref y)] [.ref y, .int cd])) := (c8.trans (st9 _ (Steps.refl _))).trans (by
      refine XS.aloadN X9.here hexec rfl (hb hbytes d29) rfl rfl ?_
      exact Steps.refl _)
    obtain ⟨T11, X11, q11, st11⟩ := X9.hget hexec hown (wk W (.fieldLink "java/lang/String" 15 "java/lang/String" "coder" "B")) (hy.mv X9.warmed.alike hh9).2.2.1 (g := (mkF m 30 #[.val (.ref x), .val (.ref y), .val (.ref y)] [.ref y, .int cd])) rfl (rest := [.int cd]) rfl (hb hbytes d30)
    have hh11 := q11.trans hh9
    have c12 : Steps p.tables e below (s₁.setTop (entryFrame m #[.ref x, .ref y] 3)) (T11.setTop (mkF m 33 #[.val (.ref x), .val (.ref y), .val (.ref y)] [.int cd', .int cd])) := c10.trans (st11 _ (Steps.refl _))
    by_cases hcd : cd = cd'
    · subst hcd
      have c13 : Steps p.tables e below (s₁.setTop (entryFrame m #[.ref x, .ref y] 3)) (T11.setTop (mkF m 37 #[.val (.ref x), .val (.ref y), .val (.ref y)] [.ref x])) := c12.trans (by
        refine XS.icmpNo X11.here hexec rfl (hb hbytes d33) rfl (ii_ne_f rfl) ?_
        refine XS.aloadN X11.here hexec rfl (hb hbytes d36) rfl rfl ?_
        exact Steps.refl _)
      obtain ⟨T14, X14, q14, st14⟩ := X11.hget hexec hown (wk W (.fieldLink "java/lang/String" 9 "java/lang/String" "value" "[B")) (hx.mv X11.warmed.alike hh11).2.1 (g := (mkF m 37 #[.val (.ref x), .val (.ref y), .val (.ref y)] [.ref x])) rfl (rest := []) rfl (hb hbytes d37)
      have hh14 := q14.trans hh11
      have c15 : Steps p.tables e below (s₁.setTop (entryFrame m #[.ref x, .ref y] 3)) (T14.setTop (mkF m 41 #[.val (.ref x), .val (.ref y), .val (.ref y)] [.ref y, .ref t])) := (c13.trans (st14 _ (Steps.refl _))).trans (by
        refine XS.aloadN X14.here hexec rfl (hb hbytes d40) rfl rfl ?_
        exact Steps.refl _)
      obtain ⟨T16, X16, q16, st16⟩ := X14.hget hexec hown (wk W (.fieldLink "java/lang/String" 9 "java/lang/String" "value" "[B")) (hy.mv X14.warmed.alike hh14).2.1 (g := (mkF m 41 #[.val (.ref x), .val (.ref y), .val (.ref y)] [.ref y, .ref t])) rfl (rest := [.ref t]) rfl (hb hbytes d41)
      have hh16 := q16.trans hh14
      have c17 : Steps p.tables e below (s₁.setTop (entryFrame m #[.ref x, .ref y] 3)) (T16.setTop (mkF m 44 #[.val (.ref x), .val (.ref y), .val (.ref y)] [.ref t', .ref t])) := c15.trans (st16 _ (Steps.refl _))
      obtain ⟨v18, T18, X18, E18, g18⟩ := X16.callS hexec (LEq.law l t V t' V') hown (wks W (staticW "java/lang/String" 541 LEq.yN)) (wk W LEq.tab) (W := 0) (Nat.le_of_ble_eq_true rfl) (Nat.le_of_ble_eq_true rfl) (Nat.le_refl _) (Nat.le_refl _) (g := (mkF m 44 #[.val (.ref x), .val (.ref y), .val (.ref y)] [.ref t', .ref t])) rfl (by rw [hml]; rfl) c17 (argsL := [.ref t, .ref t']) (rest := []) rfl rfl (by show 2 * 0 + 0 ≤ _; decide) (hb hbytes d44) (⟨rfl, hx.2.2.2.1.mv X16.warmed.alike hh16, hx.2.2.2.2.1.ty, hy.2.2.2.1.mv X16.warmed.alike hh16, hy.2.2.2.2.1.ty⟩)
      obtain ⟨v, rfl, q18, hv⟩ := E18
      have iff := Cod.eqv hx.2.2.2.2.1 hy.2.2.2.2.1 hx.2.2.2.2.2 hy.2.2.2.2.2
      rcases hv with ⟨rfl, he⟩ | ⟨rfl, he⟩
      · have c19 : Steps p.tables e below (s₁.setTop (entryFrame m #[.ref x, .ref y] 3)) (T18.setTop (mkF m 55 #[.val (.ref x), .val (.ref y), .val (.ref y)] [.int 1])) := Steps.trans g18 (by
          refine XS.ifNo X18.here hexec rfl (hb hbytes d47) rfl (i0_eq_f (by decide)) ?_
          refine iconstV X18.here hexec rfl 1 (hb hbytes d50) (by decide) ?_
          refine XS.goto X18.here hexec rfl (pc0 := 51) rfl (hb hbytes d51) (by decide) rfl ?_
          exact Steps.refl _)
        exact ⟨T18, some (.int 1), _, _, _, X18, rfl, rfl, rfl, (fun h => by cases h), ⟨1, rfl, q18.trans hh16, Or.inl ⟨rfl, iff.mp he⟩⟩, fun fs hl => c19.trans (X18.ireturnOut hexec hret rfl (Or.inr (Or.inl rfl)) (hb hbytes d55) hl)⟩
      · have c19 : Steps p.tables e below (s₁.setTop (entryFrame m #[.ref x, .ref y] 3)) (T18.setTop (mkF m 55 #[.val (.ref x), .val (.ref y), .val (.ref y)] [.int 0])) := Steps.trans g18 (by
          refine XS.ifYes X18.here hexec rfl (pc0 := 47) rfl (hb hbytes d47) rfl (i0_eq_t rfl) (by decide) rfl ?_
          refine iconstV X18.here hexec rfl 0 (hb hbytes d54) (by decide) ?_
          exact Steps.refl _)
        exact ⟨T18, some (.int 0), _, _, _, X18, rfl, rfl, rfl, (fun h => by cases h), ⟨0, rfl, q18.trans hh16, Or.inr ⟨rfl, fun q => he (iff.mpr q)⟩⟩, fun fs hl => c19.trans (X18.ireturnOut hexec hret rfl (Or.inr (Or.inl rfl)) (hb hbytes d55) hl)⟩
    · have c13 : Steps p.tables e below (s₁.setTop (entryFrame m #[.ref x, .ref y] 3)) (T11.setTop (mkF m 55 #[.val (.ref x), .val (.ref y), .val (.ref y)] [.int 0])) := c12.trans (by
        refine XS.icmpYes X11.here hexec rfl (pc0 := 33) rfl (hb hbytes d33) rfl (ii_ne_t hcd) (by decide) rfl ?_
        refine iconstV X11.here hexec rfl 0 (hb hbytes d54) (by decide) ?_
        exact Steps.refl _)
      exact ⟨T11, some (.int 0), _, _, _, X11, rfl, rfl, rfl, (fun h => by cases h), ⟨0, rfl, hh11, Or.inr ⟨rfl, Cod.dif hx.2.2.2.2.1 hy.2.2.2.2.1 hcd⟩⟩, fun fs hl => c13.trans (X11.ireturnOut hexec hret rfl (Or.inr (Or.inl rfl)) (hb hbytes d55) hl)⟩
theorem pays {l : Launch} {R : Room} {p : Program} {e : Env} {below : List Frame} {s : State} {sargs : Array Value} {len W : Nat} (x t : Addr) (V : Cell) (cd : Int32) (n : Nat) (f : Nat → Int32) (y t' : Addr) (V' : Cell) (cd' : Int32) (k : Nat) (g : Nat → Int32) (z : Int32) (htab : tab.before sargs s = true) (hfr : 2 ≤ R.frames) (hlo : W + 28 ≤ R.locals) :
    Back l R p e below s sargs yN len W (fun A₁ a₁ => A₁.cells + 0 ≤ R.cells ∧ A₁.slots + 0 ≤ R.slots ∧ P x t V cd n f y t' V' cd' k g z a₁ A₁.U) (fun A₁ _ v₁ B₁ => Says01 (SameT n f k g) v₁ A₁.U B₁.U ∧ B₁.locs = A₁.locs ++ [] ∧ B₁.cells = A₁.cells + 0 ∧ B₁.slots = A₁.slots + 0) :=
  (law l x t V cd n f y t' V' cd' k g z).pays htab hfr (by omega)
end SEq
end StrChars
namespace StrChars.Road
open Jvm Sem ClassFile Op Lib Jvm.Stand Jvm.Free Jvm.Free.XT
open Jvm.Lib.Cold (StaticIs)
/-- the words of String.equals(Object) -/
abbrev wordsEq : List Jvm.Cond := [.code SEq.yN SEq.yB 3 (some .boolean), .initialized ST, .classLink ST 10 ST, .fieldLink ST 38 ST "COMPACT_STRINGS" "Z", .fieldLink ST 15 ST "coder" "B", .fieldLink ST 9 ST "value" "[B", .methodLink ST 541 LEq.yN, .static LEq.yN, .code LEq.yN LEq.yB 3 (some .boolean), .initialized "java/lang/StringLatin1"]
theorem tabEq_of {a : Array Value} {s : State} (h : ∀ w ∈ wordsEq, w.before a s = true) : SEq.tab.before a s = true := by
  have hl : LEq.tab.before a s = true := unparts (wk h (.code LEq.yN LEq.yB 3 (some .boolean))) (wks h (.initialized LEq.yN.cls :: LEq.site))
  have q := consq hl h
  exact unparts (wk q (.code SEq.yN SEq.yB 3 (some .boolean))) (wks q (.initialized SEq.yN.cls :: SEq.site))
theorem movedEq {Z s : State} {a0 args : Array Value} (hZ : Z.Warmed39 s.vm) (hw : ∀ d ∈ wordsEq, d.before a0 Z = true) : ∀ d ∈ wordsEq, d.before args s = true := fun d hd => by
  have t : ∀ d ∈ wordsEq, (d.onTables && d.keepsFace) = true := by decide +kernel
  exact RoadKit.mv hZ (hw d hd) (t d hd)
/-- the road's facts of a String, as the laws ask it -/
theorem txt_of {Z U : State} {a0 : Array Value} {kI : Nat} (wi : (Jvm.Cond.instantiable ST kI).before a0 Z = true) (al : Z.vm.Alike U.vm) {x t : Addr} {kb : ClassId} {cs : List Int32} {cd N2 : Int32} {vs : List Value} (E : RoadKit.Exa Z U.heap x ST) (V : RoadKit.Fld Z U.heap x ST "value" "[B" (.ref t)) (C : RoadKit.Fld Z U.heap x ST "coder" "B" (.int cd)) (K : RoadKit.Arv Z U.heap t kb .byte N2 vs (.int 0)) (hc : CodA cs cd N2 vs) (hb : ∀ c ∈ cs, ¬ c < 0 ∧ ¬ (65535 : Int32) < c) (l2 : cs.length ≤ 4000) :
    ∃ A, Txt x t A cd cs.length (fun j => cs.getD j 0) U := by
  obtain ⟨A, K1, K2, K3, K4, K5, K6⟩ := K
  have hcod := hc.cod (by omega) K3 K5
  obtain ⟨D, fV, fC, hB, F1, F2, g1, g2, -, -⟩ := strObj wi al E V C
  exact ⟨A, ⟨_, hB.2.2.1, D, hB.1, rfl, by cases q : D.vm <;> first | rfl | exact absurd q (hB.2.1.2 _)⟩, Has.of hB F1 g1, Has.of hB F2 g2, ⟨K1.1, State.isArrayOf_alike al K1.2.1, K1.2.2, by rcases hcod with ⟨-, q, -⟩ | ⟨-, q, -⟩ <;> omega⟩, hcod, fun j hj => by
    have e : cs.getD j 0 = cs[j] := by simp [List.getD_eq_getElem?_getD, hj]
    show ¬ cs.getD j 0 < 0 ∧ ¬ 65535 < cs.getD j 0
    rw [e]; exact hb _ (List.getElem_mem _)⟩
theorem same_list (cs ds : List Int32) : SameT cs.length (fun j => cs.getD j 0) ds.length (fun j => ds.getD j 0) ↔ cs = ds := by
  constructor
  · rintro ⟨e, q⟩
    refine List.ext_getElem e fun j h1 h2 => ?_
    have := q j h1
    simpa [List.getD_eq_getElem?_getD, h1, h2] using this
  · rintro rfl
    exact ⟨rfl, fun _ _ => rfl⟩
/-- **equals(Object) OF TWO SUCH STRINGS**: 1 just where the chars are the same -/
theorem eqW {p : Program} {l : Launch} {e : Env} {R : Room} {s : State} {args : Array Value} {below : List Frame} {len W : Nat} {Z : State} {a0 : Array Value} {h : Heap} (hZ : Z.Warmed39 s.vm) (hw : ∀ d ∈ wordsEq, d.before a0 Z = true) {kI : Nat} (wi : (Jvm.Cond.instantiable ST kI).before a0 Z = true)
    {x t : Addr} {kb : ClassId} {cs : List Int32} {cd N2 : Int32} {vs : List Value} (E : RoadKit.Exa Z h x ST) (V : RoadKit.Fld Z h x ST "value" "[B" (.ref t)) (C : RoadKit.Fld Z h x ST "coder" "B" (.int cd)) (K : RoadKit.Arv Z h t kb .byte N2 vs (.int 0)) (hc : CodA cs cd N2 vs) (hb : ∀ c ∈ cs, ¬ c < 0 ∧ ¬ (65535 : Int32) < c) (l2 : cs.length ≤ 4000)
    {y t' : Addr} {kb' : ClassId} {ds : List Int32} {cd' N2' : Int32} {vs' : List Value} (E' : RoadKit.Exa Z h y ST) (V' : RoadKit.Fld Z h y ST "value" "[B" (.ref t')) (C' : RoadKit.Fld Z h y ST "coder" "B" (.int cd')) (K' : RoadKit.Arv Z h t' kb' .byte N2' vs' (.int 0)) (hc' : CodA ds cd' N2' vs') (hb' : ∀ c ∈ ds, ¬ c < 0 ∧ ¬ (65535 : Int32) < c) (l2' : ds.length ≤ 4000)
    {z : Int32} (S : RoadKit.Sta Z h ST "COMPACT_STRINGS" "Z" (.int z)) (hz : ¬ z = 0) (hfr : 2 ≤ R.frames) (hlo : W + 28 ≤ R.locals) :
    Back l R p e below s args (⟨"java/lang/String", "equals", "(Ljava/lang/Object;)Z"⟩ : MethodName) len W (fun P a => a = #[.ref x, .ref y] ∧ P.U.heap = h ∧ P.cells + 0 ≤ R.cells ∧ P.slots + 0 ≤ R.slots)
      (fun P _ v B => ∃ L, (((v = some (.int 1) ∧ cs = ds) ∨ (v = some (.int 0) ∧ ¬ cs = ds)) ∧ L = [] ∧ B.U.heap = h) ∧ B.locs = P.locs ++ L ∧ B.cells = P.cells + 0 ∧ B.slots = P.slots + 0) := by
  intro m meth c P g ig mk a X hg hsize hdg hW hn hp'
  obtain ⟨rfl, rfl, r1, r2⟩ := hp'
  have al : Z.vm.Alike P.U.vm := hZ.alike.trans X.warmed.alike
  obtain ⟨A, hx⟩ := txt_of wi al E V C K hc hb l2
  obtain ⟨A', hy⟩ := txt_of wi al E' V' C' K' hc' hb' l2'
  obtain ⟨v, B, X', ⟨⟨w, hv, hh, hq⟩, hl, hk, hs⟩, st⟩ := SEq.pays x t A cd cs.length (fun j => cs.getD j 0) y t' A' cd' ds.length (fun j => ds.getD j 0) z (tabEq_of (movedEq hZ hw)) hfr hlo m meth c P g ig mk _ X hg hsize hdg hW hn ⟨r1, r2, rfl, hx, hy, sta_is al S, hz⟩
  refine ⟨v, B, X', ⟨[], ⟨?_, rfl, hh⟩, hl, hk, hs⟩, st⟩
  rcases hq with ⟨rfl, q⟩ | ⟨rfl, q⟩
  · exact Or.inl ⟨hv, (same_list cs ds).mp q⟩
  · exact Or.inr ⟨hv, fun e => q ((same_list cs ds).mpr e)⟩
end StrChars.Road
end Jvm.Pilot.@@N@@
namespace Jvm.Pilot.@@N@@
open Jvm Jvm.ClassFile Sem Op Lib Jvm.Free Jvm.Stand Jvm.LawKit Jvm.RoadKit Bundle Jvm.Pilot.@@N@@.Jvm.D
theorem own_z0 {Z : State} {n0 : Nat} {h : Heap} (X : Old Z n0 h) : n0 ≤ h.size := by
  have e := X.1
  have q := X.2.1
  omega
abbrev ELs : List (String × Nat) := [("java/lang/String", 7)]
theorem own_wSm : ∀ d ∈ Bundle.stringAtoms, d ∈ tables_1 := by decide +kernel
theorem own_wS {Z : State} {a0 : Array Value} (hw : ∀ d ∈ tables_1, d.before a0 Z = true) : ∀ d ∈ Bundle.stringAtoms, d.before a0 Z = true := fun d hd => hw d (own_wSm d hd)
theorem own_ht : (∀ c ∈ "".toList, c.toNat < 256) ∧ "".toList.map (fun c => Value.int (Jvm.Lit.byteI c.toNat.toUInt16)) = [] := ⟨by simp, by simp⟩
theorem own_EL {Z : State} {a0 : Array Value} (hw : ∀ d ∈ tables_1, d.before a0 Z = true) : EW Z a0 ELs := EW.cons (text := "") (hw _ (List.mem_of_getElem? (i := 37) rfl)) own_ht.1 EW.nil
theorem own_hk {T : State} {h : Heap} {k : Nat} (e : T.heap = h) (q : k ≤ h.size) : k ≤ T.heap.size := by rw [e]; exact q
theorem own_rew_mono {s t : State} {o : Outcome} {L : List Loc} {k k' n n' : Nat} (h : ReturnedEndW s o t L k n) (hk : k ≤ k') (hn : n ≤ n') : ReturnedEndW s o t L k' n' := ⟨h.1, h.2.1, h.2.2.1, h.2.2.2.mono hk hn⟩
theorem own_safe_arv {Z : State} {EL : List (String × Nat)} {vm : Vm} {h : Heap} {x : Addr} {k : ClassId} {ty : FieldType} {z : Int32} {vs : List Value} {dv : Value} (hal : Z.vm.Alike vm) (V : Arv Z h x k ty z vs dv) (ht : ty ≠ .byte) : Safe Z EL vm h x := by
  obtain ⟨cl, A, -⟩ := V
  exact Safe.arr hal A ht
theorem own_safe_null {Z : State} {EL : List (String × Nat)} {vm : Vm} {h : Heap} {x : Addr} (hal : Z.vm.Alike vm) (E : Exa Z h x "java/lang/String") (F : Fld Z h x "java/lang/String" "value" "[B" .null) : Safe Z EL vm h x := fun B => by
  obtain ⟨cell, k, e1, e2, e3, -, -⟩ := E
  have nm : ∀ {n : String} {c : ClassId}, vm.findClass n = some c → c = cell.cls → n = "java/lang/String" := fun {n c} f e => by
    subst e
    rw [hal.findClass] at f
    obtain ⟨k1, q1, q2⟩ := Vm.findClass_spec f
    obtain ⟨k2, q3, q4⟩ := Vm.findClass_spec e2
    cases q1.symm.trans q3
    exact q2.symm.trans q4
  obtain ⟨p, -, u, a, -, q, -, W, rfl | rfl⟩ := B
  · obtain ⟨c2, cf, k2, i2, f2, g1, g2, g3, -, -, -, g7⟩ := F
    obtain ⟨cS, ⟨⟨s1, -, -, ⟨cv, kv, iv, s4, -⟩, -, -, -, s8, -⟩, -⟩, -⟩ := W
    cases (show h[q.sa]? = some q.sC from s1).symm.trans g1
    obtain ⟨kv', z4⟩ := ff_back (U := Wst Z vm h) hal s4
    cases g2.symm.trans z4
    have := g7.symm.trans s8
    cases this
  · cases (show h[q.sd]? = some q.SA from W.hd).symm.trans e1
    obtain ⟨cS, -, -, f, -⟩ := W
    exact absurd (nm f rfl) (by decide)
/-- a char below 256, as it lies in a local -/
def CharOK (u : Int32) : Prop := nar .char u = u ∧ ¬ u < 0 ∧ ¬ (255 : Int32) < u
theorem char_ok (x : Int32) : CharOK ((x &&& (255 : Int32)).toUInt32.toUInt16.toUInt32.toInt32) := by
  have t : ∀ k : Fin 256, nar .char ((Int32.ofNat k.val).toUInt32.toUInt16.toUInt32.toInt32) = ((Int32.ofNat k.val).toUInt32.toUInt16.toUInt32.toInt32) ∧ ¬ ((Int32.ofNat k.val).toUInt32.toUInt16.toUInt32.toInt32) < 0 ∧ ¬ (255 : Int32) < ((Int32.ofNat k.val).toUInt32.toUInt16.toUInt32.toInt32) := by decide +kernel
  have h : (x &&& 255).toBitVec.toNat < 256 := by
    simp only [Int32.toBitVec_and, BitVec.toNat_and]
    exact Nat.lt_succ_of_le Nat.and_le_right
  have e : (x &&& 255) = Int32.ofNat (x &&& 255).toBitVec.toNat := by
    apply Int32.toBitVec_inj.mp
    show _ = BitVec.ofNat 32 _
    rw [BitVec.ofNat_toNat]; simp
  unfold CharOK
  rw [e]
  exact t ⟨_, h⟩
/-- what str spells -/
def chars (n u v : Int32) : List Int32 := if n = 0 then [] else if n = 1 then [u] else [u, v]
def bys (cs : List Int32) : List Value := cs.map fun c => Value.int c.toInt8.toInt32
theorem own_wn : ∀ d ∈ StrChars.Road.words, d ∈ tables_1 := by decide +kernel
theorem own_we : ∀ d ∈ StrChars.Road.wordsEq, d ∈ tables_1 := by decide +kernel
theorem own_cod {cs : List Int32} (h : ∀ c ∈ cs, ¬ c < 0 ∧ ¬ (255 : Int32) < c) : StrChars.Road.CodA cs 0 (Int32.ofNat cs.length) (bys cs) := Or.inl ⟨rfl, rfl, rfl, fun c hc => (h c hc).2⟩
theorem own_up {cs : List Int32} (h : ∀ c ∈ cs, ¬ c < 0 ∧ ¬ (255 : Int32) < c) : ∀ c ∈ cs, ¬ c < 0 ∧ ¬ (65535 : Int32) < c := fun c hc => ⟨(h c hc).1, fun q => (h c hc).2 (by rw [Int32.lt_iff_toInt_lt] at q ⊢; have e1 : (65535 : Int32).toInt = 65535 := rfl; have e2 : (255 : Int32).toInt = 255 := rfl; omega)⟩
theorem own_chars {n u v : Int32} (hu : CharOK u) (hv : CharOK v) : ∀ c ∈ chars n u v, ¬ c < 0 ∧ ¬ (255 : Int32) < c := by
  intro c hc
  unfold chars at hc
  split at hc
  · simp at hc
  · split at hc
    · simp at hc; subst hc; exact hu.2
    · simp at hc; rcases hc with rfl | rfl
      · exact hu.2
      · exact hv.2
theorem own_clen (n u v : Int32) : (chars n u v).length ≤ 4000 := by
  unfold chars; split <;> (try split) <;> simp
theorem own_m1 {u : Int32} (hu : CharOK u) : ∀ c ∈ [u], ¬ c < 0 ∧ ¬ (255 : Int32) < c := fun c hc => by
  rcases List.mem_cons.mp hc with rfl | hc
  · exact hu.2
  · cases hc
theorem own_m2 {u v : Int32} (hu : CharOK u) (hv : CharOK v) : ∀ c ∈ [u, v], ¬ c < 0 ∧ ¬ (255 : Int32) < c := fun c hc => by
  rcases List.mem_cons.mp hc with rfl | hc
  · exact hu.2
  · exact own_m1 hv c hc
theorem own_no {Z : State} {a0 : Array Value} {C O K : String} {nk : Nat} (w : (Jvm.Cond.superclass C O).before a0 Z = true) (wo : (Jvm.Cond.noSuperclass O).before a0 Z = true) (wk : (Jvm.Cond.instantiable K nk).before a0 Z = true) (hn : C ≠ K) (hn' : O ≠ K) : ∃ c t, Z.vm.findClass C = some c ∧ Z.vm.findClass K = some t ∧ Z.vm.assignable c t = false := by
  obtain ⟨t, kt, g0, g2, g5, g7, -, -⟩ := Cond.instantiable_spec wk
  obtain ⟨co, ko, o1, o2, o3, -, -⟩ := Cond.noSuperclass_spec wo
  obtain ⟨c, h0⟩ := found_sup w
  obtain ⟨p, k, kp, h1, h2, h3, h4, h5, -, h7⟩ := Cond.superclass_spec h0 w
  cases o1.symm.trans h1
  have ne := ids_ne h0 g0 hn
  have ne' := ids_ne o1 g0 hn'
  have g7' : kt.isInterface = false := by
    cases hi : kt.isInterface with
    | true => rw [hi] at g7; simp at g7
    | false => rfl
  have nO : ∀ fuel, Z.vm.isSubclassAux fuel co t = false := fun fuel => by
    cases fuel with
    | zero => rfl
    | succ f => simp [Vm.isSubclassAux, ne', o2, o3]
  have nC : ∀ fuel, Z.vm.isSubclassAux fuel c t = false := fun fuel => by
    cases fuel with
    | zero => rfl
    | succ f => simp [Vm.isSubclassAux, ne, h2, h4, nO]
  refine ⟨c, t, h0, g0, ?_⟩
  show Z.vm.assignableAux (255 + 1) c t = false
  simp [Vm.assignableAux, ne, h2, g2, h5, g5, g7', Vm.isSubclass, nC]
theorem own_eqT {v : Option Value} {cs ds : List Int32} (h : (v = some (.int 1) ∧ cs = ds) ∨ (v = some (.int 0) ∧ ¬ cs = ds)) (e : cs = ds) : v = some (.int 1) := by
  rcases h with h | h
  · exact h.1
  · exact absurd e h.2
theorem own_eqF {v : Option Value} {cs ds : List Int32} (h : (v = some (.int 1) ∧ cs = ds) ∨ (v = some (.int 0) ∧ ¬ cs = ds)) (e : ¬ cs = ds) : v = some (.int 0) := by
  rcases h with h | h
  · exact absurd h.2 e
  · exact h.1
def eqv (cs ds : List Int32) (ra rb sa sb : Int32) : Int32 := if cs = ds ∧ ra = rb ∧ sa = sb then 1 else 0
def lenv (x : Int32) : Int32 := if x = 3 then 2 else x
theorem d1_0 : decode method_2_code 0 = .ok (.iload_n 0, 1) := by decide +kernel
theorem d1_1 : decode method_2_code 1 = .ok (.iconst 3, 1) := by decide +kernel
theorem d1_2 : decode method_2_code 2 = .ok (.if_icmp .ne 5, 3) := by decide +kernel
theorem d1_5 : decode method_2_code 5 = .ok (.iconst 2, 1) := by decide +kernel
theorem d1_6 : decode method_2_code 6 = .ok (.ireturn, 1) := by decide +kernel
theorem pn_com_example_abox_to_sql_aboxtosql_AddedAssertionEqualsPinLaw : plainName "com/example/abox_to_sql/aboxtosql/AddedAssertionEqualsPinLaw" = true := by first | (simp [plainName, overriddenIn]; done) | decide +kernel
def Q_rmLa (Z : State) (x : Int32) (h0 : Heap) (n0 : Nat) (v : Option Value) (h : Heap) (L : List Loc) : Prop := v = some (.int (2 : Int32)) ∧ Fr n0 L ∧ h = h0
theorem ef_rmLa (m : MethodId) (x : Int32) : entryFrame m #[(.int x)] 1 = mkF m 0 #[.val (.int x)] [] := by first | (simp [entryFrame, mkF, argsToLocals, Value.category]; done) | rfl
set_option maxRecDepth 65536 in
set_option maxHeartbeats 40000000 in
theorem rmLa (l : Launch) (Z : State) (a0 : Array Value) (hw : ∀ d ∈ tables_1, d.before a0 Z = true) (ws : List Jvm.Cond) (x : Int32) (h0 : Heap) (n0 : Nat) (Z0 : n0 ≤ h0.size) (hc2 : x = (3 : Int32)) :
    MetFree l (⟨"com/example/abox_to_sql/aboxtosql/AddedAssertionEqualsPinLaw", "len", "(I)I"⟩ : MethodName) (head1 (Jvm.Cond.code (⟨"com/example/abox_to_sql/aboxtosql/AddedAssertionEqualsPinLaw", "len", "(I)I"⟩ : MethodName) method_2_code 1 (some .int) :: ws) ({ frames := 0, cells := 0, slots := 0, locals := 0 } : Room)) (fun aa U => aa = #[(.int x)] ∧ Z.Warmed39 U.vm ∧ U.heap = h0) (fun _ _ _ _ _ => True) (fun _ U o U' => ∃ v L, o = .returned v ∧ Q_rmLa Z x h0 n0 v U'.heap L ∧ FrameEnd U o U' L ({ frames := 0, cells := 0, slots := 0, locals := 0 } : Room).cells ({ frames := 0, cells := 0, slots := 0, locals := 0 } : Room).slots) := by
  refine MetFree.of_bodySF (plainFor_of_name pn_com_example_abox_to_sql_aboxtosql_AddedAssertionEqualsPinLaw) hisR ?_
  intro p e s m args below meth c s₁ Bd hml0 hP hK
  obtain ⟨rfl, hZ, hh⟩ := hP
  have hx := Bd.exec
  have hby := Bd.bytes
  have hml : c.maxLocals = 1 := hml0
  have hown : s.vm.findClass "com/example/abox_to_sql/aboxtosql/AddedAssertionEqualsPinLaw" = some m.cls := findClass_of_methodNamed Bd.named
  have hnm := (name_of_methodNamed Bd.named Bd.method).1
  have X0 : Stand p l e ({ frames := 0, cells := 0, slots := 0, locals := 0 } : Room) s m #[(.int x)] below meth c s₁ [] 0 0 := Stand.of_body Bd
  have e0 : s₁.heap = h0 := by rw [← hh, Bd.state]; rfl
  have N0 := Fr.nil n0
  have pre0 : ∀ t, Steps p.tables e below (s₁.setTop (mkF m 0 #[.val (.int x)] [])) t → Steps p.tables e below (s₁.setTop (entryFrame m #[(.int x)] 1)) t := fun t k => castTop (ef_rmLa m x) k
  obtain ⟨fs, hr, hrun, hended, hW, hsame⟩ := X0.leave (v := some (.int (2 : Int32))) (fun h => by rw [Bd.returns] at h; cases h)
  refine ⟨_, _, pre0 _ ?_, hrun, hended, _, _, rfl, ?_, ⟨_, rfl⟩, hW, hsame.mono (by decide) (by decide)⟩
  · show Steps p.tables e below (s₁.setTop (mkF m 0 #[.val (.int x)] [])) _
    refine XS.iloadN X0.here hx rfl (hb hby d1_0) rfl ?_
    show Steps p.tables e below (s₁.setTop (mkF m 1 #[.val (.int x)] [(.int x)])) _
    refine XS.iconst X0.here hx rfl (hb hby d1_1) ?_
    show Steps p.tables e below (s₁.setTop (mkF m 2 #[.val (.int x)] [(.int (3 : Int32)), (.int x)])) _
    refine XS.icmpNo X0.here hx rfl (hb hby d1_2) rfl (teq hc2).2 ?_
    show Steps p.tables e below (s₁.setTop (mkF m 5 #[.val (.int x)] [])) _
    refine XS.iconst X0.here hx rfl (hb hby d1_5) ?_
    show Steps p.tables e below (s₁.setTop (mkF m 6 #[.val (.int x)] [(.int (2 : Int32))])) _
    exact retI X0 hx Bd.returns (hb hby d1_6) hr
  · show Q_rmLa Z x h0 n0 _ s₁.heap _
    rw [e0]
    exact ⟨rfl, N0, rfl⟩
theorem d1_7 : decode method_2_code 7 = .ok (.iload_n 0, 1) := by decide +kernel
theorem d1_8 : decode method_2_code 8 = .ok (.ireturn, 1) := by decide +kernel
def Q_rmLb (Z : State) (x : Int32) (h0 : Heap) (n0 : Nat) (v : Option Value) (h : Heap) (L : List Loc) : Prop := v = some (.int x) ∧ Fr n0 L ∧ h = h0
theorem ef_rmLb (m : MethodId) (x : Int32) : entryFrame m #[(.int x)] 1 = mkF m 0 #[.val (.int x)] [] := by first | (simp [entryFrame, mkF, argsToLocals, Value.category]; done) | rfl
set_option maxRecDepth 65536 in
set_option maxHeartbeats 40000000 in
theorem rmLb (l : Launch) (Z : State) (a0 : Array Value) (hw : ∀ d ∈ tables_1, d.before a0 Z = true) (ws : List Jvm.Cond) (x : Int32) (h0 : Heap) (n0 : Nat) (Z0 : n0 ≤ h0.size) (hc2 : ¬ (x = (3 : Int32))) :
    MetFree l (⟨"com/example/abox_to_sql/aboxtosql/AddedAssertionEqualsPinLaw", "len", "(I)I"⟩ : MethodName) (head1 (Jvm.Cond.code (⟨"com/example/abox_to_sql/aboxtosql/AddedAssertionEqualsPinLaw", "len", "(I)I"⟩ : MethodName) method_2_code 1 (some .int) :: ws) ({ frames := 0, cells := 0, slots := 0, locals := 0 } : Room)) (fun aa U => aa = #[(.int x)] ∧ Z.Warmed39 U.vm ∧ U.heap = h0) (fun _ _ _ _ _ => True) (fun _ U o U' => ∃ v L, o = .returned v ∧ Q_rmLb Z x h0 n0 v U'.heap L ∧ FrameEnd U o U' L ({ frames := 0, cells := 0, slots := 0, locals := 0 } : Room).cells ({ frames := 0, cells := 0, slots := 0, locals := 0 } : Room).slots) := by
  refine MetFree.of_bodySF (plainFor_of_name pn_com_example_abox_to_sql_aboxtosql_AddedAssertionEqualsPinLaw) hisR ?_
  intro p e s m args below meth c s₁ Bd hml0 hP hK
  obtain ⟨rfl, hZ, hh⟩ := hP
  have hx := Bd.exec
  have hby := Bd.bytes
  have hml : c.maxLocals = 1 := hml0
  have hown : s.vm.findClass "com/example/abox_to_sql/aboxtosql/AddedAssertionEqualsPinLaw" = some m.cls := findClass_of_methodNamed Bd.named
  have hnm := (name_of_methodNamed Bd.named Bd.method).1
  have X0 : Stand p l e ({ frames := 0, cells := 0, slots := 0, locals := 0 } : Room) s m #[(.int x)] below meth c s₁ [] 0 0 := Stand.of_body Bd
  have e0 : s₁.heap = h0 := by rw [← hh, Bd.state]; rfl
  have N0 := Fr.nil n0
  have pre0 : ∀ t, Steps p.tables e below (s₁.setTop (mkF m 0 #[.val (.int x)] [])) t → Steps p.tables e below (s₁.setTop (entryFrame m #[(.int x)] 1)) t := fun t k => castTop (ef_rmLb m x) k
  obtain ⟨fs, hr, hrun, hended, hW, hsame⟩ := X0.leave (v := some (.int x)) (fun h => by rw [Bd.returns] at h; cases h)
  refine ⟨_, _, pre0 _ ?_, hrun, hended, _, _, rfl, ?_, ⟨_, rfl⟩, hW, hsame.mono (by decide) (by decide)⟩
  · show Steps p.tables e below (s₁.setTop (mkF m 0 #[.val (.int x)] [])) _
    refine XS.iloadN X0.here hx rfl (hb hby d1_0) rfl ?_
    show Steps p.tables e below (s₁.setTop (mkF m 1 #[.val (.int x)] [(.int x)])) _
    refine XS.iconst X0.here hx rfl (hb hby d1_1) ?_
    show Steps p.tables e below (s₁.setTop (mkF m 2 #[.val (.int x)] [(.int (3 : Int32)), (.int x)])) _
    refine XS.icmpYes X0.here hx rfl (pc0 := 2) (pc' := 7) rfl (hb hby d1_2) rfl (feq hc2).2 (by decide) (by decide) ?_
    show Steps p.tables e below (s₁.setTop (mkF m 7 #[.val (.int x)] [])) _
    refine XS.iloadN X0.here hx rfl (hb hby d1_7) rfl ?_
    show Steps p.tables e below (s₁.setTop (mkF m 8 #[.val (.int x)] [(.int x)])) _
    exact retI X0 hx Bd.returns (hb hby d1_8) hr
  · show Q_rmLb Z x h0 n0 _ s₁.heap _
    rw [e0]
    exact ⟨rfl, N0, rfl⟩
theorem d10_0 : decode jdk_31_method_11_code 0 = .ok (.aload_n 0, 1) := by decide +kernel
theorem d10_1 : decode jdk_31_method_11_code 1 = .ok (.ifnonnull 12, 3) := by decide +kernel
theorem d10_13 : decode jdk_31_method_11_code 13 = .ok (.aload_n 0, 1) := by decide +kernel
theorem d10_14 : decode jdk_31_method_11_code 14 = .ok (.areturn, 1) := by decide +kernel
theorem pn_java_util_Objects : plainName "java/util/Objects" = true := by first | (simp [plainName, overriddenIn]; done) | decide +kernel
def Q_rmN (Z : State) (x : Addr) (y : Addr) (h0 : Heap) (n0 : Nat) (v : Option Value) (h : Heap) (L : List Loc) : Prop := v = some (.ref x) ∧ Fr n0 L ∧ h = h0
theorem ef_rmN (m : MethodId) (x : Addr) (y : Addr) : entryFrame m #[(.ref x), (.ref y)] 2 = mkF m 0 #[.val (.ref x), .val (.ref y)] [] := by first | (simp [entryFrame, mkF, argsToLocals, Value.category]; done) | rfl
set_option maxRecDepth 65536 in
set_option maxHeartbeats 40000000 in
theorem rmN (l : Launch) (Z : State) (a0 : Array Value) (hw : ∀ d ∈ tables_1, d.before a0 Z = true) (ws : List Jvm.Cond) (x : Addr) (y : Addr) (h0 : Heap) (n0 : Nat) (Z0 : n0 ≤ h0.size) :
    MetFree l (⟨"java/util/Objects", "requireNonNull", "(Ljava/lang/Object;Ljava/lang/String;)Ljava/lang/Object;"⟩ : MethodName) (head1 (Jvm.Cond.code (⟨"java/util/Objects", "requireNonNull", "(Ljava/lang/Object;Ljava/lang/String;)Ljava/lang/Object;"⟩ : MethodName) jdk_31_method_11_code 2 (some (.object "java/lang/Object")) :: ws) ({ frames := 0, cells := 0, slots := 0, locals := 0 } : Room)) (fun aa U => aa = #[(.ref x), (.ref y)] ∧ Z.Warmed39 U.vm ∧ U.heap = h0) (fun _ _ _ _ _ => True) (fun _ U o U' => ∃ v L, o = .returned v ∧ Q_rmN Z x y h0 n0 v U'.heap L ∧ FrameEnd U o U' L ({ frames := 0, cells := 0, slots := 0, locals := 0 } : Room).cells ({ frames := 0, cells := 0, slots := 0, locals := 0 } : Room).slots) := by
  refine MetFree.of_bodySF (plainFor_of_name pn_java_util_Objects) hisR ?_
  intro p e s m args below meth c s₁ Bd hml0 hP hK
  obtain ⟨rfl, hZ, hh⟩ := hP
  have hx := Bd.exec
  have hby := Bd.bytes
  have hml : c.maxLocals = 2 := hml0
  have hown : s.vm.findClass "java/util/Objects" = some m.cls := findClass_of_methodNamed Bd.named
  have hnm := (name_of_methodNamed Bd.named Bd.method).1
  have X0 : Stand p l e ({ frames := 0, cells := 0, slots := 0, locals := 0 } : Room) s m #[(.ref x), (.ref y)] below meth c s₁ [] 0 0 := Stand.of_body Bd
  have e0 : s₁.heap = h0 := by rw [← hh, Bd.state]; rfl
  have N0 := Fr.nil n0
  have pre0 : ∀ t, Steps p.tables e below (s₁.setTop (mkF m 0 #[.val (.ref x), .val (.ref y)] [])) t → Steps p.tables e below (s₁.setTop (entryFrame m #[(.ref x), (.ref y)] 2)) t := fun t k => castTop (ef_rmN m x y) k
  obtain ⟨fs, hr, hrun, hended, hW, hsame⟩ := X0.leave (v := some (.ref x)) (fun h => by rw [Bd.returns] at h; cases h)
  refine ⟨_, _, pre0 _ ?_, hrun, hended, _, _, rfl, ?_, ⟨_, rfl⟩, hW, hsame.mono (by decide) (by decide)⟩
  · show Steps p.tables e below (s₁.setTop (mkF m 0 #[.val (.ref x), .val (.ref y)] [])) _
    refine XS.aloadN X0.here hx rfl (hb hby d10_0) rfl rfl ?_
    show Steps p.tables e below (s₁.setTop (mkF m 1 #[.val (.ref x), .val (.ref y)] [(.ref x)])) _
    refine XS.ifnonnullYes X0.here hx rfl (pc0 := 1) (pc' := 13) rfl (hb hby d10_1) rfl (by decide) (by decide) ?_
    show Steps p.tables e below (s₁.setTop (mkF m 13 #[.val (.ref x), .val (.ref y)] [])) _
    refine XS.aloadN X0.here hx rfl (hb hby d10_13) rfl rfl ?_
    show Steps p.tables e below (s₁.setTop (mkF m 14 #[.val (.ref x), .val (.ref y)] [(.ref x)])) _
    jvm_step X0.here [X0.here.top, hx, (hb hby d10_14), X0.method', Bd.returns, Value.isRef, FieldType.isReference]
    first | (intro acts; rw [hr _ acts rfl rfl rfl]) | rw [hr _ _ rfl rfl rfl]
    exact Steps.refl _
  · show Q_rmN Z x y h0 n0 _ s₁.heap _
    rw [e0]
    exact ⟨rfl, N0, rfl⟩
theorem d4_0 : decode jdk_42_method_149_code 0 = .ok (.aload_n 0, 1) := by decide +kernel
theorem d4_1 : decode jdk_42_method_149_code 1 = .ok (.invokespecial 1, 3) := by decide +kernel
theorem d4_4 : decode jdk_42_method_149_code 4 = .ok (.iload_n 3, 1) := by decide +kernel
theorem d4_5 : decode jdk_42_method_149_code 5 = .ok (.ifCond .ne 22, 3) := by decide +kernel
theorem d4_8 : decode jdk_42_method_149_code 8 = .ok (.aload_n 0, 1) := by decide +kernel
theorem d4_9 : decode jdk_42_method_149_code 9 = .ok (.ldc 7, 2) := by decide +kernel
theorem d4_11 : decode jdk_42_method_149_code 11 = .ok (.getfield 9, 3) := by decide +kernel
theorem d4_14 : decode jdk_42_method_149_code 14 = .ok (.putfield 9, 3) := by decide +kernel
theorem d4_17 : decode jdk_42_method_149_code 17 = .ok (.aload_n 0, 1) := by decide +kernel
theorem d4_18 : decode jdk_42_method_149_code 18 = .ok (.ldc 7, 2) := by decide +kernel
theorem d4_20 : decode jdk_42_method_149_code 20 = .ok (.getfield 15, 3) := by decide +kernel
theorem d4_23 : decode jdk_42_method_149_code 23 = .ok (.putfield 15, 3) := by decide +kernel
theorem d4_26 : decode jdk_42_method_149_code 26 = .ok (.return_, 1) := by decide +kernel
theorem pn_java_lang_String : plainName "java/lang/String" = true := by first | (simp [plainName, overriddenIn]; done) | decide +kernel
def Q_rmI0 (Z : State) (a : Addr) (b : Addr) (h0 : Heap) (n0 : Nat) (v : Option Value) (h : Heap) (L : List Loc) : Prop := ∃ tb : Jvm.Addr, ∃ tk : ClassId, v = none ∧ Fr n0 L ∧ Keep h0 h [a] ∧ Exa Z h a "java/lang/String" ∧ Fld Z h a "java/lang/String" "coder" "B" (.int (0 : Int32)) ∧ Fld Z h a "java/lang/String" "value" "[B" (.ref tb) ∧ Arv Z h tb tk .byte (0 : Int32) [] (.int (0 : Int32))
theorem ef_rmI0 (m : MethodId) (a : Addr) (b : Addr) : entryFrame m #[(.ref a), (.ref b), (.int (0 : Int32)), (.int (0 : Int32)), .null] 6 = mkF m 0 #[.val (.ref a), .val (.ref b), .val (.int (0 : Int32)), .val (.int (0 : Int32)), .val .null, .unset] [] := by first | (simp [entryFrame, mkF, argsToLocals, Value.category]; done) | rfl
set_option maxRecDepth 65536 in
set_option maxHeartbeats 40000000 in
theorem rmI0 (l : Launch) (Z : State) (a0 : Array Value) (hw : ∀ d ∈ tables_1, d.before a0 Z = true) (ws : List Jvm.Cond) (a : Addr) (b : Addr) (h0 : Heap) (n0 : Nat) (X00 : Old Z n0 h0) (E_a : Exa Z h0 a "java/lang/String") (F_a_value : Fld Z h0 a "java/lang/String" "value" "[B" .null) (F_a_coder : Fld Z h0 a "java/lang/String" "coder" "B" (.int (0 : Int32))) (g_a : n0 ≤ a) :
    MetFree l (⟨"java/lang/String", "<init>", "([CIILjava/lang/Void;)V"⟩ : MethodName) (head1 (Jvm.Cond.code (⟨"java/lang/String", "<init>", "([CIILjava/lang/Void;)V"⟩ : MethodName) jdk_42_method_149_code 6 none :: ws) ({ frames := 1, cells := 4, slots := 8, locals := 12 } : Room)) (fun aa U => aa = #[(.ref a), (.ref b), (.int (0 : Int32)), (.int (0 : Int32)), .null] ∧ Z.Warmed39 U.vm ∧ U.heap = h0 ∧ CHv Z ELs U.vm h0) (fun _ _ _ _ _ => True) (fun _ U o U' => ∃ v L, o = .returned v ∧ Q_rmI0 Z a b h0 n0 v U'.heap L ∧ CHr Z ELs U.vm U.heap U'.vm U'.heap ∧ ReturnedEndW U o U' L ({ frames := 1, cells := 4, slots := 8, locals := 12 } : Room).cells ({ frames := 1, cells := 4, slots := 8, locals := 12 } : Room).slots) := by
  refine MetFree.of_bodySF (plainFor_of_name pn_java_lang_String) hisR ?_
  intro p e s m args below meth c s₁ Bd hml0 hP hK
  obtain ⟨rfl, hZq, hh, hC0⟩ := hP
  have hx := Bd.exec
  have hby := Bd.bytes
  have hml : c.maxLocals = 6 := hml0
  have hown : s.vm.findClass "java/lang/String" = some m.cls := findClass_of_methodNamed Bd.named
  have hnm := (name_of_methodNamed Bd.named Bd.method).1
  have X0 : Stand p l e ({ frames := 1, cells := 4, slots := 8, locals := 12 } : Room) (s.setVm s.vm) m #[(.ref a), (.ref b), (.int (0 : Int32)), (.int (0 : Int32)), .null] below meth c s₁ [] 0 0 := Stand.of_body Bd
  have e0 : s₁.heap = h0 := by rw [← hh, Bd.state]; rfl
  have N0 := Fr.nil n0
  have Z0 : n0 ≤ h0.size := own_z0 X00
  have pre0 : ∀ t, Steps p.tables e below (s₁.setTop (mkF m 0 #[.val (.ref a), .val (.ref b), .val (.int (0 : Int32)), .val (.int (0 : Int32)), .val .null, .unset] [])) t → Steps p.tables e below (s₁.setTop (entryFrame m #[(.ref a), (.ref b), (.int (0 : Int32)), (.int (0 : Int32)), .null] 6)) t := fun t k => castTop (ef_rmI0 m a b) k
  have hZ_0 : Z.Warmed39 (s.setVm s.vm).vm := hZq
  have hown_0 : (s.setVm s.vm).vm.findClass "java/lang/String" = some m.cls := hown
  have hS_0 : s.Since s.vm 0 := (State.WarmedH.refl s).since 0
  have hk_0 : 0 ≤ h0.size := Nat.zero_le _
  have R_0 : CHr Z ELs s.vm h0 s.vm h0 := CHr.refl hC0
  obtain ⟨T1, X1, e1, st1⟩ := initO X0 hx hZ_0 hown_0 (hw _ (List.mem_of_getElem? (i := 18) rfl)) (hw _ (List.mem_of_getElem? (i := 19) rfl)) (hw _ (List.mem_of_getElem? (i := 20) rfl)) e0 (g := (mkF m 1 #[.val (.ref a), .val (.ref b), .val (.int (0 : Int32)), .val (.int (0 : Int32)), .val .null, .unset] [(.ref a)])) rfl (by rw [hml]; rfl) rfl (hb hby d4_1) (by decide) (W := 0) (by show 2 * 0 + _ ≤ _; exact Nat.le_of_eq rfl) (by decide)
  obtain ⟨la2, T2, h2, kk2, lb2, lk2, X2, e2, E2, hS_2, hk_2, hZ_2, hown_2, LA2, LC2, LV2, LB2, -, -, Rs2, -, nl2, st2⟩ := ldcCH X1 hx hZ_0 hown_0 (hw _ (List.mem_of_getElem? (i := 37) rfl)) (own_wS hw) e1 hS_0 hk_0 (own_EL hw) (List.mem_of_getElem? (i := 0) rfl) R_0.1 own_ht (z := 0) (by decide) rfl (g := (mkF m 9 #[.val (.ref a), .val (.ref b), .val (.int (0 : Int32)), .val (.int (0 : Int32)), .val .null, .unset] [(.ref a)])) rfl (hb hby d4_9) (n := 0) (by decide) (by decide) (by decide) (by decide)
  have R_2 : CHr Z ELs s.vm h0 T2.vm h2 := R_0.trans Rs2
  have E_a__2 := E_a.ext E2
  have F_a_value__2 := F_a_value.ext E2
  have F_a_coder__2 := F_a_coder.ext E2
  have X00__2 := X00.ext E2
  have K0_2 : Keep h0 h2 [a] := (Keep.refl h0 [a]).ext E2
  have nl_a_la2 : a ≠ la2 := (nl2 a (own_safe_null hZ_2.alike E_a__2 F_a_value__2)).1
  have nl_a_lb2 : a ≠ lb2 := (nl2 a (own_safe_null hZ_2.alike E_a__2 F_a_value__2)).2
  obtain ⟨T3, X3, e3, st3⟩ := getF X2 hx hZ_2 hown_2 (host := "") (Or.inl (hw _ (List.mem_of_getElem? (i := 35) rfl))) Via.refl e2 LV2 (g := (mkF m 11 #[.val (.ref a), .val (.ref b), .val (.int (0 : Int32)), .val (.int (0 : Int32)), .val .null, .unset] [(.ref la2), (.ref a)])) rfl rfl (hb hby d4_11)
  obtain ⟨T4, h4, X4, e4, W4, st4⟩ := putF X3 hx hZ_2 hown_2 (host := "") (Or.inl (hw _ (List.mem_of_getElem? (i := 35) rfl))) Via.refl e3 F_a_value__2 E_a__2 (Or.inr ⟨(hw _ (List.mem_of_getElem? (i := 36) rfl)), rfl, hnm⟩) (hw _ (List.mem_of_getElem? (i := 9) rfl)) (ty := (.array .byte)) (by decide) rfl rfl (g := (mkF m 14 #[.val (.ref a), .val (.ref b), .val (.int (0 : Int32)), .val (.int (0 : Int32)), .val .null, .unset] [(.ref lb2), (.ref a)])) rfl rfl (hb hby d4_14)
  have Sw4 : Safe Z ELs T2.vm h2 a := (own_safe_null hZ_2.alike E_a__2 F_a_value__2)
  have Rs4 : CHr Z ELs T2.vm h2 T2.vm h4 := CHr.wr W4 Sw4 R_2.1
  have Sf_a_4 := Safe.wr W4 Sw4 R_2.1 Sw4
  have R_4 : CHr Z ELs s.vm h0 T2.vm h4 := R_2.trans Rs4
  have hk_4 := Nat.le_trans hk_2 Rs4.2.1
  have E_a__4 := E_a__2.wr W4
  have F_a_value__4 := F_a_value__2.same W4
  have F_a_coder__4 := F_a_coder__2.other W4 (Or.inr (slot_ne (Or.inr (hw _ (List.mem_of_getElem? (i := 34) rfl))) (Or.inr (hw _ (List.mem_of_getElem? (i := 36) rfl))) (by decide) (t := .byte) (t' := (.array .byte)) (by decide) (by decide)))
  have LA2__4 := LA2.wr W4
  have LC2__4 := LC2.other W4 (Or.inl (Ne.symm nl_a_la2))
  have LV2__4 := LV2.other W4 (Or.inl (Ne.symm nl_a_la2))
  have LB2__4 := LB2.other W4 (Ne.symm nl_a_lb2)
  have X00__4 := X00__2.wr W4 g_a
  have K0_4 : Keep h0 h4 [a] := K0_2.wr W4 (Or.inl (List.mem_of_getElem? (i := 0) rfl))
  have N4 := Fr.snoc X4 N0 g_a
  obtain ⟨la5, T5, h5, kk5, lb5, lk5, X5, e5, E5, hS_5, hk_5, hZ_5, hown_5, LA5, LC5, LV5, LB5, -, -, Rs5, -, nl5, st5⟩ := ldcCH X4 hx hZ_2 hown_2 (hw _ (List.mem_of_getElem? (i := 37) rfl)) (own_wS hw) e4 hS_2 hk_4 (own_EL hw) (List.mem_of_getElem? (i := 0) rfl) R_4.1 own_ht (z := 0) (by decide) rfl (g := (mkF m 18 #[.val (.ref a), .val (.ref b), .val (.int (0 : Int32)), .val (.int (0 : Int32)), .val .null, .unset] [(.ref a)])) rfl (hb hby d4_18) (n := 0) (by decide) (by decide) (by decide) (by decide)
  have Sf_a_5 := CHr.safe Rs5 E_a__4.lt Sf_a_4
  have R_5 : CHr Z ELs s.vm h0 T5.vm h5 := R_4.trans Rs5
  have E_a__5 := E_a__4.ext E5
  have F_a_value__5 := F_a_value__4.ext E5
  have F_a_coder__5 := F_a_coder__4.ext E5
  have LA2__5 := LA2__4.ext E5
  have LC2__5 := LC2__4.ext E5
  have LV2__5 := LV2__4.ext E5
  have LB2__5 := LB2__4.ext E5
  have X00__5 := X00__4.ext E5
  have K0_5 : Keep h0 h5 [a] := K0_4.ext E5
  have nl_a_la5 : a ≠ la5 := (nl5 a Sf_a_5).1
  have nl_a_lb5 : a ≠ lb5 := (nl5 a Sf_a_5).2
  obtain ⟨T6, X6, e6, st6⟩ := getF X5 hx hZ_5 hown_5 (host := "") (Or.inl (hw _ (List.mem_of_getElem? (i := 33) rfl))) Via.refl e5 LC5 (g := (mkF m 20 #[.val (.ref a), .val (.ref b), .val (.int (0 : Int32)), .val (.int (0 : Int32)), .val .null, .unset] [(.ref la5), (.ref a)])) rfl rfl (hb hby d4_20)
  obtain ⟨T7, h7, X7, e7, W7, st7⟩ := putFN X6 hx hZ_5 hown_5 (hw _ (List.mem_of_getElem? (i := 33) rfl)) Via.refl e6 F_a_coder__5 E_a__5 (Or.inr ⟨(hw _ (List.mem_of_getElem? (i := 34) rfl)), rfl, hnm⟩) (hw _ (List.mem_of_getElem? (i := 9) rfl)) (ty := .byte) (v' := (.int (0 : Int32))) (by decide) rfl rfl (g := (mkF m 23 #[.val (.ref a), .val (.ref b), .val (.int (0 : Int32)), .val (.int (0 : Int32)), .val .null, .unset] [(.int (0 : Int32)), (.ref a)])) rfl rfl (hb hby d4_23)
  have Sw7 : Safe Z ELs T5.vm h5 a := Sf_a_5
  have Rs7 : CHr Z ELs T5.vm h5 T5.vm h7 := CHr.wr W7 Sw7 R_5.1
  have Sf_a_7 := Safe.wr W7 Sw7 R_5.1 Sw7
  have R_7 : CHr Z ELs s.vm h0 T5.vm h7 := R_5.trans Rs7
  have hk_7 := Nat.le_trans hk_5 Rs7.2.1
  have E_a__7 := E_a__5.wr W7
  have F_a_value__7 := F_a_value__5.other W7 (Or.inr (slot_ne (Or.inr (hw _ (List.mem_of_getElem? (i := 36) rfl))) (Or.inr (hw _ (List.mem_of_getElem? (i := 34) rfl))) (by decide) (t := (.array .byte)) (t' := .byte) (by decide) (by decide)))
  have F_a_coder__7 := F_a_coder__5.same W7
  have LA2__7 := LA2__5.wr W7
  have LC2__7 := LC2__5.other W7 (Or.inl (Ne.symm nl_a_la2))
  have LV2__7 := LV2__5.other W7 (Or.inl (Ne.symm nl_a_la2))
  have LB2__7 := LB2__5.other W7 (Ne.symm nl_a_lb2)
  have LA5__7 := LA5.wr W7
  have LC5__7 := LC5.other W7 (Or.inl (Ne.symm nl_a_la5))
  have LV5__7 := LV5.other W7 (Or.inl (Ne.symm nl_a_la5))
  have LB5__7 := LB5.other W7 (Ne.symm nl_a_lb5)
  have X00__7 := X00__5.wr W7 g_a
  have K0_7 : Keep h0 h7 [a] := K0_5.wr W7 (Or.inl (List.mem_of_getElem? (i := 0) rfl))
  have N7 := Fr.snoc X7 N4 g_a
  obtain ⟨fs, hr, hrun, hended, hEnd⟩ := X7.leaveW hS_5 (own_hk e7 hk_7) (v := none) (fun _ => rfl)
  refine ⟨_, _, pre0 _ ?_, hrun, hended, _, _, rfl, ?_, ?_, own_rew_mono hEnd (by decide) (by decide)⟩
  · show Steps p.tables e below (s₁.setTop (mkF m 0 #[.val (.ref a), .val (.ref b), .val (.int (0 : Int32)), .val (.int (0 : Int32)), .val .null, .unset] [])) _
    refine XS.aloadN X0.here hx rfl (hb hby d4_0) rfl rfl ?_
    show Steps p.tables e below (s₁.setTop (mkF m 1 #[.val (.ref a), .val (.ref b), .val (.int (0 : Int32)), .val (.int (0 : Int32)), .val .null, .unset] [(.ref a)])) _
    refine st1 _ ?_
    show Steps p.tables e below (T1.setTop (mkF m 4 #[.val (.ref a), .val (.ref b), .val (.int (0 : Int32)), .val (.int (0 : Int32)), .val .null, .unset] [])) _
    refine XS.iloadN X1.here hx rfl (hb hby d4_4) rfl ?_
    show Steps p.tables e below (T1.setTop (mkF m 5 #[.val (.ref a), .val (.ref b), .val (.int (0 : Int32)), .val (.int (0 : Int32)), .val .null, .unset] [(.int (0 : Int32))])) _
    refine XS.ifNo X1.here hx rfl (hb hby d4_5) rfl ((if0 _ _).trans (teq (rfl : (0 : Int32) = (0 : Int32))).2) ?_
    show Steps p.tables e below (T1.setTop (mkF m 8 #[.val (.ref a), .val (.ref b), .val (.int (0 : Int32)), .val (.int (0 : Int32)), .val .null, .unset] [])) _
    refine XS.aloadN X1.here hx rfl (hb hby d4_8) rfl rfl ?_
    show Steps p.tables e below (T1.setTop (mkF m 9 #[.val (.ref a), .val (.ref b), .val (.int (0 : Int32)), .val (.int (0 : Int32)), .val .null, .unset] [(.ref a)])) _
    refine st2 _ ?_
    show Steps p.tables e below (T2.setTop (mkF m 11 #[.val (.ref a), .val (.ref b), .val (.int (0 : Int32)), .val (.int (0 : Int32)), .val .null, .unset] [(.ref la2), (.ref a)])) _
    refine st3 _ ?_
    show Steps p.tables e below (T3.setTop (mkF m 14 #[.val (.ref a), .val (.ref b), .val (.int (0 : Int32)), .val (.int (0 : Int32)), .val .null, .unset] [(.ref lb2), (.ref a)])) _
    refine st4 _ ?_
    show Steps p.tables e below (T4.setTop (mkF m 17 #[.val (.ref a), .val (.ref b), .val (.int (0 : Int32)), .val (.int (0 : Int32)), .val .null, .unset] [])) _
    refine XS.aloadN X4.here hx rfl (hb hby d4_17) rfl rfl ?_
    show Steps p.tables e below (T4.setTop (mkF m 18 #[.val (.ref a), .val (.ref b), .val (.int (0 : Int32)), .val (.int (0 : Int32)), .val .null, .unset] [(.ref a)])) _
    refine st5 _ ?_
    show Steps p.tables e below (T5.setTop (mkF m 20 #[.val (.ref a), .val (.ref b), .val (.int (0 : Int32)), .val (.int (0 : Int32)), .val .null, .unset] [(.ref la5), (.ref a)])) _
    refine st6 _ ?_
    show Steps p.tables e below (T6.setTop (mkF m 23 #[.val (.ref a), .val (.ref b), .val (.int (0 : Int32)), .val (.int (0 : Int32)), .val .null, .unset] [(.int (0 : Int32)), (.ref a)])) _
    refine st7 _ ?_
    show Steps p.tables e below (T7.setTop (mkF m 26 #[.val (.ref a), .val (.ref b), .val (.int (0 : Int32)), .val (.int (0 : Int32)), .val .null, .unset] [])) _
    exact X7.returnOut hx Bd.returns (hb hby d4_26) hr
  · show Q_rmI0 Z a b h0 n0 _ T7.heap _
    rw [e7]
    exact ⟨lb2, lk2, rfl, N7, K0_7, E_a__7, F_a_coder__7, F_a_value__7, LB2__7⟩
  · show CHr Z ELs s.vm s.heap T7.vm T7.heap
    rw [hh, e7]
    exact R_7.trans (CHv.at X7 hZ_5 (own_EL hw) R_7.1)
theorem d3_0 : decode jdk_42_method_3_code 0 = .ok (.aload_n 0, 1) := by decide +kernel
theorem d3_1 : decode jdk_42_method_3_code 1 = .ok (.aload_n 1, 1) := by decide +kernel
theorem d3_2 : decode jdk_42_method_3_code 2 = .ok (.iconst 0, 1) := by decide +kernel
theorem d3_3 : decode jdk_42_method_3_code 3 = .ok (.aload_n 1, 1) := by decide +kernel
theorem d3_4 : decode jdk_42_method_3_code 4 = .ok (.arraylength, 1) := by decide +kernel
theorem d3_5 : decode jdk_42_method_3_code 5 = .ok (.aconst_null, 1) := by decide +kernel
theorem d3_6 : decode jdk_42_method_3_code 6 = .ok (.invokespecial 27, 3) := by decide +kernel
theorem pd___CIILjava_lang_Void__V : parseMethodDescriptor "([CIILjava/lang/Void;)V" = some ⟨[(.array .char), .int, .int, (.object "java/lang/Void")], none⟩ := by decide +kernel
theorem d3_9 : decode jdk_42_method_3_code 9 = .ok (.return_, 1) := by decide +kernel
def Q_rmJ0 (Z : State) (a : Addr) (b : Addr) (kb : ClassId) (h0 : Heap) (n0 : Nat) (v : Option Value) (h : Heap) (L : List Loc) : Prop := ∃ tb : Jvm.Addr, ∃ tk : ClassId, v = none ∧ Fr n0 L ∧ Keep h0 h [a] ∧ Exa Z h a "java/lang/String" ∧ Fld Z h a "java/lang/String" "coder" "B" (.int (0 : Int32)) ∧ Fld Z h a "java/lang/String" "value" "[B" (.ref tb) ∧ Arv Z h tb tk .byte (0 : Int32) [] (.int (0 : Int32))
theorem ef_rmJ0 (m : MethodId) (a : Addr) (b : Addr) : entryFrame m #[(.ref a), (.ref b)] 2 = mkF m 0 #[.val (.ref a), .val (.ref b)] [] := by first | (simp [entryFrame, mkF, argsToLocals, Value.category]; done) | rfl
set_option maxRecDepth 65536 in
set_option maxHeartbeats 40000000 in
theorem rmJ0 (l : Launch) (Z : State) (a0 : Array Value) (hw : ∀ d ∈ tables_1, d.before a0 Z = true) (ws : List Jvm.Cond) (a : Addr) (b : Addr) (kb : ClassId) (h0 : Heap) (n0 : Nat) (X00 : Old Z n0 h0) (E_a : Exa Z h0 a "java/lang/String") (F_a_value : Fld Z h0 a "java/lang/String" "value" "[B" .null) (F_a_coder : Fld Z h0 a "java/lang/String" "coder" "B" (.int (0 : Int32))) (V_b : Arv Z h0 b kb .char (0 : Int32) [] (.int (0 : Int32))) (g_a : n0 ≤ a) :
    MetFree l (⟨"java/lang/String", "<init>", "([C)V"⟩ : MethodName) (head1 (Jvm.Cond.code (⟨"java/lang/String", "<init>", "([C)V"⟩ : MethodName) jdk_42_method_3_code 2 none :: ws) ({ frames := 2, cells := 4, slots := 8, locals := 29 } : Room)) (fun aa U => aa = #[(.ref a), (.ref b)] ∧ Z.Warmed39 U.vm ∧ U.heap = h0 ∧ CHv Z ELs U.vm h0) (fun _ _ _ _ _ => True) (fun _ U o U' => ∃ v L, o = .returned v ∧ Q_rmJ0 Z a b kb h0 n0 v U'.heap L ∧ CHr Z ELs U.vm U.heap U'.vm U'.heap ∧ ReturnedEndW U o U' L ({ frames := 2, cells := 4, slots := 8, locals := 29 } : Room).cells ({ frames := 2, cells := 4, slots := 8, locals := 29 } : Room).slots) := by
  refine MetFree.of_bodySF (plainFor_of_name pn_java_lang_String) hisR ?_
  intro p e s m args below meth c s₁ Bd hml0 hP hK
  obtain ⟨rfl, hZq, hh, hC0⟩ := hP
  have hx := Bd.exec
  have hby := Bd.bytes
  have hml : c.maxLocals = 2 := hml0
  have hown : s.vm.findClass "java/lang/String" = some m.cls := findClass_of_methodNamed Bd.named
  have hnm := (name_of_methodNamed Bd.named Bd.method).1
  have X0 : Stand p l e ({ frames := 2, cells := 4, slots := 8, locals := 29 } : Room) (s.setVm s.vm) m #[(.ref a), (.ref b)] below meth c s₁ [] 0 0 := Stand.of_body Bd
  have e0 : s₁.heap = h0 := by rw [← hh, Bd.state]; rfl
  have N0 := Fr.nil n0
  have Z0 : n0 ≤ h0.size := own_z0 X00
  have pre0 : ∀ t, Steps p.tables e below (s₁.setTop (mkF m 0 #[.val (.ref a), .val (.ref b)] [])) t → Steps p.tables e below (s₁.setTop (entryFrame m #[(.ref a), (.ref b)] 2)) t := fun t k => castTop (ef_rmJ0 m a b) k
  have hZ_0 : Z.Warmed39 (s.setVm s.vm).vm := hZq
  have hown_0 : (s.setVm s.vm).vm.findClass "java/lang/String" = some m.cls := hown
  have hS_0 : s.Since s.vm 0 := (State.WarmedH.refl s).since 0
  have hk_0 : 0 ≤ h0.size := Nat.zero_le _
  have R_0 : CHr Z ELs s.vm h0 s.vm h0 := CHr.refl hC0
  obtain ⟨cl1, Ar1, -, S1, NN1, -, -⟩ := id V_b
  obtain ⟨_, _, ⟨T2, L2, k2, n2⟩, -, Xq2, hSq2, hgq2, ⟨Lc2, hQ2, l2, y2, z2, Rs2⟩, st2⟩ := X0.specialBackS hx (y := (⟨"java/lang/String", "<init>", "([CIILjava/lang/Void;)V"⟩ : MethodName)) rfl hown_0 (mvT hZ_0 (hw _ (List.mem_of_getElem? (i := 14) rfl))) (mvT hZ_0 (hw _ (List.mem_of_getElem? (i := 15) rfl))) (mvT hZ_0 (hw _ (List.mem_of_getElem? (i := 17) rfl))) (by decide) (backOfSH (W := 0) (rmI0 l Z a0 hw [] a b h0 n0 X00 E_a F_a_value F_a_coder g_a) hZ_0 (hw _ (List.mem_of_getElem? (i := 17) rfl)) (hw _ (List.mem_of_getElem? (i := 10) rfl)) (by decide) (by decide) (own_EL hw) R_0.1) (g := (mkF m 6 #[.val (.ref a), .val (.ref b)] [.null, (.int (0 : Int32)), (.int (0 : Int32)), (.ref b), (.ref a)])) rfl (by rw [hml]; rfl) (Steps.refl _) (a := a) (argsL := [(.ref b), (.int (0 : Int32)), (.int (0 : Int32)), .null]) (rest := []) (lenOf pd___CIILjava_lang_Void__V rfl) rfl (by show 2 * 0 + _ ≤ _; exact Nat.le_of_eq rfl) (hb hby d3_6) (fun _ _ => ⟨rfl, e0, (by decide : 0 + 4 ≤ _), (by decide : 0 + 8 ≤ _)⟩)
  dsimp only [Pt.U, Pt.locs, Pt.cells, Pt.slots] at hSq2 hgq2 Rs2 Xq2 l2 y2 z2 st2 hQ2
  subst l2 y2 z2
  obtain ⟨X2, hS_2, hZ_2, hown_2⟩ := rebS hS_0 (own_hk e0 hk_0) Xq2 hSq2 hgq2 hZ_0 hown_0
  obtain ⟨tb_2, tk_2, rfl, N2q, K2, Q2_0, Q2_1, Q2_2, Q2_3⟩ := hQ2
  have R_2 : CHr Z ELs s.vm h0 T2.vm T2.heap := R_0.trans Rs2
  have hk_2 : T2.heap.size ≤ T2.heap.size := Nat.le_refl _
  have E_a__2 := E_a.keep K2
  have V_b__2 := V_b.keep K2 (ninS (Ne.symm (Exa.neArv E_a V_b (hw _ (List.mem_of_getElem? (i := 9) rfl)))) nin0)
  have X00__2 := X00.keep K2 (allS (P := fun x => n0 ≤ x) g_a all0)
  have K0_2 : Keep h0 T2.heap [a] := (Keep.refl h0 [a]).trans K2 (allS (P := fun x => x ∈ [a] ∨ h0.size ≤ x) (Or.inl (List.mem_of_getElem? (i := 0) rfl)) all0)
  have N2 := Fr.app N0 N2q
  obtain ⟨fs, hr, hrun, hended, hEnd⟩ := X2.leaveW hS_2 (own_hk rfl hk_2) (v := none) (fun _ => rfl)
  refine ⟨_, _, pre0 _ ?_, hrun, hended, _, _, rfl, ?_, ?_, own_rew_mono hEnd (by decide) (by decide)⟩
  · show Steps p.tables e below (s₁.setTop (mkF m 0 #[.val (.ref a), .val (.ref b)] [])) _
    refine XS.aloadN X0.here hx rfl (hb hby d3_0) rfl rfl ?_
    show Steps p.tables e below (s₁.setTop (mkF m 1 #[.val (.ref a), .val (.ref b)] [(.ref a)])) _
    refine XS.aloadN X0.here hx rfl (hb hby d3_1) rfl rfl ?_
    show Steps p.tables e below (s₁.setTop (mkF m 2 #[.val (.ref a), .val (.ref b)] [(.ref b), (.ref a)])) _
    refine XS.iconst X0.here hx rfl (hb hby d3_2) ?_
    show Steps p.tables e below (s₁.setTop (mkF m 3 #[.val (.ref a), .val (.ref b)] [(.int (0 : Int32)), (.ref b), (.ref a)])) _
    refine XS.aloadN X0.here hx rfl (hb hby d3_3) rfl rfl ?_
    show Steps p.tables e below (s₁.setTop (mkF m 4 #[.val (.ref a), .val (.ref b)] [(.ref b), (.int (0 : Int32)), (.ref b), (.ref a)])) _
    refine X0.arraylength hx (by rw [e0]; exact Ar1.1) (State.isArrayOf_alike hZ_0.alike Ar1.2.1) (g := (mkF m 4 #[.val (.ref a), .val (.ref b)] [(.ref b), (.int (0 : Int32)), (.ref b), (.ref a)])) rfl rfl (hb hby d3_4) _ ?_
    rw [len_of S1 NN1]
    show Steps p.tables e below (s₁.setTop (mkF m 5 #[.val (.ref a), .val (.ref b)] [(.int (0 : Int32)), (.int (0 : Int32)), (.ref b), (.ref a)])) _
    refine XS.aconstNull X0.here hx rfl (hb hby d3_5) ?_
    show Steps p.tables e below (s₁.setTop (mkF m 6 #[.val (.ref a), .val (.ref b)] [.null, (.int (0 : Int32)), (.int (0 : Int32)), (.ref b), (.ref a)])) _
    refine st2.trans ?_
    show Steps p.tables e below (T2.setTop (mkF m 9 #[.val (.ref a), .val (.ref b)] [])) _
    exact X2.returnOut hx Bd.returns (hb hby d3_9) hr
  · show Q_rmJ0 Z a b kb h0 n0 _ T2.heap _
    exact ⟨tb_2, tk_2, rfl, N2, K0_2, Q2_0, Q2_1, Q2_2, Q2_3⟩
  · show CHr Z ELs s.vm s.heap T2.vm T2.heap
    rw [hh]
    exact R_2.trans (CHv.at X2 hZ_2 (own_EL hw) R_2.1)
theorem d2_0 : decode method_3_code 0 = .ok (.iload_n 0, 1) := by decide +kernel
theorem d2_1 : decode method_3_code 1 = .ok (.ifCond .ne 14, 3) := by decide +kernel
theorem d2_4 : decode method_3_code 4 = .ok (.new 7, 3) := by decide +kernel
theorem d2_7 : decode method_3_code 7 = .ok (.dup, 1) := by decide +kernel
theorem d2_8 : decode method_3_code 8 = .ok (.iconst 0, 1) := by decide +kernel
theorem d2_9 : decode method_3_code 9 = .ok (.newarray .char, 2) := by decide +kernel
theorem d2_11 : decode method_3_code 11 = .ok (.invokespecial 9, 3) := by decide +kernel
theorem pd___C_V : parseMethodDescriptor "([C)V" = some ⟨[(.array .char)], none⟩ := by decide +kernel
theorem d2_14 : decode method_3_code 14 = .ok (.areturn, 1) := by decide +kernel
def Q_rmS0 (Z : State) (ua : Int32) (ub : Int32) (cz : Int32) (h0 : Heap) (n0 : Nat) (v : Option Value) (h : Heap) (L : List Loc) : Prop := ∃ t : Addr, ∃ tb : Jvm.Addr, ∃ tk : ClassId, v = some (.ref t) ∧ Fr n0 L ∧ Keep h0 h [] ∧ h0.size ≤ t ∧ Exa Z h t "java/lang/String" ∧ Fld Z h t "java/lang/String" "coder" "B" (.int (0 : Int32)) ∧ Fld Z h t "java/lang/String" "value" "[B" (.ref tb) ∧ Arv Z h tb tk .byte (0 : Int32) [] (.int (0 : Int32))
theorem ef_rmS0 (m : MethodId) (ua : Int32) (ub : Int32) : entryFrame m #[(.int (0 : Int32)), (.int ua), (.int ub)] 4 = mkF m 0 #[.val (.int (0 : Int32)), .val (.int ua), .val (.int ub), .unset] [] := by first | (simp [entryFrame, mkF, argsToLocals, Value.category]; done) | rfl
set_option maxRecDepth 65536 in
set_option maxHeartbeats 40000000 in
theorem rmS0 (l : Launch) (Z : State) (a0 : Array Value) (hw : ∀ d ∈ tables_1, d.before a0 Z = true) (ws : List Jvm.Cond) (ua : Int32) (ub : Int32) (cz : Int32) (h0 : Heap) (n0 : Nat) (X00 : Old Z n0 h0) (S_COMPACT_STRINGS : Sta Z Z.heap "java/lang/String" "COMPACT_STRINGS" "Z" (.int cz)) (hu : CharOK ua) (hv : CharOK ub) (hcz : ¬ cz = 0) :
    MetFree l (⟨"com/example/abox_to_sql/aboxtosql/AddedAssertionEqualsPinLaw", "str", "(ICC)Ljava/lang/String;"⟩ : MethodName) (head1 (Jvm.Cond.code (⟨"com/example/abox_to_sql/aboxtosql/AddedAssertionEqualsPinLaw", "str", "(ICC)Ljava/lang/String;"⟩ : MethodName) method_3_code 4 (some (.object "java/lang/String")) :: ws) ({ frames := 6, cells := 6, slots := 16, locals := 140 } : Room)) (fun aa U => aa = #[(.int (0 : Int32)), (.int ua), (.int ub)] ∧ Z.Warmed39 U.vm ∧ U.heap = h0 ∧ CHv Z ELs U.vm h0) (fun _ _ _ _ _ => True) (fun _ U o U' => ∃ v L, o = .returned v ∧ Q_rmS0 Z ua ub cz h0 n0 v U'.heap L ∧ CHr Z ELs U.vm U.heap U'.vm U'.heap ∧ ReturnedEndW U o U' L ({ frames := 6, cells := 6, slots := 16, locals := 140 } : Room).cells ({ frames := 6, cells := 6, slots := 16, locals := 140 } : Room).slots) := by
  refine MetFree.of_bodySF (plainFor_of_name pn_com_example_abox_to_sql_aboxtosql_AddedAssertionEqualsPinLaw) hisR ?_
  intro p e s m args below meth c s₁ Bd hml0 hP hK
  obtain ⟨rfl, hZq, hh, hC0⟩ := hP
  have hx := Bd.exec
  have hby := Bd.bytes
  have hml : c.maxLocals = 4 := hml0
  have hown : s.vm.findClass "com/example/abox_to_sql/aboxtosql/AddedAssertionEqualsPinLaw" = some m.cls := findClass_of_methodNamed Bd.named
  have hnm := (name_of_methodNamed Bd.named Bd.method).1
  have X0 : Stand p l e ({ frames := 6, cells := 6, slots := 16, locals := 140 } : Room) (s.setVm s.vm) m #[(.int (0 : Int32)), (.int ua), (.int ub)] below meth c s₁ [] 0 0 := Stand.of_body Bd
  have e0 : s₁.heap = h0 := by rw [← hh, Bd.state]; rfl
  have N0 := Fr.nil n0
  have Z0 : n0 ≤ h0.size := own_z0 X00
  have pre0 : ∀ t, Steps p.tables e below (s₁.setTop (mkF m 0 #[.val (.int (0 : Int32)), .val (.int ua), .val (.int ub), .unset] [])) t → Steps p.tables e below (s₁.setTop (entryFrame m #[(.int (0 : Int32)), (.int ua), (.int ub)] 4)) t := fun t k => castTop (ef_rmS0 m ua ub) k
  have hZ_0 : Z.Warmed39 (s.setVm s.vm).vm := hZq
  have hown_0 : (s.setVm s.vm).vm.findClass "com/example/abox_to_sql/aboxtosql/AddedAssertionEqualsPinLaw" = some m.cls := hown
  have hS_0 : s.Since s.vm 0 := (State.WarmedH.refl s).since 0
  have hk_0 : 0 ≤ h0.size := Nat.zero_le _
  have R_0 : CHr Z ELs s.vm h0 s.vm h0 := CHr.refl hC0
  obtain ⟨T1, h1, X1, e1, E1, A1, D1, -, st1⟩ := newO X0 hx hZ_0 hown_0 (hw _ (List.mem_of_getElem? (i := 8) rfl)) (hw _ (List.mem_of_getElem? (i := 9) rfl)) (hw _ (List.mem_of_getElem? (i := 10) rfl)) e0 (g := (mkF m 4 #[.val (.int (0 : Int32)), .val (.int ua), .val (.int ub), .unset] [])) rfl (hb hby d2_4) (by decide) (by decide)
  obtain ⟨b1, gb1⟩ : ∃ z, z = h0.size := ⟨_, rfl⟩
  rw [← gb1] at A1 D1 st1
  have g_b1 : n0 ≤ b1 := Nat.le_trans (own_z0 X00) (Nat.le_of_eq gb1.symm)
  have sz_b1 : h0.size ≤ b1 := Nat.le_trans (Nat.le_refl _) (Nat.le_of_eq gb1.symm)
  have Rs1 : CHr Z ELs s.vm h0 s.vm h1 := CHr.ext E1 R_0.1
  have R_1 : CHr Z ELs s.vm h0 s.vm h1 := R_0.trans Rs1
  have hk_1 := Nat.le_trans hk_0 Rs1.2.1
  have X00__1 := X00.ext E1
  have K0_1 : Keep h0 h1 [] := (Keep.refl h0 []).ext E1
  have F_b1_coder : Fld Z h1 b1 "java/lang/String" "coder" "B" (.int (0 : Int32)) := D1 (Or.inr (hw _ (List.mem_of_getElem? (i := 34) rfl))) (ty := .byte) (by decide)
  have F_b1_value : Fld Z h1 b1 "java/lang/String" "value" "[B" .null := D1 (Or.inr (hw _ (List.mem_of_getElem? (i := 36) rfl))) (ty := (.array .byte)) (by decide)
  obtain ⟨T2, h2, kA2, X2, e2, E2, A2, st2⟩ := newP X1 hx hZ_0 (hw _ (List.mem_of_getElem? (i := 7) rfl)) e1 (g := (mkF m 9 #[.val (.int (0 : Int32)), .val (.int ua), .val (.int ub), .unset] [(.int (0 : Int32)), (.ref b1), (.ref b1)])) rfl (hb hby d2_9) rfl (by decide) (cap := 0) (by decide) (by decide) (by decide) (by decide)
  obtain ⟨b2, gb2⟩ : ∃ z, z = h1.size := ⟨_, rfl⟩
  rw [← gb2] at A2 st2
  have ne_b1_b2 : b1 ≠ b2 := Nat.ne_of_lt (Nat.lt_of_lt_of_le A1.lt (Nat.le_of_eq gb2.symm))
  have g_b2 : n0 ≤ b2 := Nat.le_trans (own_z0 X00__1) (Nat.le_of_eq gb2.symm)
  have sz_b2 : h0.size ≤ b2 := Nat.le_trans K0_1.1 (Nat.le_of_eq gb2.symm)
  have Rs2 : CHr Z ELs s.vm h1 s.vm h2 := CHr.ext E2 R_1.1
  have R_2 : CHr Z ELs s.vm h0 s.vm h2 := R_1.trans Rs2
  have hk_2 := Nat.le_trans hk_1 Rs2.2.1
  have A1__2 := A1.ext E2
  have F_b1_coder__2 := F_b1_coder.ext E2
  have F_b1_value__2 := F_b1_value.ext E2
  have X00__2 := X00__1.ext E2
  have K0_2 : Keep h0 h2 [] := K0_1.ext E2
  have V_b2 : Arv Z h2 b2 kA2 .char (0 : Int32) [] (.int (0 : Int32)) := (Arv.new A2 (by decide)).pad (pad_rep [] (.int (0 : Int32)) 0)
  obtain ⟨_, _, ⟨T3, L3, k3, n3⟩, -, Xq3, hSq3, hgq3, ⟨Lc3, hQ3, l3, y3, z3, Rs3⟩, st3⟩ := X2.specialBackS hx (y := (⟨"java/lang/String", "<init>", "([C)V"⟩ : MethodName)) rfl hown_0 (mvT hZ_0 (hw _ (List.mem_of_getElem? (i := 11) rfl))) (mvT hZ_0 (hw _ (List.mem_of_getElem? (i := 12) rfl))) (mvT hZ_0 (hw _ (List.mem_of_getElem? (i := 13) rfl))) (by decide) (backOfSH (W := 1) (rmJ0 l Z a0 hw [] b1 b2 kA2 h2 n0 X00__2 A1__2 F_b1_value__2 F_b1_coder__2 V_b2 g_b1) hZ_0 (hw _ (List.mem_of_getElem? (i := 13) rfl)) (hw _ (List.mem_of_getElem? (i := 10) rfl)) (by decide) (by decide) (own_EL hw) R_2.1) (g := (mkF m 11 #[.val (.int (0 : Int32)), .val (.int ua), .val (.int ub), .unset] [(.ref b2), (.ref b1), (.ref b1)])) rfl (by rw [hml]; rfl) (Steps.refl _) (a := b1) (argsL := [(.ref b2)]) (rest := [(.ref b1)]) (lenOf pd___C_V rfl) rfl (by show 2 * 0 + _ ≤ _; exact Nat.le_of_eq rfl) (hb hby d2_11) (fun _ _ => ⟨rfl, e2, (by decide : 2 + 4 ≤ _), (by decide : 4 + 8 ≤ _)⟩)
  dsimp only [Pt.U, Pt.locs, Pt.cells, Pt.slots] at hSq3 hgq3 Rs3 Xq3 l3 y3 z3 st3 hQ3
  subst l3 y3 z3
  obtain ⟨X3, hS_3, hZ_3, hown_3⟩ := rebS hS_0 (own_hk e2 hk_2) Xq3 hSq3 hgq3 hZ_0 hown_0
  obtain ⟨tb_3, tk_3, rfl, N3q, K3, Q3_0, Q3_1, Q3_2, Q3_3⟩ := hQ3
  have R_3 : CHr Z ELs s.vm h0 T3.vm T3.heap := R_2.trans Rs3
  have hk_3 : T3.heap.size ≤ T3.heap.size := Nat.le_refl _
  have A1__3 := A1__2.keep K3
  have V_b2__3 := V_b2.keep K3 (ninS (Ne.symm ne_b1_b2) nin0)
  have X00__3 := X00__2.keep K3 (allS (P := fun x => n0 ≤ x) g_b1 all0)
  have K0_3 : Keep h0 T3.heap [] := K0_2.trans K3 (allS (P := fun x => x ∈ [] ∨ h0.size ≤ x) (Or.inr sz_b1) all0)
  have N3 := Fr.app N0 N3q
  obtain ⟨fs, hr, hrun, hended, hEnd⟩ := X3.leaveW hS_3 (own_hk rfl hk_3) (v := some (.ref b1)) (fun h => by rw [Bd.returns] at h; cases h)
  refine ⟨_, _, pre0 _ ?_, hrun, hended, _, _, rfl, ?_, ?_, own_rew_mono hEnd (by decide) (by decide)⟩
  · show Steps p.tables e below (s₁.setTop (mkF m 0 #[.val (.int (0 : Int32)), .val (.int ua), .val (.int ub), .unset] [])) _
    refine XS.iloadN X0.here hx rfl (hb hby d2_0) rfl ?_
    show Steps p.tables e below (s₁.setTop (mkF m 1 #[.val (.int (0 : Int32)), .val (.int ua), .val (.int ub), .unset] [(.int (0 : Int32))])) _
    refine XS.ifNo X0.here hx rfl (hb hby d2_1) rfl ((if0 _ _).trans (teq (rfl : (0 : Int32) = (0 : Int32))).2) ?_
    show Steps p.tables e below (s₁.setTop (mkF m 4 #[.val (.int (0 : Int32)), .val (.int ua), .val (.int ub), .unset] [])) _
    refine st1 _ ?_
    show Steps p.tables e below (T1.setTop (mkF m 7 #[.val (.int (0 : Int32)), .val (.int ua), .val (.int ub), .unset] [(.ref b1)])) _
    refine XS.dup X1.here hx rfl (hb hby d2_7) rfl rfl ?_
    show Steps p.tables e below (T1.setTop (mkF m 8 #[.val (.int (0 : Int32)), .val (.int ua), .val (.int ub), .unset] [(.ref b1), (.ref b1)])) _
    refine XS.iconst X1.here hx rfl (hb hby d2_8) ?_
    show Steps p.tables e below (T1.setTop (mkF m 9 #[.val (.int (0 : Int32)), .val (.int ua), .val (.int ub), .unset] [(.int (0 : Int32)), (.ref b1), (.ref b1)])) _
    refine st2 _ ?_
    show Steps p.tables e below (T2.setTop (mkF m 11 #[.val (.int (0 : Int32)), .val (.int ua), .val (.int ub), .unset] [(.ref b2), (.ref b1), (.ref b1)])) _
    refine st3.trans ?_
    show Steps p.tables e below (T3.setTop (mkF m 14 #[.val (.int (0 : Int32)), .val (.int ua), .val (.int ub), .unset] [(.ref b1)])) _
    jvm_step X3.here [X3.here.top, hx, (hb hby d2_14), X3.method', Bd.returns, Value.isRef, FieldType.isReference]
    first | (intro acts; rw [hr _ acts rfl rfl rfl]) | rw [hr _ _ rfl rfl rfl]
    exact Steps.refl _
  · show Q_rmS0 Z ua ub cz h0 n0 _ T3.heap _
    exact ⟨b1, tb_3, tk_3, rfl, N3, K0_3, sz_b1, Q3_0, Q3_1, Q3_2, Q3_3⟩
  · show CHr Z ELs s.vm s.heap T3.vm T3.heap
    rw [hh]
    exact R_3.trans (CHv.at X3 hZ_3 (own_EL hw) R_3.1)
theorem d2_15 : decode method_3_code 15 = .ok (.iload_n 0, 1) := by decide +kernel
theorem d2_16 : decode method_3_code 16 = .ok (.iconst 1, 1) := by decide +kernel
theorem d2_17 : decode method_3_code 17 = .ok (.if_icmp .ne 20, 3) := by decide +kernel
theorem d2_20 : decode method_3_code 20 = .ok (.iconst 1, 1) := by decide +kernel
theorem d2_21 : decode method_3_code 21 = .ok (.newarray .char, 2) := by decide +kernel
theorem d2_23 : decode method_3_code 23 = .ok (.astore_n 3, 1) := by decide +kernel
theorem d2_24 : decode method_3_code 24 = .ok (.aload_n 3, 1) := by decide +kernel
theorem d2_25 : decode method_3_code 25 = .ok (.iconst 0, 1) := by decide +kernel
theorem d2_26 : decode method_3_code 26 = .ok (.iload_n 1, 1) := by decide +kernel
theorem d2_27 : decode method_3_code 27 = .ok (.castore, 1) := by decide +kernel
theorem d2_28 : decode method_3_code 28 = .ok (.new 7, 3) := by decide +kernel
theorem d2_31 : decode method_3_code 31 = .ok (.dup, 1) := by decide +kernel
theorem d2_32 : decode method_3_code 32 = .ok (.aload_n 3, 1) := by decide +kernel
theorem d2_33 : decode method_3_code 33 = .ok (.invokespecial 9, 3) := by decide +kernel
theorem d2_36 : decode method_3_code 36 = .ok (.areturn, 1) := by decide +kernel
def Q_rmS1 (Z : State) (ua : Int32) (ub : Int32) (cz : Int32) (h0 : Heap) (n0 : Nat) (v : Option Value) (h : Heap) (L : List Loc) : Prop := ∃ t : Addr, ∃ tb : Jvm.Addr, ∃ tk : ClassId, v = some (.ref t) ∧ Fr n0 L ∧ Keep h0 h [] ∧ h0.size ≤ t ∧ Exa Z h t "java/lang/String" ∧ Fld Z h t "java/lang/String" "coder" "B" (.int (0 : Int32)) ∧ Fld Z h t "java/lang/String" "value" "[B" (.ref tb) ∧ Arv Z h tb tk .byte (1 : Int32) [(.int ua.toInt8.toInt32)] (.int (0 : Int32))
theorem ef_rmS1 (m : MethodId) (ua : Int32) (ub : Int32) : entryFrame m #[(.int (1 : Int32)), (.int ua), (.int ub)] 4 = mkF m 0 #[.val (.int (1 : Int32)), .val (.int ua), .val (.int ub), .unset] [] := by first | (simp [entryFrame, mkF, argsToLocals, Value.category]; done) | rfl
set_option maxRecDepth 65536 in
set_option maxHeartbeats 40000000 in
theorem rmS1 (l : Launch) (Z : State) (a0 : Array Value) (hw : ∀ d ∈ tables_1, d.before a0 Z = true) (ws : List Jvm.Cond) (ua : Int32) (ub : Int32) (cz : Int32) (h0 : Heap) (n0 : Nat) (X00 : Old Z n0 h0) (S_COMPACT_STRINGS : Sta Z Z.heap "java/lang/String" "COMPACT_STRINGS" "Z" (.int cz)) (hu : CharOK ua) (hv : CharOK ub) (hcz : ¬ cz = 0) :
    MetFree l (⟨"com/example/abox_to_sql/aboxtosql/AddedAssertionEqualsPinLaw", "str", "(ICC)Ljava/lang/String;"⟩ : MethodName) (head1 (Jvm.Cond.code (⟨"com/example/abox_to_sql/aboxtosql/AddedAssertionEqualsPinLaw", "str", "(ICC)Ljava/lang/String;"⟩ : MethodName) method_3_code 4 (some (.object "java/lang/String")) :: ws) ({ frames := 6, cells := 6, slots := 16, locals := 140 } : Room)) (fun aa U => aa = #[(.int (1 : Int32)), (.int ua), (.int ub)] ∧ Z.Warmed39 U.vm ∧ U.heap = h0 ∧ CHv Z ELs U.vm h0) (fun _ _ _ _ _ => True) (fun _ U o U' => ∃ v L, o = .returned v ∧ Q_rmS1 Z ua ub cz h0 n0 v U'.heap L ∧ CHr Z ELs U.vm U.heap U'.vm U'.heap ∧ ReturnedEndW U o U' L ({ frames := 6, cells := 6, slots := 16, locals := 140 } : Room).cells ({ frames := 6, cells := 6, slots := 16, locals := 140 } : Room).slots) := by
  refine MetFree.of_bodySF (plainFor_of_name pn_com_example_abox_to_sql_aboxtosql_AddedAssertionEqualsPinLaw) hisR ?_
  intro p e s m args below meth c s₁ Bd hml0 hP hK
  obtain ⟨rfl, hZq, hh, hC0⟩ := hP
  have hx := Bd.exec
  have hby := Bd.bytes
  have hml : c.maxLocals = 4 := hml0
  have hown : s.vm.findClass "com/example/abox_to_sql/aboxtosql/AddedAssertionEqualsPinLaw" = some m.cls := findClass_of_methodNamed Bd.named
  have hnm := (name_of_methodNamed Bd.named Bd.method).1
  have X0 : Stand p l e ({ frames := 6, cells := 6, slots := 16, locals := 140 } : Room) (s.setVm s.vm) m #[(.int (1 : Int32)), (.int ua), (.int ub)] below meth c s₁ [] 0 0 := Stand.of_body Bd
  have e0 : s₁.heap = h0 := by rw [← hh, Bd.state]; rfl
  have N0 := Fr.nil n0
  have Z0 : n0 ≤ h0.size := own_z0 X00
  have pre0 : ∀ t, Steps p.tables e below (s₁.setTop (mkF m 0 #[.val (.int (1 : Int32)), .val (.int ua), .val (.int ub), .unset] [])) t → Steps p.tables e below (s₁.setTop (entryFrame m #[(.int (1 : Int32)), (.int ua), (.int ub)] 4)) t := fun t k => castTop (ef_rmS1 m ua ub) k
  have hZ_0 : Z.Warmed39 (s.setVm s.vm).vm := hZq
  have hown_0 : (s.setVm s.vm).vm.findClass "com/example/abox_to_sql/aboxtosql/AddedAssertionEqualsPinLaw" = some m.cls := hown
  have hS_0 : s.Since s.vm 0 := (State.WarmedH.refl s).since 0
  have hk_0 : 0 ≤ h0.size := Nat.zero_le _
  have R_0 : CHr Z ELs s.vm h0 s.vm h0 := CHr.refl hC0
  obtain ⟨T1, h1, kA1, X1, e1, E1, A1, st1⟩ := newP X0 hx hZ_0 (hw _ (List.mem_of_getElem? (i := 7) rfl)) e0 (g := (mkF m 21 #[.val (.int (1 : Int32)), .val (.int ua), .val (.int ub), .unset] [(.int (1 : Int32))])) rfl (hb hby d2_21) rfl (by decide) (cap := 1) (by decide) (by decide) (by decide) (by decide)
  obtain ⟨b1, gb1⟩ : ∃ z, z = h0.size := ⟨_, rfl⟩
  rw [← gb1] at A1 st1
  have g_b1 : n0 ≤ b1 := Nat.le_trans (own_z0 X00) (Nat.le_of_eq gb1.symm)
  have sz_b1 : h0.size ≤ b1 := Nat.le_trans (Nat.le_refl _) (Nat.le_of_eq gb1.symm)
  have Rs1 : CHr Z ELs s.vm h0 s.vm h1 := CHr.ext E1 R_0.1
  have R_1 : CHr Z ELs s.vm h0 s.vm h1 := R_0.trans Rs1
  have hk_1 := Nat.le_trans hk_0 Rs1.2.1
  have X00__1 := X00.ext E1
  have K0_1 : Keep h0 h1 [] := (Keep.refl h0 []).ext E1
  have V_b1 : Arv Z h1 b1 kA1 .char (1 : Int32) [(.int (0 : Int32))] (.int (0 : Int32)) := (Arv.new A1 (by decide)).pad (pad_rep [] (.int (0 : Int32)) 1)
  obtain ⟨cl2, Ar2, q2, S2, NN2, HH2, G2⟩ := id V_b1
  have hin2 : ¬ ((0 : Int32) < 0 ∨ cl2.slots.size ≤ ((0 : Int32)).toNatClampNeg) := inb_of S2 ⟨by decide, by decide⟩
  obtain ⟨T2, h2, X2, e2, W2, st2⟩ := stC X1 hx hZ_0 e1 Ar2 (j := (0 : Int32)) hin2 (g := (mkF m 27 #[.val (.int (1 : Int32)), .val (.int ua), .val (.int ub), .val (.ref b1)] [(.int ua), (.int (0 : Int32)), (.ref b1)])) rfl rfl (hb hby d2_27)
  have Sw2 : Safe Z ELs s.vm h1 b1 := (own_safe_arv hZ_0.alike V_b1 nofun)
  have Rs2 : CHr Z ELs s.vm h1 s.vm h2 := CHr.wr W2 Sw2 R_1.1
  have Sf_b1_2 := Safe.wr W2 Sw2 R_1.1 Sw2
  have R_2 : CHr Z ELs s.vm h0 s.vm h2 := R_1.trans Rs2
  have hk_2 := Nat.le_trans hk_1 Rs2.2.1
  have X00__2 := X00__1.wr W2 g_b1
  have K0_2 : Keep h0 h2 [] := K0_1.wr W2 (Or.inr sz_b1)
  have N2 := Fr.snoc X2 N0 g_b1
  have V_b1__2 : Arv Z h2 b1 kA1 .char (1 : Int32) [(.int (nar .char ua))] (.int (0 : Int32)) := Arv.set Ar2 q2 S2 NN2 HH2 G2 (fits_nar_char _) W2 0 rfl (Nat.le_of_ble_eq_true rfl)
  rw [show nar .char ua = ua from hu.1] at V_b1__2
  obtain ⟨T3, h3, X3, e3, E3, A3, D3, -, st3⟩ := newO X2 hx hZ_0 hown_0 (hw _ (List.mem_of_getElem? (i := 8) rfl)) (hw _ (List.mem_of_getElem? (i := 9) rfl)) (hw _ (List.mem_of_getElem? (i := 10) rfl)) e2 (g := (mkF m 28 #[.val (.int (1 : Int32)), .val (.int ua), .val (.int ub), .val (.ref b1)] [])) rfl (hb hby d2_28) (by decide) (by decide)
  obtain ⟨b3, gb3⟩ : ∃ z, z = h2.size := ⟨_, rfl⟩
  rw [← gb3] at A3 D3 st3
  have ne_b1_b3 : b1 ≠ b3 := Nat.ne_of_lt (Nat.lt_of_lt_of_le V_b1__2.lt (Nat.le_of_eq gb3.symm))
  have g_b3 : n0 ≤ b3 := Nat.le_trans (own_z0 X00__2) (Nat.le_of_eq gb3.symm)
  have sz_b3 : h0.size ≤ b3 := Nat.le_trans K0_2.1 (Nat.le_of_eq gb3.symm)
  have Rs3 : CHr Z ELs s.vm h2 s.vm h3 := CHr.ext E3 R_2.1
  have Sf_b1_3 := Safe.ext E3 R_2.1 Sf_b1_2
  have R_3 : CHr Z ELs s.vm h0 s.vm h3 := R_2.trans Rs3
  have hk_3 := Nat.le_trans hk_2 Rs3.2.1
  have V_b1__3 := V_b1__2.ext E3
  have X00__3 := X00__2.ext E3
  have K0_3 : Keep h0 h3 [] := K0_2.ext E3
  have F_b3_coder : Fld Z h3 b3 "java/lang/String" "coder" "B" (.int (0 : Int32)) := D3 (Or.inr (hw _ (List.mem_of_getElem? (i := 34) rfl))) (ty := .byte) (by decide)
  have F_b3_value : Fld Z h3 b3 "java/lang/String" "value" "[B" .null := D3 (Or.inr (hw _ (List.mem_of_getElem? (i := 36) rfl))) (ty := (.array .byte)) (by decide)
  obtain ⟨_, _, ⟨T4, L4, k4, n4⟩, -, X4, ⟨Lc4, hQ4, l4, y4, z4⟩, st4⟩ := X3.specialBack hx (y := (⟨"java/lang/String", "<init>", "([C)V"⟩ : MethodName)) rfl hown_0 (mvT hZ_0 (hw _ (List.mem_of_getElem? (i := 11) rfl))) (mvT hZ_0 (hw _ (List.mem_of_getElem? (i := 12) rfl))) (mvT hZ_0 (hw _ (List.mem_of_getElem? (i := 13) rfl))) (by decide) (StrChars.Road.backV (W := 1) hZ_0 (fun d hd => hw d (own_wn d hd)) (hw _ (List.mem_of_getElem? (i := 9) rfl)) g_b3 (own_z0 X00__3) A3 F_b3_value F_b3_coder (cs := [ua]) V_b1__3 (S_COMPACT_STRINGS.ext X00__3.2) hcz (n := 1) rfl rfl (by decide) (by decide) (own_m1 hu) rfl (by decide) (by decide)) (g := (mkF m 33 #[.val (.int (1 : Int32)), .val (.int ua), .val (.int ub), .val (.ref b1)] [(.ref b1), (.ref b3), (.ref b3)])) rfl (by rw [hml]; rfl) (Steps.refl _) (a := b3) (argsL := [(.ref b1)]) (rest := [(.ref b3)]) (lenOf pd___C_V rfl) rfl (by show 2 * 0 + _ ≤ _; exact Nat.le_of_eq rfl) (hb hby d2_33) (fun _ _ => ⟨rfl, e3, (by decide : 2 + 1 ≤ _), (by decide : 5 + 1 ≤ _)⟩)
  dsimp only [Pt.U, Pt.locs, Pt.cells, Pt.slots] at X4 l4 y4 z4 st4 hQ4
  subst l4 y4 z4
  obtain ⟨rfl, N4q, K4, Q4_0, Q4_1, tb_4, tk_4, -, hsz_tb_4, -, Q4_2, Q4_3⟩ := hQ4
  have ne_b1_tb_4 : b1 ≠ tb_4 := Nat.ne_of_lt (Nat.lt_of_lt_of_le V_b1__3.lt hsz_tb_4)
  have ne_b3_tb_4 : b3 ≠ tb_4 := Nat.ne_of_lt (Nat.lt_of_lt_of_le A3.lt hsz_tb_4)
  have g_tb_4 : n0 ≤ tb_4 := Nat.le_trans (own_z0 X00__3) hsz_tb_4
  have sz_tb_4 : h0.size ≤ tb_4 := Nat.le_trans K0_3.1 hsz_tb_4
  have Rs4 : CHr Z ELs s.vm h3 s.vm T4.heap := CHr.keep K4 (allS (P := fun x => Safe Z ELs s.vm h3 x) (own_safe_null hZ_0.alike A3 F_b3_value) all0) R_3.1
  have R_4 : CHr Z ELs s.vm h0 s.vm T4.heap := R_3.trans Rs4
  have hk_4 := Nat.le_trans hk_3 Rs4.2.1
  have V_b1__4 := V_b1__3.keep K4 (ninS ne_b1_b3 nin0)
  have A3__4 := A3.keep K4
  have X00__4 := X00__3.keep K4 (allS (P := fun x => n0 ≤ x) g_b3 all0)
  have K0_4 : Keep h0 T4.heap [] := K0_3.trans K4 (allS (P := fun x => x ∈ [] ∨ h0.size ≤ x) (Or.inr sz_b3) all0)
  have N4 := Fr.app N2 N4q
  obtain ⟨fs, hr, hrun, hended, hEnd⟩ := X4.leaveW hS_0 (own_hk rfl hk_4) (v := some (.ref b3)) (fun h => by rw [Bd.returns] at h; cases h)
  refine ⟨_, _, pre0 _ ?_, hrun, hended, _, _, rfl, ?_, ?_, own_rew_mono hEnd (by decide) (by decide)⟩
  · show Steps p.tables e below (s₁.setTop (mkF m 0 #[.val (.int (1 : Int32)), .val (.int ua), .val (.int ub), .unset] [])) _
    refine XS.iloadN X0.here hx rfl (hb hby d2_0) rfl ?_
    show Steps p.tables e below (s₁.setTop (mkF m 1 #[.val (.int (1 : Int32)), .val (.int ua), .val (.int ub), .unset] [(.int (1 : Int32))])) _
    refine XS.ifYes X0.here hx rfl (pc0 := 1) (pc' := 15) rfl (hb hby d2_1) rfl ((if0 _ _).trans (feq (by decide : ¬ ((1 : Int32) = (0 : Int32)))).2) (by decide) (by decide) ?_
    show Steps p.tables e below (s₁.setTop (mkF m 15 #[.val (.int (1 : Int32)), .val (.int ua), .val (.int ub), .unset] [])) _
    refine XS.iloadN X0.here hx rfl (hb hby d2_15) rfl ?_
    show Steps p.tables e below (s₁.setTop (mkF m 16 #[.val (.int (1 : Int32)), .val (.int ua), .val (.int ub), .unset] [(.int (1 : Int32))])) _
    refine XS.iconst X0.here hx rfl (hb hby d2_16) ?_
    show Steps p.tables e below (s₁.setTop (mkF m 17 #[.val (.int (1 : Int32)), .val (.int ua), .val (.int ub), .unset] [(.int (1 : Int32)), (.int (1 : Int32))])) _
    refine XS.icmpNo X0.here hx rfl (hb hby d2_17) rfl (teq (rfl : (1 : Int32) = (1 : Int32))).2 ?_
    show Steps p.tables e below (s₁.setTop (mkF m 20 #[.val (.int (1 : Int32)), .val (.int ua), .val (.int ub), .unset] [])) _
    refine XS.iconst X0.here hx rfl (hb hby d2_20) ?_
    show Steps p.tables e below (s₁.setTop (mkF m 21 #[.val (.int (1 : Int32)), .val (.int ua), .val (.int ub), .unset] [(.int (1 : Int32))])) _
    refine st1 _ ?_
    show Steps p.tables e below (T1.setTop (mkF m 23 #[.val (.int (1 : Int32)), .val (.int ua), .val (.int ub), .unset] [(.ref b1)])) _
    refine XS.astoreN X1.here hx rfl (hb hby d2_23) rfl rfl (l' := #[.val (.int (1 : Int32)), .val (.int ua), .val (.int ub), .val (.ref b1)]) rfl ?_
    show Steps p.tables e below (T1.setTop (mkF m 24 #[.val (.int (1 : Int32)), .val (.int ua), .val (.int ub), .val (.ref b1)] [])) _
    refine XS.aloadN X1.here hx rfl (hb hby d2_24) rfl rfl ?_
    show Steps p.tables e below (T1.setTop (mkF m 25 #[.val (.int (1 : Int32)), .val (.int ua), .val (.int ub), .val (.ref b1)] [(.ref b1)])) _
    refine XS.iconst X1.here hx rfl (hb hby d2_25) ?_
    show Steps p.tables e below (T1.setTop (mkF m 26 #[.val (.int (1 : Int32)), .val (.int ua), .val (.int ub), .val (.ref b1)] [(.int (0 : Int32)), (.ref b1)])) _
    refine XS.iloadN X1.here hx rfl (hb hby d2_26) rfl ?_
    show Steps p.tables e below (T1.setTop (mkF m 27 #[.val (.int (1 : Int32)), .val (.int ua), .val (.int ub), .val (.ref b1)] [(.int ua), (.int (0 : Int32)), (.ref b1)])) _
    refine st2 _ ?_
    show Steps p.tables e below (T2.setTop (mkF m 28 #[.val (.int (1 : Int32)), .val (.int ua), .val (.int ub), .val (.ref b1)] [])) _
    refine st3 _ ?_
    show Steps p.tables e below (T3.setTop (mkF m 31 #[.val (.int (1 : Int32)), .val (.int ua), .val (.int ub), .val (.ref b1)] [(.ref b3)])) _
    refine XS.dup X3.here hx rfl (hb hby d2_31) rfl rfl ?_
    show Steps p.tables e below (T3.setTop (mkF m 32 #[.val (.int (1 : Int32)), .val (.int ua), .val (.int ub), .val (.ref b1)] [(.ref b3), (.ref b3)])) _
    refine XS.aloadN X3.here hx rfl (hb hby d2_32) rfl rfl ?_
    show Steps p.tables e below (T3.setTop (mkF m 33 #[.val (.int (1 : Int32)), .val (.int ua), .val (.int ub), .val (.ref b1)] [(.ref b1), (.ref b3), (.ref b3)])) _
    refine st4.trans ?_
    show Steps p.tables e below (T4.setTop (mkF m 36 #[.val (.int (1 : Int32)), .val (.int ua), .val (.int ub), .val (.ref b1)] [(.ref b3)])) _
    jvm_step X4.here [X4.here.top, hx, (hb hby d2_36), X4.method', Bd.returns, Value.isRef, FieldType.isReference]
    first | (intro acts; rw [hr _ acts rfl rfl rfl]) | rw [hr _ _ rfl rfl rfl]
    exact Steps.refl _
  · show Q_rmS1 Z ua ub cz h0 n0 _ T4.heap _
    exact ⟨b3, tb_4, tk_4, rfl, N4, K0_4, sz_b3, Q4_0, Q4_1, Q4_2, Q4_3⟩
  · show CHr Z ELs s.vm s.heap T4.vm T4.heap
    rw [hh]
    exact R_4.trans (CHv.at X4 hZ_0 (own_EL hw) R_4.1)
theorem d2_37 : decode method_3_code 37 = .ok (.iconst 2, 1) := by decide +kernel
theorem d2_38 : decode method_3_code 38 = .ok (.newarray .char, 2) := by decide +kernel
theorem d2_40 : decode method_3_code 40 = .ok (.astore_n 3, 1) := by decide +kernel
theorem d2_41 : decode method_3_code 41 = .ok (.aload_n 3, 1) := by decide +kernel
theorem d2_42 : decode method_3_code 42 = .ok (.iconst 0, 1) := by decide +kernel
theorem d2_43 : decode method_3_code 43 = .ok (.iload_n 1, 1) := by decide +kernel
theorem d2_44 : decode method_3_code 44 = .ok (.castore, 1) := by decide +kernel
theorem d2_45 : decode method_3_code 45 = .ok (.aload_n 3, 1) := by decide +kernel
theorem d2_46 : decode method_3_code 46 = .ok (.iconst 1, 1) := by decide +kernel
theorem d2_47 : decode method_3_code 47 = .ok (.iload_n 2, 1) := by decide +kernel
theorem d2_48 : decode method_3_code 48 = .ok (.castore, 1) := by decide +kernel
theorem d2_49 : decode method_3_code 49 = .ok (.new 7, 3) := by decide +kernel
theorem d2_52 : decode method_3_code 52 = .ok (.dup, 1) := by decide +kernel
theorem d2_53 : decode method_3_code 53 = .ok (.aload_n 3, 1) := by decide +kernel
theorem d2_54 : decode method_3_code 54 = .ok (.invokespecial 9, 3) := by decide +kernel
theorem d2_57 : decode method_3_code 57 = .ok (.areturn, 1) := by decide +kernel
def Q_rmS2 (Z : State) (ua : Int32) (ub : Int32) (cz : Int32) (h0 : Heap) (n0 : Nat) (v : Option Value) (h : Heap) (L : List Loc) : Prop := ∃ t : Addr, ∃ tb : Jvm.Addr, ∃ tk : ClassId, v = some (.ref t) ∧ Fr n0 L ∧ Keep h0 h [] ∧ h0.size ≤ t ∧ Exa Z h t "java/lang/String" ∧ Fld Z h t "java/lang/String" "coder" "B" (.int (0 : Int32)) ∧ Fld Z h t "java/lang/String" "value" "[B" (.ref tb) ∧ Arv Z h tb tk .byte (2 : Int32) [(.int ua.toInt8.toInt32), (.int ub.toInt8.toInt32)] (.int (0 : Int32))
theorem ef_rmS2 (m : MethodId) (ua : Int32) (ub : Int32) : entryFrame m #[(.int (2 : Int32)), (.int ua), (.int ub)] 4 = mkF m 0 #[.val (.int (2 : Int32)), .val (.int ua), .val (.int ub), .unset] [] := by first | (simp [entryFrame, mkF, argsToLocals, Value.category]; done) | rfl
set_option maxRecDepth 65536 in
set_option maxHeartbeats 40000000 in
theorem rmS2 (l : Launch) (Z : State) (a0 : Array Value) (hw : ∀ d ∈ tables_1, d.before a0 Z = true) (ws : List Jvm.Cond) (ua : Int32) (ub : Int32) (cz : Int32) (h0 : Heap) (n0 : Nat) (X00 : Old Z n0 h0) (S_COMPACT_STRINGS : Sta Z Z.heap "java/lang/String" "COMPACT_STRINGS" "Z" (.int cz)) (hu : CharOK ua) (hv : CharOK ub) (hcz : ¬ cz = 0) :
    MetFree l (⟨"com/example/abox_to_sql/aboxtosql/AddedAssertionEqualsPinLaw", "str", "(ICC)Ljava/lang/String;"⟩ : MethodName) (head1 (Jvm.Cond.code (⟨"com/example/abox_to_sql/aboxtosql/AddedAssertionEqualsPinLaw", "str", "(ICC)Ljava/lang/String;"⟩ : MethodName) method_3_code 4 (some (.object "java/lang/String")) :: ws) ({ frames := 6, cells := 6, slots := 16, locals := 140 } : Room)) (fun aa U => aa = #[(.int (2 : Int32)), (.int ua), (.int ub)] ∧ Z.Warmed39 U.vm ∧ U.heap = h0 ∧ CHv Z ELs U.vm h0) (fun _ _ _ _ _ => True) (fun _ U o U' => ∃ v L, o = .returned v ∧ Q_rmS2 Z ua ub cz h0 n0 v U'.heap L ∧ CHr Z ELs U.vm U.heap U'.vm U'.heap ∧ ReturnedEndW U o U' L ({ frames := 6, cells := 6, slots := 16, locals := 140 } : Room).cells ({ frames := 6, cells := 6, slots := 16, locals := 140 } : Room).slots) := by
  refine MetFree.of_bodySF (plainFor_of_name pn_com_example_abox_to_sql_aboxtosql_AddedAssertionEqualsPinLaw) hisR ?_
  intro p e s m args below meth c s₁ Bd hml0 hP hK
  obtain ⟨rfl, hZq, hh, hC0⟩ := hP
  have hx := Bd.exec
  have hby := Bd.bytes
  have hml : c.maxLocals = 4 := hml0
  have hown : s.vm.findClass "com/example/abox_to_sql/aboxtosql/AddedAssertionEqualsPinLaw" = some m.cls := findClass_of_methodNamed Bd.named
  have hnm := (name_of_methodNamed Bd.named Bd.method).1
  have X0 : Stand p l e ({ frames := 6, cells := 6, slots := 16, locals := 140 } : Room) (s.setVm s.vm) m #[(.int (2 : Int32)), (.int ua), (.int ub)] below meth c s₁ [] 0 0 := Stand.of_body Bd
  have e0 : s₁.heap = h0 := by rw [← hh, Bd.state]; rfl
  have N0 := Fr.nil n0
  have Z0 : n0 ≤ h0.size := own_z0 X00
  have pre0 : ∀ t, Steps p.tables e below (s₁.setTop (mkF m 0 #[.val (.int (2 : Int32)), .val (.int ua), .val (.int ub), .unset] [])) t → Steps p.tables e below (s₁.setTop (entryFrame m #[(.int (2 : Int32)), (.int ua), (.int ub)] 4)) t := fun t k => castTop (ef_rmS2 m ua ub) k
  have hZ_0 : Z.Warmed39 (s.setVm s.vm).vm := hZq
  have hown_0 : (s.setVm s.vm).vm.findClass "com/example/abox_to_sql/aboxtosql/AddedAssertionEqualsPinLaw" = some m.cls := hown
  have hS_0 : s.Since s.vm 0 := (State.WarmedH.refl s).since 0
  have hk_0 : 0 ≤ h0.size := Nat.zero_le _
  have R_0 : CHr Z ELs s.vm h0 s.vm h0 := CHr.refl hC0
  obtain ⟨T1, h1, kA1, X1, e1, E1, A1, st1⟩ := newP X0 hx hZ_0 (hw _ (List.mem_of_getElem? (i := 7) rfl)) e0 (g := (mkF m 38 #[.val (.int (2 : Int32)), .val (.int ua), .val (.int ub), .unset] [(.int (2 : Int32))])) rfl (hb hby d2_38) rfl (by decide) (cap := 2) (by decide) (by decide) (by decide) (by decide)
  obtain ⟨b1, gb1⟩ : ∃ z, z = h0.size := ⟨_, rfl⟩
  rw [← gb1] at A1 st1
  have g_b1 : n0 ≤ b1 := Nat.le_trans (own_z0 X00) (Nat.le_of_eq gb1.symm)
  have sz_b1 : h0.size ≤ b1 := Nat.le_trans (Nat.le_refl _) (Nat.le_of_eq gb1.symm)
  have Rs1 : CHr Z ELs s.vm h0 s.vm h1 := CHr.ext E1 R_0.1
  have R_1 : CHr Z ELs s.vm h0 s.vm h1 := R_0.trans Rs1
  have hk_1 := Nat.le_trans hk_0 Rs1.2.1
  have X00__1 := X00.ext E1
  have K0_1 : Keep h0 h1 [] := (Keep.refl h0 []).ext E1
  have V_b1 : Arv Z h1 b1 kA1 .char (2 : Int32) [(.int (0 : Int32)), (.int (0 : Int32))] (.int (0 : Int32)) := (Arv.new A1 (by decide)).pad (pad_rep [] (.int (0 : Int32)) 2)
  obtain ⟨cl2, Ar2, q2, S2, NN2, HH2, G2⟩ := id V_b1
  have hin2 : ¬ ((0 : Int32) < 0 ∨ cl2.slots.size ≤ ((0 : Int32)).toNatClampNeg) := inb_of S2 ⟨by decide, by decide⟩
  obtain ⟨T2, h2, X2, e2, W2, st2⟩ := stC X1 hx hZ_0 e1 Ar2 (j := (0 : Int32)) hin2 (g := (mkF m 44 #[.val (.int (2 : Int32)), .val (.int ua), .val (.int ub), .val (.ref b1)] [(.int ua), (.int (0 : Int32)), (.ref b1)])) rfl rfl (hb hby d2_44)
  have Sw2 : Safe Z ELs s.vm h1 b1 := (own_safe_arv hZ_0.alike V_b1 nofun)
  have Rs2 : CHr Z ELs s.vm h1 s.vm h2 := CHr.wr W2 Sw2 R_1.1
  have Sf_b1_2 := Safe.wr W2 Sw2 R_1.1 Sw2
  have R_2 : CHr Z ELs s.vm h0 s.vm h2 := R_1.trans Rs2
  have hk_2 := Nat.le_trans hk_1 Rs2.2.1
  have X00__2 := X00__1.wr W2 g_b1
  have K0_2 : Keep h0 h2 [] := K0_1.wr W2 (Or.inr sz_b1)
  have N2 := Fr.snoc X2 N0 g_b1
  have V_b1__2 : Arv Z h2 b1 kA1 .char (2 : Int32) [(.int (nar .char ua)), (.int (0 : Int32))] (.int (0 : Int32)) := Arv.set Ar2 q2 S2 NN2 HH2 G2 (fits_nar_char _) W2 0 rfl (Nat.le_of_ble_eq_true rfl)
  rw [show nar .char ua = ua from hu.1] at V_b1__2
  obtain ⟨cl3, Ar3, q3, S3, NN3, HH3, G3⟩ := id V_b1__2
  have hin3 : ¬ ((1 : Int32) < 0 ∨ cl3.slots.size ≤ ((1 : Int32)).toNatClampNeg) := inb_of S3 ⟨by decide, by decide⟩
  obtain ⟨T3, h3, X3, e3, W3, st3⟩ := stC X2 hx hZ_0 e2 Ar3 (j := (1 : Int32)) hin3 (g := (mkF m 48 #[.val (.int (2 : Int32)), .val (.int ua), .val (.int ub), .val (.ref b1)] [(.int ub), (.int (1 : Int32)), (.ref b1)])) rfl rfl (hb hby d2_48)
  have Sw3 : Safe Z ELs s.vm h2 b1 := Sf_b1_2
  have Rs3 : CHr Z ELs s.vm h2 s.vm h3 := CHr.wr W3 Sw3 R_2.1
  have Sf_b1_3 := Safe.wr W3 Sw3 R_2.1 Sw3
  have R_3 : CHr Z ELs s.vm h0 s.vm h3 := R_2.trans Rs3
  have hk_3 := Nat.le_trans hk_2 Rs3.2.1
  have X00__3 := X00__2.wr W3 g_b1
  have K0_3 : Keep h0 h3 [] := K0_2.wr W3 (Or.inr sz_b1)
  have N3 := Fr.snoc X3 N2 g_b1
  have V_b1__3 : Arv Z h3 b1 kA1 .char (2 : Int32) [(.int ua), (.int (nar .char ub))] (.int (0 : Int32)) := Arv.set Ar3 q3 S3 NN3 HH3 G3 (fits_nar_char _) W3 1 rfl (Nat.le_of_ble_eq_true rfl)
  rw [show nar .char ub = ub from hv.1] at V_b1__3
  obtain ⟨T4, h4, X4, e4, E4, A4, D4, -, st4⟩ := newO X3 hx hZ_0 hown_0 (hw _ (List.mem_of_getElem? (i := 8) rfl)) (hw _ (List.mem_of_getElem? (i := 9) rfl)) (hw _ (List.mem_of_getElem? (i := 10) rfl)) e3 (g := (mkF m 49 #[.val (.int (2 : Int32)), .val (.int ua), .val (.int ub), .val (.ref b1)] [])) rfl (hb hby d2_49) (by decide) (by decide)
  obtain ⟨b4, gb4⟩ : ∃ z, z = h3.size := ⟨_, rfl⟩
  rw [← gb4] at A4 D4 st4
  have ne_b1_b4 : b1 ≠ b4 := Nat.ne_of_lt (Nat.lt_of_lt_of_le V_b1__3.lt (Nat.le_of_eq gb4.symm))
  have g_b4 : n0 ≤ b4 := Nat.le_trans (own_z0 X00__3) (Nat.le_of_eq gb4.symm)
  have sz_b4 : h0.size ≤ b4 := Nat.le_trans K0_3.1 (Nat.le_of_eq gb4.symm)
  have Rs4 : CHr Z ELs s.vm h3 s.vm h4 := CHr.ext E4 R_3.1
  have Sf_b1_4 := Safe.ext E4 R_3.1 Sf_b1_3
  have R_4 : CHr Z ELs s.vm h0 s.vm h4 := R_3.trans Rs4
  have hk_4 := Nat.le_trans hk_3 Rs4.2.1
  have V_b1__4 := V_b1__3.ext E4
  have X00__4 := X00__3.ext E4
  have K0_4 : Keep h0 h4 [] := K0_3.ext E4
  have F_b4_coder : Fld Z h4 b4 "java/lang/String" "coder" "B" (.int (0 : Int32)) := D4 (Or.inr (hw _ (List.mem_of_getElem? (i := 34) rfl))) (ty := .byte) (by decide)
  have F_b4_value : Fld Z h4 b4 "java/lang/String" "value" "[B" .null := D4 (Or.inr (hw _ (List.mem_of_getElem? (i := 36) rfl))) (ty := (.array .byte)) (by decide)
  obtain ⟨_, _, ⟨T5, L5, k5, n5⟩, -, X5, ⟨Lc5, hQ5, l5, y5, z5⟩, st5⟩ := X4.specialBack hx (y := (⟨"java/lang/String", "<init>", "([C)V"⟩ : MethodName)) rfl hown_0 (mvT hZ_0 (hw _ (List.mem_of_getElem? (i := 11) rfl))) (mvT hZ_0 (hw _ (List.mem_of_getElem? (i := 12) rfl))) (mvT hZ_0 (hw _ (List.mem_of_getElem? (i := 13) rfl))) (by decide) (StrChars.Road.backV (W := 1) hZ_0 (fun d hd => hw d (own_wn d hd)) (hw _ (List.mem_of_getElem? (i := 9) rfl)) g_b4 (own_z0 X00__4) A4 F_b4_value F_b4_coder (cs := [ua, ub]) V_b1__4 (S_COMPACT_STRINGS.ext X00__4.2) hcz (n := 2) rfl rfl (by decide) (by decide) (own_m2 hu hv) rfl (by decide) (by decide)) (g := (mkF m 54 #[.val (.int (2 : Int32)), .val (.int ua), .val (.int ub), .val (.ref b1)] [(.ref b1), (.ref b4), (.ref b4)])) rfl (by rw [hml]; rfl) (Steps.refl _) (a := b4) (argsL := [(.ref b1)]) (rest := [(.ref b4)]) (lenOf pd___C_V rfl) rfl (by show 2 * 0 + _ ≤ _; exact Nat.le_of_eq rfl) (hb hby d2_54) (fun _ _ => ⟨rfl, e4, (by decide : 2 + 1 ≤ _), (by decide : 6 + 2 ≤ _)⟩)
  dsimp only [Pt.U, Pt.locs, Pt.cells, Pt.slots] at X5 l5 y5 z5 st5 hQ5
  subst l5 y5 z5
  obtain ⟨rfl, N5q, K5, Q5_0, Q5_1, tb_5, tk_5, -, hsz_tb_5, -, Q5_2, Q5_3⟩ := hQ5
  have ne_b1_tb_5 : b1 ≠ tb_5 := Nat.ne_of_lt (Nat.lt_of_lt_of_le V_b1__4.lt hsz_tb_5)
  have ne_b4_tb_5 : b4 ≠ tb_5 := Nat.ne_of_lt (Nat.lt_of_lt_of_le A4.lt hsz_tb_5)
  have g_tb_5 : n0 ≤ tb_5 := Nat.le_trans (own_z0 X00__4) hsz_tb_5
  have sz_tb_5 : h0.size ≤ tb_5 := Nat.le_trans K0_4.1 hsz_tb_5
  have Rs5 : CHr Z ELs s.vm h4 s.vm T5.heap := CHr.keep K5 (allS (P := fun x => Safe Z ELs s.vm h4 x) (own_safe_null hZ_0.alike A4 F_b4_value) all0) R_4.1
  have R_5 : CHr Z ELs s.vm h0 s.vm T5.heap := R_4.trans Rs5
  have hk_5 := Nat.le_trans hk_4 Rs5.2.1
  have V_b1__5 := V_b1__4.keep K5 (ninS ne_b1_b4 nin0)
  have A4__5 := A4.keep K5
  have X00__5 := X00__4.keep K5 (allS (P := fun x => n0 ≤ x) g_b4 all0)
  have K0_5 : Keep h0 T5.heap [] := K0_4.trans K5 (allS (P := fun x => x ∈ [] ∨ h0.size ≤ x) (Or.inr sz_b4) all0)
  have N5 := Fr.app N3 N5q
  obtain ⟨fs, hr, hrun, hended, hEnd⟩ := X5.leaveW hS_0 (own_hk rfl hk_5) (v := some (.ref b4)) (fun h => by rw [Bd.returns] at h; cases h)
  refine ⟨_, _, pre0 _ ?_, hrun, hended, _, _, rfl, ?_, ?_, own_rew_mono hEnd (by decide) (by decide)⟩
  · show Steps p.tables e below (s₁.setTop (mkF m 0 #[.val (.int (2 : Int32)), .val (.int ua), .val (.int ub), .unset] [])) _
    refine XS.iloadN X0.here hx rfl (hb hby d2_0) rfl ?_
    show Steps p.tables e below (s₁.setTop (mkF m 1 #[.val (.int (2 : Int32)), .val (.int ua), .val (.int ub), .unset] [(.int (2 : Int32))])) _
    refine XS.ifYes X0.here hx rfl (pc0 := 1) (pc' := 15) rfl (hb hby d2_1) rfl ((if0 _ _).trans (feq (by decide : ¬ ((2 : Int32) = (0 : Int32)))).2) (by decide) (by decide) ?_
    show Steps p.tables e below (s₁.setTop (mkF m 15 #[.val (.int (2 : Int32)), .val (.int ua), .val (.int ub), .unset] [])) _
    refine XS.iloadN X0.here hx rfl (hb hby d2_15) rfl ?_
    show Steps p.tables e below (s₁.setTop (mkF m 16 #[.val (.int (2 : Int32)), .val (.int ua), .val (.int ub), .unset] [(.int (2 : Int32))])) _
    refine XS.iconst X0.here hx rfl (hb hby d2_16) ?_
    show Steps p.tables e below (s₁.setTop (mkF m 17 #[.val (.int (2 : Int32)), .val (.int ua), .val (.int ub), .unset] [(.int (1 : Int32)), (.int (2 : Int32))])) _
    refine XS.icmpYes X0.here hx rfl (pc0 := 17) (pc' := 37) rfl (hb hby d2_17) rfl (feq (by decide : ¬ ((2 : Int32) = (1 : Int32)))).2 (by decide) (by decide) ?_
    show Steps p.tables e below (s₁.setTop (mkF m 37 #[.val (.int (2 : Int32)), .val (.int ua), .val (.int ub), .unset] [])) _
    refine XS.iconst X0.here hx rfl (hb hby d2_37) ?_
    show Steps p.tables e below (s₁.setTop (mkF m 38 #[.val (.int (2 : Int32)), .val (.int ua), .val (.int ub), .unset] [(.int (2 : Int32))])) _
    refine st1 _ ?_
    show Steps p.tables e below (T1.setTop (mkF m 40 #[.val (.int (2 : Int32)), .val (.int ua), .val (.int ub), .unset] [(.ref b1)])) _
    refine XS.astoreN X1.here hx rfl (hb hby d2_40) rfl rfl (l' := #[.val (.int (2 : Int32)), .val (.int ua), .val (.int ub), .val (.ref b1)]) rfl ?_
    show Steps p.tables e below (T1.setTop (mkF m 41 #[.val (.int (2 : Int32)), .val (.int ua), .val (.int ub), .val (.ref b1)] [])) _
    refine XS.aloadN X1.here hx rfl (hb hby d2_41) rfl rfl ?_
    show Steps p.tables e below (T1.setTop (mkF m 42 #[.val (.int (2 : Int32)), .val (.int ua), .val (.int ub), .val (.ref b1)] [(.ref b1)])) _
    refine XS.iconst X1.here hx rfl (hb hby d2_42) ?_
    show Steps p.tables e below (T1.setTop (mkF m 43 #[.val (.int (2 : Int32)), .val (.int ua), .val (.int ub), .val (.ref b1)] [(.int (0 : Int32)), (.ref b1)])) _
    refine XS.iloadN X1.here hx rfl (hb hby d2_43) rfl ?_
    show Steps p.tables e below (T1.setTop (mkF m 44 #[.val (.int (2 : Int32)), .val (.int ua), .val (.int ub), .val (.ref b1)] [(.int ua), (.int (0 : Int32)), (.ref b1)])) _
    refine st2 _ ?_
    show Steps p.tables e below (T2.setTop (mkF m 45 #[.val (.int (2 : Int32)), .val (.int ua), .val (.int ub), .val (.ref b1)] [])) _
    refine XS.aloadN X2.here hx rfl (hb hby d2_45) rfl rfl ?_
    show Steps p.tables e below (T2.setTop (mkF m 46 #[.val (.int (2 : Int32)), .val (.int ua), .val (.int ub), .val (.ref b1)] [(.ref b1)])) _
    refine XS.iconst X2.here hx rfl (hb hby d2_46) ?_
    show Steps p.tables e below (T2.setTop (mkF m 47 #[.val (.int (2 : Int32)), .val (.int ua), .val (.int ub), .val (.ref b1)] [(.int (1 : Int32)), (.ref b1)])) _
    refine XS.iloadN X2.here hx rfl (hb hby d2_47) rfl ?_
    show Steps p.tables e below (T2.setTop (mkF m 48 #[.val (.int (2 : Int32)), .val (.int ua), .val (.int ub), .val (.ref b1)] [(.int ub), (.int (1 : Int32)), (.ref b1)])) _
    refine st3 _ ?_
    show Steps p.tables e below (T3.setTop (mkF m 49 #[.val (.int (2 : Int32)), .val (.int ua), .val (.int ub), .val (.ref b1)] [])) _
    refine st4 _ ?_
    show Steps p.tables e below (T4.setTop (mkF m 52 #[.val (.int (2 : Int32)), .val (.int ua), .val (.int ub), .val (.ref b1)] [(.ref b4)])) _
    refine XS.dup X4.here hx rfl (hb hby d2_52) rfl rfl ?_
    show Steps p.tables e below (T4.setTop (mkF m 53 #[.val (.int (2 : Int32)), .val (.int ua), .val (.int ub), .val (.ref b1)] [(.ref b4), (.ref b4)])) _
    refine XS.aloadN X4.here hx rfl (hb hby d2_53) rfl rfl ?_
    show Steps p.tables e below (T4.setTop (mkF m 54 #[.val (.int (2 : Int32)), .val (.int ua), .val (.int ub), .val (.ref b1)] [(.ref b1), (.ref b4), (.ref b4)])) _
    refine st5.trans ?_
    show Steps p.tables e below (T5.setTop (mkF m 57 #[.val (.int (2 : Int32)), .val (.int ua), .val (.int ub), .val (.ref b1)] [(.ref b4)])) _
    jvm_step X5.here [X5.here.top, hx, (hb hby d2_57), X5.method', Bd.returns, Value.isRef, FieldType.isReference]
    first | (intro acts; rw [hr _ acts rfl rfl rfl]) | rw [hr _ _ rfl rfl rfl]
    exact Steps.refl _
  · show Q_rmS2 Z ua ub cz h0 n0 _ T5.heap _
    exact ⟨b4, tb_5, tk_5, rfl, N5, K0_5, sz_b4, Q5_0, Q5_1, Q5_2, Q5_3⟩
  · show CHr Z ELs s.vm s.heap T5.vm T5.heap
    rw [hh]
    exact R_5.trans (CHv.at X5 hZ_0 (own_EL hw) R_5.1)
def Q_rmStr (Z : State) (nn ua ub cz : Int32) (h0 : Heap) (n0 : Nat) (v : Option Value) (h : Heap) (L : List Loc) : Prop := ∃ t : Addr, ∃ tb : Jvm.Addr, ∃ tk : ClassId, v = some (.ref t) ∧ Fr n0 L ∧ Keep h0 h [] ∧ h0.size ≤ t ∧ Exa Z h t "java/lang/String" ∧ Fld Z h t "java/lang/String" "coder" "B" (.int (0 : Int32)) ∧ Fld Z h t "java/lang/String" "value" "[B" (.ref tb) ∧ Arv Z h tb tk .byte (Int32.ofNat (chars nn ua ub).length) (bys (chars nn ua ub)) (.int (0 : Int32))
theorem chars_0 (ua ub : Int32) : chars 0 ua ub = [] := by simp [chars]
theorem chars_1 (ua ub : Int32) : chars 1 ua ub = [ua] := by simp [chars]
theorem chars_2 (ua ub : Int32) : chars 2 ua ub = [ua, ub] := by simp [chars]
theorem rmStr (l : Launch) (Z : State) (a0 : Array Value) (hw : ∀ d ∈ tables_1, d.before a0 Z = true) (ws : List Jvm.Cond) (nn : Int32) (ua : Int32) (ub : Int32) (cz : Int32) (h0 : Heap) (n0 : Nat) (X00 : Old Z n0 h0) (S_COMPACT_STRINGS : Sta Z Z.heap "java/lang/String" "COMPACT_STRINGS" "Z" (.int cz)) (hn : nn = 0 ∨ nn = 1 ∨ nn = 2) (hu : CharOK ua) (hv : CharOK ub) (hcz : ¬ cz = 0) :
    MetFree l (⟨"com/example/abox_to_sql/aboxtosql/AddedAssertionEqualsPinLaw", "str", "(ICC)Ljava/lang/String;"⟩ : MethodName) (head1 (Jvm.Cond.code (⟨"com/example/abox_to_sql/aboxtosql/AddedAssertionEqualsPinLaw", "str", "(ICC)Ljava/lang/String;"⟩ : MethodName) method_3_code 4 (some (.object "java/lang/String")) :: ws) ({ frames := 6, cells := 6, slots := 16, locals := 140 } : Room)) (fun aa U => aa = #[(.int nn), (.int ua), (.int ub)] ∧ Z.Warmed39 U.vm ∧ U.heap = h0 ∧ CHv Z ELs U.vm h0) (fun _ _ _ _ _ => True) (fun _ U o U' => ∃ v L, o = .returned v ∧ Q_rmStr Z nn ua ub cz h0 n0 v U'.heap L ∧ CHr Z ELs U.vm U.heap U'.vm U'.heap ∧ ReturnedEndW U o U' L ({ frames := 6, cells := 6, slots := 16, locals := 140 } : Room).cells ({ frames := 6, cells := 6, slots := 16, locals := 140 } : Room).slots) := by
  rcases hn with rfl | rfl | rfl
  · refine (rmS0 l Z a0 hw ws ua ub cz h0 n0 X00 S_COMPACT_STRINGS hu hv hcz).mono (fun _ _ h => h) (fun _ _ _ _ _ h => h) ?_
    rintro _ _ _ _ _ ⟨v, L, h1, ⟨t, tb, tk, r1, r2, r3, r4, r5, r6, r7, r8⟩, h3⟩
    refine ⟨v, L, h1, ⟨t, tb, tk, r1, r2, r3, r4, r5, r6, r7, ?_⟩, h3⟩
    rw [chars_0]; exact r8
  · refine (rmS1 l Z a0 hw ws ua ub cz h0 n0 X00 S_COMPACT_STRINGS hu hv hcz).mono (fun _ _ h => h) (fun _ _ _ _ _ h => h) ?_
    rintro _ _ _ _ _ ⟨v, L, h1, ⟨t, tb, tk, r1, r2, r3, r4, r5, r6, r7, r8⟩, h3⟩
    refine ⟨v, L, h1, ⟨t, tb, tk, r1, r2, r3, r4, r5, r6, r7, ?_⟩, h3⟩
    rw [chars_1]; exact r8
  · refine (rmS2 l Z a0 hw ws ua ub cz h0 n0 X00 S_COMPACT_STRINGS hu hv hcz).mono (fun _ _ h => h) (fun _ _ _ _ _ h => h) ?_
    rintro _ _ _ _ _ ⟨v, L, h1, ⟨t, tb, tk, r1, r2, r3, r4, r5, r6, r7, r8⟩, h3⟩
    refine ⟨v, L, h1, ⟨t, tb, tk, r1, r2, r3, r4, r5, r6, r7, ?_⟩, h3⟩
    rw [chars_2]; exact r8
def Q_rmLen (Z : State) (x : Int32) (h0 : Heap) (n0 : Nat) (v : Option Value) (h : Heap) (L : List Loc) : Prop := v = some (.int (lenv x)) ∧ Fr n0 L ∧ h = h0
theorem rmLen (l : Launch) (Z : State) (a0 : Array Value) (hw : ∀ d ∈ tables_1, d.before a0 Z = true) (ws : List Jvm.Cond) (x : Int32) (h0 : Heap) (n0 : Nat) (Z0 : n0 ≤ h0.size) :
    MetFree l (⟨"com/example/abox_to_sql/aboxtosql/AddedAssertionEqualsPinLaw", "len", "(I)I"⟩ : MethodName) (head1 (Jvm.Cond.code (⟨"com/example/abox_to_sql/aboxtosql/AddedAssertionEqualsPinLaw", "len", "(I)I"⟩ : MethodName) method_2_code 1 (some .int) :: ws) ({ frames := 0, cells := 0, slots := 0, locals := 0 } : Room)) (fun aa U => aa = #[(.int x)] ∧ Z.Warmed39 U.vm ∧ U.heap = h0) (fun _ _ _ _ _ => True) (fun _ U o U' => ∃ v L, o = .returned v ∧ Q_rmLen Z x h0 n0 v U'.heap L ∧ FrameEnd U o U' L ({ frames := 0, cells := 0, slots := 0, locals := 0 } : Room).cells ({ frames := 0, cells := 0, slots := 0, locals := 0 } : Room).slots) := by
  by_cases hx3 : x = 3
  · refine (rmLa l Z a0 hw ws x h0 n0 Z0 hx3).mono (fun _ _ h => h) (fun _ _ _ _ _ h => h) ?_
    rintro _ _ _ _ _ ⟨v, L, h1, ⟨r1, r2⟩, h3⟩
    exact ⟨v, L, h1, ⟨by rw [r1]; simp [lenv, hx3], r2⟩, h3⟩
  · refine (rmLb l Z a0 hw ws x h0 n0 Z0 hx3).mono (fun _ _ h => h) (fun _ _ _ _ _ h => h) ?_
    rintro _ _ _ _ _ ⟨v, L, h1, ⟨r1, r2⟩, h3⟩
    exact ⟨v, L, h1, ⟨by rw [r1]; simp [lenv, hx3], r2⟩, h3⟩
theorem d9_0 : decode prog_2_method_1_code 0 = .ok (.aload_n 0, 1) := by decide +kernel
theorem d9_1 : decode prog_2_method_1_code 1 = .ok (.invokespecial 1, 3) := by decide +kernel
theorem d9_4 : decode prog_2_method_1_code 4 = .ok (.aload_n 0, 1) := by decide +kernel
theorem d9_5 : decode prog_2_method_1_code 5 = .ok (.aload_n 1, 1) := by decide +kernel
theorem d9_6 : decode prog_2_method_1_code 6 = .ok (.ldc 7, 2) := by decide +kernel
theorem d9_8 : decode prog_2_method_1_code 8 = .ok (.invokestatic 9, 3) := by decide +kernel
theorem pd__Ljava_lang_Object_Ljava_lang_String__Ljava_lang_Object_ : parseMethodDescriptor "(Ljava/lang/Object;Ljava/lang/String;)Ljava/lang/Object;" = some ⟨[(.object "java/lang/Object"), (.object "java/lang/String")], some (.object "java/lang/Object")⟩ := by decide +kernel
theorem d9_11 : decode prog_2_method_1_code 11 = .ok (.checkcast 15, 3) := by decide +kernel
theorem d9_14 : decode prog_2_method_1_code 14 = .ok (.putfield 17, 3) := by decide +kernel
theorem d9_17 : decode prog_2_method_1_code 17 = .ok (.aload_n 0, 1) := by decide +kernel
theorem d9_18 : decode prog_2_method_1_code 18 = .ok (.iload_n 2, 1) := by decide +kernel
theorem d9_19 : decode prog_2_method_1_code 19 = .ok (.putfield 22, 3) := by decide +kernel
theorem d9_22 : decode prog_2_method_1_code 22 = .ok (.aload_n 0, 1) := by decide +kernel
theorem d9_23 : decode prog_2_method_1_code 23 = .ok (.iload_n 3, 1) := by decide +kernel
theorem d9_24 : decode prog_2_method_1_code 24 = .ok (.putfield 26, 3) := by decide +kernel
theorem d9_27 : decode prog_2_method_1_code 27 = .ok (.return_, 1) := by decide +kernel
theorem pn_com_example_abox_to_sql_aboxtosql_AddedAssertion : plainName "com/example/abox_to_sql/aboxtosql/AddedAssertion" = true := by first | (simp [plainName, overriddenIn]; done) | decide +kernel
def Q_rmA (Z : State) (a : Addr) (ta : Addr) (ra : Int32) (sa : Int32) (h0 : Heap) (n0 : Nat) (v : Option Value) (h : Heap) (L : List Loc) : Prop := v = none ∧ Fr n0 L ∧ Keep h0 h [a] ∧ Exa Z h a "com/example/abox_to_sql/aboxtosql/AddedAssertion" ∧ Fld Z h a "com/example/abox_to_sql/aboxtosql/AddedAssertion" "assertion" "Ljava/lang/String;" (.ref ta) ∧ Fld Z h a "com/example/abox_to_sql/aboxtosql/AddedAssertion" "factsRead" "I" (.int ra) ∧ Fld Z h a "com/example/abox_to_sql/aboxtosql/AddedAssertion" "factsStored" "I" (.int sa)
theorem ef_rmA (m : MethodId) (a : Addr) (ta : Addr) (ra : Int32) (sa : Int32) : entryFrame m #[(.ref a), (.ref ta), (.int ra), (.int sa)] 4 = mkF m 0 #[.val (.ref a), .val (.ref ta), .val (.int ra), .val (.int sa)] [] := by first | (simp [entryFrame, mkF, argsToLocals, Value.category]; done) | rfl
set_option maxRecDepth 65536 in
set_option maxHeartbeats 40000000 in
theorem rmA (l : Launch) (Z : State) (a0 : Array Value) (hw : ∀ d ∈ tables_1, d.before a0 Z = true) (ws : List Jvm.Cond) (a : Addr) (ta : Addr) (ra : Int32) (sa : Int32) (h0 : Heap) (n0 : Nat) (X00 : Old Z n0 h0) (E_a : Exa Z h0 a "com/example/abox_to_sql/aboxtosql/AddedAssertion") (F_a_assertion : Fld Z h0 a "com/example/abox_to_sql/aboxtosql/AddedAssertion" "assertion" "Ljava/lang/String;" .null) (F_a_factsRead : Fld Z h0 a "com/example/abox_to_sql/aboxtosql/AddedAssertion" "factsRead" "I" (.int (0 : Int32))) (F_a_factsStored : Fld Z h0 a "com/example/abox_to_sql/aboxtosql/AddedAssertion" "factsStored" "I" (.int (0 : Int32))) (E_ta : Exa Z h0 ta "java/lang/String") (g_a : n0 ≤ a) :
    MetFree l (⟨"com/example/abox_to_sql/aboxtosql/AddedAssertion", "<init>", "(Ljava/lang/String;II)V"⟩ : MethodName) (head1 (Jvm.Cond.code (⟨"com/example/abox_to_sql/aboxtosql/AddedAssertion", "<init>", "(Ljava/lang/String;II)V"⟩ : MethodName) prog_2_method_1_code 4 none :: ws) ({ frames := 1, cells := 2, slots := 40, locals := 14 } : Room)) (fun aa U => aa = #[(.ref a), (.ref ta), (.int ra), (.int sa)] ∧ Z.Warmed39 U.vm ∧ U.heap = h0 ∧ CHv Z ELs U.vm h0) (fun _ _ _ _ _ => True) (fun _ U o U' => ∃ v L, o = .returned v ∧ Q_rmA Z a ta ra sa h0 n0 v U'.heap L ∧ CHr Z ELs U.vm U.heap U'.vm U'.heap ∧ ReturnedEndW U o U' L ({ frames := 1, cells := 2, slots := 40, locals := 14 } : Room).cells ({ frames := 1, cells := 2, slots := 40, locals := 14 } : Room).slots) := by
  refine MetFree.of_bodySF (plainFor_of_name pn_com_example_abox_to_sql_aboxtosql_AddedAssertion) hisR ?_
  intro p e s m args below meth c s₁ Bd hml0 hP hK
  obtain ⟨rfl, hZq, hh, hC0⟩ := hP
  have hx := Bd.exec
  have hby := Bd.bytes
  have hml : c.maxLocals = 4 := hml0
  have hown : s.vm.findClass "com/example/abox_to_sql/aboxtosql/AddedAssertion" = some m.cls := findClass_of_methodNamed Bd.named
  have hnm := (name_of_methodNamed Bd.named Bd.method).1
  have X0 : Stand p l e ({ frames := 1, cells := 2, slots := 40, locals := 14 } : Room) (s.setVm s.vm) m #[(.ref a), (.ref ta), (.int ra), (.int sa)] below meth c s₁ [] 0 0 := Stand.of_body Bd
  have e0 : s₁.heap = h0 := by rw [← hh, Bd.state]; rfl
  have N0 := Fr.nil n0
  have Z0 : n0 ≤ h0.size := own_z0 X00
  have pre0 : ∀ t, Steps p.tables e below (s₁.setTop (mkF m 0 #[.val (.ref a), .val (.ref ta), .val (.int ra), .val (.int sa)] [])) t → Steps p.tables e below (s₁.setTop (entryFrame m #[(.ref a), (.ref ta), (.int ra), (.int sa)] 4)) t := fun t k => castTop (ef_rmA m a ta ra sa) k
  have hZ_0 : Z.Warmed39 (s.setVm s.vm).vm := hZq
  have hown_0 : (s.setVm s.vm).vm.findClass "com/example/abox_to_sql/aboxtosql/AddedAssertion" = some m.cls := hown
  have hS_0 : s.Since s.vm 0 := (State.WarmedH.refl s).since 0
  have hk_0 : 0 ≤ h0.size := Nat.zero_le _
  have R_0 : CHr Z ELs s.vm h0 s.vm h0 := CHr.refl hC0
  obtain ⟨T1, X1, e1, st1⟩ := initO X0 hx hZ_0 hown_0 (hw _ (List.mem_of_getElem? (i := 46) rfl)) (hw _ (List.mem_of_getElem? (i := 19) rfl)) (hw _ (List.mem_of_getElem? (i := 20) rfl)) e0 (g := (mkF m 1 #[.val (.ref a), .val (.ref ta), .val (.int ra), .val (.int sa)] [(.ref a)])) rfl (by rw [hml]; rfl) rfl (hb hby d9_1) (by decide) (W := 0) (by show 2 * 0 + _ ≤ _; exact Nat.le_of_eq rfl) (by decide)
  obtain ⟨la2, T2, h2, kk2, X2, e2, E2, hS_2, hk_2, hZ_2, hown_2, Rs2, -, st2⟩ := ldcOH X1 hx hZ_0 hown_0 (hw _ (List.mem_of_getElem? (i := 47) rfl)) (own_wS hw) e1 hS_0 hk_0 (own_EL hw) R_0.1 (g := (mkF m 6 #[.val (.ref a), .val (.ref ta), .val (.int ra), .val (.int sa)] [(.ref ta), (.ref a)])) rfl (hb hby d9_6) (n := 36) (by decide) (by decide) (by decide) (by decide)
  have R_2 : CHr Z ELs s.vm h0 T2.vm h2 := R_0.trans Rs2
  have E_a__2 := E_a.ext E2
  have F_a_assertion__2 := F_a_assertion.ext E2
  have F_a_factsRead__2 := F_a_factsRead.ext E2
  have F_a_factsStored__2 := F_a_factsStored.ext E2
  have E_ta__2 := E_ta.ext E2
  have X00__2 := X00.ext E2
  have K0_2 : Keep h0 h2 [a] := (Keep.refl h0 [a]).ext E2
  obtain ⟨_, _, ⟨T3, L3, k3, n3⟩, -, X3, ⟨Lc3, hQ3, l3, y3, z3⟩, st3⟩ := Jvm.LawKit.callS X2 hx (y := (⟨"java/util/Objects", "requireNonNull", "(Ljava/lang/Object;Ljava/lang/String;)Ljava/lang/Object;"⟩ : MethodName)) hown_2 (mvT hZ_2 (hw _ (List.mem_of_getElem? (i := 48) rfl))) (mvT hZ_2 (hw _ (List.mem_of_getElem? (i := 49) rfl))) (mvT hZ_2 (hw _ (List.mem_of_getElem? (i := 50) rfl))) (mvT hZ_2 (hw _ (List.mem_of_getElem? (i := 51) rfl))) (by decide) (backOf (W := 1) (rmN l Z a0 hw [] ta la2 h2 n0 (own_z0 X00__2)) hZ_2 (hw _ (List.mem_of_getElem? (i := 51) rfl)) (hw _ (List.mem_of_getElem? (i := 50) rfl)) (by decide) (by decide)) (g := (mkF m 8 #[.val (.ref a), .val (.ref ta), .val (.int ra), .val (.int sa)] [(.ref la2), (.ref ta), (.ref a)])) rfl (by rw [hml]; rfl) (argsL := [(.ref ta), (.ref la2)]) (rest := [(.ref a)]) (lenOf pd__Ljava_lang_Object_Ljava_lang_String__Ljava_lang_Object_ rfl) rfl (by show 2 * 0 + _ ≤ _; exact Nat.le_of_eq rfl) (hb hby d9_8) (fun _ _ => ⟨rfl, e2, (by decide : 2 + 0 ≤ _), (by decide : 40 + 0 ≤ _)⟩)
  dsimp only [Pt.U, Pt.locs, Pt.cells, Pt.slots] at X3 l3 y3 z3 st3 hQ3
  subst l3 y3 z3
  obtain ⟨rfl, N3q, e3⟩ := hQ3
  have N3 := Fr.app N0 N3q
  obtain ⟨T4, X4, e4, st4⟩ := castY X3 hx hZ_2 hown_2 (hw _ (List.mem_of_getElem? (i := 52) rfl)) e3 (Ins.self E_ta__2) (g := (mkF m 11 #[.val (.ref a), .val (.ref ta), .val (.int ra), .val (.int sa)] [(.ref ta), (.ref a)])) rfl rfl (hb hby d9_11)
  obtain ⟨T5, h5, X5, e5, W5, st5⟩ := putF X4 hx hZ_2 hown_2 (host := "") (Or.inl (hw _ (List.mem_of_getElem? (i := 53) rfl))) Via.refl e4 F_a_assertion__2 E_a__2 (Or.inr ⟨(hw _ (List.mem_of_getElem? (i := 54) rfl)), rfl, hnm⟩) (hw _ (List.mem_of_getElem? (i := 41) rfl)) (ty := (.object "java/lang/String")) (by decide) rfl rfl (g := (mkF m 14 #[.val (.ref a), .val (.ref ta), .val (.int ra), .val (.int sa)] [(.ref ta), (.ref a)])) rfl rfl (hb hby d9_14)
  have Sw5 : Safe Z ELs T2.vm h2 a := (Safe.exa hZ_2.alike E_a__2 (by decide) (by decide))
  have Rs5 : CHr Z ELs T2.vm h2 T2.vm h5 := CHr.wr W5 Sw5 R_2.1
  have Sf_a_5 := Safe.wr W5 Sw5 R_2.1 Sw5
  have R_5 : CHr Z ELs s.vm h0 T2.vm h5 := R_2.trans Rs5
  have hk_5 := Nat.le_trans hk_2 Rs5.2.1
  have E_a__5 := E_a__2.wr W5
  have F_a_assertion__5 := F_a_assertion__2.same W5
  have F_a_factsRead__5 := F_a_factsRead__2.other W5 (Or.inr (slot_ne (Or.inr (hw _ (List.mem_of_getElem? (i := 56) rfl))) (Or.inr (hw _ (List.mem_of_getElem? (i := 54) rfl))) (by decide) (t := .int) (t' := (.object "java/lang/String")) (by decide) (by decide)))
  have F_a_factsStored__5 := F_a_factsStored__2.other W5 (Or.inr (slot_ne (Or.inr (hw _ (List.mem_of_getElem? (i := 58) rfl))) (Or.inr (hw _ (List.mem_of_getElem? (i := 54) rfl))) (by decide) (t := .int) (t' := (.object "java/lang/String")) (by decide) (by decide)))
  have E_ta__5 := E_ta__2.wr W5
  have X00__5 := X00__2.wr W5 g_a
  have K0_5 : Keep h0 h5 [a] := K0_2.wr W5 (Or.inl (List.mem_of_getElem? (i := 0) rfl))
  have N5 := Fr.snoc X5 N3 g_a
  obtain ⟨T6, h6, X6, e6, W6, st6⟩ := putF X5 hx hZ_2 hown_2 (host := "") (Or.inl (hw _ (List.mem_of_getElem? (i := 55) rfl))) Via.refl e5 F_a_factsRead__5 E_a__5 (Or.inr ⟨(hw _ (List.mem_of_getElem? (i := 56) rfl)), rfl, hnm⟩) (hw _ (List.mem_of_getElem? (i := 41) rfl)) (ty := .int) (by decide) rfl rfl (g := (mkF m 19 #[.val (.ref a), .val (.ref ta), .val (.int ra), .val (.int sa)] [(.int ra), (.ref a)])) rfl rfl (hb hby d9_19)
  have Sw6 : Safe Z ELs T2.vm h5 a := Sf_a_5
  have Rs6 : CHr Z ELs T2.vm h5 T2.vm h6 := CHr.wr W6 Sw6 R_5.1
  have Sf_a_6 := Safe.wr W6 Sw6 R_5.1 Sw6
  have R_6 : CHr Z ELs s.vm h0 T2.vm h6 := R_5.trans Rs6
  have hk_6 := Nat.le_trans hk_5 Rs6.2.1
  have E_a__6 := E_a__5.wr W6
  have F_a_assertion__6 := F_a_assertion__5.other W6 (Or.inr (slot_ne (Or.inr (hw _ (List.mem_of_getElem? (i := 54) rfl))) (Or.inr (hw _ (List.mem_of_getElem? (i := 56) rfl))) (by decide) (t := (.object "java/lang/String")) (t' := .int) (by decide) (by decide)))
  have F_a_factsRead__6 := F_a_factsRead__5.same W6
  have F_a_factsStored__6 := F_a_factsStored__5.other W6 (Or.inr (slot_ne (Or.inr (hw _ (List.mem_of_getElem? (i := 58) rfl))) (Or.inr (hw _ (List.mem_of_getElem? (i := 56) rfl))) (by decide) (t := .int) (t' := .int) (by decide) (by decide)))
  have E_ta__6 := E_ta__5.wr W6
  have X00__6 := X00__5.wr W6 g_a
  have K0_6 : Keep h0 h6 [a] := K0_5.wr W6 (Or.inl (List.mem_of_getElem? (i := 0) rfl))
  have N6 := Fr.snoc X6 N5 g_a
  obtain ⟨T7, h7, X7, e7, W7, st7⟩ := putF X6 hx hZ_2 hown_2 (host := "") (Or.inl (hw _ (List.mem_of_getElem? (i := 57) rfl))) Via.refl e6 F_a_factsStored__6 E_a__6 (Or.inr ⟨(hw _ (List.mem_of_getElem? (i := 58) rfl)), rfl, hnm⟩) (hw _ (List.mem_of_getElem? (i := 41) rfl)) (ty := .int) (by decide) rfl rfl (g := (mkF m 24 #[.val (.ref a), .val (.ref ta), .val (.int ra), .val (.int sa)] [(.int sa), (.ref a)])) rfl rfl (hb hby d9_24)
  have Sw7 : Safe Z ELs T2.vm h6 a := Sf_a_6
  have Rs7 : CHr Z ELs T2.vm h6 T2.vm h7 := CHr.wr W7 Sw7 R_6.1
  have Sf_a_7 := Safe.wr W7 Sw7 R_6.1 Sw7
  have R_7 : CHr Z ELs s.vm h0 T2.vm h7 := R_6.trans Rs7
  have hk_7 := Nat.le_trans hk_6 Rs7.2.1
  have E_a__7 := E_a__6.wr W7
  have F_a_assertion__7 := F_a_assertion__6.other W7 (Or.inr (slot_ne (Or.inr (hw _ (List.mem_of_getElem? (i := 54) rfl))) (Or.inr (hw _ (List.mem_of_getElem? (i := 58) rfl))) (by decide) (t := (.object "java/lang/String")) (t' := .int) (by decide) (by decide)))
  have F_a_factsRead__7 := F_a_factsRead__6.other W7 (Or.inr (slot_ne (Or.inr (hw _ (List.mem_of_getElem? (i := 56) rfl))) (Or.inr (hw _ (List.mem_of_getElem? (i := 58) rfl))) (by decide) (t := .int) (t' := .int) (by decide) (by decide)))
  have F_a_factsStored__7 := F_a_factsStored__6.same W7
  have E_ta__7 := E_ta__6.wr W7
  have X00__7 := X00__6.wr W7 g_a
  have K0_7 : Keep h0 h7 [a] := K0_6.wr W7 (Or.inl (List.mem_of_getElem? (i := 0) rfl))
  have N7 := Fr.snoc X7 N6 g_a
  obtain ⟨fs, hr, hrun, hended, hEnd⟩ := X7.leaveW hS_2 (own_hk e7 hk_7) (v := none) (fun _ => rfl)
  refine ⟨_, _, pre0 _ ?_, hrun, hended, _, _, rfl, ?_, ?_, own_rew_mono hEnd (by decide) (by decide)⟩
  · show Steps p.tables e below (s₁.setTop (mkF m 0 #[.val (.ref a), .val (.ref ta), .val (.int ra), .val (.int sa)] [])) _
    refine XS.aloadN X0.here hx rfl (hb hby d9_0) rfl rfl ?_
    show Steps p.tables e below (s₁.setTop (mkF m 1 #[.val (.ref a), .val (.ref ta), .val (.int ra), .val (.int sa)] [(.ref a)])) _
    refine st1 _ ?_
    show Steps p.tables e below (T1.setTop (mkF m 4 #[.val (.ref a), .val (.ref ta), .val (.int ra), .val (.int sa)] [])) _
    refine XS.aloadN X1.here hx rfl (hb hby d9_4) rfl rfl ?_
    show Steps p.tables e below (T1.setTop (mkF m 5 #[.val (.ref a), .val (.ref ta), .val (.int ra), .val (.int sa)] [(.ref a)])) _
    refine XS.aloadN X1.here hx rfl (hb hby d9_5) rfl rfl ?_
    show Steps p.tables e below (T1.setTop (mkF m 6 #[.val (.ref a), .val (.ref ta), .val (.int ra), .val (.int sa)] [(.ref ta), (.ref a)])) _
    refine st2 _ ?_
    show Steps p.tables e below (T2.setTop (mkF m 8 #[.val (.ref a), .val (.ref ta), .val (.int ra), .val (.int sa)] [(.ref la2), (.ref ta), (.ref a)])) _
    refine st3 _ ?_
    show Steps p.tables e below (T3.setTop (mkF m 11 #[.val (.ref a), .val (.ref ta), .val (.int ra), .val (.int sa)] [(.ref ta), (.ref a)])) _
    refine st4 _ ?_
    show Steps p.tables e below (T4.setTop (mkF m 14 #[.val (.ref a), .val (.ref ta), .val (.int ra), .val (.int sa)] [(.ref ta), (.ref a)])) _
    refine st5 _ ?_
    show Steps p.tables e below (T5.setTop (mkF m 17 #[.val (.ref a), .val (.ref ta), .val (.int ra), .val (.int sa)] [])) _
    refine XS.aloadN X5.here hx rfl (hb hby d9_17) rfl rfl ?_
    show Steps p.tables e below (T5.setTop (mkF m 18 #[.val (.ref a), .val (.ref ta), .val (.int ra), .val (.int sa)] [(.ref a)])) _
    refine XS.iloadN X5.here hx rfl (hb hby d9_18) rfl ?_
    show Steps p.tables e below (T5.setTop (mkF m 19 #[.val (.ref a), .val (.ref ta), .val (.int ra), .val (.int sa)] [(.int ra), (.ref a)])) _
    refine st6 _ ?_
    show Steps p.tables e below (T6.setTop (mkF m 22 #[.val (.ref a), .val (.ref ta), .val (.int ra), .val (.int sa)] [])) _
    refine XS.aloadN X6.here hx rfl (hb hby d9_22) rfl rfl ?_
    show Steps p.tables e below (T6.setTop (mkF m 23 #[.val (.ref a), .val (.ref ta), .val (.int ra), .val (.int sa)] [(.ref a)])) _
    refine XS.iloadN X6.here hx rfl (hb hby d9_23) rfl ?_
    show Steps p.tables e below (T6.setTop (mkF m 24 #[.val (.ref a), .val (.ref ta), .val (.int ra), .val (.int sa)] [(.int sa), (.ref a)])) _
    refine st7 _ ?_
    show Steps p.tables e below (T7.setTop (mkF m 27 #[.val (.ref a), .val (.ref ta), .val (.int ra), .val (.int sa)] [])) _
    exact X7.returnOut hx Bd.returns (hb hby d9_27) hr
  · show Q_rmA Z a ta ra sa h0 n0 _ T7.heap _
    rw [e7]
    exact ⟨rfl, N7, K0_7, E_a__7, F_a_assertion__7, F_a_factsRead__7, F_a_factsStored__7⟩
  · show CHr Z ELs s.vm s.heap T7.vm T7.heap
    rw [hh, e7]
    exact R_7.trans (CHv.at X7 hZ_2 (own_EL hw) R_7.1)
theorem d11_0 : decode prog_2_method_5_code 0 = .ok (.aload_n 1, 1) := by decide +kernel
theorem d11_1 : decode prog_2_method_5_code 1 = .ok (.instanceof 18, 3) := by decide +kernel
theorem d11_4 : decode prog_2_method_5_code 4 = .ok (.ifCond .eq 48, 3) := by decide +kernel
theorem d11_7 : decode prog_2_method_5_code 7 = .ok (.aload_n 1, 1) := by decide +kernel
theorem d11_8 : decode prog_2_method_5_code 8 = .ok (.checkcast 18, 3) := by decide +kernel
theorem d11_11 : decode prog_2_method_5_code 11 = .ok (.astore_n 2, 1) := by decide +kernel
theorem d11_12 : decode prog_2_method_5_code 12 = .ok (.aload_n 0, 1) := by decide +kernel
theorem d11_13 : decode prog_2_method_5_code 13 = .ok (.getfield 17, 3) := by decide +kernel
theorem d11_16 : decode prog_2_method_5_code 16 = .ok (.aload_n 2, 1) := by decide +kernel
theorem d11_17 : decode prog_2_method_5_code 17 = .ok (.getfield 17, 3) := by decide +kernel
theorem d11_20 : decode prog_2_method_5_code 20 = .ok (.invokevirtual 29, 3) := by decide +kernel
theorem pd__Ljava_lang_Object__Z : parseMethodDescriptor "(Ljava/lang/Object;)Z" = some ⟨[(.object "java/lang/Object")], some .boolean⟩ := by decide +kernel
theorem d11_23 : decode prog_2_method_5_code 23 = .ok (.ifCond .eq 29, 3) := by decide +kernel
theorem d11_52 : decode prog_2_method_5_code 52 = .ok (.iconst 0, 1) := by decide +kernel
theorem d11_53 : decode prog_2_method_5_code 53 = .ok (.ireturn, 1) := by decide +kernel
def Q_rmE1 (Z : State) (xx : Addr) (yy : Addr) (ta : Addr) (tb : Addr) (va : Addr) (vb : Addr) (ka : ClassId) (kb : ClassId) (cs : List Int32) (ds : List Int32) (ra : Int32) (rb : Int32) (sa : Int32) (sb : Int32) (cz : Int32) (h0 : Heap) (n0 : Nat) (v : Option Value) (h : Heap) (L : List Loc) : Prop := v = some (.int (0 : Int32)) ∧ Fr n0 L ∧ h = h0
theorem ef_rmE1 (m : MethodId) (xx : Addr) (yy : Addr) : entryFrame m #[(.ref xx), (.ref yy)] 3 = mkF m 0 #[.val (.ref xx), .val (.ref yy), .unset] [] := by first | (simp [entryFrame, mkF, argsToLocals, Value.category]; done) | rfl
set_option maxRecDepth 65536 in
set_option maxHeartbeats 40000000 in
theorem rmE1 (l : Launch) (Z : State) (a0 : Array Value) (hw : ∀ d ∈ tables_1, d.before a0 Z = true) (ws : List Jvm.Cond) (xx : Addr) (yy : Addr) (ta : Addr) (tb : Addr) (va : Addr) (vb : Addr) (ka : ClassId) (kb : ClassId) (cs : List Int32) (ds : List Int32) (ra : Int32) (rb : Int32) (sa : Int32) (sb : Int32) (cz : Int32) (h0 : Heap) (n0 : Nat) (X00 : Old Z n0 h0) (E_xx : Exa Z h0 xx "com/example/abox_to_sql/aboxtosql/AddedAssertion") (F_xx_assertion : Fld Z h0 xx "com/example/abox_to_sql/aboxtosql/AddedAssertion" "assertion" "Ljava/lang/String;" (.ref ta)) (F_xx_factsRead : Fld Z h0 xx "com/example/abox_to_sql/aboxtosql/AddedAssertion" "factsRead" "I" (.int ra)) (F_xx_factsStored : Fld Z h0 xx "com/example/abox_to_sql/aboxtosql/AddedAssertion" "factsStored" "I" (.int sa)) (E_yy : Exa Z h0 yy "com/example/abox_to_sql/aboxtosql/AddedAssertion") (F_yy_assertion : Fld Z h0 yy "com/example/abox_to_sql/aboxtosql/AddedAssertion" "assertion" "Ljava/lang/String;" (.ref tb)) (F_yy_factsRead : Fld Z h0 yy "com/example/abox_to_sql/aboxtosql/AddedAssertion" "factsRead" "I" (.int rb)) (F_yy_factsStored : Fld Z h0 yy "com/example/abox_to_sql/aboxtosql/AddedAssertion" "factsStored" "I" (.int sb)) (E_ta : Exa Z h0 ta "java/lang/String") (F_ta_coder : Fld Z h0 ta "java/lang/String" "coder" "B" (.int (0 : Int32))) (F_ta_value : Fld Z h0 ta "java/lang/String" "value" "[B" (.ref va)) (V_va : Arv Z h0 va ka .byte (Int32.ofNat cs.length) (bys cs) (.int (0 : Int32))) (E_tb : Exa Z h0 tb "java/lang/String") (F_tb_coder : Fld Z h0 tb "java/lang/String" "coder" "B" (.int (0 : Int32))) (F_tb_value : Fld Z h0 tb "java/lang/String" "value" "[B" (.ref vb)) (V_vb : Arv Z h0 vb kb .byte (Int32.ofNat ds.length) (bys ds) (.int (0 : Int32))) (S_COMPACT_STRINGS : Sta Z Z.heap "java/lang/String" "COMPACT_STRINGS" "Z" (.int cz)) (hcs : ∀ c ∈ cs, ¬ c < 0 ∧ ¬ (255 : Int32) < c) (lcs : cs.length ≤ 4000) (hds : ∀ c ∈ ds, ¬ c < 0 ∧ ¬ (255 : Int32) < c) (lds : ds.length ≤ 4000) (hcz : ¬ cz = 0) (heq : ¬ cs = ds) :
    MetFree l (⟨"com/example/abox_to_sql/aboxtosql/AddedAssertion", "equals", "(Ljava/lang/Object;)Z"⟩ : MethodName) (head1 (Jvm.Cond.code (⟨"com/example/abox_to_sql/aboxtosql/AddedAssertion", "equals", "(Ljava/lang/Object;)Z"⟩ : MethodName) prog_2_method_5_code 3 (some .boolean) :: ws) ({ frames := 3, cells := 0, slots := 0, locals := 60 } : Room)) (fun aa U => aa = #[(.ref xx), (.ref yy)] ∧ Z.Warmed39 U.vm ∧ U.heap = h0) (fun _ _ _ _ _ => True) (fun _ U o U' => ∃ v L, o = .returned v ∧ Q_rmE1 Z xx yy ta tb va vb ka kb cs ds ra rb sa sb cz h0 n0 v U'.heap L ∧ FrameEnd U o U' L ({ frames := 3, cells := 0, slots := 0, locals := 60 } : Room).cells ({ frames := 3, cells := 0, slots := 0, locals := 60 } : Room).slots) := by
  refine MetFree.of_bodySF (plainFor_of_name pn_com_example_abox_to_sql_aboxtosql_AddedAssertion) hisR ?_
  intro p e s m args below meth c s₁ Bd hml0 hP hK
  obtain ⟨rfl, hZ, hh⟩ := hP
  have hx := Bd.exec
  have hby := Bd.bytes
  have hml : c.maxLocals = 3 := hml0
  have hown : s.vm.findClass "com/example/abox_to_sql/aboxtosql/AddedAssertion" = some m.cls := findClass_of_methodNamed Bd.named
  have hnm := (name_of_methodNamed Bd.named Bd.method).1
  have X0 : Stand p l e ({ frames := 3, cells := 0, slots := 0, locals := 60 } : Room) s m #[(.ref xx), (.ref yy)] below meth c s₁ [] 0 0 := Stand.of_body Bd
  have e0 : s₁.heap = h0 := by rw [← hh, Bd.state]; rfl
  have N0 := Fr.nil n0
  have Z0 : n0 ≤ h0.size := own_z0 X00
  have pre0 : ∀ t, Steps p.tables e below (s₁.setTop (mkF m 0 #[.val (.ref xx), .val (.ref yy), .unset] [])) t → Steps p.tables e below (s₁.setTop (entryFrame m #[(.ref xx), (.ref yy)] 3)) t := fun t k => castTop (ef_rmE1 m xx yy) k
  obtain ⟨T1, X1, e1, st1⟩ := instY X0 hx hZ hown (hw _ (List.mem_of_getElem? (i := 64) rfl)) e0 (Ins.self E_yy) (g := (mkF m 1 #[.val (.ref xx), .val (.ref yy), .unset] [(.ref yy)])) rfl rfl (hb hby d11_1)
  obtain ⟨T2, X2, e2, st2⟩ := castY X1 hx hZ hown (hw _ (List.mem_of_getElem? (i := 64) rfl)) e1 (Ins.self E_yy) (g := (mkF m 8 #[.val (.ref xx), .val (.ref yy), .unset] [(.ref yy)])) rfl rfl (hb hby d11_8)
  obtain ⟨T3, X3, e3, st3⟩ := getF X2 hx hZ hown (host := "") (Or.inl (hw _ (List.mem_of_getElem? (i := 53) rfl))) Via.refl e2 F_xx_assertion (g := (mkF m 13 #[.val (.ref xx), .val (.ref yy), .val (.ref yy)] [(.ref xx)])) rfl rfl (hb hby d11_13)
  obtain ⟨T4, X4, e4, st4⟩ := getF X3 hx hZ hown (host := "") (Or.inl (hw _ (List.mem_of_getElem? (i := 53) rfl))) Via.refl e3 F_yy_assertion (g := (mkF m 17 #[.val (.ref xx), .val (.ref yy), .val (.ref yy)] [(.ref yy), (.ref ta)])) rfl rfl (hb hby d11_17)
  obtain ⟨cq5, kq5, q5a, q5b, q5c⟩ := isOf hZ e4 E_ta
  obtain ⟨_, _, ⟨T5, L5, k5, n5⟩, -, X5, ⟨Lc5, hQ5, l5, y5, z5⟩, st5⟩ := X4.virtualBack hx (y := (⟨"java/lang/String", "equals", "(Ljava/lang/Object;)Z"⟩ : MethodName)) (z := (⟨"java/lang/String", "equals", "(Ljava/lang/Object;)Z"⟩ : MethodName)) hown (mvT hZ (hw _ (List.mem_of_getElem? (i := 66) rfl))) (mvT hZ (hw _ (List.mem_of_getElem? (i := 67) rfl))) (notFace_of_selects (args := #[]) (mvT hZ (hw _ (List.mem_of_getElem? (i := 69) rfl)))) (mvT hZ (hw _ (List.mem_of_getElem? (i := 69) rfl))) (mvT hZ (hw _ (List.mem_of_getElem? (i := 68) rfl))) (by decide) (StrChars.Road.eqW (W := 0) hZ (fun d hd => hw d (own_we d hd)) (hw _ (List.mem_of_getElem? (i := 9) rfl)) E_ta F_ta_value F_ta_coder V_va (own_cod hcs) (own_up hcs) lcs E_tb F_tb_value F_tb_coder V_vb (own_cod hds) (own_up hds) lds (S_COMPACT_STRINGS.ext X00.2) hcz (by decide) (by decide)) q5a q5c (g := (mkF m 20 #[.val (.ref xx), .val (.ref yy), .val (.ref yy)] [(.ref tb), (.ref ta)])) rfl (by rw [hml]; rfl) (Steps.refl _) (argsL := [(.ref tb)]) (rest := []) (lenOf pd__Ljava_lang_Object__Z rfl) rfl (by show 2 * 0 + _ ≤ _; exact Nat.le_of_eq rfl) (hb hby d11_20) (fun _ _ => ⟨rfl, e4, (by decide : 0 + 0 ≤ _), (by decide : 0 + 0 ≤ _)⟩)
  dsimp only [Pt.U, Pt.locs, Pt.cells, Pt.slots] at X5 l5 y5 z5 st5 hQ5
  subst l5 y5 z5
  obtain ⟨hv5, rfl, e5⟩ := hQ5
  obtain rfl := own_eqF hv5 heq
  have N5q := Fr.nil n0
  have N5 := Fr.app N0 N5q
  obtain ⟨fs, hr, hrun, hended, hW, hsame⟩ := X5.leave (v := some (.int (0 : Int32))) (fun h => by rw [Bd.returns] at h; cases h)
  refine ⟨_, _, pre0 _ ?_, hrun, hended, _, _, rfl, ?_, ⟨_, rfl⟩, hW, hsame.mono (by decide) (by decide)⟩
  · show Steps p.tables e below (s₁.setTop (mkF m 0 #[.val (.ref xx), .val (.ref yy), .unset] [])) _
    refine XS.aloadN X0.here hx rfl (hb hby d11_0) rfl rfl ?_
    show Steps p.tables e below (s₁.setTop (mkF m 1 #[.val (.ref xx), .val (.ref yy), .unset] [(.ref yy)])) _
    refine st1 _ ?_
    show Steps p.tables e below (T1.setTop (mkF m 4 #[.val (.ref xx), .val (.ref yy), .unset] [(.int (1 : Int32))])) _
    refine XS.ifNo X1.here hx rfl (hb hby d11_4) rfl ((if0 _ _).trans (feq (by decide : ¬ ((1 : Int32) = (0 : Int32)))).1) ?_
    show Steps p.tables e below (T1.setTop (mkF m 7 #[.val (.ref xx), .val (.ref yy), .unset] [])) _
    refine XS.aloadN X1.here hx rfl (hb hby d11_7) rfl rfl ?_
    show Steps p.tables e below (T1.setTop (mkF m 8 #[.val (.ref xx), .val (.ref yy), .unset] [(.ref yy)])) _
    refine st2 _ ?_
    show Steps p.tables e below (T2.setTop (mkF m 11 #[.val (.ref xx), .val (.ref yy), .unset] [(.ref yy)])) _
    refine XS.astoreN X2.here hx rfl (hb hby d11_11) rfl rfl (l' := #[.val (.ref xx), .val (.ref yy), .val (.ref yy)]) rfl ?_
    show Steps p.tables e below (T2.setTop (mkF m 12 #[.val (.ref xx), .val (.ref yy), .val (.ref yy)] [])) _
    refine XS.aloadN X2.here hx rfl (hb hby d11_12) rfl rfl ?_
    show Steps p.tables e below (T2.setTop (mkF m 13 #[.val (.ref xx), .val (.ref yy), .val (.ref yy)] [(.ref xx)])) _
    refine st3 _ ?_
    show Steps p.tables e below (T3.setTop (mkF m 16 #[.val (.ref xx), .val (.ref yy), .val (.ref yy)] [(.ref ta)])) _
    refine XS.aloadN X3.here hx rfl (hb hby d11_16) rfl rfl ?_
    show Steps p.tables e below (T3.setTop (mkF m 17 #[.val (.ref xx), .val (.ref yy), .val (.ref yy)] [(.ref yy), (.ref ta)])) _
    refine st4 _ ?_
    show Steps p.tables e below (T4.setTop (mkF m 20 #[.val (.ref xx), .val (.ref yy), .val (.ref yy)] [(.ref tb), (.ref ta)])) _
    refine st5.trans ?_
    show Steps p.tables e below (T5.setTop (mkF m 23 #[.val (.ref xx), .val (.ref yy), .val (.ref yy)] [(.int (0 : Int32))])) _
    refine XS.ifYes X5.here hx rfl (pc0 := 23) (pc' := 52) rfl (hb hby d11_23) rfl ((if0 _ _).trans (teq (rfl : (0 : Int32) = (0 : Int32))).1) (by decide) (by decide) ?_
    show Steps p.tables e below (T5.setTop (mkF m 52 #[.val (.ref xx), .val (.ref yy), .val (.ref yy)] [])) _
    refine XS.iconst X5.here hx rfl (hb hby d11_52) ?_
    show Steps p.tables e below (T5.setTop (mkF m 53 #[.val (.ref xx), .val (.ref yy), .val (.ref yy)] [(.int (0 : Int32))])) _
    exact retN X5 hx (t := .boolean) Bd.returns (by simp) (hb hby d11_53) hr
  · show Q_rmE1 Z xx yy ta tb va vb ka kb cs ds ra rb sa sb cz h0 n0 _ T5.heap _
    rw [e5]
    exact ⟨rfl, N5, rfl⟩
theorem d11_26 : decode prog_2_method_5_code 26 = .ok (.aload_n 0, 1) := by decide +kernel
theorem d11_27 : decode prog_2_method_5_code 27 = .ok (.getfield 22, 3) := by decide +kernel
theorem d11_30 : decode prog_2_method_5_code 30 = .ok (.aload_n 2, 1) := by decide +kernel
theorem d11_31 : decode prog_2_method_5_code 31 = .ok (.getfield 22, 3) := by decide +kernel
theorem d11_34 : decode prog_2_method_5_code 34 = .ok (.if_icmp .ne 18, 3) := by decide +kernel
def Q_rmE2 (Z : State) (xx : Addr) (yy : Addr) (ta : Addr) (tb : Addr) (va : Addr) (vb : Addr) (ka : ClassId) (kb : ClassId) (cs : List Int32) (ds : List Int32) (ra : Int32) (rb : Int32) (sa : Int32) (sb : Int32) (cz : Int32) (h0 : Heap) (n0 : Nat) (v : Option Value) (h : Heap) (L : List Loc) : Prop := v = some (.int (0 : Int32)) ∧ Fr n0 L ∧ h = h0
theorem ef_rmE2 (m : MethodId) (xx : Addr) (yy : Addr) : entryFrame m #[(.ref xx), (.ref yy)] 3 = mkF m 0 #[.val (.ref xx), .val (.ref yy), .unset] [] := by first | (simp [entryFrame, mkF, argsToLocals, Value.category]; done) | rfl
set_option maxRecDepth 65536 in
set_option maxHeartbeats 40000000 in
theorem rmE2 (l : Launch) (Z : State) (a0 : Array Value) (hw : ∀ d ∈ tables_1, d.before a0 Z = true) (ws : List Jvm.Cond) (xx : Addr) (yy : Addr) (ta : Addr) (tb : Addr) (va : Addr) (vb : Addr) (ka : ClassId) (kb : ClassId) (cs : List Int32) (ds : List Int32) (ra : Int32) (rb : Int32) (sa : Int32) (sb : Int32) (cz : Int32) (h0 : Heap) (n0 : Nat) (X00 : Old Z n0 h0) (E_xx : Exa Z h0 xx "com/example/abox_to_sql/aboxtosql/AddedAssertion") (F_xx_assertion : Fld Z h0 xx "com/example/abox_to_sql/aboxtosql/AddedAssertion" "assertion" "Ljava/lang/String;" (.ref ta)) (F_xx_factsRead : Fld Z h0 xx "com/example/abox_to_sql/aboxtosql/AddedAssertion" "factsRead" "I" (.int ra)) (F_xx_factsStored : Fld Z h0 xx "com/example/abox_to_sql/aboxtosql/AddedAssertion" "factsStored" "I" (.int sa)) (E_yy : Exa Z h0 yy "com/example/abox_to_sql/aboxtosql/AddedAssertion") (F_yy_assertion : Fld Z h0 yy "com/example/abox_to_sql/aboxtosql/AddedAssertion" "assertion" "Ljava/lang/String;" (.ref tb)) (F_yy_factsRead : Fld Z h0 yy "com/example/abox_to_sql/aboxtosql/AddedAssertion" "factsRead" "I" (.int rb)) (F_yy_factsStored : Fld Z h0 yy "com/example/abox_to_sql/aboxtosql/AddedAssertion" "factsStored" "I" (.int sb)) (E_ta : Exa Z h0 ta "java/lang/String") (F_ta_coder : Fld Z h0 ta "java/lang/String" "coder" "B" (.int (0 : Int32))) (F_ta_value : Fld Z h0 ta "java/lang/String" "value" "[B" (.ref va)) (V_va : Arv Z h0 va ka .byte (Int32.ofNat cs.length) (bys cs) (.int (0 : Int32))) (E_tb : Exa Z h0 tb "java/lang/String") (F_tb_coder : Fld Z h0 tb "java/lang/String" "coder" "B" (.int (0 : Int32))) (F_tb_value : Fld Z h0 tb "java/lang/String" "value" "[B" (.ref vb)) (V_vb : Arv Z h0 vb kb .byte (Int32.ofNat ds.length) (bys ds) (.int (0 : Int32))) (S_COMPACT_STRINGS : Sta Z Z.heap "java/lang/String" "COMPACT_STRINGS" "Z" (.int cz)) (hcs : ∀ c ∈ cs, ¬ c < 0 ∧ ¬ (255 : Int32) < c) (lcs : cs.length ≤ 4000) (hds : ∀ c ∈ ds, ¬ c < 0 ∧ ¬ (255 : Int32) < c) (lds : ds.length ≤ 4000) (hcz : ¬ cz = 0) (heq : cs = ds) (hc34 : ¬ (ra = rb)) :
    MetFree l (⟨"com/example/abox_to_sql/aboxtosql/AddedAssertion", "equals", "(Ljava/lang/Object;)Z"⟩ : MethodName) (head1 (Jvm.Cond.code (⟨"com/example/abox_to_sql/aboxtosql/AddedAssertion", "equals", "(Ljava/lang/Object;)Z"⟩ : MethodName) prog_2_method_5_code 3 (some .boolean) :: ws) ({ frames := 3, cells := 0, slots := 0, locals := 60 } : Room)) (fun aa U => aa = #[(.ref xx), (.ref yy)] ∧ Z.Warmed39 U.vm ∧ U.heap = h0) (fun _ _ _ _ _ => True) (fun _ U o U' => ∃ v L, o = .returned v ∧ Q_rmE2 Z xx yy ta tb va vb ka kb cs ds ra rb sa sb cz h0 n0 v U'.heap L ∧ FrameEnd U o U' L ({ frames := 3, cells := 0, slots := 0, locals := 60 } : Room).cells ({ frames := 3, cells := 0, slots := 0, locals := 60 } : Room).slots) := by
  refine MetFree.of_bodySF (plainFor_of_name pn_com_example_abox_to_sql_aboxtosql_AddedAssertion) hisR ?_
  intro p e s m args below meth c s₁ Bd hml0 hP hK
  obtain ⟨rfl, hZ, hh⟩ := hP
  have hx := Bd.exec
  have hby := Bd.bytes
  have hml : c.maxLocals = 3 := hml0
  have hown : s.vm.findClass "com/example/abox_to_sql/aboxtosql/AddedAssertion" = some m.cls := findClass_of_methodNamed Bd.named
  have hnm := (name_of_methodNamed Bd.named Bd.method).1
  have X0 : Stand p l e ({ frames := 3, cells := 0, slots := 0, locals := 60 } : Room) s m #[(.ref xx), (.ref yy)] below meth c s₁ [] 0 0 := Stand.of_body Bd
  have e0 : s₁.heap = h0 := by rw [← hh, Bd.state]; rfl
  have N0 := Fr.nil n0
  have Z0 : n0 ≤ h0.size := own_z0 X00
  have pre0 : ∀ t, Steps p.tables e below (s₁.setTop (mkF m 0 #[.val (.ref xx), .val (.ref yy), .unset] [])) t → Steps p.tables e below (s₁.setTop (entryFrame m #[(.ref xx), (.ref yy)] 3)) t := fun t k => castTop (ef_rmE2 m xx yy) k
  obtain ⟨T1, X1, e1, st1⟩ := instY X0 hx hZ hown (hw _ (List.mem_of_getElem? (i := 64) rfl)) e0 (Ins.self E_yy) (g := (mkF m 1 #[.val (.ref xx), .val (.ref yy), .unset] [(.ref yy)])) rfl rfl (hb hby d11_1)
  obtain ⟨T2, X2, e2, st2⟩ := castY X1 hx hZ hown (hw _ (List.mem_of_getElem? (i := 64) rfl)) e1 (Ins.self E_yy) (g := (mkF m 8 #[.val (.ref xx), .val (.ref yy), .unset] [(.ref yy)])) rfl rfl (hb hby d11_8)
  obtain ⟨T3, X3, e3, st3⟩ := getF X2 hx hZ hown (host := "") (Or.inl (hw _ (List.mem_of_getElem? (i := 53) rfl))) Via.refl e2 F_xx_assertion (g := (mkF m 13 #[.val (.ref xx), .val (.ref yy), .val (.ref yy)] [(.ref xx)])) rfl rfl (hb hby d11_13)
  obtain ⟨T4, X4, e4, st4⟩ := getF X3 hx hZ hown (host := "") (Or.inl (hw _ (List.mem_of_getElem? (i := 53) rfl))) Via.refl e3 F_yy_assertion (g := (mkF m 17 #[.val (.ref xx), .val (.ref yy), .val (.ref yy)] [(.ref yy), (.ref ta)])) rfl rfl (hb hby d11_17)
  obtain ⟨cq5, kq5, q5a, q5b, q5c⟩ := isOf hZ e4 E_ta
  obtain ⟨_, _, ⟨T5, L5, k5, n5⟩, -, X5, ⟨Lc5, hQ5, l5, y5, z5⟩, st5⟩ := X4.virtualBack hx (y := (⟨"java/lang/String", "equals", "(Ljava/lang/Object;)Z"⟩ : MethodName)) (z := (⟨"java/lang/String", "equals", "(Ljava/lang/Object;)Z"⟩ : MethodName)) hown (mvT hZ (hw _ (List.mem_of_getElem? (i := 66) rfl))) (mvT hZ (hw _ (List.mem_of_getElem? (i := 67) rfl))) (notFace_of_selects (args := #[]) (mvT hZ (hw _ (List.mem_of_getElem? (i := 69) rfl)))) (mvT hZ (hw _ (List.mem_of_getElem? (i := 69) rfl))) (mvT hZ (hw _ (List.mem_of_getElem? (i := 68) rfl))) (by decide) (StrChars.Road.eqW (W := 0) hZ (fun d hd => hw d (own_we d hd)) (hw _ (List.mem_of_getElem? (i := 9) rfl)) E_ta F_ta_value F_ta_coder V_va (own_cod hcs) (own_up hcs) lcs E_tb F_tb_value F_tb_coder V_vb (own_cod hds) (own_up hds) lds (S_COMPACT_STRINGS.ext X00.2) hcz (by decide) (by decide)) q5a q5c (g := (mkF m 20 #[.val (.ref xx), .val (.ref yy), .val (.ref yy)] [(.ref tb), (.ref ta)])) rfl (by rw [hml]; rfl) (Steps.refl _) (argsL := [(.ref tb)]) (rest := []) (lenOf pd__Ljava_lang_Object__Z rfl) rfl (by show 2 * 0 + _ ≤ _; exact Nat.le_of_eq rfl) (hb hby d11_20) (fun _ _ => ⟨rfl, e4, (by decide : 0 + 0 ≤ _), (by decide : 0 + 0 ≤ _)⟩)
  dsimp only [Pt.U, Pt.locs, Pt.cells, Pt.slots] at X5 l5 y5 z5 st5 hQ5
  subst l5 y5 z5
  obtain ⟨hv5, rfl, e5⟩ := hQ5
  obtain rfl := own_eqT hv5 heq
  have N5q := Fr.nil n0
  have N5 := Fr.app N0 N5q
  obtain ⟨T6, X6, e6, st6⟩ := getF X5 hx hZ hown (host := "") (Or.inl (hw _ (List.mem_of_getElem? (i := 55) rfl))) Via.refl e5 F_xx_factsRead (g := (mkF m 27 #[.val (.ref xx), .val (.ref yy), .val (.ref yy)] [(.ref xx)])) rfl rfl (hb hby d11_27)
  obtain ⟨T7, X7, e7, st7⟩ := getF X6 hx hZ hown (host := "") (Or.inl (hw _ (List.mem_of_getElem? (i := 55) rfl))) Via.refl e6 F_yy_factsRead (g := (mkF m 31 #[.val (.ref xx), .val (.ref yy), .val (.ref yy)] [(.ref yy), (.int ra)])) rfl rfl (hb hby d11_31)
  obtain ⟨fs, hr, hrun, hended, hW, hsame⟩ := X7.leave (v := some (.int (0 : Int32))) (fun h => by rw [Bd.returns] at h; cases h)
  refine ⟨_, _, pre0 _ ?_, hrun, hended, _, _, rfl, ?_, ⟨_, rfl⟩, hW, hsame.mono (by decide) (by decide)⟩
  · show Steps p.tables e below (s₁.setTop (mkF m 0 #[.val (.ref xx), .val (.ref yy), .unset] [])) _
    refine XS.aloadN X0.here hx rfl (hb hby d11_0) rfl rfl ?_
    show Steps p.tables e below (s₁.setTop (mkF m 1 #[.val (.ref xx), .val (.ref yy), .unset] [(.ref yy)])) _
    refine st1 _ ?_
    show Steps p.tables e below (T1.setTop (mkF m 4 #[.val (.ref xx), .val (.ref yy), .unset] [(.int (1 : Int32))])) _
    refine XS.ifNo X1.here hx rfl (hb hby d11_4) rfl ((if0 _ _).trans (feq (by decide : ¬ ((1 : Int32) = (0 : Int32)))).1) ?_
    show Steps p.tables e below (T1.setTop (mkF m 7 #[.val (.ref xx), .val (.ref yy), .unset] [])) _
    refine XS.aloadN X1.here hx rfl (hb hby d11_7) rfl rfl ?_
    show Steps p.tables e below (T1.setTop (mkF m 8 #[.val (.ref xx), .val (.ref yy), .unset] [(.ref yy)])) _
    refine st2 _ ?_
    show Steps p.tables e below (T2.setTop (mkF m 11 #[.val (.ref xx), .val (.ref yy), .unset] [(.ref yy)])) _
    refine XS.astoreN X2.here hx rfl (hb hby d11_11) rfl rfl (l' := #[.val (.ref xx), .val (.ref yy), .val (.ref yy)]) rfl ?_
    show Steps p.tables e below (T2.setTop (mkF m 12 #[.val (.ref xx), .val (.ref yy), .val (.ref yy)] [])) _
    refine XS.aloadN X2.here hx rfl (hb hby d11_12) rfl rfl ?_
    show Steps p.tables e below (T2.setTop (mkF m 13 #[.val (.ref xx), .val (.ref yy), .val (.ref yy)] [(.ref xx)])) _
    refine st3 _ ?_
    show Steps p.tables e below (T3.setTop (mkF m 16 #[.val (.ref xx), .val (.ref yy), .val (.ref yy)] [(.ref ta)])) _
    refine XS.aloadN X3.here hx rfl (hb hby d11_16) rfl rfl ?_
    show Steps p.tables e below (T3.setTop (mkF m 17 #[.val (.ref xx), .val (.ref yy), .val (.ref yy)] [(.ref yy), (.ref ta)])) _
    refine st4 _ ?_
    show Steps p.tables e below (T4.setTop (mkF m 20 #[.val (.ref xx), .val (.ref yy), .val (.ref yy)] [(.ref tb), (.ref ta)])) _
    refine st5.trans ?_
    show Steps p.tables e below (T5.setTop (mkF m 23 #[.val (.ref xx), .val (.ref yy), .val (.ref yy)] [(.int (1 : Int32))])) _
    refine XS.ifNo X5.here hx rfl (hb hby d11_23) rfl ((if0 _ _).trans (feq (by decide : ¬ ((1 : Int32) = (0 : Int32)))).1) ?_
    show Steps p.tables e below (T5.setTop (mkF m 26 #[.val (.ref xx), .val (.ref yy), .val (.ref yy)] [])) _
    refine XS.aloadN X5.here hx rfl (hb hby d11_26) rfl rfl ?_
    show Steps p.tables e below (T5.setTop (mkF m 27 #[.val (.ref xx), .val (.ref yy), .val (.ref yy)] [(.ref xx)])) _
    refine st6 _ ?_
    show Steps p.tables e below (T6.setTop (mkF m 30 #[.val (.ref xx), .val (.ref yy), .val (.ref yy)] [(.int ra)])) _
    refine XS.aloadN X6.here hx rfl (hb hby d11_30) rfl rfl ?_
    show Steps p.tables e below (T6.setTop (mkF m 31 #[.val (.ref xx), .val (.ref yy), .val (.ref yy)] [(.ref yy), (.int ra)])) _
    refine st7 _ ?_
    show Steps p.tables e below (T7.setTop (mkF m 34 #[.val (.ref xx), .val (.ref yy), .val (.ref yy)] [(.int rb), (.int ra)])) _
    refine XS.icmpYes X7.here hx rfl (pc0 := 34) (pc' := 52) rfl (hb hby d11_34) rfl (feq hc34).2 (by decide) (by decide) ?_
    show Steps p.tables e below (T7.setTop (mkF m 52 #[.val (.ref xx), .val (.ref yy), .val (.ref yy)] [])) _
    refine XS.iconst X7.here hx rfl (hb hby d11_52) ?_
    show Steps p.tables e below (T7.setTop (mkF m 53 #[.val (.ref xx), .val (.ref yy), .val (.ref yy)] [(.int (0 : Int32))])) _
    exact retN X7 hx (t := .boolean) Bd.returns (by simp) (hb hby d11_53) hr
  · show Q_rmE2 Z xx yy ta tb va vb ka kb cs ds ra rb sa sb cz h0 n0 _ T7.heap _
    rw [e7]
    exact ⟨rfl, N5, rfl⟩
theorem d11_37 : decode prog_2_method_5_code 37 = .ok (.aload_n 0, 1) := by decide +kernel
theorem d11_38 : decode prog_2_method_5_code 38 = .ok (.getfield 26, 3) := by decide +kernel
theorem d11_41 : decode prog_2_method_5_code 41 = .ok (.aload_n 2, 1) := by decide +kernel
theorem d11_42 : decode prog_2_method_5_code 42 = .ok (.getfield 26, 3) := by decide +kernel
theorem d11_45 : decode prog_2_method_5_code 45 = .ok (.if_icmp .ne 7, 3) := by decide +kernel
def Q_rmE3 (Z : State) (xx : Addr) (yy : Addr) (ta : Addr) (tb : Addr) (va : Addr) (vb : Addr) (ka : ClassId) (kb : ClassId) (cs : List Int32) (ds : List Int32) (ra : Int32) (rb : Int32) (sa : Int32) (sb : Int32) (cz : Int32) (h0 : Heap) (n0 : Nat) (v : Option Value) (h : Heap) (L : List Loc) : Prop := v = some (.int (0 : Int32)) ∧ Fr n0 L ∧ h = h0
theorem ef_rmE3 (m : MethodId) (xx : Addr) (yy : Addr) : entryFrame m #[(.ref xx), (.ref yy)] 3 = mkF m 0 #[.val (.ref xx), .val (.ref yy), .unset] [] := by first | (simp [entryFrame, mkF, argsToLocals, Value.category]; done) | rfl
set_option maxRecDepth 65536 in
set_option maxHeartbeats 40000000 in
theorem rmE3 (l : Launch) (Z : State) (a0 : Array Value) (hw : ∀ d ∈ tables_1, d.before a0 Z = true) (ws : List Jvm.Cond) (xx : Addr) (yy : Addr) (ta : Addr) (tb : Addr) (va : Addr) (vb : Addr) (ka : ClassId) (kb : ClassId) (cs : List Int32) (ds : List Int32) (ra : Int32) (rb : Int32) (sa : Int32) (sb : Int32) (cz : Int32) (h0 : Heap) (n0 : Nat) (X00 : Old Z n0 h0) (E_xx : Exa Z h0 xx "com/example/abox_to_sql/aboxtosql/AddedAssertion") (F_xx_assertion : Fld Z h0 xx "com/example/abox_to_sql/aboxtosql/AddedAssertion" "assertion" "Ljava/lang/String;" (.ref ta)) (F_xx_factsRead : Fld Z h0 xx "com/example/abox_to_sql/aboxtosql/AddedAssertion" "factsRead" "I" (.int ra)) (F_xx_factsStored : Fld Z h0 xx "com/example/abox_to_sql/aboxtosql/AddedAssertion" "factsStored" "I" (.int sa)) (E_yy : Exa Z h0 yy "com/example/abox_to_sql/aboxtosql/AddedAssertion") (F_yy_assertion : Fld Z h0 yy "com/example/abox_to_sql/aboxtosql/AddedAssertion" "assertion" "Ljava/lang/String;" (.ref tb)) (F_yy_factsRead : Fld Z h0 yy "com/example/abox_to_sql/aboxtosql/AddedAssertion" "factsRead" "I" (.int rb)) (F_yy_factsStored : Fld Z h0 yy "com/example/abox_to_sql/aboxtosql/AddedAssertion" "factsStored" "I" (.int sb)) (E_ta : Exa Z h0 ta "java/lang/String") (F_ta_coder : Fld Z h0 ta "java/lang/String" "coder" "B" (.int (0 : Int32))) (F_ta_value : Fld Z h0 ta "java/lang/String" "value" "[B" (.ref va)) (V_va : Arv Z h0 va ka .byte (Int32.ofNat cs.length) (bys cs) (.int (0 : Int32))) (E_tb : Exa Z h0 tb "java/lang/String") (F_tb_coder : Fld Z h0 tb "java/lang/String" "coder" "B" (.int (0 : Int32))) (F_tb_value : Fld Z h0 tb "java/lang/String" "value" "[B" (.ref vb)) (V_vb : Arv Z h0 vb kb .byte (Int32.ofNat ds.length) (bys ds) (.int (0 : Int32))) (S_COMPACT_STRINGS : Sta Z Z.heap "java/lang/String" "COMPACT_STRINGS" "Z" (.int cz)) (hcs : ∀ c ∈ cs, ¬ c < 0 ∧ ¬ (255 : Int32) < c) (lcs : cs.length ≤ 4000) (hds : ∀ c ∈ ds, ¬ c < 0 ∧ ¬ (255 : Int32) < c) (lds : ds.length ≤ 4000) (hcz : ¬ cz = 0) (heq : cs = ds) (hc34 : ra = rb) (hc45 : ¬ (sa = sb)) :
    MetFree l (⟨"com/example/abox_to_sql/aboxtosql/AddedAssertion", "equals", "(Ljava/lang/Object;)Z"⟩ : MethodName) (head1 (Jvm.Cond.code (⟨"com/example/abox_to_sql/aboxtosql/AddedAssertion", "equals", "(Ljava/lang/Object;)Z"⟩ : MethodName) prog_2_method_5_code 3 (some .boolean) :: ws) ({ frames := 3, cells := 0, slots := 0, locals := 60 } : Room)) (fun aa U => aa = #[(.ref xx), (.ref yy)] ∧ Z.Warmed39 U.vm ∧ U.heap = h0) (fun _ _ _ _ _ => True) (fun _ U o U' => ∃ v L, o = .returned v ∧ Q_rmE3 Z xx yy ta tb va vb ka kb cs ds ra rb sa sb cz h0 n0 v U'.heap L ∧ FrameEnd U o U' L ({ frames := 3, cells := 0, slots := 0, locals := 60 } : Room).cells ({ frames := 3, cells := 0, slots := 0, locals := 60 } : Room).slots) := by
  refine MetFree.of_bodySF (plainFor_of_name pn_com_example_abox_to_sql_aboxtosql_AddedAssertion) hisR ?_
  intro p e s m args below meth c s₁ Bd hml0 hP hK
  obtain ⟨rfl, hZ, hh⟩ := hP
  have hx := Bd.exec
  have hby := Bd.bytes
  have hml : c.maxLocals = 3 := hml0
  have hown : s.vm.findClass "com/example/abox_to_sql/aboxtosql/AddedAssertion" = some m.cls := findClass_of_methodNamed Bd.named
  have hnm := (name_of_methodNamed Bd.named Bd.method).1
  have X0 : Stand p l e ({ frames := 3, cells := 0, slots := 0, locals := 60 } : Room) s m #[(.ref xx), (.ref yy)] below meth c s₁ [] 0 0 := Stand.of_body Bd
  have e0 : s₁.heap = h0 := by rw [← hh, Bd.state]; rfl
  have N0 := Fr.nil n0
  have Z0 : n0 ≤ h0.size := own_z0 X00
  have pre0 : ∀ t, Steps p.tables e below (s₁.setTop (mkF m 0 #[.val (.ref xx), .val (.ref yy), .unset] [])) t → Steps p.tables e below (s₁.setTop (entryFrame m #[(.ref xx), (.ref yy)] 3)) t := fun t k => castTop (ef_rmE3 m xx yy) k
  obtain ⟨T1, X1, e1, st1⟩ := instY X0 hx hZ hown (hw _ (List.mem_of_getElem? (i := 64) rfl)) e0 (Ins.self E_yy) (g := (mkF m 1 #[.val (.ref xx), .val (.ref yy), .unset] [(.ref yy)])) rfl rfl (hb hby d11_1)
  obtain ⟨T2, X2, e2, st2⟩ := castY X1 hx hZ hown (hw _ (List.mem_of_getElem? (i := 64) rfl)) e1 (Ins.self E_yy) (g := (mkF m 8 #[.val (.ref xx), .val (.ref yy), .unset] [(.ref yy)])) rfl rfl (hb hby d11_8)
  obtain ⟨T3, X3, e3, st3⟩ := getF X2 hx hZ hown (host := "") (Or.inl (hw _ (List.mem_of_getElem? (i := 53) rfl))) Via.refl e2 F_xx_assertion (g := (mkF m 13 #[.val (.ref xx), .val (.ref yy), .val (.ref yy)] [(.ref xx)])) rfl rfl (hb hby d11_13)
  obtain ⟨T4, X4, e4, st4⟩ := getF X3 hx hZ hown (host := "") (Or.inl (hw _ (List.mem_of_getElem? (i := 53) rfl))) Via.refl e3 F_yy_assertion (g := (mkF m 17 #[.val (.ref xx), .val (.ref yy), .val (.ref yy)] [(.ref yy), (.ref ta)])) rfl rfl (hb hby d11_17)
  obtain ⟨cq5, kq5, q5a, q5b, q5c⟩ := isOf hZ e4 E_ta
  obtain ⟨_, _, ⟨T5, L5, k5, n5⟩, -, X5, ⟨Lc5, hQ5, l5, y5, z5⟩, st5⟩ := X4.virtualBack hx (y := (⟨"java/lang/String", "equals", "(Ljava/lang/Object;)Z"⟩ : MethodName)) (z := (⟨"java/lang/String", "equals", "(Ljava/lang/Object;)Z"⟩ : MethodName)) hown (mvT hZ (hw _ (List.mem_of_getElem? (i := 66) rfl))) (mvT hZ (hw _ (List.mem_of_getElem? (i := 67) rfl))) (notFace_of_selects (args := #[]) (mvT hZ (hw _ (List.mem_of_getElem? (i := 69) rfl)))) (mvT hZ (hw _ (List.mem_of_getElem? (i := 69) rfl))) (mvT hZ (hw _ (List.mem_of_getElem? (i := 68) rfl))) (by decide) (StrChars.Road.eqW (W := 0) hZ (fun d hd => hw d (own_we d hd)) (hw _ (List.mem_of_getElem? (i := 9) rfl)) E_ta F_ta_value F_ta_coder V_va (own_cod hcs) (own_up hcs) lcs E_tb F_tb_value F_tb_coder V_vb (own_cod hds) (own_up hds) lds (S_COMPACT_STRINGS.ext X00.2) hcz (by decide) (by decide)) q5a q5c (g := (mkF m 20 #[.val (.ref xx), .val (.ref yy), .val (.ref yy)] [(.ref tb), (.ref ta)])) rfl (by rw [hml]; rfl) (Steps.refl _) (argsL := [(.ref tb)]) (rest := []) (lenOf pd__Ljava_lang_Object__Z rfl) rfl (by show 2 * 0 + _ ≤ _; exact Nat.le_of_eq rfl) (hb hby d11_20) (fun _ _ => ⟨rfl, e4, (by decide : 0 + 0 ≤ _), (by decide : 0 + 0 ≤ _)⟩)
  dsimp only [Pt.U, Pt.locs, Pt.cells, Pt.slots] at X5 l5 y5 z5 st5 hQ5
  subst l5 y5 z5
  obtain ⟨hv5, rfl, e5⟩ := hQ5
  obtain rfl := own_eqT hv5 heq
  have N5q := Fr.nil n0
  have N5 := Fr.app N0 N5q
  obtain ⟨T6, X6, e6, st6⟩ := getF X5 hx hZ hown (host := "") (Or.inl (hw _ (List.mem_of_getElem? (i := 55) rfl))) Via.refl e5 F_xx_factsRead (g := (mkF m 27 #[.val (.ref xx), .val (.ref yy), .val (.ref yy)] [(.ref xx)])) rfl rfl (hb hby d11_27)
  obtain ⟨T7, X7, e7, st7⟩ := getF X6 hx hZ hown (host := "") (Or.inl (hw _ (List.mem_of_getElem? (i := 55) rfl))) Via.refl e6 F_yy_factsRead (g := (mkF m 31 #[.val (.ref xx), .val (.ref yy), .val (.ref yy)] [(.ref yy), (.int ra)])) rfl rfl (hb hby d11_31)
  obtain ⟨T8, X8, e8, st8⟩ := getF X7 hx hZ hown (host := "") (Or.inl (hw _ (List.mem_of_getElem? (i := 57) rfl))) Via.refl e7 F_xx_factsStored (g := (mkF m 38 #[.val (.ref xx), .val (.ref yy), .val (.ref yy)] [(.ref xx)])) rfl rfl (hb hby d11_38)
  obtain ⟨T9, X9, e9, st9⟩ := getF X8 hx hZ hown (host := "") (Or.inl (hw _ (List.mem_of_getElem? (i := 57) rfl))) Via.refl e8 F_yy_factsStored (g := (mkF m 42 #[.val (.ref xx), .val (.ref yy), .val (.ref yy)] [(.ref yy), (.int sa)])) rfl rfl (hb hby d11_42)
  obtain ⟨fs, hr, hrun, hended, hW, hsame⟩ := X9.leave (v := some (.int (0 : Int32))) (fun h => by rw [Bd.returns] at h; cases h)
  refine ⟨_, _, pre0 _ ?_, hrun, hended, _, _, rfl, ?_, ⟨_, rfl⟩, hW, hsame.mono (by decide) (by decide)⟩
  · show Steps p.tables e below (s₁.setTop (mkF m 0 #[.val (.ref xx), .val (.ref yy), .unset] [])) _
    refine XS.aloadN X0.here hx rfl (hb hby d11_0) rfl rfl ?_
    show Steps p.tables e below (s₁.setTop (mkF m 1 #[.val (.ref xx), .val (.ref yy), .unset] [(.ref yy)])) _
    refine st1 _ ?_
    show Steps p.tables e below (T1.setTop (mkF m 4 #[.val (.ref xx), .val (.ref yy), .unset] [(.int (1 : Int32))])) _
    refine XS.ifNo X1.here hx rfl (hb hby d11_4) rfl ((if0 _ _).trans (feq (by decide : ¬ ((1 : Int32) = (0 : Int32)))).1) ?_
    show Steps p.tables e below (T1.setTop (mkF m 7 #[.val (.ref xx), .val (.ref yy), .unset] [])) _
    refine XS.aloadN X1.here hx rfl (hb hby d11_7) rfl rfl ?_
    show Steps p.tables e below (T1.setTop (mkF m 8 #[.val (.ref xx), .val (.ref yy), .unset] [(.ref yy)])) _
    refine st2 _ ?_
    show Steps p.tables e below (T2.setTop (mkF m 11 #[.val (.ref xx), .val (.ref yy), .unset] [(.ref yy)])) _
    refine XS.astoreN X2.here hx rfl (hb hby d11_11) rfl rfl (l' := #[.val (.ref xx), .val (.ref yy), .val (.ref yy)]) rfl ?_
    show Steps p.tables e below (T2.setTop (mkF m 12 #[.val (.ref xx), .val (.ref yy), .val (.ref yy)] [])) _
    refine XS.aloadN X2.here hx rfl (hb hby d11_12) rfl rfl ?_
    show Steps p.tables e below (T2.setTop (mkF m 13 #[.val (.ref xx), .val (.ref yy), .val (.ref yy)] [(.ref xx)])) _
    refine st3 _ ?_
    show Steps p.tables e below (T3.setTop (mkF m 16 #[.val (.ref xx), .val (.ref yy), .val (.ref yy)] [(.ref ta)])) _
    refine XS.aloadN X3.here hx rfl (hb hby d11_16) rfl rfl ?_
    show Steps p.tables e below (T3.setTop (mkF m 17 #[.val (.ref xx), .val (.ref yy), .val (.ref yy)] [(.ref yy), (.ref ta)])) _
    refine st4 _ ?_
    show Steps p.tables e below (T4.setTop (mkF m 20 #[.val (.ref xx), .val (.ref yy), .val (.ref yy)] [(.ref tb), (.ref ta)])) _
    refine st5.trans ?_
    show Steps p.tables e below (T5.setTop (mkF m 23 #[.val (.ref xx), .val (.ref yy), .val (.ref yy)] [(.int (1 : Int32))])) _
    refine XS.ifNo X5.here hx rfl (hb hby d11_23) rfl ((if0 _ _).trans (feq (by decide : ¬ ((1 : Int32) = (0 : Int32)))).1) ?_
    show Steps p.tables e below (T5.setTop (mkF m 26 #[.val (.ref xx), .val (.ref yy), .val (.ref yy)] [])) _
    refine XS.aloadN X5.here hx rfl (hb hby d11_26) rfl rfl ?_
    show Steps p.tables e below (T5.setTop (mkF m 27 #[.val (.ref xx), .val (.ref yy), .val (.ref yy)] [(.ref xx)])) _
    refine st6 _ ?_
    show Steps p.tables e below (T6.setTop (mkF m 30 #[.val (.ref xx), .val (.ref yy), .val (.ref yy)] [(.int ra)])) _
    refine XS.aloadN X6.here hx rfl (hb hby d11_30) rfl rfl ?_
    show Steps p.tables e below (T6.setTop (mkF m 31 #[.val (.ref xx), .val (.ref yy), .val (.ref yy)] [(.ref yy), (.int ra)])) _
    refine st7 _ ?_
    show Steps p.tables e below (T7.setTop (mkF m 34 #[.val (.ref xx), .val (.ref yy), .val (.ref yy)] [(.int rb), (.int ra)])) _
    refine XS.icmpNo X7.here hx rfl (hb hby d11_34) rfl (teq hc34).2 ?_
    show Steps p.tables e below (T7.setTop (mkF m 37 #[.val (.ref xx), .val (.ref yy), .val (.ref yy)] [])) _
    refine XS.aloadN X7.here hx rfl (hb hby d11_37) rfl rfl ?_
    show Steps p.tables e below (T7.setTop (mkF m 38 #[.val (.ref xx), .val (.ref yy), .val (.ref yy)] [(.ref xx)])) _
    refine st8 _ ?_
    show Steps p.tables e below (T8.setTop (mkF m 41 #[.val (.ref xx), .val (.ref yy), .val (.ref yy)] [(.int sa)])) _
    refine XS.aloadN X8.here hx rfl (hb hby d11_41) rfl rfl ?_
    show Steps p.tables e below (T8.setTop (mkF m 42 #[.val (.ref xx), .val (.ref yy), .val (.ref yy)] [(.ref yy), (.int sa)])) _
    refine st9 _ ?_
    show Steps p.tables e below (T9.setTop (mkF m 45 #[.val (.ref xx), .val (.ref yy), .val (.ref yy)] [(.int sb), (.int sa)])) _
    refine XS.icmpYes X9.here hx rfl (pc0 := 45) (pc' := 52) rfl (hb hby d11_45) rfl (feq hc45).2 (by decide) (by decide) ?_
    show Steps p.tables e below (T9.setTop (mkF m 52 #[.val (.ref xx), .val (.ref yy), .val (.ref yy)] [])) _
    refine XS.iconst X9.here hx rfl (hb hby d11_52) ?_
    show Steps p.tables e below (T9.setTop (mkF m 53 #[.val (.ref xx), .val (.ref yy), .val (.ref yy)] [(.int (0 : Int32))])) _
    exact retN X9 hx (t := .boolean) Bd.returns (by simp) (hb hby d11_53) hr
  · show Q_rmE3 Z xx yy ta tb va vb ka kb cs ds ra rb sa sb cz h0 n0 _ T9.heap _
    rw [e9]
    exact ⟨rfl, N5, rfl⟩
theorem d11_48 : decode prog_2_method_5_code 48 = .ok (.iconst 1, 1) := by decide +kernel
theorem d11_49 : decode prog_2_method_5_code 49 = .ok (.goto 4, 3) := by decide +kernel
def Q_rmE4 (Z : State) (xx : Addr) (yy : Addr) (ta : Addr) (tb : Addr) (va : Addr) (vb : Addr) (ka : ClassId) (kb : ClassId) (cs : List Int32) (ds : List Int32) (ra : Int32) (rb : Int32) (sa : Int32) (sb : Int32) (cz : Int32) (h0 : Heap) (n0 : Nat) (v : Option Value) (h : Heap) (L : List Loc) : Prop := v = some (.int (1 : Int32)) ∧ Fr n0 L ∧ h = h0
theorem ef_rmE4 (m : MethodId) (xx : Addr) (yy : Addr) : entryFrame m #[(.ref xx), (.ref yy)] 3 = mkF m 0 #[.val (.ref xx), .val (.ref yy), .unset] [] := by first | (simp [entryFrame, mkF, argsToLocals, Value.category]; done) | rfl
set_option maxRecDepth 65536 in
set_option maxHeartbeats 40000000 in
theorem rmE4 (l : Launch) (Z : State) (a0 : Array Value) (hw : ∀ d ∈ tables_1, d.before a0 Z = true) (ws : List Jvm.Cond) (xx : Addr) (yy : Addr) (ta : Addr) (tb : Addr) (va : Addr) (vb : Addr) (ka : ClassId) (kb : ClassId) (cs : List Int32) (ds : List Int32) (ra : Int32) (rb : Int32) (sa : Int32) (sb : Int32) (cz : Int32) (h0 : Heap) (n0 : Nat) (X00 : Old Z n0 h0) (E_xx : Exa Z h0 xx "com/example/abox_to_sql/aboxtosql/AddedAssertion") (F_xx_assertion : Fld Z h0 xx "com/example/abox_to_sql/aboxtosql/AddedAssertion" "assertion" "Ljava/lang/String;" (.ref ta)) (F_xx_factsRead : Fld Z h0 xx "com/example/abox_to_sql/aboxtosql/AddedAssertion" "factsRead" "I" (.int ra)) (F_xx_factsStored : Fld Z h0 xx "com/example/abox_to_sql/aboxtosql/AddedAssertion" "factsStored" "I" (.int sa)) (E_yy : Exa Z h0 yy "com/example/abox_to_sql/aboxtosql/AddedAssertion") (F_yy_assertion : Fld Z h0 yy "com/example/abox_to_sql/aboxtosql/AddedAssertion" "assertion" "Ljava/lang/String;" (.ref tb)) (F_yy_factsRead : Fld Z h0 yy "com/example/abox_to_sql/aboxtosql/AddedAssertion" "factsRead" "I" (.int rb)) (F_yy_factsStored : Fld Z h0 yy "com/example/abox_to_sql/aboxtosql/AddedAssertion" "factsStored" "I" (.int sb)) (E_ta : Exa Z h0 ta "java/lang/String") (F_ta_coder : Fld Z h0 ta "java/lang/String" "coder" "B" (.int (0 : Int32))) (F_ta_value : Fld Z h0 ta "java/lang/String" "value" "[B" (.ref va)) (V_va : Arv Z h0 va ka .byte (Int32.ofNat cs.length) (bys cs) (.int (0 : Int32))) (E_tb : Exa Z h0 tb "java/lang/String") (F_tb_coder : Fld Z h0 tb "java/lang/String" "coder" "B" (.int (0 : Int32))) (F_tb_value : Fld Z h0 tb "java/lang/String" "value" "[B" (.ref vb)) (V_vb : Arv Z h0 vb kb .byte (Int32.ofNat ds.length) (bys ds) (.int (0 : Int32))) (S_COMPACT_STRINGS : Sta Z Z.heap "java/lang/String" "COMPACT_STRINGS" "Z" (.int cz)) (hcs : ∀ c ∈ cs, ¬ c < 0 ∧ ¬ (255 : Int32) < c) (lcs : cs.length ≤ 4000) (hds : ∀ c ∈ ds, ¬ c < 0 ∧ ¬ (255 : Int32) < c) (lds : ds.length ≤ 4000) (hcz : ¬ cz = 0) (heq : cs = ds) (hc34 : ra = rb) (hc45 : sa = sb) :
    MetFree l (⟨"com/example/abox_to_sql/aboxtosql/AddedAssertion", "equals", "(Ljava/lang/Object;)Z"⟩ : MethodName) (head1 (Jvm.Cond.code (⟨"com/example/abox_to_sql/aboxtosql/AddedAssertion", "equals", "(Ljava/lang/Object;)Z"⟩ : MethodName) prog_2_method_5_code 3 (some .boolean) :: ws) ({ frames := 3, cells := 0, slots := 0, locals := 60 } : Room)) (fun aa U => aa = #[(.ref xx), (.ref yy)] ∧ Z.Warmed39 U.vm ∧ U.heap = h0) (fun _ _ _ _ _ => True) (fun _ U o U' => ∃ v L, o = .returned v ∧ Q_rmE4 Z xx yy ta tb va vb ka kb cs ds ra rb sa sb cz h0 n0 v U'.heap L ∧ FrameEnd U o U' L ({ frames := 3, cells := 0, slots := 0, locals := 60 } : Room).cells ({ frames := 3, cells := 0, slots := 0, locals := 60 } : Room).slots) := by
  refine MetFree.of_bodySF (plainFor_of_name pn_com_example_abox_to_sql_aboxtosql_AddedAssertion) hisR ?_
  intro p e s m args below meth c s₁ Bd hml0 hP hK
  obtain ⟨rfl, hZ, hh⟩ := hP
  have hx := Bd.exec
  have hby := Bd.bytes
  have hml : c.maxLocals = 3 := hml0
  have hown : s.vm.findClass "com/example/abox_to_sql/aboxtosql/AddedAssertion" = some m.cls := findClass_of_methodNamed Bd.named
  have hnm := (name_of_methodNamed Bd.named Bd.method).1
  have X0 : Stand p l e ({ frames := 3, cells := 0, slots := 0, locals := 60 } : Room) s m #[(.ref xx), (.ref yy)] below meth c s₁ [] 0 0 := Stand.of_body Bd
  have e0 : s₁.heap = h0 := by rw [← hh, Bd.state]; rfl
  have N0 := Fr.nil n0
  have Z0 : n0 ≤ h0.size := own_z0 X00
  have pre0 : ∀ t, Steps p.tables e below (s₁.setTop (mkF m 0 #[.val (.ref xx), .val (.ref yy), .unset] [])) t → Steps p.tables e below (s₁.setTop (entryFrame m #[(.ref xx), (.ref yy)] 3)) t := fun t k => castTop (ef_rmE4 m xx yy) k
  obtain ⟨T1, X1, e1, st1⟩ := instY X0 hx hZ hown (hw _ (List.mem_of_getElem? (i := 64) rfl)) e0 (Ins.self E_yy) (g := (mkF m 1 #[.val (.ref xx), .val (.ref yy), .unset] [(.ref yy)])) rfl rfl (hb hby d11_1)
  obtain ⟨T2, X2, e2, st2⟩ := castY X1 hx hZ hown (hw _ (List.mem_of_getElem? (i := 64) rfl)) e1 (Ins.self E_yy) (g := (mkF m 8 #[.val (.ref xx), .val (.ref yy), .unset] [(.ref yy)])) rfl rfl (hb hby d11_8)
  obtain ⟨T3, X3, e3, st3⟩ := getF X2 hx hZ hown (host := "") (Or.inl (hw _ (List.mem_of_getElem? (i := 53) rfl))) Via.refl e2 F_xx_assertion (g := (mkF m 13 #[.val (.ref xx), .val (.ref yy), .val (.ref yy)] [(.ref xx)])) rfl rfl (hb hby d11_13)
  obtain ⟨T4, X4, e4, st4⟩ := getF X3 hx hZ hown (host := "") (Or.inl (hw _ (List.mem_of_getElem? (i := 53) rfl))) Via.refl e3 F_yy_assertion (g := (mkF m 17 #[.val (.ref xx), .val (.ref yy), .val (.ref yy)] [(.ref yy), (.ref ta)])) rfl rfl (hb hby d11_17)
  obtain ⟨cq5, kq5, q5a, q5b, q5c⟩ := isOf hZ e4 E_ta
  obtain ⟨_, _, ⟨T5, L5, k5, n5⟩, -, X5, ⟨Lc5, hQ5, l5, y5, z5⟩, st5⟩ := X4.virtualBack hx (y := (⟨"java/lang/String", "equals", "(Ljava/lang/Object;)Z"⟩ : MethodName)) (z := (⟨"java/lang/String", "equals", "(Ljava/lang/Object;)Z"⟩ : MethodName)) hown (mvT hZ (hw _ (List.mem_of_getElem? (i := 66) rfl))) (mvT hZ (hw _ (List.mem_of_getElem? (i := 67) rfl))) (notFace_of_selects (args := #[]) (mvT hZ (hw _ (List.mem_of_getElem? (i := 69) rfl)))) (mvT hZ (hw _ (List.mem_of_getElem? (i := 69) rfl))) (mvT hZ (hw _ (List.mem_of_getElem? (i := 68) rfl))) (by decide) (StrChars.Road.eqW (W := 0) hZ (fun d hd => hw d (own_we d hd)) (hw _ (List.mem_of_getElem? (i := 9) rfl)) E_ta F_ta_value F_ta_coder V_va (own_cod hcs) (own_up hcs) lcs E_tb F_tb_value F_tb_coder V_vb (own_cod hds) (own_up hds) lds (S_COMPACT_STRINGS.ext X00.2) hcz (by decide) (by decide)) q5a q5c (g := (mkF m 20 #[.val (.ref xx), .val (.ref yy), .val (.ref yy)] [(.ref tb), (.ref ta)])) rfl (by rw [hml]; rfl) (Steps.refl _) (argsL := [(.ref tb)]) (rest := []) (lenOf pd__Ljava_lang_Object__Z rfl) rfl (by show 2 * 0 + _ ≤ _; exact Nat.le_of_eq rfl) (hb hby d11_20) (fun _ _ => ⟨rfl, e4, (by decide : 0 + 0 ≤ _), (by decide : 0 + 0 ≤ _)⟩)
  dsimp only [Pt.U, Pt.locs, Pt.cells, Pt.slots] at X5 l5 y5 z5 st5 hQ5
  subst l5 y5 z5
  obtain ⟨hv5, rfl, e5⟩ := hQ5
  obtain rfl := own_eqT hv5 heq
  have N5q := Fr.nil n0
  have N5 := Fr.app N0 N5q
  obtain ⟨T6, X6, e6, st6⟩ := getF X5 hx hZ hown (host := "") (Or.inl (hw _ (List.mem_of_getElem? (i := 55) rfl))) Via.refl e5 F_xx_factsRead (g := (mkF m 27 #[.val (.ref xx), .val (.ref yy), .val (.ref yy)] [(.ref xx)])) rfl rfl (hb hby d11_27)
  obtain ⟨T7, X7, e7, st7⟩ := getF X6 hx hZ hown (host := "") (Or.inl (hw _ (List.mem_of_getElem? (i := 55) rfl))) Via.refl e6 F_yy_factsRead (g := (mkF m 31 #[.val (.ref xx), .val (.ref yy), .val (.ref yy)] [(.ref yy), (.int ra)])) rfl rfl (hb hby d11_31)
  obtain ⟨T8, X8, e8, st8⟩ := getF X7 hx hZ hown (host := "") (Or.inl (hw _ (List.mem_of_getElem? (i := 57) rfl))) Via.refl e7 F_xx_factsStored (g := (mkF m 38 #[.val (.ref xx), .val (.ref yy), .val (.ref yy)] [(.ref xx)])) rfl rfl (hb hby d11_38)
  obtain ⟨T9, X9, e9, st9⟩ := getF X8 hx hZ hown (host := "") (Or.inl (hw _ (List.mem_of_getElem? (i := 57) rfl))) Via.refl e8 F_yy_factsStored (g := (mkF m 42 #[.val (.ref xx), .val (.ref yy), .val (.ref yy)] [(.ref yy), (.int sa)])) rfl rfl (hb hby d11_42)
  obtain ⟨fs, hr, hrun, hended, hW, hsame⟩ := X9.leave (v := some (.int (1 : Int32))) (fun h => by rw [Bd.returns] at h; cases h)
  refine ⟨_, _, pre0 _ ?_, hrun, hended, _, _, rfl, ?_, ⟨_, rfl⟩, hW, hsame.mono (by decide) (by decide)⟩
  · show Steps p.tables e below (s₁.setTop (mkF m 0 #[.val (.ref xx), .val (.ref yy), .unset] [])) _
    refine XS.aloadN X0.here hx rfl (hb hby d11_0) rfl rfl ?_
    show Steps p.tables e below (s₁.setTop (mkF m 1 #[.val (.ref xx), .val (.ref yy), .unset] [(.ref yy)])) _
    refine st1 _ ?_
    show Steps p.tables e below (T1.setTop (mkF m 4 #[.val (.ref xx), .val (.ref yy), .unset] [(.int (1 : Int32))])) _
    refine XS.ifNo X1.here hx rfl (hb hby d11_4) rfl ((if0 _ _).trans (feq (by decide : ¬ ((1 : Int32) = (0 : Int32)))).1) ?_
    show Steps p.tables e below (T1.setTop (mkF m 7 #[.val (.ref xx), .val (.ref yy), .unset] [])) _
    refine XS.aloadN X1.here hx rfl (hb hby d11_7) rfl rfl ?_
    show Steps p.tables e below (T1.setTop (mkF m 8 #[.val (.ref xx), .val (.ref yy), .unset] [(.ref yy)])) _
    refine st2 _ ?_
    show Steps p.tables e below (T2.setTop (mkF m 11 #[.val (.ref xx), .val (.ref yy), .unset] [(.ref yy)])) _
    refine XS.astoreN X2.here hx rfl (hb hby d11_11) rfl rfl (l' := #[.val (.ref xx), .val (.ref yy), .val (.ref yy)]) rfl ?_
    show Steps p.tables e below (T2.setTop (mkF m 12 #[.val (.ref xx), .val (.ref yy), .val (.ref yy)] [])) _
    refine XS.aloadN X2.here hx rfl (hb hby d11_12) rfl rfl ?_
    show Steps p.tables e below (T2.setTop (mkF m 13 #[.val (.ref xx), .val (.ref yy), .val (.ref yy)] [(.ref xx)])) _
    refine st3 _ ?_
    show Steps p.tables e below (T3.setTop (mkF m 16 #[.val (.ref xx), .val (.ref yy), .val (.ref yy)] [(.ref ta)])) _
    refine XS.aloadN X3.here hx rfl (hb hby d11_16) rfl rfl ?_
    show Steps p.tables e below (T3.setTop (mkF m 17 #[.val (.ref xx), .val (.ref yy), .val (.ref yy)] [(.ref yy), (.ref ta)])) _
    refine st4 _ ?_
    show Steps p.tables e below (T4.setTop (mkF m 20 #[.val (.ref xx), .val (.ref yy), .val (.ref yy)] [(.ref tb), (.ref ta)])) _
    refine st5.trans ?_
    show Steps p.tables e below (T5.setTop (mkF m 23 #[.val (.ref xx), .val (.ref yy), .val (.ref yy)] [(.int (1 : Int32))])) _
    refine XS.ifNo X5.here hx rfl (hb hby d11_23) rfl ((if0 _ _).trans (feq (by decide : ¬ ((1 : Int32) = (0 : Int32)))).1) ?_
    show Steps p.tables e below (T5.setTop (mkF m 26 #[.val (.ref xx), .val (.ref yy), .val (.ref yy)] [])) _
    refine XS.aloadN X5.here hx rfl (hb hby d11_26) rfl rfl ?_
    show Steps p.tables e below (T5.setTop (mkF m 27 #[.val (.ref xx), .val (.ref yy), .val (.ref yy)] [(.ref xx)])) _
    refine st6 _ ?_
    show Steps p.tables e below (T6.setTop (mkF m 30 #[.val (.ref xx), .val (.ref yy), .val (.ref yy)] [(.int ra)])) _
    refine XS.aloadN X6.here hx rfl (hb hby d11_30) rfl rfl ?_
    show Steps p.tables e below (T6.setTop (mkF m 31 #[.val (.ref xx), .val (.ref yy), .val (.ref yy)] [(.ref yy), (.int ra)])) _
    refine st7 _ ?_
    show Steps p.tables e below (T7.setTop (mkF m 34 #[.val (.ref xx), .val (.ref yy), .val (.ref yy)] [(.int rb), (.int ra)])) _
    refine XS.icmpNo X7.here hx rfl (hb hby d11_34) rfl (teq hc34).2 ?_
    show Steps p.tables e below (T7.setTop (mkF m 37 #[.val (.ref xx), .val (.ref yy), .val (.ref yy)] [])) _
    refine XS.aloadN X7.here hx rfl (hb hby d11_37) rfl rfl ?_
    show Steps p.tables e below (T7.setTop (mkF m 38 #[.val (.ref xx), .val (.ref yy), .val (.ref yy)] [(.ref xx)])) _
    refine st8 _ ?_
    show Steps p.tables e below (T8.setTop (mkF m 41 #[.val (.ref xx), .val (.ref yy), .val (.ref yy)] [(.int sa)])) _
    refine XS.aloadN X8.here hx rfl (hb hby d11_41) rfl rfl ?_
    show Steps p.tables e below (T8.setTop (mkF m 42 #[.val (.ref xx), .val (.ref yy), .val (.ref yy)] [(.ref yy), (.int sa)])) _
    refine st9 _ ?_
    show Steps p.tables e below (T9.setTop (mkF m 45 #[.val (.ref xx), .val (.ref yy), .val (.ref yy)] [(.int sb), (.int sa)])) _
    refine XS.icmpNo X9.here hx rfl (hb hby d11_45) rfl (teq hc45).2 ?_
    show Steps p.tables e below (T9.setTop (mkF m 48 #[.val (.ref xx), .val (.ref yy), .val (.ref yy)] [])) _
    refine XS.iconst X9.here hx rfl (hb hby d11_48) ?_
    show Steps p.tables e below (T9.setTop (mkF m 49 #[.val (.ref xx), .val (.ref yy), .val (.ref yy)] [(.int (1 : Int32))])) _
    refine XS.goto X9.here hx rfl (pc0 := 49) (pc' := 53) rfl (hb hby d11_49) (by decide) (by decide) ?_
    show Steps p.tables e below (T9.setTop (mkF m 53 #[.val (.ref xx), .val (.ref yy), .val (.ref yy)] [(.int (1 : Int32))])) _
    exact retN X9 hx (t := .boolean) Bd.returns (by simp) (hb hby d11_53) hr
  · show Q_rmE4 Z xx yy ta tb va vb ka kb cs ds ra rb sa sb cz h0 n0 _ T9.heap _
    rw [e9]
    exact ⟨rfl, N5, rfl⟩
def Q_rmE5 (Z : State) (xx : Addr) (h0 : Heap) (n0 : Nat) (v : Option Value) (h : Heap) (L : List Loc) : Prop := v = some (.int (0 : Int32)) ∧ Fr n0 L ∧ h = h0
theorem ef_rmE5 (m : MethodId) (xx : Addr) : entryFrame m #[(.ref xx), .null] 3 = mkF m 0 #[.val (.ref xx), .val .null, .unset] [] := by first | (simp [entryFrame, mkF, argsToLocals, Value.category]; done) | rfl
set_option maxRecDepth 65536 in
set_option maxHeartbeats 40000000 in
theorem rmE5 (l : Launch) (Z : State) (a0 : Array Value) (hw : ∀ d ∈ tables_1, d.before a0 Z = true) (ws : List Jvm.Cond) (xx : Addr) (h0 : Heap) (n0 : Nat) (Z0 : n0 ≤ h0.size) :
    MetFree l (⟨"com/example/abox_to_sql/aboxtosql/AddedAssertion", "equals", "(Ljava/lang/Object;)Z"⟩ : MethodName) (head1 (Jvm.Cond.code (⟨"com/example/abox_to_sql/aboxtosql/AddedAssertion", "equals", "(Ljava/lang/Object;)Z"⟩ : MethodName) prog_2_method_5_code 3 (some .boolean) :: ws) ({ frames := 3, cells := 0, slots := 0, locals := 60 } : Room)) (fun aa U => aa = #[(.ref xx), .null] ∧ Z.Warmed39 U.vm ∧ U.heap = h0) (fun _ _ _ _ _ => True) (fun _ U o U' => ∃ v L, o = .returned v ∧ Q_rmE5 Z xx h0 n0 v U'.heap L ∧ FrameEnd U o U' L ({ frames := 3, cells := 0, slots := 0, locals := 60 } : Room).cells ({ frames := 3, cells := 0, slots := 0, locals := 60 } : Room).slots) := by
  refine MetFree.of_bodySF (plainFor_of_name pn_com_example_abox_to_sql_aboxtosql_AddedAssertion) hisR ?_
  intro p e s m args below meth c s₁ Bd hml0 hP hK
  obtain ⟨rfl, hZ, hh⟩ := hP
  have hx := Bd.exec
  have hby := Bd.bytes
  have hml : c.maxLocals = 3 := hml0
  have hown : s.vm.findClass "com/example/abox_to_sql/aboxtosql/AddedAssertion" = some m.cls := findClass_of_methodNamed Bd.named
  have hnm := (name_of_methodNamed Bd.named Bd.method).1
  have X0 : Stand p l e ({ frames := 3, cells := 0, slots := 0, locals := 60 } : Room) s m #[(.ref xx), .null] below meth c s₁ [] 0 0 := Stand.of_body Bd
  have e0 : s₁.heap = h0 := by rw [← hh, Bd.state]; rfl
  have N0 := Fr.nil n0
  have pre0 : ∀ t, Steps p.tables e below (s₁.setTop (mkF m 0 #[.val (.ref xx), .val .null, .unset] [])) t → Steps p.tables e below (s₁.setTop (entryFrame m #[(.ref xx), .null] 3)) t := fun t k => castTop (ef_rmE5 m xx) k
  obtain ⟨fs, hr, hrun, hended, hW, hsame⟩ := X0.leave (v := some (.int (0 : Int32))) (fun h => by rw [Bd.returns] at h; cases h)
  refine ⟨_, _, pre0 _ ?_, hrun, hended, _, _, rfl, ?_, ⟨_, rfl⟩, hW, hsame.mono (by decide) (by decide)⟩
  · show Steps p.tables e below (s₁.setTop (mkF m 0 #[.val (.ref xx), .val .null, .unset] [])) _
    refine XS.aloadN X0.here hx rfl (hb hby d11_0) rfl rfl ?_
    show Steps p.tables e below (s₁.setTop (mkF m 1 #[.val (.ref xx), .val .null, .unset] [.null])) _
    refine X0.instanceofNull hx (g := (mkF m 1 #[.val (.ref xx), .val .null, .unset] [.null])) rfl rfl (hb hby d11_1) _ ?_
    show Steps p.tables e below (s₁.setTop (mkF m 4 #[.val (.ref xx), .val .null, .unset] [(.int (0 : Int32))])) _
    refine XS.ifYes X0.here hx rfl (pc0 := 4) (pc' := 52) rfl (hb hby d11_4) rfl ((if0 _ _).trans (teq (rfl : (0 : Int32) = (0 : Int32))).1) (by decide) (by decide) ?_
    show Steps p.tables e below (s₁.setTop (mkF m 52 #[.val (.ref xx), .val .null, .unset] [])) _
    refine XS.iconst X0.here hx rfl (hb hby d11_52) ?_
    show Steps p.tables e below (s₁.setTop (mkF m 53 #[.val (.ref xx), .val .null, .unset] [(.int (0 : Int32))])) _
    exact retN X0 hx (t := .boolean) Bd.returns (by simp) (hb hby d11_53) hr
  · show Q_rmE5 Z xx h0 n0 _ s₁.heap _
    rw [e0]
    exact ⟨rfl, N0, rfl⟩
def Q_rmE6 (Z : State) (xx : Addr) (yy : Addr) (h0 : Heap) (n0 : Nat) (v : Option Value) (h : Heap) (L : List Loc) : Prop := v = some (.int (0 : Int32)) ∧ Fr n0 L ∧ h = h0
theorem ef_rmE6 (m : MethodId) (xx : Addr) (yy : Addr) : entryFrame m #[(.ref xx), (.ref yy)] 3 = mkF m 0 #[.val (.ref xx), .val (.ref yy), .unset] [] := by first | (simp [entryFrame, mkF, argsToLocals, Value.category]; done) | rfl
set_option maxRecDepth 65536 in
set_option maxHeartbeats 40000000 in
theorem rmE6 (l : Launch) (Z : State) (a0 : Array Value) (hw : ∀ d ∈ tables_1, d.before a0 Z = true) (ws : List Jvm.Cond) (xx : Addr) (yy : Addr) (h0 : Heap) (n0 : Nat) (Z0 : n0 ≤ h0.size) (E_yy : Exa Z h0 yy "java/lang/String") :
    MetFree l (⟨"com/example/abox_to_sql/aboxtosql/AddedAssertion", "equals", "(Ljava/lang/Object;)Z"⟩ : MethodName) (head1 (Jvm.Cond.code (⟨"com/example/abox_to_sql/aboxtosql/AddedAssertion", "equals", "(Ljava/lang/Object;)Z"⟩ : MethodName) prog_2_method_5_code 3 (some .boolean) :: ws) ({ frames := 3, cells := 0, slots := 0, locals := 60 } : Room)) (fun aa U => aa = #[(.ref xx), (.ref yy)] ∧ Z.Warmed39 U.vm ∧ U.heap = h0) (fun _ _ _ _ _ => True) (fun _ U o U' => ∃ v L, o = .returned v ∧ Q_rmE6 Z xx yy h0 n0 v U'.heap L ∧ FrameEnd U o U' L ({ frames := 3, cells := 0, slots := 0, locals := 60 } : Room).cells ({ frames := 3, cells := 0, slots := 0, locals := 60 } : Room).slots) := by
  refine MetFree.of_bodySF (plainFor_of_name pn_com_example_abox_to_sql_aboxtosql_AddedAssertion) hisR ?_
  intro p e s m args below meth c s₁ Bd hml0 hP hK
  obtain ⟨rfl, hZ, hh⟩ := hP
  have hx := Bd.exec
  have hby := Bd.bytes
  have hml : c.maxLocals = 3 := hml0
  have hown : s.vm.findClass "com/example/abox_to_sql/aboxtosql/AddedAssertion" = some m.cls := findClass_of_methodNamed Bd.named
  have hnm := (name_of_methodNamed Bd.named Bd.method).1
  have X0 : Stand p l e ({ frames := 3, cells := 0, slots := 0, locals := 60 } : Room) s m #[(.ref xx), (.ref yy)] below meth c s₁ [] 0 0 := Stand.of_body Bd
  have e0 : s₁.heap = h0 := by rw [← hh, Bd.state]; rfl
  have N0 := Fr.nil n0
  have pre0 : ∀ t, Steps p.tables e below (s₁.setTop (mkF m 0 #[.val (.ref xx), .val (.ref yy), .unset] [])) t → Steps p.tables e below (s₁.setTop (entryFrame m #[(.ref xx), (.ref yy)] 3)) t := fun t k => castTop (ef_rmE6 m xx yy) k
  obtain ⟨T1, X1, e1, st1⟩ := instNo X0 hx hZ hown (hw _ (List.mem_of_getElem? (i := 64) rfl)) e0 E_yy (own_no (hw _ (List.mem_of_getElem? (i := 76) rfl)) (hw _ (List.mem_of_getElem? (i := 77) rfl)) (hw _ (List.mem_of_getElem? (i := 41) rfl)) (by decide) (by decide)) (g := (mkF m 1 #[.val (.ref xx), .val (.ref yy), .unset] [(.ref yy)])) rfl rfl (hb hby d11_1)
  obtain ⟨fs, hr, hrun, hended, hW, hsame⟩ := X1.leave (v := some (.int (0 : Int32))) (fun h => by rw [Bd.returns] at h; cases h)
  refine ⟨_, _, pre0 _ ?_, hrun, hended, _, _, rfl, ?_, ⟨_, rfl⟩, hW, hsame.mono (by decide) (by decide)⟩
  · show Steps p.tables e below (s₁.setTop (mkF m 0 #[.val (.ref xx), .val (.ref yy), .unset] [])) _
    refine XS.aloadN X0.here hx rfl (hb hby d11_0) rfl rfl ?_
    show Steps p.tables e below (s₁.setTop (mkF m 1 #[.val (.ref xx), .val (.ref yy), .unset] [(.ref yy)])) _
    refine st1 _ ?_
    show Steps p.tables e below (T1.setTop (mkF m 4 #[.val (.ref xx), .val (.ref yy), .unset] [(.int (0 : Int32))])) _
    refine XS.ifYes X1.here hx rfl (pc0 := 4) (pc' := 52) rfl (hb hby d11_4) rfl ((if0 _ _).trans (teq (rfl : (0 : Int32) = (0 : Int32))).1) (by decide) (by decide) ?_
    show Steps p.tables e below (T1.setTop (mkF m 52 #[.val (.ref xx), .val (.ref yy), .unset] [])) _
    refine XS.iconst X1.here hx rfl (hb hby d11_52) ?_
    show Steps p.tables e below (T1.setTop (mkF m 53 #[.val (.ref xx), .val (.ref yy), .unset] [(.int (0 : Int32))])) _
    exact retN X1 hx (t := .boolean) Bd.returns (by simp) (hb hby d11_53) hr
  · show Q_rmE6 Z xx yy h0 n0 _ T1.heap _
    rw [e1]
    exact ⟨rfl, N0, rfl⟩
def Q_rmE (Z : State) (xx : Addr) (yy : Addr) (ta : Addr) (tb : Addr) (va : Addr) (vb : Addr) (ka : ClassId) (kb : ClassId) (cs : List Int32) (ds : List Int32) (ra : Int32) (rb : Int32) (sa : Int32) (sb : Int32) (cz : Int32) (h0 : Heap) (n0 : Nat) (v : Option Value) (h : Heap) (L : List Loc) : Prop := v = some (.int (eqv cs ds ra rb sa sb)) ∧ Fr n0 L ∧ h = h0
theorem rmE (l : Launch) (Z : State) (a0 : Array Value) (hw : ∀ d ∈ tables_1, d.before a0 Z = true) (ws : List Jvm.Cond) (xx : Addr) (yy : Addr) (ta : Addr) (tb : Addr) (va : Addr) (vb : Addr) (ka : ClassId) (kb : ClassId) (cs : List Int32) (ds : List Int32) (ra : Int32) (rb : Int32) (sa : Int32) (sb : Int32) (cz : Int32) (h0 : Heap) (n0 : Nat) (X00 : Old Z n0 h0) (E_xx : Exa Z h0 xx "com/example/abox_to_sql/aboxtosql/AddedAssertion") (F_xx_assertion : Fld Z h0 xx "com/example/abox_to_sql/aboxtosql/AddedAssertion" "assertion" "Ljava/lang/String;" (.ref ta)) (F_xx_factsRead : Fld Z h0 xx "com/example/abox_to_sql/aboxtosql/AddedAssertion" "factsRead" "I" (.int ra)) (F_xx_factsStored : Fld Z h0 xx "com/example/abox_to_sql/aboxtosql/AddedAssertion" "factsStored" "I" (.int sa)) (E_yy : Exa Z h0 yy "com/example/abox_to_sql/aboxtosql/AddedAssertion") (F_yy_assertion : Fld Z h0 yy "com/example/abox_to_sql/aboxtosql/AddedAssertion" "assertion" "Ljava/lang/String;" (.ref tb)) (F_yy_factsRead : Fld Z h0 yy "com/example/abox_to_sql/aboxtosql/AddedAssertion" "factsRead" "I" (.int rb)) (F_yy_factsStored : Fld Z h0 yy "com/example/abox_to_sql/aboxtosql/AddedAssertion" "factsStored" "I" (.int sb)) (E_ta : Exa Z h0 ta "java/lang/String") (F_ta_coder : Fld Z h0 ta "java/lang/String" "coder" "B" (.int (0 : Int32))) (F_ta_value : Fld Z h0 ta "java/lang/String" "value" "[B" (.ref va)) (V_va : Arv Z h0 va ka .byte (Int32.ofNat cs.length) (bys cs) (.int (0 : Int32))) (E_tb : Exa Z h0 tb "java/lang/String") (F_tb_coder : Fld Z h0 tb "java/lang/String" "coder" "B" (.int (0 : Int32))) (F_tb_value : Fld Z h0 tb "java/lang/String" "value" "[B" (.ref vb)) (V_vb : Arv Z h0 vb kb .byte (Int32.ofNat ds.length) (bys ds) (.int (0 : Int32))) (S_COMPACT_STRINGS : Sta Z Z.heap "java/lang/String" "COMPACT_STRINGS" "Z" (.int cz)) (hcs : ∀ c ∈ cs, ¬ c < 0 ∧ ¬ (255 : Int32) < c) (lcs : cs.length ≤ 4000) (hds : ∀ c ∈ ds, ¬ c < 0 ∧ ¬ (255 : Int32) < c) (lds : ds.length ≤ 4000) (hcz : ¬ cz = 0) :
    MetFree l (⟨"com/example/abox_to_sql/aboxtosql/AddedAssertion", "equals", "(Ljava/lang/Object;)Z"⟩ : MethodName) (head1 (Jvm.Cond.code (⟨"com/example/abox_to_sql/aboxtosql/AddedAssertion", "equals", "(Ljava/lang/Object;)Z"⟩ : MethodName) prog_2_method_5_code 3 (some .boolean) :: ws) ({ frames := 3, cells := 0, slots := 0, locals := 60 } : Room)) (fun aa U => aa = #[(.ref xx), (.ref yy)] ∧ Z.Warmed39 U.vm ∧ U.heap = h0) (fun _ _ _ _ _ => True) (fun _ U o U' => ∃ v L, o = .returned v ∧ Q_rmE Z xx yy ta tb va vb ka kb cs ds ra rb sa sb cz h0 n0 v U'.heap L ∧ FrameEnd U o U' L ({ frames := 3, cells := 0, slots := 0, locals := 60 } : Room).cells ({ frames := 3, cells := 0, slots := 0, locals := 60 } : Room).slots) := by
  by_cases q1 : cs = ds
  · by_cases q2 : ra = rb
    · by_cases q3 : sa = sb
      · skip
        refine (rmE4 l Z a0 hw ws xx yy ta tb va vb ka kb cs ds ra rb sa sb cz h0 n0 X00 E_xx F_xx_assertion F_xx_factsRead F_xx_factsStored E_yy F_yy_assertion F_yy_factsRead F_yy_factsStored E_ta F_ta_coder F_ta_value V_va E_tb F_tb_coder F_tb_value V_vb S_COMPACT_STRINGS hcs lcs hds lds hcz q1 q2 q3).mono (fun _ _ h => h) (fun _ _ _ _ _ h => h) ?_
        rintro _ _ _ _ _ ⟨v, L, h1, ⟨r1, r2⟩, h3⟩
        exact ⟨v, L, h1, ⟨by rw [r1]; simp [eqv, q1, q2, q3], r2⟩, h3⟩
      · skip
        refine (rmE3 l Z a0 hw ws xx yy ta tb va vb ka kb cs ds ra rb sa sb cz h0 n0 X00 E_xx F_xx_assertion F_xx_factsRead F_xx_factsStored E_yy F_yy_assertion F_yy_factsRead F_yy_factsStored E_ta F_ta_coder F_ta_value V_va E_tb F_tb_coder F_tb_value V_vb S_COMPACT_STRINGS hcs lcs hds lds hcz q1 q2 q3).mono (fun _ _ h => h) (fun _ _ _ _ _ h => h) ?_
        rintro _ _ _ _ _ ⟨v, L, h1, ⟨r1, r2⟩, h3⟩
        exact ⟨v, L, h1, ⟨by rw [r1]; simp [eqv, q1, q2, q3], r2⟩, h3⟩
    · skip
      refine (rmE2 l Z a0 hw ws xx yy ta tb va vb ka kb cs ds ra rb sa sb cz h0 n0 X00 E_xx F_xx_assertion F_xx_factsRead F_xx_factsStored E_yy F_yy_assertion F_yy_factsRead F_yy_factsStored E_ta F_ta_coder F_ta_value V_va E_tb F_tb_coder F_tb_value V_vb S_COMPACT_STRINGS hcs lcs hds lds hcz q1 q2).mono (fun _ _ h => h) (fun _ _ _ _ _ h => h) ?_
      rintro _ _ _ _ _ ⟨v, L, h1, ⟨r1, r2⟩, h3⟩
      exact ⟨v, L, h1, ⟨by rw [r1]; simp [eqv, q1, q2], r2⟩, h3⟩
  · skip
    refine (rmE1 l Z a0 hw ws xx yy ta tb va vb ka kb cs ds ra rb sa sb cz h0 n0 X00 E_xx F_xx_assertion F_xx_factsRead F_xx_factsStored E_yy F_yy_assertion F_yy_factsRead F_yy_factsStored E_ta F_ta_coder F_ta_value V_va E_tb F_tb_coder F_tb_value V_vb S_COMPACT_STRINGS hcs lcs hds lds hcz q1).mono (fun _ _ h => h) (fun _ _ _ _ _ h => h) ?_
    rintro _ _ _ _ _ ⟨v, L, h1, ⟨r1, r2⟩, h3⟩
    exact ⟨v, L, h1, ⟨by rw [r1]; simp [eqv, q1], r2⟩, h3⟩
def Seg (l : Launch) (pc : Nat) (L : Array Slot) (pc' : Nat) (L' : Array Slot) : Prop := ∀ (p : Program) (e : Env) (R : Room) (s : State) (m : MethodId) (args : Array Value) (below : List Frame) (meth : Method) (c : Code) (T : State) (locs : List Loc) (cells slots : Nat), Stand p l e R s m args below meth c T locs cells slots → p.tables.exec = Jvm.exec → c.code = code → ∀ target, Steps p.tables e below (T.setTop (mkF m pc' L' [])) target → Steps p.tables e below (T.setTop (mkF m pc L [])) target
set_option maxRecDepth 65536 in
set_option maxHeartbeats 4000000 in
theorem segA_ttt (l : Launch) (cc : Int32) (ra : Int32) (sa : Int32) (rb : Int32) (sb : Int32) (md : Int32) (na : Int32) (nb : Int32) (hc66 : (md &&& (16 : Int32)) = (0 : Int32)) (hc86 : (md &&& (32 : Int32)) = (0 : Int32)) (hc101 : (md &&& (64 : Int32)) = (0 : Int32)) : Seg l 20 #[.val (.int cc), .val (.int ra), .val (.int sa), .val (.int rb), .val (.int sb), .val (.int md), .val (.int na), .val (.int nb), .unset, .unset, .unset, .unset, .unset, .unset, .unset, .unset, .unset, .unset, .unset, .unset, .unset] 112 #[.val (.int cc), .val (.int ra), .val (.int sa), .val (.int rb), .val (.int sb), .val (.int md), .val (.int na), .val (.int nb), .val (.int ((cc &&& (255 : Int32)).toUInt32.toUInt16.toUInt32.toInt32)), .val (.int ((((cc.toUInt32 >>> ((8 : Int32) &&& 31).toUInt32).toInt32) &&& (255 : Int32)).toUInt32.toUInt16.toUInt32.toInt32)), .val (.int ((((cc.toUInt32 >>> ((16 : Int32) &&& 31).toUInt32).toInt32) &&& (255 : Int32)).toUInt32.toUInt16.toUInt32.toInt32)), .val (.int ((((cc.toUInt32 >>> ((24 : Int32) &&& 31).toUInt32).toInt32) &&& (255 : Int32)).toUInt32.toUInt16.toUInt32.toInt32)), .val (.int rb), .val (.int sb), .unset, .unset, .unset, .unset, .unset, .unset, .unset] := by
  intro p e R s m args below meth c T locs cells slots X hx hby target k
  show Steps p.tables e below (T.setTop (mkF m 20 #[.val (.int cc), .val (.int ra), .val (.int sa), .val (.int rb), .val (.int sb), .val (.int md), .val (.int na), .val (.int nb), .unset, .unset, .unset, .unset, .unset, .unset, .unset, .unset, .unset, .unset, .unset, .unset, .unset] [])) _
  refine XS.iloadN X.here hx rfl (hb hby at_20) rfl ?_
  show Steps p.tables e below (T.setTop (mkF m 21 #[.val (.int cc), .val (.int ra), .val (.int sa), .val (.int rb), .val (.int sb), .val (.int md), .val (.int na), .val (.int nb), .unset, .unset, .unset, .unset, .unset, .unset, .unset, .unset, .unset, .unset, .unset, .unset, .unset] [(.int cc)])) _
  refine XS.sipush X.here hx rfl (hb hby at_21) ?_
  show Steps p.tables e below (T.setTop (mkF m 24 #[.val (.int cc), .val (.int ra), .val (.int sa), .val (.int rb), .val (.int sb), .val (.int md), .val (.int na), .val (.int nb), .unset, .unset, .unset, .unset, .unset, .unset, .unset, .unset, .unset, .unset, .unset, .unset, .unset] [(.int (255 : Int32)), (.int cc)])) _
  refine XS.iand X.here hx rfl (hb hby at_24) rfl ?_
  show Steps p.tables e below (T.setTop (mkF m 25 #[.val (.int cc), .val (.int ra), .val (.int sa), .val (.int rb), .val (.int sb), .val (.int md), .val (.int na), .val (.int nb), .unset, .unset, .unset, .unset, .unset, .unset, .unset, .unset, .unset, .unset, .unset, .unset, .unset] [(.int (cc &&& (255 : Int32)))])) _
  refine XS.i2c X.here hx rfl (hb hby at_25) rfl ?_
  show Steps p.tables e below (T.setTop (mkF m 26 #[.val (.int cc), .val (.int ra), .val (.int sa), .val (.int rb), .val (.int sb), .val (.int md), .val (.int na), .val (.int nb), .unset, .unset, .unset, .unset, .unset, .unset, .unset, .unset, .unset, .unset, .unset, .unset, .unset] [(.int ((cc &&& (255 : Int32)).toUInt32.toUInt16.toUInt32.toInt32))])) _
  refine XS.istore X.here hx rfl (hb hby at_26) rfl (l' := #[.val (.int cc), .val (.int ra), .val (.int sa), .val (.int rb), .val (.int sb), .val (.int md), .val (.int na), .val (.int nb), .val (.int ((cc &&& (255 : Int32)).toUInt32.toUInt16.toUInt32.toInt32)), .unset, .unset, .unset, .unset, .unset, .unset, .unset, .unset, .unset, .unset, .unset, .unset]) rfl ?_
  show Steps p.tables e below (T.setTop (mkF m 28 #[.val (.int cc), .val (.int ra), .val (.int sa), .val (.int rb), .val (.int sb), .val (.int md), .val (.int na), .val (.int nb), .val (.int ((cc &&& (255 : Int32)).toUInt32.toUInt16.toUInt32.toInt32)), .unset, .unset, .unset, .unset, .unset, .unset, .unset, .unset, .unset, .unset, .unset, .unset] [])) _
  refine XS.iloadN X.here hx rfl (hb hby at_28) rfl ?_
  show Steps p.tables e below (T.setTop (mkF m 29 #[.val (.int cc), .val (.int ra), .val (.int sa), .val (.int rb), .val (.int sb), .val (.int md), .val (.int na), .val (.int nb), .val (.int ((cc &&& (255 : Int32)).toUInt32.toUInt16.toUInt32.toInt32)), .unset, .unset, .unset, .unset, .unset, .unset, .unset, .unset, .unset, .unset, .unset, .unset] [(.int cc)])) _
  refine XS.bipush X.here hx rfl (hb hby at_29) ?_
  show Steps p.tables e below (T.setTop (mkF m 31 #[.val (.int cc), .val (.int ra), .val (.int sa), .val (.int rb), .val (.int sb), .val (.int md), .val (.int na), .val (.int nb), .val (.int ((cc &&& (255 : Int32)).toUInt32.toUInt16.toUInt32.toInt32)), .unset, .unset, .unset, .unset, .unset, .unset, .unset, .unset, .unset, .unset, .unset, .unset] [(.int (8 : Int32)), (.int cc)])) _
  refine XS.iushr X.here hx rfl (hb hby at_31) rfl ?_
  show Steps p.tables e below (T.setTop (mkF m 32 #[.val (.int cc), .val (.int ra), .val (.int sa), .val (.int rb), .val (.int sb), .val (.int md), .val (.int na), .val (.int nb), .val (.int ((cc &&& (255 : Int32)).toUInt32.toUInt16.toUInt32.toInt32)), .unset, .unset, .unset, .unset, .unset, .unset, .unset, .unset, .unset, .unset, .unset, .unset] [(.int ((cc.toUInt32 >>> ((8 : Int32) &&& 31).toUInt32).toInt32))])) _
  refine XS.sipush X.here hx rfl (hb hby at_32) ?_
  show Steps p.tables e below (T.setTop (mkF m 35 #[.val (.int cc), .val (.int ra), .val (.int sa), .val (.int rb), .val (.int sb), .val (.int md), .val (.int na), .val (.int nb), .val (.int ((cc &&& (255 : Int32)).toUInt32.toUInt16.toUInt32.toInt32)), .unset, .unset, .unset, .unset, .unset, .unset, .unset, .unset, .unset, .unset, .unset, .unset] [(.int (255 : Int32)), (.int ((cc.toUInt32 >>> ((8 : Int32) &&& 31).toUInt32).toInt32))])) _
  refine XS.iand X.here hx rfl (hb hby at_35) rfl ?_
  show Steps p.tables e below (T.setTop (mkF m 36 #[.val (.int cc), .val (.int ra), .val (.int sa), .val (.int rb), .val (.int sb), .val (.int md), .val (.int na), .val (.int nb), .val (.int ((cc &&& (255 : Int32)).toUInt32.toUInt16.toUInt32.toInt32)), .unset, .unset, .unset, .unset, .unset, .unset, .unset, .unset, .unset, .unset, .unset, .unset] [(.int (((cc.toUInt32 >>> ((8 : Int32) &&& 31).toUInt32).toInt32) &&& (255 : Int32)))])) _
  refine XS.i2c X.here hx rfl (hb hby at_36) rfl ?_
  show Steps p.tables e below (T.setTop (mkF m 37 #[.val (.int cc), .val (.int ra), .val (.int sa), .val (.int rb), .val (.int sb), .val (.int md), .val (.int na), .val (.int nb), .val (.int ((cc &&& (255 : Int32)).toUInt32.toUInt16.toUInt32.toInt32)), .unset, .unset, .unset, .unset, .unset, .unset, .unset, .unset, .unset, .unset, .unset, .unset] [(.int ((((cc.toUInt32 >>> ((8 : Int32) &&& 31).toUInt32).toInt32) &&& (255 : Int32)).toUInt32.toUInt16.toUInt32.toInt32))])) _
  refine XS.istore X.here hx rfl (hb hby at_37) rfl (l' := #[.val (.int cc), .val (.int ra), .val (.int sa), .val (.int rb), .val (.int sb), .val (.int md), .val (.int na), .val (.int nb), .val (.int ((cc &&& (255 : Int32)).toUInt32.toUInt16.toUInt32.toInt32)), .val (.int ((((cc.toUInt32 >>> ((8 : Int32) &&& 31).toUInt32).toInt32) &&& (255 : Int32)).toUInt32.toUInt16.toUInt32.toInt32)), .unset, .unset, .unset, .unset, .unset, .unset, .unset, .unset, .unset, .unset, .unset]) rfl ?_
  show Steps p.tables e below (T.setTop (mkF m 39 #[.val (.int cc), .val (.int ra), .val (.int sa), .val (.int rb), .val (.int sb), .val (.int md), .val (.int na), .val (.int nb), .val (.int ((cc &&& (255 : Int32)).toUInt32.toUInt16.toUInt32.toInt32)), .val (.int ((((cc.toUInt32 >>> ((8 : Int32) &&& 31).toUInt32).toInt32) &&& (255 : Int32)).toUInt32.toUInt16.toUInt32.toInt32)), .unset, .unset, .unset, .unset, .unset, .unset, .unset, .unset, .unset, .unset, .unset] [])) _
  refine XS.iloadN X.here hx rfl (hb hby at_39) rfl ?_
  show Steps p.tables e below (T.setTop (mkF m 40 #[.val (.int cc), .val (.int ra), .val (.int sa), .val (.int rb), .val (.int sb), .val (.int md), .val (.int na), .val (.int nb), .val (.int ((cc &&& (255 : Int32)).toUInt32.toUInt16.toUInt32.toInt32)), .val (.int ((((cc.toUInt32 >>> ((8 : Int32) &&& 31).toUInt32).toInt32) &&& (255 : Int32)).toUInt32.toUInt16.toUInt32.toInt32)), .unset, .unset, .unset, .unset, .unset, .unset, .unset, .unset, .unset, .unset, .unset] [(.int cc)])) _
  refine XS.bipush X.here hx rfl (hb hby at_40) ?_
  show Steps p.tables e below (T.setTop (mkF m 42 #[.val (.int cc), .val (.int ra), .val (.int sa), .val (.int rb), .val (.int sb), .val (.int md), .val (.int na), .val (.int nb), .val (.int ((cc &&& (255 : Int32)).toUInt32.toUInt16.toUInt32.toInt32)), .val (.int ((((cc.toUInt32 >>> ((8 : Int32) &&& 31).toUInt32).toInt32) &&& (255 : Int32)).toUInt32.toUInt16.toUInt32.toInt32)), .unset, .unset, .unset, .unset, .unset, .unset, .unset, .unset, .unset, .unset, .unset] [(.int (16 : Int32)), (.int cc)])) _
  refine XS.iushr X.here hx rfl (hb hby at_42) rfl ?_
  show Steps p.tables e below (T.setTop (mkF m 43 #[.val (.int cc), .val (.int ra), .val (.int sa), .val (.int rb), .val (.int sb), .val (.int md), .val (.int na), .val (.int nb), .val (.int ((cc &&& (255 : Int32)).toUInt32.toUInt16.toUInt32.toInt32)), .val (.int ((((cc.toUInt32 >>> ((8 : Int32) &&& 31).toUInt32).toInt32) &&& (255 : Int32)).toUInt32.toUInt16.toUInt32.toInt32)), .unset, .unset, .unset, .unset, .unset, .unset, .unset, .unset, .unset, .unset, .unset] [(.int ((cc.toUInt32 >>> ((16 : Int32) &&& 31).toUInt32).toInt32))])) _
  refine XS.sipush X.here hx rfl (hb hby at_43) ?_
  show Steps p.tables e below (T.setTop (mkF m 46 #[.val (.int cc), .val (.int ra), .val (.int sa), .val (.int rb), .val (.int sb), .val (.int md), .val (.int na), .val (.int nb), .val (.int ((cc &&& (255 : Int32)).toUInt32.toUInt16.toUInt32.toInt32)), .val (.int ((((cc.toUInt32 >>> ((8 : Int32) &&& 31).toUInt32).toInt32) &&& (255 : Int32)).toUInt32.toUInt16.toUInt32.toInt32)), .unset, .unset, .unset, .unset, .unset, .unset, .unset, .unset, .unset, .unset, .unset] [(.int (255 : Int32)), (.int ((cc.toUInt32 >>> ((16 : Int32) &&& 31).toUInt32).toInt32))])) _
  refine XS.iand X.here hx rfl (hb hby at_46) rfl ?_
  show Steps p.tables e below (T.setTop (mkF m 47 #[.val (.int cc), .val (.int ra), .val (.int sa), .val (.int rb), .val (.int sb), .val (.int md), .val (.int na), .val (.int nb), .val (.int ((cc &&& (255 : Int32)).toUInt32.toUInt16.toUInt32.toInt32)), .val (.int ((((cc.toUInt32 >>> ((8 : Int32) &&& 31).toUInt32).toInt32) &&& (255 : Int32)).toUInt32.toUInt16.toUInt32.toInt32)), .unset, .unset, .unset, .unset, .unset, .unset, .unset, .unset, .unset, .unset, .unset] [(.int (((cc.toUInt32 >>> ((16 : Int32) &&& 31).toUInt32).toInt32) &&& (255 : Int32)))])) _
  refine XS.i2c X.here hx rfl (hb hby at_47) rfl ?_
  show Steps p.tables e below (T.setTop (mkF m 48 #[.val (.int cc), .val (.int ra), .val (.int sa), .val (.int rb), .val (.int sb), .val (.int md), .val (.int na), .val (.int nb), .val (.int ((cc &&& (255 : Int32)).toUInt32.toUInt16.toUInt32.toInt32)), .val (.int ((((cc.toUInt32 >>> ((8 : Int32) &&& 31).toUInt32).toInt32) &&& (255 : Int32)).toUInt32.toUInt16.toUInt32.toInt32)), .unset, .unset, .unset, .unset, .unset, .unset, .unset, .unset, .unset, .unset, .unset] [(.int ((((cc.toUInt32 >>> ((16 : Int32) &&& 31).toUInt32).toInt32) &&& (255 : Int32)).toUInt32.toUInt16.toUInt32.toInt32))])) _
  refine XS.istore X.here hx rfl (hb hby at_48) rfl (l' := #[.val (.int cc), .val (.int ra), .val (.int sa), .val (.int rb), .val (.int sb), .val (.int md), .val (.int na), .val (.int nb), .val (.int ((cc &&& (255 : Int32)).toUInt32.toUInt16.toUInt32.toInt32)), .val (.int ((((cc.toUInt32 >>> ((8 : Int32) &&& 31).toUInt32).toInt32) &&& (255 : Int32)).toUInt32.toUInt16.toUInt32.toInt32)), .val (.int ((((cc.toUInt32 >>> ((16 : Int32) &&& 31).toUInt32).toInt32) &&& (255 : Int32)).toUInt32.toUInt16.toUInt32.toInt32)), .unset, .unset, .unset, .unset, .unset, .unset, .unset, .unset, .unset, .unset]) rfl ?_
  show Steps p.tables e below (T.setTop (mkF m 50 #[.val (.int cc), .val (.int ra), .val (.int sa), .val (.int rb), .val (.int sb), .val (.int md), .val (.int na), .val (.int nb), .val (.int ((cc &&& (255 : Int32)).toUInt32.toUInt16.toUInt32.toInt32)), .val (.int ((((cc.toUInt32 >>> ((8 : Int32) &&& 31).toUInt32).toInt32) &&& (255 : Int32)).toUInt32.toUInt16.toUInt32.toInt32)), .val (.int ((((cc.toUInt32 >>> ((16 : Int32) &&& 31).toUInt32).toInt32) &&& (255 : Int32)).toUInt32.toUInt16.toUInt32.toInt32)), .unset, .unset, .unset, .unset, .unset, .unset, .unset, .unset, .unset, .unset] [])) _
  refine XS.iloadN X.here hx rfl (hb hby at_50) rfl ?_
  show Steps p.tables e below (T.setTop (mkF m 51 #[.val (.int cc), .val (.int ra), .val (.int sa), .val (.int rb), .val (.int sb), .val (.int md), .val (.int na), .val (.int nb), .val (.int ((cc &&& (255 : Int32)).toUInt32.toUInt16.toUInt32.toInt32)), .val (.int ((((cc.toUInt32 >>> ((8 : Int32) &&& 31).toUInt32).toInt32) &&& (255 : Int32)).toUInt32.toUInt16.toUInt32.toInt32)), .val (.int ((((cc.toUInt32 >>> ((16 : Int32) &&& 31).toUInt32).toInt32) &&& (255 : Int32)).toUInt32.toUInt16.toUInt32.toInt32)), .unset, .unset, .unset, .unset, .unset, .unset, .unset, .unset, .unset, .unset] [(.int cc)])) _
  refine XS.bipush X.here hx rfl (hb hby at_51) ?_
  show Steps p.tables e below (T.setTop (mkF m 53 #[.val (.int cc), .val (.int ra), .val (.int sa), .val (.int rb), .val (.int sb), .val (.int md), .val (.int na), .val (.int nb), .val (.int ((cc &&& (255 : Int32)).toUInt32.toUInt16.toUInt32.toInt32)), .val (.int ((((cc.toUInt32 >>> ((8 : Int32) &&& 31).toUInt32).toInt32) &&& (255 : Int32)).toUInt32.toUInt16.toUInt32.toInt32)), .val (.int ((((cc.toUInt32 >>> ((16 : Int32) &&& 31).toUInt32).toInt32) &&& (255 : Int32)).toUInt32.toUInt16.toUInt32.toInt32)), .unset, .unset, .unset, .unset, .unset, .unset, .unset, .unset, .unset, .unset] [(.int (24 : Int32)), (.int cc)])) _
  refine XS.iushr X.here hx rfl (hb hby at_53) rfl ?_
  show Steps p.tables e below (T.setTop (mkF m 54 #[.val (.int cc), .val (.int ra), .val (.int sa), .val (.int rb), .val (.int sb), .val (.int md), .val (.int na), .val (.int nb), .val (.int ((cc &&& (255 : Int32)).toUInt32.toUInt16.toUInt32.toInt32)), .val (.int ((((cc.toUInt32 >>> ((8 : Int32) &&& 31).toUInt32).toInt32) &&& (255 : Int32)).toUInt32.toUInt16.toUInt32.toInt32)), .val (.int ((((cc.toUInt32 >>> ((16 : Int32) &&& 31).toUInt32).toInt32) &&& (255 : Int32)).toUInt32.toUInt16.toUInt32.toInt32)), .unset, .unset, .unset, .unset, .unset, .unset, .unset, .unset, .unset, .unset] [(.int ((cc.toUInt32 >>> ((24 : Int32) &&& 31).toUInt32).toInt32))])) _
  refine XS.sipush X.here hx rfl (hb hby at_54) ?_
  show Steps p.tables e below (T.setTop (mkF m 57 #[.val (.int cc), .val (.int ra), .val (.int sa), .val (.int rb), .val (.int sb), .val (.int md), .val (.int na), .val (.int nb), .val (.int ((cc &&& (255 : Int32)).toUInt32.toUInt16.toUInt32.toInt32)), .val (.int ((((cc.toUInt32 >>> ((8 : Int32) &&& 31).toUInt32).toInt32) &&& (255 : Int32)).toUInt32.toUInt16.toUInt32.toInt32)), .val (.int ((((cc.toUInt32 >>> ((16 : Int32) &&& 31).toUInt32).toInt32) &&& (255 : Int32)).toUInt32.toUInt16.toUInt32.toInt32)), .unset, .unset, .unset, .unset, .unset, .unset, .unset, .unset, .unset, .unset] [(.int (255 : Int32)), (.int ((cc.toUInt32 >>> ((24 : Int32) &&& 31).toUInt32).toInt32))])) _
  refine XS.iand X.here hx rfl (hb hby at_57) rfl ?_
  show Steps p.tables e below (T.setTop (mkF m 58 #[.val (.int cc), .val (.int ra), .val (.int sa), .val (.int rb), .val (.int sb), .val (.int md), .val (.int na), .val (.int nb), .val (.int ((cc &&& (255 : Int32)).toUInt32.toUInt16.toUInt32.toInt32)), .val (.int ((((cc.toUInt32 >>> ((8 : Int32) &&& 31).toUInt32).toInt32) &&& (255 : Int32)).toUInt32.toUInt16.toUInt32.toInt32)), .val (.int ((((cc.toUInt32 >>> ((16 : Int32) &&& 31).toUInt32).toInt32) &&& (255 : Int32)).toUInt32.toUInt16.toUInt32.toInt32)), .unset, .unset, .unset, .unset, .unset, .unset, .unset, .unset, .unset, .unset] [(.int (((cc.toUInt32 >>> ((24 : Int32) &&& 31).toUInt32).toInt32) &&& (255 : Int32)))])) _
  refine XS.i2c X.here hx rfl (hb hby at_58) rfl ?_
  show Steps p.tables e below (T.setTop (mkF m 59 #[.val (.int cc), .val (.int ra), .val (.int sa), .val (.int rb), .val (.int sb), .val (.int md), .val (.int na), .val (.int nb), .val (.int ((cc &&& (255 : Int32)).toUInt32.toUInt16.toUInt32.toInt32)), .val (.int ((((cc.toUInt32 >>> ((8 : Int32) &&& 31).toUInt32).toInt32) &&& (255 : Int32)).toUInt32.toUInt16.toUInt32.toInt32)), .val (.int ((((cc.toUInt32 >>> ((16 : Int32) &&& 31).toUInt32).toInt32) &&& (255 : Int32)).toUInt32.toUInt16.toUInt32.toInt32)), .unset, .unset, .unset, .unset, .unset, .unset, .unset, .unset, .unset, .unset] [(.int ((((cc.toUInt32 >>> ((24 : Int32) &&& 31).toUInt32).toInt32) &&& (255 : Int32)).toUInt32.toUInt16.toUInt32.toInt32))])) _
  refine XS.istore X.here hx rfl (hb hby at_59) rfl (l' := #[.val (.int cc), .val (.int ra), .val (.int sa), .val (.int rb), .val (.int sb), .val (.int md), .val (.int na), .val (.int nb), .val (.int ((cc &&& (255 : Int32)).toUInt32.toUInt16.toUInt32.toInt32)), .val (.int ((((cc.toUInt32 >>> ((8 : Int32) &&& 31).toUInt32).toInt32) &&& (255 : Int32)).toUInt32.toUInt16.toUInt32.toInt32)), .val (.int ((((cc.toUInt32 >>> ((16 : Int32) &&& 31).toUInt32).toInt32) &&& (255 : Int32)).toUInt32.toUInt16.toUInt32.toInt32)), .val (.int ((((cc.toUInt32 >>> ((24 : Int32) &&& 31).toUInt32).toInt32) &&& (255 : Int32)).toUInt32.toUInt16.toUInt32.toInt32)), .unset, .unset, .unset, .unset, .unset, .unset, .unset, .unset, .unset]) rfl ?_
  show Steps p.tables e below (T.setTop (mkF m 61 #[.val (.int cc), .val (.int ra), .val (.int sa), .val (.int rb), .val (.int sb), .val (.int md), .val (.int na), .val (.int nb), .val (.int ((cc &&& (255 : Int32)).toUInt32.toUInt16.toUInt32.toInt32)), .val (.int ((((cc.toUInt32 >>> ((8 : Int32) &&& 31).toUInt32).toInt32) &&& (255 : Int32)).toUInt32.toUInt16.toUInt32.toInt32)), .val (.int ((((cc.toUInt32 >>> ((16 : Int32) &&& 31).toUInt32).toInt32) &&& (255 : Int32)).toUInt32.toUInt16.toUInt32.toInt32)), .val (.int ((((cc.toUInt32 >>> ((24 : Int32) &&& 31).toUInt32).toInt32) &&& (255 : Int32)).toUInt32.toUInt16.toUInt32.toInt32)), .unset, .unset, .unset, .unset, .unset, .unset, .unset, .unset, .unset] [])) _
  refine XS.iload X.here hx rfl (hb hby at_61) rfl ?_
  show Steps p.tables e below (T.setTop (mkF m 63 #[.val (.int cc), .val (.int ra), .val (.int sa), .val (.int rb), .val (.int sb), .val (.int md), .val (.int na), .val (.int nb), .val (.int ((cc &&& (255 : Int32)).toUInt32.toUInt16.toUInt32.toInt32)), .val (.int ((((cc.toUInt32 >>> ((8 : Int32) &&& 31).toUInt32).toInt32) &&& (255 : Int32)).toUInt32.toUInt16.toUInt32.toInt32)), .val (.int ((((cc.toUInt32 >>> ((16 : Int32) &&& 31).toUInt32).toInt32) &&& (255 : Int32)).toUInt32.toUInt16.toUInt32.toInt32)), .val (.int ((((cc.toUInt32 >>> ((24 : Int32) &&& 31).toUInt32).toInt32) &&& (255 : Int32)).toUInt32.toUInt16.toUInt32.toInt32)), .unset, .unset, .unset, .unset, .unset, .unset, .unset, .unset, .unset] [(.int md)])) _
  refine XS.bipush X.here hx rfl (hb hby at_63) ?_
  show Steps p.tables e below (T.setTop (mkF m 65 #[.val (.int cc), .val (.int ra), .val (.int sa), .val (.int rb), .val (.int sb), .val (.int md), .val (.int na), .val (.int nb), .val (.int ((cc &&& (255 : Int32)).toUInt32.toUInt16.toUInt32.toInt32)), .val (.int ((((cc.toUInt32 >>> ((8 : Int32) &&& 31).toUInt32).toInt32) &&& (255 : Int32)).toUInt32.toUInt16.toUInt32.toInt32)), .val (.int ((((cc.toUInt32 >>> ((16 : Int32) &&& 31).toUInt32).toInt32) &&& (255 : Int32)).toUInt32.toUInt16.toUInt32.toInt32)), .val (.int ((((cc.toUInt32 >>> ((24 : Int32) &&& 31).toUInt32).toInt32) &&& (255 : Int32)).toUInt32.toUInt16.toUInt32.toInt32)), .unset, .unset, .unset, .unset, .unset, .unset, .unset, .unset, .unset] [(.int (16 : Int32)), (.int md)])) _
  refine XS.iand X.here hx rfl (hb hby at_65) rfl ?_
  show Steps p.tables e below (T.setTop (mkF m 66 #[.val (.int cc), .val (.int ra), .val (.int sa), .val (.int rb), .val (.int sb), .val (.int md), .val (.int na), .val (.int nb), .val (.int ((cc &&& (255 : Int32)).toUInt32.toUInt16.toUInt32.toInt32)), .val (.int ((((cc.toUInt32 >>> ((8 : Int32) &&& 31).toUInt32).toInt32) &&& (255 : Int32)).toUInt32.toUInt16.toUInt32.toInt32)), .val (.int ((((cc.toUInt32 >>> ((16 : Int32) &&& 31).toUInt32).toInt32) &&& (255 : Int32)).toUInt32.toUInt16.toUInt32.toInt32)), .val (.int ((((cc.toUInt32 >>> ((24 : Int32) &&& 31).toUInt32).toInt32) &&& (255 : Int32)).toUInt32.toUInt16.toUInt32.toInt32)), .unset, .unset, .unset, .unset, .unset, .unset, .unset, .unset, .unset] [(.int (md &&& (16 : Int32)))])) _
  refine XS.ifYes X.here hx rfl (pc0 := 66) (pc' := 81) rfl (hb hby at_66) rfl ((if0 _ _).trans (teq hc66).1) (by decide) (by decide) ?_
  show Steps p.tables e below (T.setTop (mkF m 81 #[.val (.int cc), .val (.int ra), .val (.int sa), .val (.int rb), .val (.int sb), .val (.int md), .val (.int na), .val (.int nb), .val (.int ((cc &&& (255 : Int32)).toUInt32.toUInt16.toUInt32.toInt32)), .val (.int ((((cc.toUInt32 >>> ((8 : Int32) &&& 31).toUInt32).toInt32) &&& (255 : Int32)).toUInt32.toUInt16.toUInt32.toInt32)), .val (.int ((((cc.toUInt32 >>> ((16 : Int32) &&& 31).toUInt32).toInt32) &&& (255 : Int32)).toUInt32.toUInt16.toUInt32.toInt32)), .val (.int ((((cc.toUInt32 >>> ((24 : Int32) &&& 31).toUInt32).toInt32) &&& (255 : Int32)).toUInt32.toUInt16.toUInt32.toInt32)), .unset, .unset, .unset, .unset, .unset, .unset, .unset, .unset, .unset] [])) _
  refine XS.iload X.here hx rfl (hb hby at_81) rfl ?_
  show Steps p.tables e below (T.setTop (mkF m 83 #[.val (.int cc), .val (.int ra), .val (.int sa), .val (.int rb), .val (.int sb), .val (.int md), .val (.int na), .val (.int nb), .val (.int ((cc &&& (255 : Int32)).toUInt32.toUInt16.toUInt32.toInt32)), .val (.int ((((cc.toUInt32 >>> ((8 : Int32) &&& 31).toUInt32).toInt32) &&& (255 : Int32)).toUInt32.toUInt16.toUInt32.toInt32)), .val (.int ((((cc.toUInt32 >>> ((16 : Int32) &&& 31).toUInt32).toInt32) &&& (255 : Int32)).toUInt32.toUInt16.toUInt32.toInt32)), .val (.int ((((cc.toUInt32 >>> ((24 : Int32) &&& 31).toUInt32).toInt32) &&& (255 : Int32)).toUInt32.toUInt16.toUInt32.toInt32)), .unset, .unset, .unset, .unset, .unset, .unset, .unset, .unset, .unset] [(.int md)])) _
  refine XS.bipush X.here hx rfl (hb hby at_83) ?_
  show Steps p.tables e below (T.setTop (mkF m 85 #[.val (.int cc), .val (.int ra), .val (.int sa), .val (.int rb), .val (.int sb), .val (.int md), .val (.int na), .val (.int nb), .val (.int ((cc &&& (255 : Int32)).toUInt32.toUInt16.toUInt32.toInt32)), .val (.int ((((cc.toUInt32 >>> ((8 : Int32) &&& 31).toUInt32).toInt32) &&& (255 : Int32)).toUInt32.toUInt16.toUInt32.toInt32)), .val (.int ((((cc.toUInt32 >>> ((16 : Int32) &&& 31).toUInt32).toInt32) &&& (255 : Int32)).toUInt32.toUInt16.toUInt32.toInt32)), .val (.int ((((cc.toUInt32 >>> ((24 : Int32) &&& 31).toUInt32).toInt32) &&& (255 : Int32)).toUInt32.toUInt16.toUInt32.toInt32)), .unset, .unset, .unset, .unset, .unset, .unset, .unset, .unset, .unset] [(.int (32 : Int32)), (.int md)])) _
  refine XS.iand X.here hx rfl (hb hby at_85) rfl ?_
  show Steps p.tables e below (T.setTop (mkF m 86 #[.val (.int cc), .val (.int ra), .val (.int sa), .val (.int rb), .val (.int sb), .val (.int md), .val (.int na), .val (.int nb), .val (.int ((cc &&& (255 : Int32)).toUInt32.toUInt16.toUInt32.toInt32)), .val (.int ((((cc.toUInt32 >>> ((8 : Int32) &&& 31).toUInt32).toInt32) &&& (255 : Int32)).toUInt32.toUInt16.toUInt32.toInt32)), .val (.int ((((cc.toUInt32 >>> ((16 : Int32) &&& 31).toUInt32).toInt32) &&& (255 : Int32)).toUInt32.toUInt16.toUInt32.toInt32)), .val (.int ((((cc.toUInt32 >>> ((24 : Int32) &&& 31).toUInt32).toInt32) &&& (255 : Int32)).toUInt32.toUInt16.toUInt32.toInt32)), .unset, .unset, .unset, .unset, .unset, .unset, .unset, .unset, .unset] [(.int (md &&& (32 : Int32)))])) _
  refine XS.ifYes X.here hx rfl (pc0 := 86) (pc' := 93) rfl (hb hby at_86) rfl ((if0 _ _).trans (teq hc86).1) (by decide) (by decide) ?_
  show Steps p.tables e below (T.setTop (mkF m 93 #[.val (.int cc), .val (.int ra), .val (.int sa), .val (.int rb), .val (.int sb), .val (.int md), .val (.int na), .val (.int nb), .val (.int ((cc &&& (255 : Int32)).toUInt32.toUInt16.toUInt32.toInt32)), .val (.int ((((cc.toUInt32 >>> ((8 : Int32) &&& 31).toUInt32).toInt32) &&& (255 : Int32)).toUInt32.toUInt16.toUInt32.toInt32)), .val (.int ((((cc.toUInt32 >>> ((16 : Int32) &&& 31).toUInt32).toInt32) &&& (255 : Int32)).toUInt32.toUInt16.toUInt32.toInt32)), .val (.int ((((cc.toUInt32 >>> ((24 : Int32) &&& 31).toUInt32).toInt32) &&& (255 : Int32)).toUInt32.toUInt16.toUInt32.toInt32)), .unset, .unset, .unset, .unset, .unset, .unset, .unset, .unset, .unset] [])) _
  refine XS.iloadN X.here hx rfl (hb hby at_93) rfl ?_
  show Steps p.tables e below (T.setTop (mkF m 94 #[.val (.int cc), .val (.int ra), .val (.int sa), .val (.int rb), .val (.int sb), .val (.int md), .val (.int na), .val (.int nb), .val (.int ((cc &&& (255 : Int32)).toUInt32.toUInt16.toUInt32.toInt32)), .val (.int ((((cc.toUInt32 >>> ((8 : Int32) &&& 31).toUInt32).toInt32) &&& (255 : Int32)).toUInt32.toUInt16.toUInt32.toInt32)), .val (.int ((((cc.toUInt32 >>> ((16 : Int32) &&& 31).toUInt32).toInt32) &&& (255 : Int32)).toUInt32.toUInt16.toUInt32.toInt32)), .val (.int ((((cc.toUInt32 >>> ((24 : Int32) &&& 31).toUInt32).toInt32) &&& (255 : Int32)).toUInt32.toUInt16.toUInt32.toInt32)), .unset, .unset, .unset, .unset, .unset, .unset, .unset, .unset, .unset] [(.int rb)])) _
  refine XS.istore X.here hx rfl (hb hby at_94) rfl (l' := #[.val (.int cc), .val (.int ra), .val (.int sa), .val (.int rb), .val (.int sb), .val (.int md), .val (.int na), .val (.int nb), .val (.int ((cc &&& (255 : Int32)).toUInt32.toUInt16.toUInt32.toInt32)), .val (.int ((((cc.toUInt32 >>> ((8 : Int32) &&& 31).toUInt32).toInt32) &&& (255 : Int32)).toUInt32.toUInt16.toUInt32.toInt32)), .val (.int ((((cc.toUInt32 >>> ((16 : Int32) &&& 31).toUInt32).toInt32) &&& (255 : Int32)).toUInt32.toUInt16.toUInt32.toInt32)), .val (.int ((((cc.toUInt32 >>> ((24 : Int32) &&& 31).toUInt32).toInt32) &&& (255 : Int32)).toUInt32.toUInt16.toUInt32.toInt32)), .val (.int rb), .unset, .unset, .unset, .unset, .unset, .unset, .unset, .unset]) rfl ?_
  show Steps p.tables e below (T.setTop (mkF m 96 #[.val (.int cc), .val (.int ra), .val (.int sa), .val (.int rb), .val (.int sb), .val (.int md), .val (.int na), .val (.int nb), .val (.int ((cc &&& (255 : Int32)).toUInt32.toUInt16.toUInt32.toInt32)), .val (.int ((((cc.toUInt32 >>> ((8 : Int32) &&& 31).toUInt32).toInt32) &&& (255 : Int32)).toUInt32.toUInt16.toUInt32.toInt32)), .val (.int ((((cc.toUInt32 >>> ((16 : Int32) &&& 31).toUInt32).toInt32) &&& (255 : Int32)).toUInt32.toUInt16.toUInt32.toInt32)), .val (.int ((((cc.toUInt32 >>> ((24 : Int32) &&& 31).toUInt32).toInt32) &&& (255 : Int32)).toUInt32.toUInt16.toUInt32.toInt32)), .val (.int rb), .unset, .unset, .unset, .unset, .unset, .unset, .unset, .unset] [])) _
  refine XS.iload X.here hx rfl (hb hby at_96) rfl ?_
  show Steps p.tables e below (T.setTop (mkF m 98 #[.val (.int cc), .val (.int ra), .val (.int sa), .val (.int rb), .val (.int sb), .val (.int md), .val (.int na), .val (.int nb), .val (.int ((cc &&& (255 : Int32)).toUInt32.toUInt16.toUInt32.toInt32)), .val (.int ((((cc.toUInt32 >>> ((8 : Int32) &&& 31).toUInt32).toInt32) &&& (255 : Int32)).toUInt32.toUInt16.toUInt32.toInt32)), .val (.int ((((cc.toUInt32 >>> ((16 : Int32) &&& 31).toUInt32).toInt32) &&& (255 : Int32)).toUInt32.toUInt16.toUInt32.toInt32)), .val (.int ((((cc.toUInt32 >>> ((24 : Int32) &&& 31).toUInt32).toInt32) &&& (255 : Int32)).toUInt32.toUInt16.toUInt32.toInt32)), .val (.int rb), .unset, .unset, .unset, .unset, .unset, .unset, .unset, .unset] [(.int md)])) _
  refine XS.bipush X.here hx rfl (hb hby at_98) ?_
  show Steps p.tables e below (T.setTop (mkF m 100 #[.val (.int cc), .val (.int ra), .val (.int sa), .val (.int rb), .val (.int sb), .val (.int md), .val (.int na), .val (.int nb), .val (.int ((cc &&& (255 : Int32)).toUInt32.toUInt16.toUInt32.toInt32)), .val (.int ((((cc.toUInt32 >>> ((8 : Int32) &&& 31).toUInt32).toInt32) &&& (255 : Int32)).toUInt32.toUInt16.toUInt32.toInt32)), .val (.int ((((cc.toUInt32 >>> ((16 : Int32) &&& 31).toUInt32).toInt32) &&& (255 : Int32)).toUInt32.toUInt16.toUInt32.toInt32)), .val (.int ((((cc.toUInt32 >>> ((24 : Int32) &&& 31).toUInt32).toInt32) &&& (255 : Int32)).toUInt32.toUInt16.toUInt32.toInt32)), .val (.int rb), .unset, .unset, .unset, .unset, .unset, .unset, .unset, .unset] [(.int (64 : Int32)), (.int md)])) _
  refine XS.iand X.here hx rfl (hb hby at_100) rfl ?_
  show Steps p.tables e below (T.setTop (mkF m 101 #[.val (.int cc), .val (.int ra), .val (.int sa), .val (.int rb), .val (.int sb), .val (.int md), .val (.int na), .val (.int nb), .val (.int ((cc &&& (255 : Int32)).toUInt32.toUInt16.toUInt32.toInt32)), .val (.int ((((cc.toUInt32 >>> ((8 : Int32) &&& 31).toUInt32).toInt32) &&& (255 : Int32)).toUInt32.toUInt16.toUInt32.toInt32)), .val (.int ((((cc.toUInt32 >>> ((16 : Int32) &&& 31).toUInt32).toInt32) &&& (255 : Int32)).toUInt32.toUInt16.toUInt32.toInt32)), .val (.int ((((cc.toUInt32 >>> ((24 : Int32) &&& 31).toUInt32).toInt32) &&& (255 : Int32)).toUInt32.toUInt16.toUInt32.toInt32)), .val (.int rb), .unset, .unset, .unset, .unset, .unset, .unset, .unset, .unset] [(.int (md &&& (64 : Int32)))])) _
  refine XS.ifYes X.here hx rfl (pc0 := 101) (pc' := 108) rfl (hb hby at_101) rfl ((if0 _ _).trans (teq hc101).1) (by decide) (by decide) ?_
  show Steps p.tables e below (T.setTop (mkF m 108 #[.val (.int cc), .val (.int ra), .val (.int sa), .val (.int rb), .val (.int sb), .val (.int md), .val (.int na), .val (.int nb), .val (.int ((cc &&& (255 : Int32)).toUInt32.toUInt16.toUInt32.toInt32)), .val (.int ((((cc.toUInt32 >>> ((8 : Int32) &&& 31).toUInt32).toInt32) &&& (255 : Int32)).toUInt32.toUInt16.toUInt32.toInt32)), .val (.int ((((cc.toUInt32 >>> ((16 : Int32) &&& 31).toUInt32).toInt32) &&& (255 : Int32)).toUInt32.toUInt16.toUInt32.toInt32)), .val (.int ((((cc.toUInt32 >>> ((24 : Int32) &&& 31).toUInt32).toInt32) &&& (255 : Int32)).toUInt32.toUInt16.toUInt32.toInt32)), .val (.int rb), .unset, .unset, .unset, .unset, .unset, .unset, .unset, .unset] [])) _
  refine XS.iload X.here hx rfl (hb hby at_108) rfl ?_
  show Steps p.tables e below (T.setTop (mkF m 110 #[.val (.int cc), .val (.int ra), .val (.int sa), .val (.int rb), .val (.int sb), .val (.int md), .val (.int na), .val (.int nb), .val (.int ((cc &&& (255 : Int32)).toUInt32.toUInt16.toUInt32.toInt32)), .val (.int ((((cc.toUInt32 >>> ((8 : Int32) &&& 31).toUInt32).toInt32) &&& (255 : Int32)).toUInt32.toUInt16.toUInt32.toInt32)), .val (.int ((((cc.toUInt32 >>> ((16 : Int32) &&& 31).toUInt32).toInt32) &&& (255 : Int32)).toUInt32.toUInt16.toUInt32.toInt32)), .val (.int ((((cc.toUInt32 >>> ((24 : Int32) &&& 31).toUInt32).toInt32) &&& (255 : Int32)).toUInt32.toUInt16.toUInt32.toInt32)), .val (.int rb), .unset, .unset, .unset, .unset, .unset, .unset, .unset, .unset] [(.int sb)])) _
  refine XS.istore X.here hx rfl (hb hby at_110) rfl (l' := #[.val (.int cc), .val (.int ra), .val (.int sa), .val (.int rb), .val (.int sb), .val (.int md), .val (.int na), .val (.int nb), .val (.int ((cc &&& (255 : Int32)).toUInt32.toUInt16.toUInt32.toInt32)), .val (.int ((((cc.toUInt32 >>> ((8 : Int32) &&& 31).toUInt32).toInt32) &&& (255 : Int32)).toUInt32.toUInt16.toUInt32.toInt32)), .val (.int ((((cc.toUInt32 >>> ((16 : Int32) &&& 31).toUInt32).toInt32) &&& (255 : Int32)).toUInt32.toUInt16.toUInt32.toInt32)), .val (.int ((((cc.toUInt32 >>> ((24 : Int32) &&& 31).toUInt32).toInt32) &&& (255 : Int32)).toUInt32.toUInt16.toUInt32.toInt32)), .val (.int rb), .val (.int sb), .unset, .unset, .unset, .unset, .unset, .unset, .unset]) rfl ?_
  exact k
set_option maxRecDepth 65536 in
set_option maxHeartbeats 4000000 in
theorem segA_ttf (l : Launch) (cc : Int32) (ra : Int32) (sa : Int32) (rb : Int32) (sb : Int32) (md : Int32) (na : Int32) (nb : Int32) (hc66 : (md &&& (16 : Int32)) = (0 : Int32)) (hc86 : (md &&& (32 : Int32)) = (0 : Int32)) (hc101 : ¬ ((md &&& (64 : Int32)) = (0 : Int32))) : Seg l 20 #[.val (.int cc), .val (.int ra), .val (.int sa), .val (.int rb), .val (.int sb), .val (.int md), .val (.int na), .val (.int nb), .unset, .unset, .unset, .unset, .unset, .unset, .unset, .unset, .unset, .unset, .unset, .unset, .unset] 112 #[.val (.int cc), .val (.int ra), .val (.int sa), .val (.int rb), .val (.int sb), .val (.int md), .val (.int na), .val (.int nb), .val (.int ((cc &&& (255 : Int32)).toUInt32.toUInt16.toUInt32.toInt32)), .val (.int ((((cc.toUInt32 >>> ((8 : Int32) &&& 31).toUInt32).toInt32) &&& (255 : Int32)).toUInt32.toUInt16.toUInt32.toInt32)), .val (.int ((((cc.toUInt32 >>> ((16 : Int32) &&& 31).toUInt32).toInt32) &&& (255 : Int32)).toUInt32.toUInt16.toUInt32.toInt32)), .val (.int ((((cc.toUInt32 >>> ((24 : Int32) &&& 31).toUInt32).toInt32) &&& (255 : Int32)).toUInt32.toUInt16.toUInt32.toInt32)), .val (.int rb), .val (.int sa), .unset, .unset, .unset, .unset, .unset, .unset, .unset] := by
  intro p e R s m args below meth c T locs cells slots X hx hby target k
  show Steps p.tables e below (T.setTop (mkF m 20 #[.val (.int cc), .val (.int ra), .val (.int sa), .val (.int rb), .val (.int sb), .val (.int md), .val (.int na), .val (.int nb), .unset, .unset, .unset, .unset, .unset, .unset, .unset, .unset, .unset, .unset, .unset, .unset, .unset] [])) _
  refine XS.iloadN X.here hx rfl (hb hby at_20) rfl ?_
  show Steps p.tables e below (T.setTop (mkF m 21 #[.val (.int cc), .val (.int ra), .val (.int sa), .val (.int rb), .val (.int sb), .val (.int md), .val (.int na), .val (.int nb), .unset, .unset, .unset, .unset, .unset, .unset, .unset, .unset, .unset, .unset, .unset, .unset, .unset] [(.int cc)])) _
  refine XS.sipush X.here hx rfl (hb hby at_21) ?_
  show Steps p.tables e below (T.setTop (mkF m 24 #[.val (.int cc), .val (.int ra), .val (.int sa), .val (.int rb), .val (.int sb), .val (.int md), .val (.int na), .val (.int nb), .unset, .unset, .unset, .unset, .unset, .unset, .unset, .unset, .unset, .unset, .unset, .unset, .unset] [(.int (255 : Int32)), (.int cc)])) _
  refine XS.iand X.here hx rfl (hb hby at_24) rfl ?_
  show Steps p.tables e below (T.setTop (mkF m 25 #[.val (.int cc), .val (.int ra), .val (.int sa), .val (.int rb), .val (.int sb), .val (.int md), .val (.int na), .val (.int nb), .unset, .unset, .unset, .unset, .unset, .unset, .unset, .unset, .unset, .unset, .unset, .unset, .unset] [(.int (cc &&& (255 : Int32)))])) _
  refine XS.i2c X.here hx rfl (hb hby at_25) rfl ?_
  show Steps p.tables e below (T.setTop (mkF m 26 #[.val (.int cc), .val (.int ra), .val (.int sa), .val (.int rb), .val (.int sb), .val (.int md), .val (.int na), .val (.int nb), .unset, .unset, .unset, .unset, .unset, .unset, .unset, .unset, .unset, .unset, .unset, .unset, .unset] [(.int ((cc &&& (255 : Int32)).toUInt32.toUInt16.toUInt32.toInt32))])) _
  refine XS.istore X.here hx rfl (hb hby at_26) rfl (l' := #[.val (.int cc), .val (.int ra), .val (.int sa), .val (.int rb), .val (.int sb), .val (.int md), .val (.int na), .val (.int nb), .val (.int ((cc &&& (255 : Int32)).toUInt32.toUInt16.toUInt32.toInt32)), .unset, .unset, .unset, .unset, .unset, .unset, .unset, .unset, .unset, .unset, .unset, .unset]) rfl ?_
  show Steps p.tables e below (T.setTop (mkF m 28 #[.val (.int cc), .val (.int ra), .val (.int sa), .val (.int rb), .val (.int sb), .val (.int md), .val (.int na), .val (.int nb), .val (.int ((cc &&& (255 : Int32)).toUInt32.toUInt16.toUInt32.toInt32)), .unset, .unset, .unset, .unset, .unset, .unset, .unset, .unset, .unset, .unset, .unset, .unset] [])) _
  refine XS.iloadN X.here hx rfl (hb hby at_28) rfl ?_
  show Steps p.tables e below (T.setTop (mkF m 29 #[.val (.int cc), .val (.int ra), .val (.int sa), .val (.int rb), .val (.int sb), .val (.int md), .val (.int na), .val (.int nb), .val (.int ((cc &&& (255 : Int32)).toUInt32.toUInt16.toUInt32.toInt32)), .unset, .unset, .unset, .unset, .unset, .unset, .unset, .unset, .unset, .unset, .unset, .unset] [(.int cc)])) _
  refine XS.bipush X.here hx rfl (hb hby at_29) ?_
  show Steps p.tables e below (T.setTop (mkF m 31 #[.val (.int cc), .val (.int ra), .val (.int sa), .val (.int rb), .val (.int sb), .val (.int md), .val (.int na), .val (.int nb), .val (.int ((cc &&& (255 : Int32)).toUInt32.toUInt16.toUInt32.toInt32)), .unset, .unset, .unset, .unset, .unset, .unset, .unset, .unset, .unset, .unset, .unset, .unset] [(.int (8 : Int32)), (.int cc)])) _
  refine XS.iushr X.here hx rfl (hb hby at_31) rfl ?_
  show Steps p.tables e below (T.setTop (mkF m 32 #[.val (.int cc), .val (.int ra), .val (.int sa), .val (.int rb), .val (.int sb), .val (.int md), .val (.int na), .val (.int nb), .val (.int ((cc &&& (255 : Int32)).toUInt32.toUInt16.toUInt32.toInt32)), .unset, .unset, .unset, .unset, .unset, .unset, .unset, .unset, .unset, .unset, .unset, .unset] [(.int ((cc.toUInt32 >>> ((8 : Int32) &&& 31).toUInt32).toInt32))])) _
  refine XS.sipush X.here hx rfl (hb hby at_32) ?_
  show Steps p.tables e below (T.setTop (mkF m 35 #[.val (.int cc), .val (.int ra), .val (.int sa), .val (.int rb), .val (.int sb), .val (.int md), .val (.int na), .val (.int nb), .val (.int ((cc &&& (255 : Int32)).toUInt32.toUInt16.toUInt32.toInt32)), .unset, .unset, .unset, .unset, .unset, .unset, .unset, .unset, .unset, .unset, .unset, .unset] [(.int (255 : Int32)), (.int ((cc.toUInt32 >>> ((8 : Int32) &&& 31).toUInt32).toInt32))])) _
  refine XS.iand X.here hx rfl (hb hby at_35) rfl ?_
  show Steps p.tables e below (T.setTop (mkF m 36 #[.val (.int cc), .val (.int ra), .val (.int sa), .val (.int rb), .val (.int sb), .val (.int md), .val (.int na), .val (.int nb), .val (.int ((cc &&& (255 : Int32)).toUInt32.toUInt16.toUInt32.toInt32)), .unset, .unset, .unset, .unset, .unset, .unset, .unset, .unset, .unset, .unset, .unset, .unset] [(.int (((cc.toUInt32 >>> ((8 : Int32) &&& 31).toUInt32).toInt32) &&& (255 : Int32)))])) _
  refine XS.i2c X.here hx rfl (hb hby at_36) rfl ?_
  show Steps p.tables e below (T.setTop (mkF m 37 #[.val (.int cc), .val (.int ra), .val (.int sa), .val (.int rb), .val (.int sb), .val (.int md), .val (.int na), .val (.int nb), .val (.int ((cc &&& (255 : Int32)).toUInt32.toUInt16.toUInt32.toInt32)), .unset, .unset, .unset, .unset, .unset, .unset, .unset, .unset, .unset, .unset, .unset, .unset] [(.int ((((cc.toUInt32 >>> ((8 : Int32) &&& 31).toUInt32).toInt32) &&& (255 : Int32)).toUInt32.toUInt16.toUInt32.toInt32))])) _
  refine XS.istore X.here hx rfl (hb hby at_37) rfl (l' := #[.val (.int cc), .val (.int ra), .val (.int sa), .val (.int rb), .val (.int sb), .val (.int md), .val (.int na), .val (.int nb), .val (.int ((cc &&& (255 : Int32)).toUInt32.toUInt16.toUInt32.toInt32)), .val (.int ((((cc.toUInt32 >>> ((8 : Int32) &&& 31).toUInt32).toInt32) &&& (255 : Int32)).toUInt32.toUInt16.toUInt32.toInt32)), .unset, .unset, .unset, .unset, .unset, .unset, .unset, .unset, .unset, .unset, .unset]) rfl ?_
  show Steps p.tables e below (T.setTop (mkF m 39 #[.val (.int cc), .val (.int ra), .val (.int sa), .val (.int rb), .val (.int sb), .val (.int md), .val (.int na), .val (.int nb), .val (.int ((cc &&& (255 : Int32)).toUInt32.toUInt16.toUInt32.toInt32)), .val (.int ((((cc.toUInt32 >>> ((8 : Int32) &&& 31).toUInt32).toInt32) &&& (255 : Int32)).toUInt32.toUInt16.toUInt32.toInt32)), .unset, .unset, .unset, .unset, .unset, .unset, .unset, .unset, .unset, .unset, .unset] [])) _
  refine XS.iloadN X.here hx rfl (hb hby at_39) rfl ?_
  show Steps p.tables e below (T.setTop (mkF m 40 #[.val (.int cc), .val (.int ra), .val (.int sa), .val (.int rb), .val (.int sb), .val (.int md), .val (.int na), .val (.int nb), .val (.int ((cc &&& (255 : Int32)).toUInt32.toUInt16.toUInt32.toInt32)), .val (.int ((((cc.toUInt32 >>> ((8 : Int32) &&& 31).toUInt32).toInt32) &&& (255 : Int32)).toUInt32.toUInt16.toUInt32.toInt32)), .unset, .unset, .unset, .unset, .unset, .unset, .unset, .unset, .unset, .unset, .unset] [(.int cc)])) _
  refine XS.bipush X.here hx rfl (hb hby at_40) ?_
  show Steps p.tables e below (T.setTop (mkF m 42 #[.val (.int cc), .val (.int ra), .val (.int sa), .val (.int rb), .val (.int sb), .val (.int md), .val (.int na), .val (.int nb), .val (.int ((cc &&& (255 : Int32)).toUInt32.toUInt16.toUInt32.toInt32)), .val (.int ((((cc.toUInt32 >>> ((8 : Int32) &&& 31).toUInt32).toInt32) &&& (255 : Int32)).toUInt32.toUInt16.toUInt32.toInt32)), .unset, .unset, .unset, .unset, .unset, .unset, .unset, .unset, .unset, .unset, .unset] [(.int (16 : Int32)), (.int cc)])) _
  refine XS.iushr X.here hx rfl (hb hby at_42) rfl ?_
  show Steps p.tables e below (T.setTop (mkF m 43 #[.val (.int cc), .val (.int ra), .val (.int sa), .val (.int rb), .val (.int sb), .val (.int md), .val (.int na), .val (.int nb), .val (.int ((cc &&& (255 : Int32)).toUInt32.toUInt16.toUInt32.toInt32)), .val (.int ((((cc.toUInt32 >>> ((8 : Int32) &&& 31).toUInt32).toInt32) &&& (255 : Int32)).toUInt32.toUInt16.toUInt32.toInt32)), .unset, .unset, .unset, .unset, .unset, .unset, .unset, .unset, .unset, .unset, .unset] [(.int ((cc.toUInt32 >>> ((16 : Int32) &&& 31).toUInt32).toInt32))])) _
  refine XS.sipush X.here hx rfl (hb hby at_43) ?_
  show Steps p.tables e below (T.setTop (mkF m 46 #[.val (.int cc), .val (.int ra), .val (.int sa), .val (.int rb), .val (.int sb), .val (.int md), .val (.int na), .val (.int nb), .val (.int ((cc &&& (255 : Int32)).toUInt32.toUInt16.toUInt32.toInt32)), .val (.int ((((cc.toUInt32 >>> ((8 : Int32) &&& 31).toUInt32).toInt32) &&& (255 : Int32)).toUInt32.toUInt16.toUInt32.toInt32)), .unset, .unset, .unset, .unset, .unset, .unset, .unset, .unset, .unset, .unset, .unset] [(.int (255 : Int32)), (.int ((cc.toUInt32 >>> ((16 : Int32) &&& 31).toUInt32).toInt32))])) _
  refine XS.iand X.here hx rfl (hb hby at_46) rfl ?_
  show Steps p.tables e below (T.setTop (mkF m 47 #[.val (.int cc), .val (.int ra), .val (.int sa), .val (.int rb), .val (.int sb), .val (.int md), .val (.int na), .val (.int nb), .val (.int ((cc &&& (255 : Int32)).toUInt32.toUInt16.toUInt32.toInt32)), .val (.int ((((cc.toUInt32 >>> ((8 : Int32) &&& 31).toUInt32).toInt32) &&& (255 : Int32)).toUInt32.toUInt16.toUInt32.toInt32)), .unset, .unset, .unset, .unset, .unset, .unset, .unset, .unset, .unset, .unset, .unset] [(.int (((cc.toUInt32 >>> ((16 : Int32) &&& 31).toUInt32).toInt32) &&& (255 : Int32)))])) _
  refine XS.i2c X.here hx rfl (hb hby at_47) rfl ?_
  show Steps p.tables e below (T.setTop (mkF m 48 #[.val (.int cc), .val (.int ra), .val (.int sa), .val (.int rb), .val (.int sb), .val (.int md), .val (.int na), .val (.int nb), .val (.int ((cc &&& (255 : Int32)).toUInt32.toUInt16.toUInt32.toInt32)), .val (.int ((((cc.toUInt32 >>> ((8 : Int32) &&& 31).toUInt32).toInt32) &&& (255 : Int32)).toUInt32.toUInt16.toUInt32.toInt32)), .unset, .unset, .unset, .unset, .unset, .unset, .unset, .unset, .unset, .unset, .unset] [(.int ((((cc.toUInt32 >>> ((16 : Int32) &&& 31).toUInt32).toInt32) &&& (255 : Int32)).toUInt32.toUInt16.toUInt32.toInt32))])) _
  refine XS.istore X.here hx rfl (hb hby at_48) rfl (l' := #[.val (.int cc), .val (.int ra), .val (.int sa), .val (.int rb), .val (.int sb), .val (.int md), .val (.int na), .val (.int nb), .val (.int ((cc &&& (255 : Int32)).toUInt32.toUInt16.toUInt32.toInt32)), .val (.int ((((cc.toUInt32 >>> ((8 : Int32) &&& 31).toUInt32).toInt32) &&& (255 : Int32)).toUInt32.toUInt16.toUInt32.toInt32)), .val (.int ((((cc.toUInt32 >>> ((16 : Int32) &&& 31).toUInt32).toInt32) &&& (255 : Int32)).toUInt32.toUInt16.toUInt32.toInt32)), .unset, .unset, .unset, .unset, .unset, .unset, .unset, .unset, .unset, .unset]) rfl ?_
  show Steps p.tables e below (T.setTop (mkF m 50 #[.val (.int cc), .val (.int ra), .val (.int sa), .val (.int rb), .val (.int sb), .val (.int md), .val (.int na), .val (.int nb), .val (.int ((cc &&& (255 : Int32)).toUInt32.toUInt16.toUInt32.toInt32)), .val (.int ((((cc.toUInt32 >>> ((8 : Int32) &&& 31).toUInt32).toInt32) &&& (255 : Int32)).toUInt32.toUInt16.toUInt32.toInt32)), .val (.int ((((cc.toUInt32 >>> ((16 : Int32) &&& 31).toUInt32).toInt32) &&& (255 : Int32)).toUInt32.toUInt16.toUInt32.toInt32)), .unset, .unset, .unset, .unset, .unset, .unset, .unset, .unset, .unset, .unset] [])) _
  refine XS.iloadN X.here hx rfl (hb hby at_50) rfl ?_
  show Steps p.tables e below (T.setTop (mkF m 51 #[.val (.int cc), .val (.int ra), .val (.int sa), .val (.int rb), .val (.int sb), .val (.int md), .val (.int na), .val (.int nb), .val (.int ((cc &&& (255 : Int32)).toUInt32.toUInt16.toUInt32.toInt32)), .val (.int ((((cc.toUInt32 >>> ((8 : Int32) &&& 31).toUInt32).toInt32) &&& (255 : Int32)).toUInt32.toUInt16.toUInt32.toInt32)), .val (.int ((((cc.toUInt32 >>> ((16 : Int32) &&& 31).toUInt32).toInt32) &&& (255 : Int32)).toUInt32.toUInt16.toUInt32.toInt32)), .unset, .unset, .unset, .unset, .unset, .unset, .unset, .unset, .unset, .unset] [(.int cc)])) _
  refine XS.bipush X.here hx rfl (hb hby at_51) ?_
  show Steps p.tables e below (T.setTop (mkF m 53 #[.val (.int cc), .val (.int ra), .val (.int sa), .val (.int rb), .val (.int sb), .val (.int md), .val (.int na), .val (.int nb), .val (.int ((cc &&& (255 : Int32)).toUInt32.toUInt16.toUInt32.toInt32)), .val (.int ((((cc.toUInt32 >>> ((8 : Int32) &&& 31).toUInt32).toInt32) &&& (255 : Int32)).toUInt32.toUInt16.toUInt32.toInt32)), .val (.int ((((cc.toUInt32 >>> ((16 : Int32) &&& 31).toUInt32).toInt32) &&& (255 : Int32)).toUInt32.toUInt16.toUInt32.toInt32)), .unset, .unset, .unset, .unset, .unset, .unset, .unset, .unset, .unset, .unset] [(.int (24 : Int32)), (.int cc)])) _
  refine XS.iushr X.here hx rfl (hb hby at_53) rfl ?_
  show Steps p.tables e below (T.setTop (mkF m 54 #[.val (.int cc), .val (.int ra), .val (.int sa), .val (.int rb), .val (.int sb), .val (.int md), .val (.int na), .val (.int nb), .val (.int ((cc &&& (255 : Int32)).toUInt32.toUInt16.toUInt32.toInt32)), .val (.int ((((cc.toUInt32 >>> ((8 : Int32) &&& 31).toUInt32).toInt32) &&& (255 : Int32)).toUInt32.toUInt16.toUInt32.toInt32)), .val (.int ((((cc.toUInt32 >>> ((16 : Int32) &&& 31).toUInt32).toInt32) &&& (255 : Int32)).toUInt32.toUInt16.toUInt32.toInt32)), .unset, .unset, .unset, .unset, .unset, .unset, .unset, .unset, .unset, .unset] [(.int ((cc.toUInt32 >>> ((24 : Int32) &&& 31).toUInt32).toInt32))])) _
  refine XS.sipush X.here hx rfl (hb hby at_54) ?_
  show Steps p.tables e below (T.setTop (mkF m 57 #[.val (.int cc), .val (.int ra), .val (.int sa), .val (.int rb), .val (.int sb), .val (.int md), .val (.int na), .val (.int nb), .val (.int ((cc &&& (255 : Int32)).toUInt32.toUInt16.toUInt32.toInt32)), .val (.int ((((cc.toUInt32 >>> ((8 : Int32) &&& 31).toUInt32).toInt32) &&& (255 : Int32)).toUInt32.toUInt16.toUInt32.toInt32)), .val (.int ((((cc.toUInt32 >>> ((16 : Int32) &&& 31).toUInt32).toInt32) &&& (255 : Int32)).toUInt32.toUInt16.toUInt32.toInt32)), .unset, .unset, .unset, .unset, .unset, .unset, .unset, .unset, .unset, .unset] [(.int (255 : Int32)), (.int ((cc.toUInt32 >>> ((24 : Int32) &&& 31).toUInt32).toInt32))])) _
  refine XS.iand X.here hx rfl (hb hby at_57) rfl ?_
  show Steps p.tables e below (T.setTop (mkF m 58 #[.val (.int cc), .val (.int ra), .val (.int sa), .val (.int rb), .val (.int sb), .val (.int md), .val (.int na), .val (.int nb), .val (.int ((cc &&& (255 : Int32)).toUInt32.toUInt16.toUInt32.toInt32)), .val (.int ((((cc.toUInt32 >>> ((8 : Int32) &&& 31).toUInt32).toInt32) &&& (255 : Int32)).toUInt32.toUInt16.toUInt32.toInt32)), .val (.int ((((cc.toUInt32 >>> ((16 : Int32) &&& 31).toUInt32).toInt32) &&& (255 : Int32)).toUInt32.toUInt16.toUInt32.toInt32)), .unset, .unset, .unset, .unset, .unset, .unset, .unset, .unset, .unset, .unset] [(.int (((cc.toUInt32 >>> ((24 : Int32) &&& 31).toUInt32).toInt32) &&& (255 : Int32)))])) _
  refine XS.i2c X.here hx rfl (hb hby at_58) rfl ?_
  show Steps p.tables e below (T.setTop (mkF m 59 #[.val (.int cc), .val (.int ra), .val (.int sa), .val (.int rb), .val (.int sb), .val (.int md), .val (.int na), .val (.int nb), .val (.int ((cc &&& (255 : Int32)).toUInt32.toUInt16.toUInt32.toInt32)), .val (.int ((((cc.toUInt32 >>> ((8 : Int32) &&& 31).toUInt32).toInt32) &&& (255 : Int32)).toUInt32.toUInt16.toUInt32.toInt32)), .val (.int ((((cc.toUInt32 >>> ((16 : Int32) &&& 31).toUInt32).toInt32) &&& (255 : Int32)).toUInt32.toUInt16.toUInt32.toInt32)), .unset, .unset, .unset, .unset, .unset, .unset, .unset, .unset, .unset, .unset] [(.int ((((cc.toUInt32 >>> ((24 : Int32) &&& 31).toUInt32).toInt32) &&& (255 : Int32)).toUInt32.toUInt16.toUInt32.toInt32))])) _
  refine XS.istore X.here hx rfl (hb hby at_59) rfl (l' := #[.val (.int cc), .val (.int ra), .val (.int sa), .val (.int rb), .val (.int sb), .val (.int md), .val (.int na), .val (.int nb), .val (.int ((cc &&& (255 : Int32)).toUInt32.toUInt16.toUInt32.toInt32)), .val (.int ((((cc.toUInt32 >>> ((8 : Int32) &&& 31).toUInt32).toInt32) &&& (255 : Int32)).toUInt32.toUInt16.toUInt32.toInt32)), .val (.int ((((cc.toUInt32 >>> ((16 : Int32) &&& 31).toUInt32).toInt32) &&& (255 : Int32)).toUInt32.toUInt16.toUInt32.toInt32)), .val (.int ((((cc.toUInt32 >>> ((24 : Int32) &&& 31).toUInt32).toInt32) &&& (255 : Int32)).toUInt32.toUInt16.toUInt32.toInt32)), .unset, .unset, .unset, .unset, .unset, .unset, .unset, .unset, .unset]) rfl ?_
  show Steps p.tables e below (T.setTop (mkF m 61 #[.val (.int cc), .val (.int ra), .val (.int sa), .val (.int rb), .val (.int sb), .val (.int md), .val (.int na), .val (.int nb), .val (.int ((cc &&& (255 : Int32)).toUInt32.toUInt16.toUInt32.toInt32)), .val (.int ((((cc.toUInt32 >>> ((8 : Int32) &&& 31).toUInt32).toInt32) &&& (255 : Int32)).toUInt32.toUInt16.toUInt32.toInt32)), .val (.int ((((cc.toUInt32 >>> ((16 : Int32) &&& 31).toUInt32).toInt32) &&& (255 : Int32)).toUInt32.toUInt16.toUInt32.toInt32)), .val (.int ((((cc.toUInt32 >>> ((24 : Int32) &&& 31).toUInt32).toInt32) &&& (255 : Int32)).toUInt32.toUInt16.toUInt32.toInt32)), .unset, .unset, .unset, .unset, .unset, .unset, .unset, .unset, .unset] [])) _
  refine XS.iload X.here hx rfl (hb hby at_61) rfl ?_
  show Steps p.tables e below (T.setTop (mkF m 63 #[.val (.int cc), .val (.int ra), .val (.int sa), .val (.int rb), .val (.int sb), .val (.int md), .val (.int na), .val (.int nb), .val (.int ((cc &&& (255 : Int32)).toUInt32.toUInt16.toUInt32.toInt32)), .val (.int ((((cc.toUInt32 >>> ((8 : Int32) &&& 31).toUInt32).toInt32) &&& (255 : Int32)).toUInt32.toUInt16.toUInt32.toInt32)), .val (.int ((((cc.toUInt32 >>> ((16 : Int32) &&& 31).toUInt32).toInt32) &&& (255 : Int32)).toUInt32.toUInt16.toUInt32.toInt32)), .val (.int ((((cc.toUInt32 >>> ((24 : Int32) &&& 31).toUInt32).toInt32) &&& (255 : Int32)).toUInt32.toUInt16.toUInt32.toInt32)), .unset, .unset, .unset, .unset, .unset, .unset, .unset, .unset, .unset] [(.int md)])) _
  refine XS.bipush X.here hx rfl (hb hby at_63) ?_
  show Steps p.tables e below (T.setTop (mkF m 65 #[.val (.int cc), .val (.int ra), .val (.int sa), .val (.int rb), .val (.int sb), .val (.int md), .val (.int na), .val (.int nb), .val (.int ((cc &&& (255 : Int32)).toUInt32.toUInt16.toUInt32.toInt32)), .val (.int ((((cc.toUInt32 >>> ((8 : Int32) &&& 31).toUInt32).toInt32) &&& (255 : Int32)).toUInt32.toUInt16.toUInt32.toInt32)), .val (.int ((((cc.toUInt32 >>> ((16 : Int32) &&& 31).toUInt32).toInt32) &&& (255 : Int32)).toUInt32.toUInt16.toUInt32.toInt32)), .val (.int ((((cc.toUInt32 >>> ((24 : Int32) &&& 31).toUInt32).toInt32) &&& (255 : Int32)).toUInt32.toUInt16.toUInt32.toInt32)), .unset, .unset, .unset, .unset, .unset, .unset, .unset, .unset, .unset] [(.int (16 : Int32)), (.int md)])) _
  refine XS.iand X.here hx rfl (hb hby at_65) rfl ?_
  show Steps p.tables e below (T.setTop (mkF m 66 #[.val (.int cc), .val (.int ra), .val (.int sa), .val (.int rb), .val (.int sb), .val (.int md), .val (.int na), .val (.int nb), .val (.int ((cc &&& (255 : Int32)).toUInt32.toUInt16.toUInt32.toInt32)), .val (.int ((((cc.toUInt32 >>> ((8 : Int32) &&& 31).toUInt32).toInt32) &&& (255 : Int32)).toUInt32.toUInt16.toUInt32.toInt32)), .val (.int ((((cc.toUInt32 >>> ((16 : Int32) &&& 31).toUInt32).toInt32) &&& (255 : Int32)).toUInt32.toUInt16.toUInt32.toInt32)), .val (.int ((((cc.toUInt32 >>> ((24 : Int32) &&& 31).toUInt32).toInt32) &&& (255 : Int32)).toUInt32.toUInt16.toUInt32.toInt32)), .unset, .unset, .unset, .unset, .unset, .unset, .unset, .unset, .unset] [(.int (md &&& (16 : Int32)))])) _
  refine XS.ifYes X.here hx rfl (pc0 := 66) (pc' := 81) rfl (hb hby at_66) rfl ((if0 _ _).trans (teq hc66).1) (by decide) (by decide) ?_
  show Steps p.tables e below (T.setTop (mkF m 81 #[.val (.int cc), .val (.int ra), .val (.int sa), .val (.int rb), .val (.int sb), .val (.int md), .val (.int na), .val (.int nb), .val (.int ((cc &&& (255 : Int32)).toUInt32.toUInt16.toUInt32.toInt32)), .val (.int ((((cc.toUInt32 >>> ((8 : Int32) &&& 31).toUInt32).toInt32) &&& (255 : Int32)).toUInt32.toUInt16.toUInt32.toInt32)), .val (.int ((((cc.toUInt32 >>> ((16 : Int32) &&& 31).toUInt32).toInt32) &&& (255 : Int32)).toUInt32.toUInt16.toUInt32.toInt32)), .val (.int ((((cc.toUInt32 >>> ((24 : Int32) &&& 31).toUInt32).toInt32) &&& (255 : Int32)).toUInt32.toUInt16.toUInt32.toInt32)), .unset, .unset, .unset, .unset, .unset, .unset, .unset, .unset, .unset] [])) _
  refine XS.iload X.here hx rfl (hb hby at_81) rfl ?_
  show Steps p.tables e below (T.setTop (mkF m 83 #[.val (.int cc), .val (.int ra), .val (.int sa), .val (.int rb), .val (.int sb), .val (.int md), .val (.int na), .val (.int nb), .val (.int ((cc &&& (255 : Int32)).toUInt32.toUInt16.toUInt32.toInt32)), .val (.int ((((cc.toUInt32 >>> ((8 : Int32) &&& 31).toUInt32).toInt32) &&& (255 : Int32)).toUInt32.toUInt16.toUInt32.toInt32)), .val (.int ((((cc.toUInt32 >>> ((16 : Int32) &&& 31).toUInt32).toInt32) &&& (255 : Int32)).toUInt32.toUInt16.toUInt32.toInt32)), .val (.int ((((cc.toUInt32 >>> ((24 : Int32) &&& 31).toUInt32).toInt32) &&& (255 : Int32)).toUInt32.toUInt16.toUInt32.toInt32)), .unset, .unset, .unset, .unset, .unset, .unset, .unset, .unset, .unset] [(.int md)])) _
  refine XS.bipush X.here hx rfl (hb hby at_83) ?_
  show Steps p.tables e below (T.setTop (mkF m 85 #[.val (.int cc), .val (.int ra), .val (.int sa), .val (.int rb), .val (.int sb), .val (.int md), .val (.int na), .val (.int nb), .val (.int ((cc &&& (255 : Int32)).toUInt32.toUInt16.toUInt32.toInt32)), .val (.int ((((cc.toUInt32 >>> ((8 : Int32) &&& 31).toUInt32).toInt32) &&& (255 : Int32)).toUInt32.toUInt16.toUInt32.toInt32)), .val (.int ((((cc.toUInt32 >>> ((16 : Int32) &&& 31).toUInt32).toInt32) &&& (255 : Int32)).toUInt32.toUInt16.toUInt32.toInt32)), .val (.int ((((cc.toUInt32 >>> ((24 : Int32) &&& 31).toUInt32).toInt32) &&& (255 : Int32)).toUInt32.toUInt16.toUInt32.toInt32)), .unset, .unset, .unset, .unset, .unset, .unset, .unset, .unset, .unset] [(.int (32 : Int32)), (.int md)])) _
  refine XS.iand X.here hx rfl (hb hby at_85) rfl ?_
  show Steps p.tables e below (T.setTop (mkF m 86 #[.val (.int cc), .val (.int ra), .val (.int sa), .val (.int rb), .val (.int sb), .val (.int md), .val (.int na), .val (.int nb), .val (.int ((cc &&& (255 : Int32)).toUInt32.toUInt16.toUInt32.toInt32)), .val (.int ((((cc.toUInt32 >>> ((8 : Int32) &&& 31).toUInt32).toInt32) &&& (255 : Int32)).toUInt32.toUInt16.toUInt32.toInt32)), .val (.int ((((cc.toUInt32 >>> ((16 : Int32) &&& 31).toUInt32).toInt32) &&& (255 : Int32)).toUInt32.toUInt16.toUInt32.toInt32)), .val (.int ((((cc.toUInt32 >>> ((24 : Int32) &&& 31).toUInt32).toInt32) &&& (255 : Int32)).toUInt32.toUInt16.toUInt32.toInt32)), .unset, .unset, .unset, .unset, .unset, .unset, .unset, .unset, .unset] [(.int (md &&& (32 : Int32)))])) _
  refine XS.ifYes X.here hx rfl (pc0 := 86) (pc' := 93) rfl (hb hby at_86) rfl ((if0 _ _).trans (teq hc86).1) (by decide) (by decide) ?_
  show Steps p.tables e below (T.setTop (mkF m 93 #[.val (.int cc), .val (.int ra), .val (.int sa), .val (.int rb), .val (.int sb), .val (.int md), .val (.int na), .val (.int nb), .val (.int ((cc &&& (255 : Int32)).toUInt32.toUInt16.toUInt32.toInt32)), .val (.int ((((cc.toUInt32 >>> ((8 : Int32) &&& 31).toUInt32).toInt32) &&& (255 : Int32)).toUInt32.toUInt16.toUInt32.toInt32)), .val (.int ((((cc.toUInt32 >>> ((16 : Int32) &&& 31).toUInt32).toInt32) &&& (255 : Int32)).toUInt32.toUInt16.toUInt32.toInt32)), .val (.int ((((cc.toUInt32 >>> ((24 : Int32) &&& 31).toUInt32).toInt32) &&& (255 : Int32)).toUInt32.toUInt16.toUInt32.toInt32)), .unset, .unset, .unset, .unset, .unset, .unset, .unset, .unset, .unset] [])) _
  refine XS.iloadN X.here hx rfl (hb hby at_93) rfl ?_
  show Steps p.tables e below (T.setTop (mkF m 94 #[.val (.int cc), .val (.int ra), .val (.int sa), .val (.int rb), .val (.int sb), .val (.int md), .val (.int na), .val (.int nb), .val (.int ((cc &&& (255 : Int32)).toUInt32.toUInt16.toUInt32.toInt32)), .val (.int ((((cc.toUInt32 >>> ((8 : Int32) &&& 31).toUInt32).toInt32) &&& (255 : Int32)).toUInt32.toUInt16.toUInt32.toInt32)), .val (.int ((((cc.toUInt32 >>> ((16 : Int32) &&& 31).toUInt32).toInt32) &&& (255 : Int32)).toUInt32.toUInt16.toUInt32.toInt32)), .val (.int ((((cc.toUInt32 >>> ((24 : Int32) &&& 31).toUInt32).toInt32) &&& (255 : Int32)).toUInt32.toUInt16.toUInt32.toInt32)), .unset, .unset, .unset, .unset, .unset, .unset, .unset, .unset, .unset] [(.int rb)])) _
  refine XS.istore X.here hx rfl (hb hby at_94) rfl (l' := #[.val (.int cc), .val (.int ra), .val (.int sa), .val (.int rb), .val (.int sb), .val (.int md), .val (.int na), .val (.int nb), .val (.int ((cc &&& (255 : Int32)).toUInt32.toUInt16.toUInt32.toInt32)), .val (.int ((((cc.toUInt32 >>> ((8 : Int32) &&& 31).toUInt32).toInt32) &&& (255 : Int32)).toUInt32.toUInt16.toUInt32.toInt32)), .val (.int ((((cc.toUInt32 >>> ((16 : Int32) &&& 31).toUInt32).toInt32) &&& (255 : Int32)).toUInt32.toUInt16.toUInt32.toInt32)), .val (.int ((((cc.toUInt32 >>> ((24 : Int32) &&& 31).toUInt32).toInt32) &&& (255 : Int32)).toUInt32.toUInt16.toUInt32.toInt32)), .val (.int rb), .unset, .unset, .unset, .unset, .unset, .unset, .unset, .unset]) rfl ?_
  show Steps p.tables e below (T.setTop (mkF m 96 #[.val (.int cc), .val (.int ra), .val (.int sa), .val (.int rb), .val (.int sb), .val (.int md), .val (.int na), .val (.int nb), .val (.int ((cc &&& (255 : Int32)).toUInt32.toUInt16.toUInt32.toInt32)), .val (.int ((((cc.toUInt32 >>> ((8 : Int32) &&& 31).toUInt32).toInt32) &&& (255 : Int32)).toUInt32.toUInt16.toUInt32.toInt32)), .val (.int ((((cc.toUInt32 >>> ((16 : Int32) &&& 31).toUInt32).toInt32) &&& (255 : Int32)).toUInt32.toUInt16.toUInt32.toInt32)), .val (.int ((((cc.toUInt32 >>> ((24 : Int32) &&& 31).toUInt32).toInt32) &&& (255 : Int32)).toUInt32.toUInt16.toUInt32.toInt32)), .val (.int rb), .unset, .unset, .unset, .unset, .unset, .unset, .unset, .unset] [])) _
  refine XS.iload X.here hx rfl (hb hby at_96) rfl ?_
  show Steps p.tables e below (T.setTop (mkF m 98 #[.val (.int cc), .val (.int ra), .val (.int sa), .val (.int rb), .val (.int sb), .val (.int md), .val (.int na), .val (.int nb), .val (.int ((cc &&& (255 : Int32)).toUInt32.toUInt16.toUInt32.toInt32)), .val (.int ((((cc.toUInt32 >>> ((8 : Int32) &&& 31).toUInt32).toInt32) &&& (255 : Int32)).toUInt32.toUInt16.toUInt32.toInt32)), .val (.int ((((cc.toUInt32 >>> ((16 : Int32) &&& 31).toUInt32).toInt32) &&& (255 : Int32)).toUInt32.toUInt16.toUInt32.toInt32)), .val (.int ((((cc.toUInt32 >>> ((24 : Int32) &&& 31).toUInt32).toInt32) &&& (255 : Int32)).toUInt32.toUInt16.toUInt32.toInt32)), .val (.int rb), .unset, .unset, .unset, .unset, .unset, .unset, .unset, .unset] [(.int md)])) _
  refine XS.bipush X.here hx rfl (hb hby at_98) ?_
  show Steps p.tables e below (T.setTop (mkF m 100 #[.val (.int cc), .val (.int ra), .val (.int sa), .val (.int rb), .val (.int sb), .val (.int md), .val (.int na), .val (.int nb), .val (.int ((cc &&& (255 : Int32)).toUInt32.toUInt16.toUInt32.toInt32)), .val (.int ((((cc.toUInt32 >>> ((8 : Int32) &&& 31).toUInt32).toInt32) &&& (255 : Int32)).toUInt32.toUInt16.toUInt32.toInt32)), .val (.int ((((cc.toUInt32 >>> ((16 : Int32) &&& 31).toUInt32).toInt32) &&& (255 : Int32)).toUInt32.toUInt16.toUInt32.toInt32)), .val (.int ((((cc.toUInt32 >>> ((24 : Int32) &&& 31).toUInt32).toInt32) &&& (255 : Int32)).toUInt32.toUInt16.toUInt32.toInt32)), .val (.int rb), .unset, .unset, .unset, .unset, .unset, .unset, .unset, .unset] [(.int (64 : Int32)), (.int md)])) _
  refine XS.iand X.here hx rfl (hb hby at_100) rfl ?_
  show Steps p.tables e below (T.setTop (mkF m 101 #[.val (.int cc), .val (.int ra), .val (.int sa), .val (.int rb), .val (.int sb), .val (.int md), .val (.int na), .val (.int nb), .val (.int ((cc &&& (255 : Int32)).toUInt32.toUInt16.toUInt32.toInt32)), .val (.int ((((cc.toUInt32 >>> ((8 : Int32) &&& 31).toUInt32).toInt32) &&& (255 : Int32)).toUInt32.toUInt16.toUInt32.toInt32)), .val (.int ((((cc.toUInt32 >>> ((16 : Int32) &&& 31).toUInt32).toInt32) &&& (255 : Int32)).toUInt32.toUInt16.toUInt32.toInt32)), .val (.int ((((cc.toUInt32 >>> ((24 : Int32) &&& 31).toUInt32).toInt32) &&& (255 : Int32)).toUInt32.toUInt16.toUInt32.toInt32)), .val (.int rb), .unset, .unset, .unset, .unset, .unset, .unset, .unset, .unset] [(.int (md &&& (64 : Int32)))])) _
  refine XS.ifNo X.here hx rfl (hb hby at_101) rfl ((if0 _ _).trans (feq hc101).1) ?_
  show Steps p.tables e below (T.setTop (mkF m 104 #[.val (.int cc), .val (.int ra), .val (.int sa), .val (.int rb), .val (.int sb), .val (.int md), .val (.int na), .val (.int nb), .val (.int ((cc &&& (255 : Int32)).toUInt32.toUInt16.toUInt32.toInt32)), .val (.int ((((cc.toUInt32 >>> ((8 : Int32) &&& 31).toUInt32).toInt32) &&& (255 : Int32)).toUInt32.toUInt16.toUInt32.toInt32)), .val (.int ((((cc.toUInt32 >>> ((16 : Int32) &&& 31).toUInt32).toInt32) &&& (255 : Int32)).toUInt32.toUInt16.toUInt32.toInt32)), .val (.int ((((cc.toUInt32 >>> ((24 : Int32) &&& 31).toUInt32).toInt32) &&& (255 : Int32)).toUInt32.toUInt16.toUInt32.toInt32)), .val (.int rb), .unset, .unset, .unset, .unset, .unset, .unset, .unset, .unset] [])) _
  refine XS.iloadN X.here hx rfl (hb hby at_104) rfl ?_
  show Steps p.tables e below (T.setTop (mkF m 105 #[.val (.int cc), .val (.int ra), .val (.int sa), .val (.int rb), .val (.int sb), .val (.int md), .val (.int na), .val (.int nb), .val (.int ((cc &&& (255 : Int32)).toUInt32.toUInt16.toUInt32.toInt32)), .val (.int ((((cc.toUInt32 >>> ((8 : Int32) &&& 31).toUInt32).toInt32) &&& (255 : Int32)).toUInt32.toUInt16.toUInt32.toInt32)), .val (.int ((((cc.toUInt32 >>> ((16 : Int32) &&& 31).toUInt32).toInt32) &&& (255 : Int32)).toUInt32.toUInt16.toUInt32.toInt32)), .val (.int ((((cc.toUInt32 >>> ((24 : Int32) &&& 31).toUInt32).toInt32) &&& (255 : Int32)).toUInt32.toUInt16.toUInt32.toInt32)), .val (.int rb), .unset, .unset, .unset, .unset, .unset, .unset, .unset, .unset] [(.int sa)])) _
  refine XS.goto X.here hx rfl (pc0 := 105) (pc' := 110) rfl (hb hby at_105) (by decide) (by decide) ?_
  show Steps p.tables e below (T.setTop (mkF m 110 #[.val (.int cc), .val (.int ra), .val (.int sa), .val (.int rb), .val (.int sb), .val (.int md), .val (.int na), .val (.int nb), .val (.int ((cc &&& (255 : Int32)).toUInt32.toUInt16.toUInt32.toInt32)), .val (.int ((((cc.toUInt32 >>> ((8 : Int32) &&& 31).toUInt32).toInt32) &&& (255 : Int32)).toUInt32.toUInt16.toUInt32.toInt32)), .val (.int ((((cc.toUInt32 >>> ((16 : Int32) &&& 31).toUInt32).toInt32) &&& (255 : Int32)).toUInt32.toUInt16.toUInt32.toInt32)), .val (.int ((((cc.toUInt32 >>> ((24 : Int32) &&& 31).toUInt32).toInt32) &&& (255 : Int32)).toUInt32.toUInt16.toUInt32.toInt32)), .val (.int rb), .unset, .unset, .unset, .unset, .unset, .unset, .unset, .unset] [(.int sa)])) _
  refine XS.istore X.here hx rfl (hb hby at_110) rfl (l' := #[.val (.int cc), .val (.int ra), .val (.int sa), .val (.int rb), .val (.int sb), .val (.int md), .val (.int na), .val (.int nb), .val (.int ((cc &&& (255 : Int32)).toUInt32.toUInt16.toUInt32.toInt32)), .val (.int ((((cc.toUInt32 >>> ((8 : Int32) &&& 31).toUInt32).toInt32) &&& (255 : Int32)).toUInt32.toUInt16.toUInt32.toInt32)), .val (.int ((((cc.toUInt32 >>> ((16 : Int32) &&& 31).toUInt32).toInt32) &&& (255 : Int32)).toUInt32.toUInt16.toUInt32.toInt32)), .val (.int ((((cc.toUInt32 >>> ((24 : Int32) &&& 31).toUInt32).toInt32) &&& (255 : Int32)).toUInt32.toUInt16.toUInt32.toInt32)), .val (.int rb), .val (.int sa), .unset, .unset, .unset, .unset, .unset, .unset, .unset]) rfl ?_
  exact k
set_option maxRecDepth 65536 in
set_option maxHeartbeats 4000000 in
theorem segA_tft (l : Launch) (cc : Int32) (ra : Int32) (sa : Int32) (rb : Int32) (sb : Int32) (md : Int32) (na : Int32) (nb : Int32) (hc66 : (md &&& (16 : Int32)) = (0 : Int32)) (hc86 : ¬ ((md &&& (32 : Int32)) = (0 : Int32))) (hc101 : (md &&& (64 : Int32)) = (0 : Int32)) : Seg l 20 #[.val (.int cc), .val (.int ra), .val (.int sa), .val (.int rb), .val (.int sb), .val (.int md), .val (.int na), .val (.int nb), .unset, .unset, .unset, .unset, .unset, .unset, .unset, .unset, .unset, .unset, .unset, .unset, .unset] 112 #[.val (.int cc), .val (.int ra), .val (.int sa), .val (.int rb), .val (.int sb), .val (.int md), .val (.int na), .val (.int nb), .val (.int ((cc &&& (255 : Int32)).toUInt32.toUInt16.toUInt32.toInt32)), .val (.int ((((cc.toUInt32 >>> ((8 : Int32) &&& 31).toUInt32).toInt32) &&& (255 : Int32)).toUInt32.toUInt16.toUInt32.toInt32)), .val (.int ((((cc.toUInt32 >>> ((16 : Int32) &&& 31).toUInt32).toInt32) &&& (255 : Int32)).toUInt32.toUInt16.toUInt32.toInt32)), .val (.int ((((cc.toUInt32 >>> ((24 : Int32) &&& 31).toUInt32).toInt32) &&& (255 : Int32)).toUInt32.toUInt16.toUInt32.toInt32)), .val (.int ra), .val (.int sb), .unset, .unset, .unset, .unset, .unset, .unset, .unset] := by
  intro p e R s m args below meth c T locs cells slots X hx hby target k
  show Steps p.tables e below (T.setTop (mkF m 20 #[.val (.int cc), .val (.int ra), .val (.int sa), .val (.int rb), .val (.int sb), .val (.int md), .val (.int na), .val (.int nb), .unset, .unset, .unset, .unset, .unset, .unset, .unset, .unset, .unset, .unset, .unset, .unset, .unset] [])) _
  refine XS.iloadN X.here hx rfl (hb hby at_20) rfl ?_
  show Steps p.tables e below (T.setTop (mkF m 21 #[.val (.int cc), .val (.int ra), .val (.int sa), .val (.int rb), .val (.int sb), .val (.int md), .val (.int na), .val (.int nb), .unset, .unset, .unset, .unset, .unset, .unset, .unset, .unset, .unset, .unset, .unset, .unset, .unset] [(.int cc)])) _
  refine XS.sipush X.here hx rfl (hb hby at_21) ?_
  show Steps p.tables e below (T.setTop (mkF m 24 #[.val (.int cc), .val (.int ra), .val (.int sa), .val (.int rb), .val (.int sb), .val (.int md), .val (.int na), .val (.int nb), .unset, .unset, .unset, .unset, .unset, .unset, .unset, .unset, .unset, .unset, .unset, .unset, .unset] [(.int (255 : Int32)), (.int cc)])) _
  refine XS.iand X.here hx rfl (hb hby at_24) rfl ?_
  show Steps p.tables e below (T.setTop (mkF m 25 #[.val (.int cc), .val (.int ra), .val (.int sa), .val (.int rb), .val (.int sb), .val (.int md), .val (.int na), .val (.int nb), .unset, .unset, .unset, .unset, .unset, .unset, .unset, .unset, .unset, .unset, .unset, .unset, .unset] [(.int (cc &&& (255 : Int32)))])) _
  refine XS.i2c X.here hx rfl (hb hby at_25) rfl ?_
  show Steps p.tables e below (T.setTop (mkF m 26 #[.val (.int cc), .val (.int ra), .val (.int sa), .val (.int rb), .val (.int sb), .val (.int md), .val (.int na), .val (.int nb), .unset, .unset, .unset, .unset, .unset, .unset, .unset, .unset, .unset, .unset, .unset, .unset, .unset] [(.int ((cc &&& (255 : Int32)).toUInt32.toUInt16.toUInt32.toInt32))])) _
  refine XS.istore X.here hx rfl (hb hby at_26) rfl (l' := #[.val (.int cc), .val (.int ra), .val (.int sa), .val (.int rb), .val (.int sb), .val (.int md), .val (.int na), .val (.int nb), .val (.int ((cc &&& (255 : Int32)).toUInt32.toUInt16.toUInt32.toInt32)), .unset, .unset, .unset, .unset, .unset, .unset, .unset, .unset, .unset, .unset, .unset, .unset]) rfl ?_
  show Steps p.tables e below (T.setTop (mkF m 28 #[.val (.int cc), .val (.int ra), .val (.int sa), .val (.int rb), .val (.int sb), .val (.int md), .val (.int na), .val (.int nb), .val (.int ((cc &&& (255 : Int32)).toUInt32.toUInt16.toUInt32.toInt32)), .unset, .unset, .unset, .unset, .unset, .unset, .unset, .unset, .unset, .unset, .unset, .unset] [])) _
  refine XS.iloadN X.here hx rfl (hb hby at_28) rfl ?_
  show Steps p.tables e below (T.setTop (mkF m 29 #[.val (.int cc), .val (.int ra), .val (.int sa), .val (.int rb), .val (.int sb), .val (.int md), .val (.int na), .val (.int nb), .val (.int ((cc &&& (255 : Int32)).toUInt32.toUInt16.toUInt32.toInt32)), .unset, .unset, .unset, .unset, .unset, .unset, .unset, .unset, .unset, .unset, .unset, .unset] [(.int cc)])) _
  refine XS.bipush X.here hx rfl (hb hby at_29) ?_
  show Steps p.tables e below (T.setTop (mkF m 31 #[.val (.int cc), .val (.int ra), .val (.int sa), .val (.int rb), .val (.int sb), .val (.int md), .val (.int na), .val (.int nb), .val (.int ((cc &&& (255 : Int32)).toUInt32.toUInt16.toUInt32.toInt32)), .unset, .unset, .unset, .unset, .unset, .unset, .unset, .unset, .unset, .unset, .unset, .unset] [(.int (8 : Int32)), (.int cc)])) _
  refine XS.iushr X.here hx rfl (hb hby at_31) rfl ?_
  show Steps p.tables e below (T.setTop (mkF m 32 #[.val (.int cc), .val (.int ra), .val (.int sa), .val (.int rb), .val (.int sb), .val (.int md), .val (.int na), .val (.int nb), .val (.int ((cc &&& (255 : Int32)).toUInt32.toUInt16.toUInt32.toInt32)), .unset, .unset, .unset, .unset, .unset, .unset, .unset, .unset, .unset, .unset, .unset, .unset] [(.int ((cc.toUInt32 >>> ((8 : Int32) &&& 31).toUInt32).toInt32))])) _
  refine XS.sipush X.here hx rfl (hb hby at_32) ?_
  show Steps p.tables e below (T.setTop (mkF m 35 #[.val (.int cc), .val (.int ra), .val (.int sa), .val (.int rb), .val (.int sb), .val (.int md), .val (.int na), .val (.int nb), .val (.int ((cc &&& (255 : Int32)).toUInt32.toUInt16.toUInt32.toInt32)), .unset, .unset, .unset, .unset, .unset, .unset, .unset, .unset, .unset, .unset, .unset, .unset] [(.int (255 : Int32)), (.int ((cc.toUInt32 >>> ((8 : Int32) &&& 31).toUInt32).toInt32))])) _
  refine XS.iand X.here hx rfl (hb hby at_35) rfl ?_
  show Steps p.tables e below (T.setTop (mkF m 36 #[.val (.int cc), .val (.int ra), .val (.int sa), .val (.int rb), .val (.int sb), .val (.int md), .val (.int na), .val (.int nb), .val (.int ((cc &&& (255 : Int32)).toUInt32.toUInt16.toUInt32.toInt32)), .unset, .unset, .unset, .unset, .unset, .unset, .unset, .unset, .unset, .unset, .unset, .unset] [(.int (((cc.toUInt32 >>> ((8 : Int32) &&& 31).toUInt32).toInt32) &&& (255 : Int32)))])) _
  refine XS.i2c X.here hx rfl (hb hby at_36) rfl ?_
  show Steps p.tables e below (T.setTop (mkF m 37 #[.val (.int cc), .val (.int ra), .val (.int sa), .val (.int rb), .val (.int sb), .val (.int md), .val (.int na), .val (.int nb), .val (.int ((cc &&& (255 : Int32)).toUInt32.toUInt16.toUInt32.toInt32)), .unset, .unset, .unset, .unset, .unset, .unset, .unset, .unset, .unset, .unset, .unset, .unset] [(.int ((((cc.toUInt32 >>> ((8 : Int32) &&& 31).toUInt32).toInt32) &&& (255 : Int32)).toUInt32.toUInt16.toUInt32.toInt32))])) _
  refine XS.istore X.here hx rfl (hb hby at_37) rfl (l' := #[.val (.int cc), .val (.int ra), .val (.int sa), .val (.int rb), .val (.int sb), .val (.int md), .val (.int na), .val (.int nb), .val (.int ((cc &&& (255 : Int32)).toUInt32.toUInt16.toUInt32.toInt32)), .val (.int ((((cc.toUInt32 >>> ((8 : Int32) &&& 31).toUInt32).toInt32) &&& (255 : Int32)).toUInt32.toUInt16.toUInt32.toInt32)), .unset, .unset, .unset, .unset, .unset, .unset, .unset, .unset, .unset, .unset, .unset]) rfl ?_
  show Steps p.tables e below (T.setTop (mkF m 39 #[.val (.int cc), .val (.int ra), .val (.int sa), .val (.int rb), .val (.int sb), .val (.int md), .val (.int na), .val (.int nb), .val (.int ((cc &&& (255 : Int32)).toUInt32.toUInt16.toUInt32.toInt32)), .val (.int ((((cc.toUInt32 >>> ((8 : Int32) &&& 31).toUInt32).toInt32) &&& (255 : Int32)).toUInt32.toUInt16.toUInt32.toInt32)), .unset, .unset, .unset, .unset, .unset, .unset, .unset, .unset, .unset, .unset, .unset] [])) _
  refine XS.iloadN X.here hx rfl (hb hby at_39) rfl ?_
  show Steps p.tables e below (T.setTop (mkF m 40 #[.val (.int cc), .val (.int ra), .val (.int sa), .val (.int rb), .val (.int sb), .val (.int md), .val (.int na), .val (.int nb), .val (.int ((cc &&& (255 : Int32)).toUInt32.toUInt16.toUInt32.toInt32)), .val (.int ((((cc.toUInt32 >>> ((8 : Int32) &&& 31).toUInt32).toInt32) &&& (255 : Int32)).toUInt32.toUInt16.toUInt32.toInt32)), .unset, .unset, .unset, .unset, .unset, .unset, .unset, .unset, .unset, .unset, .unset] [(.int cc)])) _
  refine XS.bipush X.here hx rfl (hb hby at_40) ?_
  show Steps p.tables e below (T.setTop (mkF m 42 #[.val (.int cc), .val (.int ra), .val (.int sa), .val (.int rb), .val (.int sb), .val (.int md), .val (.int na), .val (.int nb), .val (.int ((cc &&& (255 : Int32)).toUInt32.toUInt16.toUInt32.toInt32)), .val (.int ((((cc.toUInt32 >>> ((8 : Int32) &&& 31).toUInt32).toInt32) &&& (255 : Int32)).toUInt32.toUInt16.toUInt32.toInt32)), .unset, .unset, .unset, .unset, .unset, .unset, .unset, .unset, .unset, .unset, .unset] [(.int (16 : Int32)), (.int cc)])) _
  refine XS.iushr X.here hx rfl (hb hby at_42) rfl ?_
  show Steps p.tables e below (T.setTop (mkF m 43 #[.val (.int cc), .val (.int ra), .val (.int sa), .val (.int rb), .val (.int sb), .val (.int md), .val (.int na), .val (.int nb), .val (.int ((cc &&& (255 : Int32)).toUInt32.toUInt16.toUInt32.toInt32)), .val (.int ((((cc.toUInt32 >>> ((8 : Int32) &&& 31).toUInt32).toInt32) &&& (255 : Int32)).toUInt32.toUInt16.toUInt32.toInt32)), .unset, .unset, .unset, .unset, .unset, .unset, .unset, .unset, .unset, .unset, .unset] [(.int ((cc.toUInt32 >>> ((16 : Int32) &&& 31).toUInt32).toInt32))])) _
  refine XS.sipush X.here hx rfl (hb hby at_43) ?_
  show Steps p.tables e below (T.setTop (mkF m 46 #[.val (.int cc), .val (.int ra), .val (.int sa), .val (.int rb), .val (.int sb), .val (.int md), .val (.int na), .val (.int nb), .val (.int ((cc &&& (255 : Int32)).toUInt32.toUInt16.toUInt32.toInt32)), .val (.int ((((cc.toUInt32 >>> ((8 : Int32) &&& 31).toUInt32).toInt32) &&& (255 : Int32)).toUInt32.toUInt16.toUInt32.toInt32)), .unset, .unset, .unset, .unset, .unset, .unset, .unset, .unset, .unset, .unset, .unset] [(.int (255 : Int32)), (.int ((cc.toUInt32 >>> ((16 : Int32) &&& 31).toUInt32).toInt32))])) _
  refine XS.iand X.here hx rfl (hb hby at_46) rfl ?_
  show Steps p.tables e below (T.setTop (mkF m 47 #[.val (.int cc), .val (.int ra), .val (.int sa), .val (.int rb), .val (.int sb), .val (.int md), .val (.int na), .val (.int nb), .val (.int ((cc &&& (255 : Int32)).toUInt32.toUInt16.toUInt32.toInt32)), .val (.int ((((cc.toUInt32 >>> ((8 : Int32) &&& 31).toUInt32).toInt32) &&& (255 : Int32)).toUInt32.toUInt16.toUInt32.toInt32)), .unset, .unset, .unset, .unset, .unset, .unset, .unset, .unset, .unset, .unset, .unset] [(.int (((cc.toUInt32 >>> ((16 : Int32) &&& 31).toUInt32).toInt32) &&& (255 : Int32)))])) _
  refine XS.i2c X.here hx rfl (hb hby at_47) rfl ?_
  show Steps p.tables e below (T.setTop (mkF m 48 #[.val (.int cc), .val (.int ra), .val (.int sa), .val (.int rb), .val (.int sb), .val (.int md), .val (.int na), .val (.int nb), .val (.int ((cc &&& (255 : Int32)).toUInt32.toUInt16.toUInt32.toInt32)), .val (.int ((((cc.toUInt32 >>> ((8 : Int32) &&& 31).toUInt32).toInt32) &&& (255 : Int32)).toUInt32.toUInt16.toUInt32.toInt32)), .unset, .unset, .unset, .unset, .unset, .unset, .unset, .unset, .unset, .unset, .unset] [(.int ((((cc.toUInt32 >>> ((16 : Int32) &&& 31).toUInt32).toInt32) &&& (255 : Int32)).toUInt32.toUInt16.toUInt32.toInt32))])) _
  refine XS.istore X.here hx rfl (hb hby at_48) rfl (l' := #[.val (.int cc), .val (.int ra), .val (.int sa), .val (.int rb), .val (.int sb), .val (.int md), .val (.int na), .val (.int nb), .val (.int ((cc &&& (255 : Int32)).toUInt32.toUInt16.toUInt32.toInt32)), .val (.int ((((cc.toUInt32 >>> ((8 : Int32) &&& 31).toUInt32).toInt32) &&& (255 : Int32)).toUInt32.toUInt16.toUInt32.toInt32)), .val (.int ((((cc.toUInt32 >>> ((16 : Int32) &&& 31).toUInt32).toInt32) &&& (255 : Int32)).toUInt32.toUInt16.toUInt32.toInt32)), .unset, .unset, .unset, .unset, .unset, .unset, .unset, .unset, .unset, .unset]) rfl ?_
  show Steps p.tables e below (T.setTop (mkF m 50 #[.val (.int cc), .val (.int ra), .val (.int sa), .val (.int rb), .val (.int sb), .val (.int md), .val (.int na), .val (.int nb), .val (.int ((cc &&& (255 : Int32)).toUInt32.toUInt16.toUInt32.toInt32)), .val (.int ((((cc.toUInt32 >>> ((8 : Int32) &&& 31).toUInt32).toInt32) &&& (255 : Int32)).toUInt32.toUInt16.toUInt32.toInt32)), .val (.int ((((cc.toUInt32 >>> ((16 : Int32) &&& 31).toUInt32).toInt32) &&& (255 : Int32)).toUInt32.toUInt16.toUInt32.toInt32)), .unset, .unset, .unset, .unset, .unset, .unset, .unset, .unset, .unset, .unset] [])) _
  refine XS.iloadN X.here hx rfl (hb hby at_50) rfl ?_
  show Steps p.tables e below (T.setTop (mkF m 51 #[.val (.int cc), .val (.int ra), .val (.int sa), .val (.int rb), .val (.int sb), .val (.int md), .val (.int na), .val (.int nb), .val (.int ((cc &&& (255 : Int32)).toUInt32.toUInt16.toUInt32.toInt32)), .val (.int ((((cc.toUInt32 >>> ((8 : Int32) &&& 31).toUInt32).toInt32) &&& (255 : Int32)).toUInt32.toUInt16.toUInt32.toInt32)), .val (.int ((((cc.toUInt32 >>> ((16 : Int32) &&& 31).toUInt32).toInt32) &&& (255 : Int32)).toUInt32.toUInt16.toUInt32.toInt32)), .unset, .unset, .unset, .unset, .unset, .unset, .unset, .unset, .unset, .unset] [(.int cc)])) _
  refine XS.bipush X.here hx rfl (hb hby at_51) ?_
  show Steps p.tables e below (T.setTop (mkF m 53 #[.val (.int cc), .val (.int ra), .val (.int sa), .val (.int rb), .val (.int sb), .val (.int md), .val (.int na), .val (.int nb), .val (.int ((cc &&& (255 : Int32)).toUInt32.toUInt16.toUInt32.toInt32)), .val (.int ((((cc.toUInt32 >>> ((8 : Int32) &&& 31).toUInt32).toInt32) &&& (255 : Int32)).toUInt32.toUInt16.toUInt32.toInt32)), .val (.int ((((cc.toUInt32 >>> ((16 : Int32) &&& 31).toUInt32).toInt32) &&& (255 : Int32)).toUInt32.toUInt16.toUInt32.toInt32)), .unset, .unset, .unset, .unset, .unset, .unset, .unset, .unset, .unset, .unset] [(.int (24 : Int32)), (.int cc)])) _
  refine XS.iushr X.here hx rfl (hb hby at_53) rfl ?_
  show Steps p.tables e below (T.setTop (mkF m 54 #[.val (.int cc), .val (.int ra), .val (.int sa), .val (.int rb), .val (.int sb), .val (.int md), .val (.int na), .val (.int nb), .val (.int ((cc &&& (255 : Int32)).toUInt32.toUInt16.toUInt32.toInt32)), .val (.int ((((cc.toUInt32 >>> ((8 : Int32) &&& 31).toUInt32).toInt32) &&& (255 : Int32)).toUInt32.toUInt16.toUInt32.toInt32)), .val (.int ((((cc.toUInt32 >>> ((16 : Int32) &&& 31).toUInt32).toInt32) &&& (255 : Int32)).toUInt32.toUInt16.toUInt32.toInt32)), .unset, .unset, .unset, .unset, .unset, .unset, .unset, .unset, .unset, .unset] [(.int ((cc.toUInt32 >>> ((24 : Int32) &&& 31).toUInt32).toInt32))])) _
  refine XS.sipush X.here hx rfl (hb hby at_54) ?_
  show Steps p.tables e below (T.setTop (mkF m 57 #[.val (.int cc), .val (.int ra), .val (.int sa), .val (.int rb), .val (.int sb), .val (.int md), .val (.int na), .val (.int nb), .val (.int ((cc &&& (255 : Int32)).toUInt32.toUInt16.toUInt32.toInt32)), .val (.int ((((cc.toUInt32 >>> ((8 : Int32) &&& 31).toUInt32).toInt32) &&& (255 : Int32)).toUInt32.toUInt16.toUInt32.toInt32)), .val (.int ((((cc.toUInt32 >>> ((16 : Int32) &&& 31).toUInt32).toInt32) &&& (255 : Int32)).toUInt32.toUInt16.toUInt32.toInt32)), .unset, .unset, .unset, .unset, .unset, .unset, .unset, .unset, .unset, .unset] [(.int (255 : Int32)), (.int ((cc.toUInt32 >>> ((24 : Int32) &&& 31).toUInt32).toInt32))])) _
  refine XS.iand X.here hx rfl (hb hby at_57) rfl ?_
  show Steps p.tables e below (T.setTop (mkF m 58 #[.val (.int cc), .val (.int ra), .val (.int sa), .val (.int rb), .val (.int sb), .val (.int md), .val (.int na), .val (.int nb), .val (.int ((cc &&& (255 : Int32)).toUInt32.toUInt16.toUInt32.toInt32)), .val (.int ((((cc.toUInt32 >>> ((8 : Int32) &&& 31).toUInt32).toInt32) &&& (255 : Int32)).toUInt32.toUInt16.toUInt32.toInt32)), .val (.int ((((cc.toUInt32 >>> ((16 : Int32) &&& 31).toUInt32).toInt32) &&& (255 : Int32)).toUInt32.toUInt16.toUInt32.toInt32)), .unset, .unset, .unset, .unset, .unset, .unset, .unset, .unset, .unset, .unset] [(.int (((cc.toUInt32 >>> ((24 : Int32) &&& 31).toUInt32).toInt32) &&& (255 : Int32)))])) _
  refine XS.i2c X.here hx rfl (hb hby at_58) rfl ?_
  show Steps p.tables e below (T.setTop (mkF m 59 #[.val (.int cc), .val (.int ra), .val (.int sa), .val (.int rb), .val (.int sb), .val (.int md), .val (.int na), .val (.int nb), .val (.int ((cc &&& (255 : Int32)).toUInt32.toUInt16.toUInt32.toInt32)), .val (.int ((((cc.toUInt32 >>> ((8 : Int32) &&& 31).toUInt32).toInt32) &&& (255 : Int32)).toUInt32.toUInt16.toUInt32.toInt32)), .val (.int ((((cc.toUInt32 >>> ((16 : Int32) &&& 31).toUInt32).toInt32) &&& (255 : Int32)).toUInt32.toUInt16.toUInt32.toInt32)), .unset, .unset, .unset, .unset, .unset, .unset, .unset, .unset, .unset, .unset] [(.int ((((cc.toUInt32 >>> ((24 : Int32) &&& 31).toUInt32).toInt32) &&& (255 : Int32)).toUInt32.toUInt16.toUInt32.toInt32))])) _
  refine XS.istore X.here hx rfl (hb hby at_59) rfl (l' := #[.val (.int cc), .val (.int ra), .val (.int sa), .val (.int rb), .val (.int sb), .val (.int md), .val (.int na), .val (.int nb), .val (.int ((cc &&& (255 : Int32)).toUInt32.toUInt16.toUInt32.toInt32)), .val (.int ((((cc.toUInt32 >>> ((8 : Int32) &&& 31).toUInt32).toInt32) &&& (255 : Int32)).toUInt32.toUInt16.toUInt32.toInt32)), .val (.int ((((cc.toUInt32 >>> ((16 : Int32) &&& 31).toUInt32).toInt32) &&& (255 : Int32)).toUInt32.toUInt16.toUInt32.toInt32)), .val (.int ((((cc.toUInt32 >>> ((24 : Int32) &&& 31).toUInt32).toInt32) &&& (255 : Int32)).toUInt32.toUInt16.toUInt32.toInt32)), .unset, .unset, .unset, .unset, .unset, .unset, .unset, .unset, .unset]) rfl ?_
  show Steps p.tables e below (T.setTop (mkF m 61 #[.val (.int cc), .val (.int ra), .val (.int sa), .val (.int rb), .val (.int sb), .val (.int md), .val (.int na), .val (.int nb), .val (.int ((cc &&& (255 : Int32)).toUInt32.toUInt16.toUInt32.toInt32)), .val (.int ((((cc.toUInt32 >>> ((8 : Int32) &&& 31).toUInt32).toInt32) &&& (255 : Int32)).toUInt32.toUInt16.toUInt32.toInt32)), .val (.int ((((cc.toUInt32 >>> ((16 : Int32) &&& 31).toUInt32).toInt32) &&& (255 : Int32)).toUInt32.toUInt16.toUInt32.toInt32)), .val (.int ((((cc.toUInt32 >>> ((24 : Int32) &&& 31).toUInt32).toInt32) &&& (255 : Int32)).toUInt32.toUInt16.toUInt32.toInt32)), .unset, .unset, .unset, .unset, .unset, .unset, .unset, .unset, .unset] [])) _
  refine XS.iload X.here hx rfl (hb hby at_61) rfl ?_
  show Steps p.tables e below (T.setTop (mkF m 63 #[.val (.int cc), .val (.int ra), .val (.int sa), .val (.int rb), .val (.int sb), .val (.int md), .val (.int na), .val (.int nb), .val (.int ((cc &&& (255 : Int32)).toUInt32.toUInt16.toUInt32.toInt32)), .val (.int ((((cc.toUInt32 >>> ((8 : Int32) &&& 31).toUInt32).toInt32) &&& (255 : Int32)).toUInt32.toUInt16.toUInt32.toInt32)), .val (.int ((((cc.toUInt32 >>> ((16 : Int32) &&& 31).toUInt32).toInt32) &&& (255 : Int32)).toUInt32.toUInt16.toUInt32.toInt32)), .val (.int ((((cc.toUInt32 >>> ((24 : Int32) &&& 31).toUInt32).toInt32) &&& (255 : Int32)).toUInt32.toUInt16.toUInt32.toInt32)), .unset, .unset, .unset, .unset, .unset, .unset, .unset, .unset, .unset] [(.int md)])) _
  refine XS.bipush X.here hx rfl (hb hby at_63) ?_
  show Steps p.tables e below (T.setTop (mkF m 65 #[.val (.int cc), .val (.int ra), .val (.int sa), .val (.int rb), .val (.int sb), .val (.int md), .val (.int na), .val (.int nb), .val (.int ((cc &&& (255 : Int32)).toUInt32.toUInt16.toUInt32.toInt32)), .val (.int ((((cc.toUInt32 >>> ((8 : Int32) &&& 31).toUInt32).toInt32) &&& (255 : Int32)).toUInt32.toUInt16.toUInt32.toInt32)), .val (.int ((((cc.toUInt32 >>> ((16 : Int32) &&& 31).toUInt32).toInt32) &&& (255 : Int32)).toUInt32.toUInt16.toUInt32.toInt32)), .val (.int ((((cc.toUInt32 >>> ((24 : Int32) &&& 31).toUInt32).toInt32) &&& (255 : Int32)).toUInt32.toUInt16.toUInt32.toInt32)), .unset, .unset, .unset, .unset, .unset, .unset, .unset, .unset, .unset] [(.int (16 : Int32)), (.int md)])) _
  refine XS.iand X.here hx rfl (hb hby at_65) rfl ?_
  show Steps p.tables e below (T.setTop (mkF m 66 #[.val (.int cc), .val (.int ra), .val (.int sa), .val (.int rb), .val (.int sb), .val (.int md), .val (.int na), .val (.int nb), .val (.int ((cc &&& (255 : Int32)).toUInt32.toUInt16.toUInt32.toInt32)), .val (.int ((((cc.toUInt32 >>> ((8 : Int32) &&& 31).toUInt32).toInt32) &&& (255 : Int32)).toUInt32.toUInt16.toUInt32.toInt32)), .val (.int ((((cc.toUInt32 >>> ((16 : Int32) &&& 31).toUInt32).toInt32) &&& (255 : Int32)).toUInt32.toUInt16.toUInt32.toInt32)), .val (.int ((((cc.toUInt32 >>> ((24 : Int32) &&& 31).toUInt32).toInt32) &&& (255 : Int32)).toUInt32.toUInt16.toUInt32.toInt32)), .unset, .unset, .unset, .unset, .unset, .unset, .unset, .unset, .unset] [(.int (md &&& (16 : Int32)))])) _
  refine XS.ifYes X.here hx rfl (pc0 := 66) (pc' := 81) rfl (hb hby at_66) rfl ((if0 _ _).trans (teq hc66).1) (by decide) (by decide) ?_
  show Steps p.tables e below (T.setTop (mkF m 81 #[.val (.int cc), .val (.int ra), .val (.int sa), .val (.int rb), .val (.int sb), .val (.int md), .val (.int na), .val (.int nb), .val (.int ((cc &&& (255 : Int32)).toUInt32.toUInt16.toUInt32.toInt32)), .val (.int ((((cc.toUInt32 >>> ((8 : Int32) &&& 31).toUInt32).toInt32) &&& (255 : Int32)).toUInt32.toUInt16.toUInt32.toInt32)), .val (.int ((((cc.toUInt32 >>> ((16 : Int32) &&& 31).toUInt32).toInt32) &&& (255 : Int32)).toUInt32.toUInt16.toUInt32.toInt32)), .val (.int ((((cc.toUInt32 >>> ((24 : Int32) &&& 31).toUInt32).toInt32) &&& (255 : Int32)).toUInt32.toUInt16.toUInt32.toInt32)), .unset, .unset, .unset, .unset, .unset, .unset, .unset, .unset, .unset] [])) _
  refine XS.iload X.here hx rfl (hb hby at_81) rfl ?_
  show Steps p.tables e below (T.setTop (mkF m 83 #[.val (.int cc), .val (.int ra), .val (.int sa), .val (.int rb), .val (.int sb), .val (.int md), .val (.int na), .val (.int nb), .val (.int ((cc &&& (255 : Int32)).toUInt32.toUInt16.toUInt32.toInt32)), .val (.int ((((cc.toUInt32 >>> ((8 : Int32) &&& 31).toUInt32).toInt32) &&& (255 : Int32)).toUInt32.toUInt16.toUInt32.toInt32)), .val (.int ((((cc.toUInt32 >>> ((16 : Int32) &&& 31).toUInt32).toInt32) &&& (255 : Int32)).toUInt32.toUInt16.toUInt32.toInt32)), .val (.int ((((cc.toUInt32 >>> ((24 : Int32) &&& 31).toUInt32).toInt32) &&& (255 : Int32)).toUInt32.toUInt16.toUInt32.toInt32)), .unset, .unset, .unset, .unset, .unset, .unset, .unset, .unset, .unset] [(.int md)])) _
  refine XS.bipush X.here hx rfl (hb hby at_83) ?_
  show Steps p.tables e below (T.setTop (mkF m 85 #[.val (.int cc), .val (.int ra), .val (.int sa), .val (.int rb), .val (.int sb), .val (.int md), .val (.int na), .val (.int nb), .val (.int ((cc &&& (255 : Int32)).toUInt32.toUInt16.toUInt32.toInt32)), .val (.int ((((cc.toUInt32 >>> ((8 : Int32) &&& 31).toUInt32).toInt32) &&& (255 : Int32)).toUInt32.toUInt16.toUInt32.toInt32)), .val (.int ((((cc.toUInt32 >>> ((16 : Int32) &&& 31).toUInt32).toInt32) &&& (255 : Int32)).toUInt32.toUInt16.toUInt32.toInt32)), .val (.int ((((cc.toUInt32 >>> ((24 : Int32) &&& 31).toUInt32).toInt32) &&& (255 : Int32)).toUInt32.toUInt16.toUInt32.toInt32)), .unset, .unset, .unset, .unset, .unset, .unset, .unset, .unset, .unset] [(.int (32 : Int32)), (.int md)])) _
  refine XS.iand X.here hx rfl (hb hby at_85) rfl ?_
  show Steps p.tables e below (T.setTop (mkF m 86 #[.val (.int cc), .val (.int ra), .val (.int sa), .val (.int rb), .val (.int sb), .val (.int md), .val (.int na), .val (.int nb), .val (.int ((cc &&& (255 : Int32)).toUInt32.toUInt16.toUInt32.toInt32)), .val (.int ((((cc.toUInt32 >>> ((8 : Int32) &&& 31).toUInt32).toInt32) &&& (255 : Int32)).toUInt32.toUInt16.toUInt32.toInt32)), .val (.int ((((cc.toUInt32 >>> ((16 : Int32) &&& 31).toUInt32).toInt32) &&& (255 : Int32)).toUInt32.toUInt16.toUInt32.toInt32)), .val (.int ((((cc.toUInt32 >>> ((24 : Int32) &&& 31).toUInt32).toInt32) &&& (255 : Int32)).toUInt32.toUInt16.toUInt32.toInt32)), .unset, .unset, .unset, .unset, .unset, .unset, .unset, .unset, .unset] [(.int (md &&& (32 : Int32)))])) _
  refine XS.ifNo X.here hx rfl (hb hby at_86) rfl ((if0 _ _).trans (feq hc86).1) ?_
  show Steps p.tables e below (T.setTop (mkF m 89 #[.val (.int cc), .val (.int ra), .val (.int sa), .val (.int rb), .val (.int sb), .val (.int md), .val (.int na), .val (.int nb), .val (.int ((cc &&& (255 : Int32)).toUInt32.toUInt16.toUInt32.toInt32)), .val (.int ((((cc.toUInt32 >>> ((8 : Int32) &&& 31).toUInt32).toInt32) &&& (255 : Int32)).toUInt32.toUInt16.toUInt32.toInt32)), .val (.int ((((cc.toUInt32 >>> ((16 : Int32) &&& 31).toUInt32).toInt32) &&& (255 : Int32)).toUInt32.toUInt16.toUInt32.toInt32)), .val (.int ((((cc.toUInt32 >>> ((24 : Int32) &&& 31).toUInt32).toInt32) &&& (255 : Int32)).toUInt32.toUInt16.toUInt32.toInt32)), .unset, .unset, .unset, .unset, .unset, .unset, .unset, .unset, .unset] [])) _
  refine XS.iloadN X.here hx rfl (hb hby at_89) rfl ?_
  show Steps p.tables e below (T.setTop (mkF m 90 #[.val (.int cc), .val (.int ra), .val (.int sa), .val (.int rb), .val (.int sb), .val (.int md), .val (.int na), .val (.int nb), .val (.int ((cc &&& (255 : Int32)).toUInt32.toUInt16.toUInt32.toInt32)), .val (.int ((((cc.toUInt32 >>> ((8 : Int32) &&& 31).toUInt32).toInt32) &&& (255 : Int32)).toUInt32.toUInt16.toUInt32.toInt32)), .val (.int ((((cc.toUInt32 >>> ((16 : Int32) &&& 31).toUInt32).toInt32) &&& (255 : Int32)).toUInt32.toUInt16.toUInt32.toInt32)), .val (.int ((((cc.toUInt32 >>> ((24 : Int32) &&& 31).toUInt32).toInt32) &&& (255 : Int32)).toUInt32.toUInt16.toUInt32.toInt32)), .unset, .unset, .unset, .unset, .unset, .unset, .unset, .unset, .unset] [(.int ra)])) _
  refine XS.goto X.here hx rfl (pc0 := 90) (pc' := 94) rfl (hb hby at_90) (by decide) (by decide) ?_
  show Steps p.tables e below (T.setTop (mkF m 94 #[.val (.int cc), .val (.int ra), .val (.int sa), .val (.int rb), .val (.int sb), .val (.int md), .val (.int na), .val (.int nb), .val (.int ((cc &&& (255 : Int32)).toUInt32.toUInt16.toUInt32.toInt32)), .val (.int ((((cc.toUInt32 >>> ((8 : Int32) &&& 31).toUInt32).toInt32) &&& (255 : Int32)).toUInt32.toUInt16.toUInt32.toInt32)), .val (.int ((((cc.toUInt32 >>> ((16 : Int32) &&& 31).toUInt32).toInt32) &&& (255 : Int32)).toUInt32.toUInt16.toUInt32.toInt32)), .val (.int ((((cc.toUInt32 >>> ((24 : Int32) &&& 31).toUInt32).toInt32) &&& (255 : Int32)).toUInt32.toUInt16.toUInt32.toInt32)), .unset, .unset, .unset, .unset, .unset, .unset, .unset, .unset, .unset] [(.int ra)])) _
  refine XS.istore X.here hx rfl (hb hby at_94) rfl (l' := #[.val (.int cc), .val (.int ra), .val (.int sa), .val (.int rb), .val (.int sb), .val (.int md), .val (.int na), .val (.int nb), .val (.int ((cc &&& (255 : Int32)).toUInt32.toUInt16.toUInt32.toInt32)), .val (.int ((((cc.toUInt32 >>> ((8 : Int32) &&& 31).toUInt32).toInt32) &&& (255 : Int32)).toUInt32.toUInt16.toUInt32.toInt32)), .val (.int ((((cc.toUInt32 >>> ((16 : Int32) &&& 31).toUInt32).toInt32) &&& (255 : Int32)).toUInt32.toUInt16.toUInt32.toInt32)), .val (.int ((((cc.toUInt32 >>> ((24 : Int32) &&& 31).toUInt32).toInt32) &&& (255 : Int32)).toUInt32.toUInt16.toUInt32.toInt32)), .val (.int ra), .unset, .unset, .unset, .unset, .unset, .unset, .unset, .unset]) rfl ?_
  show Steps p.tables e below (T.setTop (mkF m 96 #[.val (.int cc), .val (.int ra), .val (.int sa), .val (.int rb), .val (.int sb), .val (.int md), .val (.int na), .val (.int nb), .val (.int ((cc &&& (255 : Int32)).toUInt32.toUInt16.toUInt32.toInt32)), .val (.int ((((cc.toUInt32 >>> ((8 : Int32) &&& 31).toUInt32).toInt32) &&& (255 : Int32)).toUInt32.toUInt16.toUInt32.toInt32)), .val (.int ((((cc.toUInt32 >>> ((16 : Int32) &&& 31).toUInt32).toInt32) &&& (255 : Int32)).toUInt32.toUInt16.toUInt32.toInt32)), .val (.int ((((cc.toUInt32 >>> ((24 : Int32) &&& 31).toUInt32).toInt32) &&& (255 : Int32)).toUInt32.toUInt16.toUInt32.toInt32)), .val (.int ra), .unset, .unset, .unset, .unset, .unset, .unset, .unset, .unset] [])) _
  refine XS.iload X.here hx rfl (hb hby at_96) rfl ?_
  show Steps p.tables e below (T.setTop (mkF m 98 #[.val (.int cc), .val (.int ra), .val (.int sa), .val (.int rb), .val (.int sb), .val (.int md), .val (.int na), .val (.int nb), .val (.int ((cc &&& (255 : Int32)).toUInt32.toUInt16.toUInt32.toInt32)), .val (.int ((((cc.toUInt32 >>> ((8 : Int32) &&& 31).toUInt32).toInt32) &&& (255 : Int32)).toUInt32.toUInt16.toUInt32.toInt32)), .val (.int ((((cc.toUInt32 >>> ((16 : Int32) &&& 31).toUInt32).toInt32) &&& (255 : Int32)).toUInt32.toUInt16.toUInt32.toInt32)), .val (.int ((((cc.toUInt32 >>> ((24 : Int32) &&& 31).toUInt32).toInt32) &&& (255 : Int32)).toUInt32.toUInt16.toUInt32.toInt32)), .val (.int ra), .unset, .unset, .unset, .unset, .unset, .unset, .unset, .unset] [(.int md)])) _
  refine XS.bipush X.here hx rfl (hb hby at_98) ?_
  show Steps p.tables e below (T.setTop (mkF m 100 #[.val (.int cc), .val (.int ra), .val (.int sa), .val (.int rb), .val (.int sb), .val (.int md), .val (.int na), .val (.int nb), .val (.int ((cc &&& (255 : Int32)).toUInt32.toUInt16.toUInt32.toInt32)), .val (.int ((((cc.toUInt32 >>> ((8 : Int32) &&& 31).toUInt32).toInt32) &&& (255 : Int32)).toUInt32.toUInt16.toUInt32.toInt32)), .val (.int ((((cc.toUInt32 >>> ((16 : Int32) &&& 31).toUInt32).toInt32) &&& (255 : Int32)).toUInt32.toUInt16.toUInt32.toInt32)), .val (.int ((((cc.toUInt32 >>> ((24 : Int32) &&& 31).toUInt32).toInt32) &&& (255 : Int32)).toUInt32.toUInt16.toUInt32.toInt32)), .val (.int ra), .unset, .unset, .unset, .unset, .unset, .unset, .unset, .unset] [(.int (64 : Int32)), (.int md)])) _
  refine XS.iand X.here hx rfl (hb hby at_100) rfl ?_
  show Steps p.tables e below (T.setTop (mkF m 101 #[.val (.int cc), .val (.int ra), .val (.int sa), .val (.int rb), .val (.int sb), .val (.int md), .val (.int na), .val (.int nb), .val (.int ((cc &&& (255 : Int32)).toUInt32.toUInt16.toUInt32.toInt32)), .val (.int ((((cc.toUInt32 >>> ((8 : Int32) &&& 31).toUInt32).toInt32) &&& (255 : Int32)).toUInt32.toUInt16.toUInt32.toInt32)), .val (.int ((((cc.toUInt32 >>> ((16 : Int32) &&& 31).toUInt32).toInt32) &&& (255 : Int32)).toUInt32.toUInt16.toUInt32.toInt32)), .val (.int ((((cc.toUInt32 >>> ((24 : Int32) &&& 31).toUInt32).toInt32) &&& (255 : Int32)).toUInt32.toUInt16.toUInt32.toInt32)), .val (.int ra), .unset, .unset, .unset, .unset, .unset, .unset, .unset, .unset] [(.int (md &&& (64 : Int32)))])) _
  refine XS.ifYes X.here hx rfl (pc0 := 101) (pc' := 108) rfl (hb hby at_101) rfl ((if0 _ _).trans (teq hc101).1) (by decide) (by decide) ?_
  show Steps p.tables e below (T.setTop (mkF m 108 #[.val (.int cc), .val (.int ra), .val (.int sa), .val (.int rb), .val (.int sb), .val (.int md), .val (.int na), .val (.int nb), .val (.int ((cc &&& (255 : Int32)).toUInt32.toUInt16.toUInt32.toInt32)), .val (.int ((((cc.toUInt32 >>> ((8 : Int32) &&& 31).toUInt32).toInt32) &&& (255 : Int32)).toUInt32.toUInt16.toUInt32.toInt32)), .val (.int ((((cc.toUInt32 >>> ((16 : Int32) &&& 31).toUInt32).toInt32) &&& (255 : Int32)).toUInt32.toUInt16.toUInt32.toInt32)), .val (.int ((((cc.toUInt32 >>> ((24 : Int32) &&& 31).toUInt32).toInt32) &&& (255 : Int32)).toUInt32.toUInt16.toUInt32.toInt32)), .val (.int ra), .unset, .unset, .unset, .unset, .unset, .unset, .unset, .unset] [])) _
  refine XS.iload X.here hx rfl (hb hby at_108) rfl ?_
  show Steps p.tables e below (T.setTop (mkF m 110 #[.val (.int cc), .val (.int ra), .val (.int sa), .val (.int rb), .val (.int sb), .val (.int md), .val (.int na), .val (.int nb), .val (.int ((cc &&& (255 : Int32)).toUInt32.toUInt16.toUInt32.toInt32)), .val (.int ((((cc.toUInt32 >>> ((8 : Int32) &&& 31).toUInt32).toInt32) &&& (255 : Int32)).toUInt32.toUInt16.toUInt32.toInt32)), .val (.int ((((cc.toUInt32 >>> ((16 : Int32) &&& 31).toUInt32).toInt32) &&& (255 : Int32)).toUInt32.toUInt16.toUInt32.toInt32)), .val (.int ((((cc.toUInt32 >>> ((24 : Int32) &&& 31).toUInt32).toInt32) &&& (255 : Int32)).toUInt32.toUInt16.toUInt32.toInt32)), .val (.int ra), .unset, .unset, .unset, .unset, .unset, .unset, .unset, .unset] [(.int sb)])) _
  refine XS.istore X.here hx rfl (hb hby at_110) rfl (l' := #[.val (.int cc), .val (.int ra), .val (.int sa), .val (.int rb), .val (.int sb), .val (.int md), .val (.int na), .val (.int nb), .val (.int ((cc &&& (255 : Int32)).toUInt32.toUInt16.toUInt32.toInt32)), .val (.int ((((cc.toUInt32 >>> ((8 : Int32) &&& 31).toUInt32).toInt32) &&& (255 : Int32)).toUInt32.toUInt16.toUInt32.toInt32)), .val (.int ((((cc.toUInt32 >>> ((16 : Int32) &&& 31).toUInt32).toInt32) &&& (255 : Int32)).toUInt32.toUInt16.toUInt32.toInt32)), .val (.int ((((cc.toUInt32 >>> ((24 : Int32) &&& 31).toUInt32).toInt32) &&& (255 : Int32)).toUInt32.toUInt16.toUInt32.toInt32)), .val (.int ra), .val (.int sb), .unset, .unset, .unset, .unset, .unset, .unset, .unset]) rfl ?_
  exact k
set_option maxRecDepth 65536 in
set_option maxHeartbeats 4000000 in
theorem segA_tff (l : Launch) (cc : Int32) (ra : Int32) (sa : Int32) (rb : Int32) (sb : Int32) (md : Int32) (na : Int32) (nb : Int32) (hc66 : (md &&& (16 : Int32)) = (0 : Int32)) (hc86 : ¬ ((md &&& (32 : Int32)) = (0 : Int32))) (hc101 : ¬ ((md &&& (64 : Int32)) = (0 : Int32))) : Seg l 20 #[.val (.int cc), .val (.int ra), .val (.int sa), .val (.int rb), .val (.int sb), .val (.int md), .val (.int na), .val (.int nb), .unset, .unset, .unset, .unset, .unset, .unset, .unset, .unset, .unset, .unset, .unset, .unset, .unset] 112 #[.val (.int cc), .val (.int ra), .val (.int sa), .val (.int rb), .val (.int sb), .val (.int md), .val (.int na), .val (.int nb), .val (.int ((cc &&& (255 : Int32)).toUInt32.toUInt16.toUInt32.toInt32)), .val (.int ((((cc.toUInt32 >>> ((8 : Int32) &&& 31).toUInt32).toInt32) &&& (255 : Int32)).toUInt32.toUInt16.toUInt32.toInt32)), .val (.int ((((cc.toUInt32 >>> ((16 : Int32) &&& 31).toUInt32).toInt32) &&& (255 : Int32)).toUInt32.toUInt16.toUInt32.toInt32)), .val (.int ((((cc.toUInt32 >>> ((24 : Int32) &&& 31).toUInt32).toInt32) &&& (255 : Int32)).toUInt32.toUInt16.toUInt32.toInt32)), .val (.int ra), .val (.int sa), .unset, .unset, .unset, .unset, .unset, .unset, .unset] := by
  intro p e R s m args below meth c T locs cells slots X hx hby target k
  show Steps p.tables e below (T.setTop (mkF m 20 #[.val (.int cc), .val (.int ra), .val (.int sa), .val (.int rb), .val (.int sb), .val (.int md), .val (.int na), .val (.int nb), .unset, .unset, .unset, .unset, .unset, .unset, .unset, .unset, .unset, .unset, .unset, .unset, .unset] [])) _
  refine XS.iloadN X.here hx rfl (hb hby at_20) rfl ?_
  show Steps p.tables e below (T.setTop (mkF m 21 #[.val (.int cc), .val (.int ra), .val (.int sa), .val (.int rb), .val (.int sb), .val (.int md), .val (.int na), .val (.int nb), .unset, .unset, .unset, .unset, .unset, .unset, .unset, .unset, .unset, .unset, .unset, .unset, .unset] [(.int cc)])) _
  refine XS.sipush X.here hx rfl (hb hby at_21) ?_
  show Steps p.tables e below (T.setTop (mkF m 24 #[.val (.int cc), .val (.int ra), .val (.int sa), .val (.int rb), .val (.int sb), .val (.int md), .val (.int na), .val (.int nb), .unset, .unset, .unset, .unset, .unset, .unset, .unset, .unset, .unset, .unset, .unset, .unset, .unset] [(.int (255 : Int32)), (.int cc)])) _
  refine XS.iand X.here hx rfl (hb hby at_24) rfl ?_
  show Steps p.tables e below (T.setTop (mkF m 25 #[.val (.int cc), .val (.int ra), .val (.int sa), .val (.int rb), .val (.int sb), .val (.int md), .val (.int na), .val (.int nb), .unset, .unset, .unset, .unset, .unset, .unset, .unset, .unset, .unset, .unset, .unset, .unset, .unset] [(.int (cc &&& (255 : Int32)))])) _
  refine XS.i2c X.here hx rfl (hb hby at_25) rfl ?_
  show Steps p.tables e below (T.setTop (mkF m 26 #[.val (.int cc), .val (.int ra), .val (.int sa), .val (.int rb), .val (.int sb), .val (.int md), .val (.int na), .val (.int nb), .unset, .unset, .unset, .unset, .unset, .unset, .unset, .unset, .unset, .unset, .unset, .unset, .unset] [(.int ((cc &&& (255 : Int32)).toUInt32.toUInt16.toUInt32.toInt32))])) _
  refine XS.istore X.here hx rfl (hb hby at_26) rfl (l' := #[.val (.int cc), .val (.int ra), .val (.int sa), .val (.int rb), .val (.int sb), .val (.int md), .val (.int na), .val (.int nb), .val (.int ((cc &&& (255 : Int32)).toUInt32.toUInt16.toUInt32.toInt32)), .unset, .unset, .unset, .unset, .unset, .unset, .unset, .unset, .unset, .unset, .unset, .unset]) rfl ?_
  show Steps p.tables e below (T.setTop (mkF m 28 #[.val (.int cc), .val (.int ra), .val (.int sa), .val (.int rb), .val (.int sb), .val (.int md), .val (.int na), .val (.int nb), .val (.int ((cc &&& (255 : Int32)).toUInt32.toUInt16.toUInt32.toInt32)), .unset, .unset, .unset, .unset, .unset, .unset, .unset, .unset, .unset, .unset, .unset, .unset] [])) _
  refine XS.iloadN X.here hx rfl (hb hby at_28) rfl ?_
  show Steps p.tables e below (T.setTop (mkF m 29 #[.val (.int cc), .val (.int ra), .val (.int sa), .val (.int rb), .val (.int sb), .val (.int md), .val (.int na), .val (.int nb), .val (.int ((cc &&& (255 : Int32)).toUInt32.toUInt16.toUInt32.toInt32)), .unset, .unset, .unset, .unset, .unset, .unset, .unset, .unset, .unset, .unset, .unset, .unset] [(.int cc)])) _
  refine XS.bipush X.here hx rfl (hb hby at_29) ?_
  show Steps p.tables e below (T.setTop (mkF m 31 #[.val (.int cc), .val (.int ra), .val (.int sa), .val (.int rb), .val (.int sb), .val (.int md), .val (.int na), .val (.int nb), .val (.int ((cc &&& (255 : Int32)).toUInt32.toUInt16.toUInt32.toInt32)), .unset, .unset, .unset, .unset, .unset, .unset, .unset, .unset, .unset, .unset, .unset, .unset] [(.int (8 : Int32)), (.int cc)])) _
  refine XS.iushr X.here hx rfl (hb hby at_31) rfl ?_
  show Steps p.tables e below (T.setTop (mkF m 32 #[.val (.int cc), .val (.int ra), .val (.int sa), .val (.int rb), .val (.int sb), .val (.int md), .val (.int na), .val (.int nb), .val (.int ((cc &&& (255 : Int32)).toUInt32.toUInt16.toUInt32.toInt32)), .unset, .unset, .unset, .unset, .unset, .unset, .unset, .unset, .unset, .unset, .unset, .unset] [(.int ((cc.toUInt32 >>> ((8 : Int32) &&& 31).toUInt32).toInt32))])) _
  refine XS.sipush X.here hx rfl (hb hby at_32) ?_
  show Steps p.tables e below (T.setTop (mkF m 35 #[.val (.int cc), .val (.int ra), .val (.int sa), .val (.int rb), .val (.int sb), .val (.int md), .val (.int na), .val (.int nb), .val (.int ((cc &&& (255 : Int32)).toUInt32.toUInt16.toUInt32.toInt32)), .unset, .unset, .unset, .unset, .unset, .unset, .unset, .unset, .unset, .unset, .unset, .unset] [(.int (255 : Int32)), (.int ((cc.toUInt32 >>> ((8 : Int32) &&& 31).toUInt32).toInt32))])) _
  refine XS.iand X.here hx rfl (hb hby at_35) rfl ?_
  show Steps p.tables e below (T.setTop (mkF m 36 #[.val (.int cc), .val (.int ra), .val (.int sa), .val (.int rb), .val (.int sb), .val (.int md), .val (.int na), .val (.int nb), .val (.int ((cc &&& (255 : Int32)).toUInt32.toUInt16.toUInt32.toInt32)), .unset, .unset, .unset, .unset, .unset, .unset, .unset, .unset, .unset, .unset, .unset, .unset] [(.int (((cc.toUInt32 >>> ((8 : Int32) &&& 31).toUInt32).toInt32) &&& (255 : Int32)))])) _
  refine XS.i2c X.here hx rfl (hb hby at_36) rfl ?_
  show Steps p.tables e below (T.setTop (mkF m 37 #[.val (.int cc), .val (.int ra), .val (.int sa), .val (.int rb), .val (.int sb), .val (.int md), .val (.int na), .val (.int nb), .val (.int ((cc &&& (255 : Int32)).toUInt32.toUInt16.toUInt32.toInt32)), .unset, .unset, .unset, .unset, .unset, .unset, .unset, .unset, .unset, .unset, .unset, .unset] [(.int ((((cc.toUInt32 >>> ((8 : Int32) &&& 31).toUInt32).toInt32) &&& (255 : Int32)).toUInt32.toUInt16.toUInt32.toInt32))])) _
  refine XS.istore X.here hx rfl (hb hby at_37) rfl (l' := #[.val (.int cc), .val (.int ra), .val (.int sa), .val (.int rb), .val (.int sb), .val (.int md), .val (.int na), .val (.int nb), .val (.int ((cc &&& (255 : Int32)).toUInt32.toUInt16.toUInt32.toInt32)), .val (.int ((((cc.toUInt32 >>> ((8 : Int32) &&& 31).toUInt32).toInt32) &&& (255 : Int32)).toUInt32.toUInt16.toUInt32.toInt32)), .unset, .unset, .unset, .unset, .unset, .unset, .unset, .unset, .unset, .unset, .unset]) rfl ?_
  show Steps p.tables e below (T.setTop (mkF m 39 #[.val (.int cc), .val (.int ra), .val (.int sa), .val (.int rb), .val (.int sb), .val (.int md), .val (.int na), .val (.int nb), .val (.int ((cc &&& (255 : Int32)).toUInt32.toUInt16.toUInt32.toInt32)), .val (.int ((((cc.toUInt32 >>> ((8 : Int32) &&& 31).toUInt32).toInt32) &&& (255 : Int32)).toUInt32.toUInt16.toUInt32.toInt32)), .unset, .unset, .unset, .unset, .unset, .unset, .unset, .unset, .unset, .unset, .unset] [])) _
  refine XS.iloadN X.here hx rfl (hb hby at_39) rfl ?_
  show Steps p.tables e below (T.setTop (mkF m 40 #[.val (.int cc), .val (.int ra), .val (.int sa), .val (.int rb), .val (.int sb), .val (.int md), .val (.int na), .val (.int nb), .val (.int ((cc &&& (255 : Int32)).toUInt32.toUInt16.toUInt32.toInt32)), .val (.int ((((cc.toUInt32 >>> ((8 : Int32) &&& 31).toUInt32).toInt32) &&& (255 : Int32)).toUInt32.toUInt16.toUInt32.toInt32)), .unset, .unset, .unset, .unset, .unset, .unset, .unset, .unset, .unset, .unset, .unset] [(.int cc)])) _
  refine XS.bipush X.here hx rfl (hb hby at_40) ?_
  show Steps p.tables e below (T.setTop (mkF m 42 #[.val (.int cc), .val (.int ra), .val (.int sa), .val (.int rb), .val (.int sb), .val (.int md), .val (.int na), .val (.int nb), .val (.int ((cc &&& (255 : Int32)).toUInt32.toUInt16.toUInt32.toInt32)), .val (.int ((((cc.toUInt32 >>> ((8 : Int32) &&& 31).toUInt32).toInt32) &&& (255 : Int32)).toUInt32.toUInt16.toUInt32.toInt32)), .unset, .unset, .unset, .unset, .unset, .unset, .unset, .unset, .unset, .unset, .unset] [(.int (16 : Int32)), (.int cc)])) _
  refine XS.iushr X.here hx rfl (hb hby at_42) rfl ?_
  show Steps p.tables e below (T.setTop (mkF m 43 #[.val (.int cc), .val (.int ra), .val (.int sa), .val (.int rb), .val (.int sb), .val (.int md), .val (.int na), .val (.int nb), .val (.int ((cc &&& (255 : Int32)).toUInt32.toUInt16.toUInt32.toInt32)), .val (.int ((((cc.toUInt32 >>> ((8 : Int32) &&& 31).toUInt32).toInt32) &&& (255 : Int32)).toUInt32.toUInt16.toUInt32.toInt32)), .unset, .unset, .unset, .unset, .unset, .unset, .unset, .unset, .unset, .unset, .unset] [(.int ((cc.toUInt32 >>> ((16 : Int32) &&& 31).toUInt32).toInt32))])) _
  refine XS.sipush X.here hx rfl (hb hby at_43) ?_
  show Steps p.tables e below (T.setTop (mkF m 46 #[.val (.int cc), .val (.int ra), .val (.int sa), .val (.int rb), .val (.int sb), .val (.int md), .val (.int na), .val (.int nb), .val (.int ((cc &&& (255 : Int32)).toUInt32.toUInt16.toUInt32.toInt32)), .val (.int ((((cc.toUInt32 >>> ((8 : Int32) &&& 31).toUInt32).toInt32) &&& (255 : Int32)).toUInt32.toUInt16.toUInt32.toInt32)), .unset, .unset, .unset, .unset, .unset, .unset, .unset, .unset, .unset, .unset, .unset] [(.int (255 : Int32)), (.int ((cc.toUInt32 >>> ((16 : Int32) &&& 31).toUInt32).toInt32))])) _
  refine XS.iand X.here hx rfl (hb hby at_46) rfl ?_
  show Steps p.tables e below (T.setTop (mkF m 47 #[.val (.int cc), .val (.int ra), .val (.int sa), .val (.int rb), .val (.int sb), .val (.int md), .val (.int na), .val (.int nb), .val (.int ((cc &&& (255 : Int32)).toUInt32.toUInt16.toUInt32.toInt32)), .val (.int ((((cc.toUInt32 >>> ((8 : Int32) &&& 31).toUInt32).toInt32) &&& (255 : Int32)).toUInt32.toUInt16.toUInt32.toInt32)), .unset, .unset, .unset, .unset, .unset, .unset, .unset, .unset, .unset, .unset, .unset] [(.int (((cc.toUInt32 >>> ((16 : Int32) &&& 31).toUInt32).toInt32) &&& (255 : Int32)))])) _
  refine XS.i2c X.here hx rfl (hb hby at_47) rfl ?_
  show Steps p.tables e below (T.setTop (mkF m 48 #[.val (.int cc), .val (.int ra), .val (.int sa), .val (.int rb), .val (.int sb), .val (.int md), .val (.int na), .val (.int nb), .val (.int ((cc &&& (255 : Int32)).toUInt32.toUInt16.toUInt32.toInt32)), .val (.int ((((cc.toUInt32 >>> ((8 : Int32) &&& 31).toUInt32).toInt32) &&& (255 : Int32)).toUInt32.toUInt16.toUInt32.toInt32)), .unset, .unset, .unset, .unset, .unset, .unset, .unset, .unset, .unset, .unset, .unset] [(.int ((((cc.toUInt32 >>> ((16 : Int32) &&& 31).toUInt32).toInt32) &&& (255 : Int32)).toUInt32.toUInt16.toUInt32.toInt32))])) _
  refine XS.istore X.here hx rfl (hb hby at_48) rfl (l' := #[.val (.int cc), .val (.int ra), .val (.int sa), .val (.int rb), .val (.int sb), .val (.int md), .val (.int na), .val (.int nb), .val (.int ((cc &&& (255 : Int32)).toUInt32.toUInt16.toUInt32.toInt32)), .val (.int ((((cc.toUInt32 >>> ((8 : Int32) &&& 31).toUInt32).toInt32) &&& (255 : Int32)).toUInt32.toUInt16.toUInt32.toInt32)), .val (.int ((((cc.toUInt32 >>> ((16 : Int32) &&& 31).toUInt32).toInt32) &&& (255 : Int32)).toUInt32.toUInt16.toUInt32.toInt32)), .unset, .unset, .unset, .unset, .unset, .unset, .unset, .unset, .unset, .unset]) rfl ?_
  show Steps p.tables e below (T.setTop (mkF m 50 #[.val (.int cc), .val (.int ra), .val (.int sa), .val (.int rb), .val (.int sb), .val (.int md), .val (.int na), .val (.int nb), .val (.int ((cc &&& (255 : Int32)).toUInt32.toUInt16.toUInt32.toInt32)), .val (.int ((((cc.toUInt32 >>> ((8 : Int32) &&& 31).toUInt32).toInt32) &&& (255 : Int32)).toUInt32.toUInt16.toUInt32.toInt32)), .val (.int ((((cc.toUInt32 >>> ((16 : Int32) &&& 31).toUInt32).toInt32) &&& (255 : Int32)).toUInt32.toUInt16.toUInt32.toInt32)), .unset, .unset, .unset, .unset, .unset, .unset, .unset, .unset, .unset, .unset] [])) _
  refine XS.iloadN X.here hx rfl (hb hby at_50) rfl ?_
  show Steps p.tables e below (T.setTop (mkF m 51 #[.val (.int cc), .val (.int ra), .val (.int sa), .val (.int rb), .val (.int sb), .val (.int md), .val (.int na), .val (.int nb), .val (.int ((cc &&& (255 : Int32)).toUInt32.toUInt16.toUInt32.toInt32)), .val (.int ((((cc.toUInt32 >>> ((8 : Int32) &&& 31).toUInt32).toInt32) &&& (255 : Int32)).toUInt32.toUInt16.toUInt32.toInt32)), .val (.int ((((cc.toUInt32 >>> ((16 : Int32) &&& 31).toUInt32).toInt32) &&& (255 : Int32)).toUInt32.toUInt16.toUInt32.toInt32)), .unset, .unset, .unset, .unset, .unset, .unset, .unset, .unset, .unset, .unset] [(.int cc)])) _
  refine XS.bipush X.here hx rfl (hb hby at_51) ?_
  show Steps p.tables e below (T.setTop (mkF m 53 #[.val (.int cc), .val (.int ra), .val (.int sa), .val (.int rb), .val (.int sb), .val (.int md), .val (.int na), .val (.int nb), .val (.int ((cc &&& (255 : Int32)).toUInt32.toUInt16.toUInt32.toInt32)), .val (.int ((((cc.toUInt32 >>> ((8 : Int32) &&& 31).toUInt32).toInt32) &&& (255 : Int32)).toUInt32.toUInt16.toUInt32.toInt32)), .val (.int ((((cc.toUInt32 >>> ((16 : Int32) &&& 31).toUInt32).toInt32) &&& (255 : Int32)).toUInt32.toUInt16.toUInt32.toInt32)), .unset, .unset, .unset, .unset, .unset, .unset, .unset, .unset, .unset, .unset] [(.int (24 : Int32)), (.int cc)])) _
  refine XS.iushr X.here hx rfl (hb hby at_53) rfl ?_
  show Steps p.tables e below (T.setTop (mkF m 54 #[.val (.int cc), .val (.int ra), .val (.int sa), .val (.int rb), .val (.int sb), .val (.int md), .val (.int na), .val (.int nb), .val (.int ((cc &&& (255 : Int32)).toUInt32.toUInt16.toUInt32.toInt32)), .val (.int ((((cc.toUInt32 >>> ((8 : Int32) &&& 31).toUInt32).toInt32) &&& (255 : Int32)).toUInt32.toUInt16.toUInt32.toInt32)), .val (.int ((((cc.toUInt32 >>> ((16 : Int32) &&& 31).toUInt32).toInt32) &&& (255 : Int32)).toUInt32.toUInt16.toUInt32.toInt32)), .unset, .unset, .unset, .unset, .unset, .unset, .unset, .unset, .unset, .unset] [(.int ((cc.toUInt32 >>> ((24 : Int32) &&& 31).toUInt32).toInt32))])) _
  refine XS.sipush X.here hx rfl (hb hby at_54) ?_
  show Steps p.tables e below (T.setTop (mkF m 57 #[.val (.int cc), .val (.int ra), .val (.int sa), .val (.int rb), .val (.int sb), .val (.int md), .val (.int na), .val (.int nb), .val (.int ((cc &&& (255 : Int32)).toUInt32.toUInt16.toUInt32.toInt32)), .val (.int ((((cc.toUInt32 >>> ((8 : Int32) &&& 31).toUInt32).toInt32) &&& (255 : Int32)).toUInt32.toUInt16.toUInt32.toInt32)), .val (.int ((((cc.toUInt32 >>> ((16 : Int32) &&& 31).toUInt32).toInt32) &&& (255 : Int32)).toUInt32.toUInt16.toUInt32.toInt32)), .unset, .unset, .unset, .unset, .unset, .unset, .unset, .unset, .unset, .unset] [(.int (255 : Int32)), (.int ((cc.toUInt32 >>> ((24 : Int32) &&& 31).toUInt32).toInt32))])) _
  refine XS.iand X.here hx rfl (hb hby at_57) rfl ?_
  show Steps p.tables e below (T.setTop (mkF m 58 #[.val (.int cc), .val (.int ra), .val (.int sa), .val (.int rb), .val (.int sb), .val (.int md), .val (.int na), .val (.int nb), .val (.int ((cc &&& (255 : Int32)).toUInt32.toUInt16.toUInt32.toInt32)), .val (.int ((((cc.toUInt32 >>> ((8 : Int32) &&& 31).toUInt32).toInt32) &&& (255 : Int32)).toUInt32.toUInt16.toUInt32.toInt32)), .val (.int ((((cc.toUInt32 >>> ((16 : Int32) &&& 31).toUInt32).toInt32) &&& (255 : Int32)).toUInt32.toUInt16.toUInt32.toInt32)), .unset, .unset, .unset, .unset, .unset, .unset, .unset, .unset, .unset, .unset] [(.int (((cc.toUInt32 >>> ((24 : Int32) &&& 31).toUInt32).toInt32) &&& (255 : Int32)))])) _
  refine XS.i2c X.here hx rfl (hb hby at_58) rfl ?_
  show Steps p.tables e below (T.setTop (mkF m 59 #[.val (.int cc), .val (.int ra), .val (.int sa), .val (.int rb), .val (.int sb), .val (.int md), .val (.int na), .val (.int nb), .val (.int ((cc &&& (255 : Int32)).toUInt32.toUInt16.toUInt32.toInt32)), .val (.int ((((cc.toUInt32 >>> ((8 : Int32) &&& 31).toUInt32).toInt32) &&& (255 : Int32)).toUInt32.toUInt16.toUInt32.toInt32)), .val (.int ((((cc.toUInt32 >>> ((16 : Int32) &&& 31).toUInt32).toInt32) &&& (255 : Int32)).toUInt32.toUInt16.toUInt32.toInt32)), .unset, .unset, .unset, .unset, .unset, .unset, .unset, .unset, .unset, .unset] [(.int ((((cc.toUInt32 >>> ((24 : Int32) &&& 31).toUInt32).toInt32) &&& (255 : Int32)).toUInt32.toUInt16.toUInt32.toInt32))])) _
  refine XS.istore X.here hx rfl (hb hby at_59) rfl (l' := #[.val (.int cc), .val (.int ra), .val (.int sa), .val (.int rb), .val (.int sb), .val (.int md), .val (.int na), .val (.int nb), .val (.int ((cc &&& (255 : Int32)).toUInt32.toUInt16.toUInt32.toInt32)), .val (.int ((((cc.toUInt32 >>> ((8 : Int32) &&& 31).toUInt32).toInt32) &&& (255 : Int32)).toUInt32.toUInt16.toUInt32.toInt32)), .val (.int ((((cc.toUInt32 >>> ((16 : Int32) &&& 31).toUInt32).toInt32) &&& (255 : Int32)).toUInt32.toUInt16.toUInt32.toInt32)), .val (.int ((((cc.toUInt32 >>> ((24 : Int32) &&& 31).toUInt32).toInt32) &&& (255 : Int32)).toUInt32.toUInt16.toUInt32.toInt32)), .unset, .unset, .unset, .unset, .unset, .unset, .unset, .unset, .unset]) rfl ?_
  show Steps p.tables e below (T.setTop (mkF m 61 #[.val (.int cc), .val (.int ra), .val (.int sa), .val (.int rb), .val (.int sb), .val (.int md), .val (.int na), .val (.int nb), .val (.int ((cc &&& (255 : Int32)).toUInt32.toUInt16.toUInt32.toInt32)), .val (.int ((((cc.toUInt32 >>> ((8 : Int32) &&& 31).toUInt32).toInt32) &&& (255 : Int32)).toUInt32.toUInt16.toUInt32.toInt32)), .val (.int ((((cc.toUInt32 >>> ((16 : Int32) &&& 31).toUInt32).toInt32) &&& (255 : Int32)).toUInt32.toUInt16.toUInt32.toInt32)), .val (.int ((((cc.toUInt32 >>> ((24 : Int32) &&& 31).toUInt32).toInt32) &&& (255 : Int32)).toUInt32.toUInt16.toUInt32.toInt32)), .unset, .unset, .unset, .unset, .unset, .unset, .unset, .unset, .unset] [])) _
  refine XS.iload X.here hx rfl (hb hby at_61) rfl ?_
  show Steps p.tables e below (T.setTop (mkF m 63 #[.val (.int cc), .val (.int ra), .val (.int sa), .val (.int rb), .val (.int sb), .val (.int md), .val (.int na), .val (.int nb), .val (.int ((cc &&& (255 : Int32)).toUInt32.toUInt16.toUInt32.toInt32)), .val (.int ((((cc.toUInt32 >>> ((8 : Int32) &&& 31).toUInt32).toInt32) &&& (255 : Int32)).toUInt32.toUInt16.toUInt32.toInt32)), .val (.int ((((cc.toUInt32 >>> ((16 : Int32) &&& 31).toUInt32).toInt32) &&& (255 : Int32)).toUInt32.toUInt16.toUInt32.toInt32)), .val (.int ((((cc.toUInt32 >>> ((24 : Int32) &&& 31).toUInt32).toInt32) &&& (255 : Int32)).toUInt32.toUInt16.toUInt32.toInt32)), .unset, .unset, .unset, .unset, .unset, .unset, .unset, .unset, .unset] [(.int md)])) _
  refine XS.bipush X.here hx rfl (hb hby at_63) ?_
  show Steps p.tables e below (T.setTop (mkF m 65 #[.val (.int cc), .val (.int ra), .val (.int sa), .val (.int rb), .val (.int sb), .val (.int md), .val (.int na), .val (.int nb), .val (.int ((cc &&& (255 : Int32)).toUInt32.toUInt16.toUInt32.toInt32)), .val (.int ((((cc.toUInt32 >>> ((8 : Int32) &&& 31).toUInt32).toInt32) &&& (255 : Int32)).toUInt32.toUInt16.toUInt32.toInt32)), .val (.int ((((cc.toUInt32 >>> ((16 : Int32) &&& 31).toUInt32).toInt32) &&& (255 : Int32)).toUInt32.toUInt16.toUInt32.toInt32)), .val (.int ((((cc.toUInt32 >>> ((24 : Int32) &&& 31).toUInt32).toInt32) &&& (255 : Int32)).toUInt32.toUInt16.toUInt32.toInt32)), .unset, .unset, .unset, .unset, .unset, .unset, .unset, .unset, .unset] [(.int (16 : Int32)), (.int md)])) _
  refine XS.iand X.here hx rfl (hb hby at_65) rfl ?_
  show Steps p.tables e below (T.setTop (mkF m 66 #[.val (.int cc), .val (.int ra), .val (.int sa), .val (.int rb), .val (.int sb), .val (.int md), .val (.int na), .val (.int nb), .val (.int ((cc &&& (255 : Int32)).toUInt32.toUInt16.toUInt32.toInt32)), .val (.int ((((cc.toUInt32 >>> ((8 : Int32) &&& 31).toUInt32).toInt32) &&& (255 : Int32)).toUInt32.toUInt16.toUInt32.toInt32)), .val (.int ((((cc.toUInt32 >>> ((16 : Int32) &&& 31).toUInt32).toInt32) &&& (255 : Int32)).toUInt32.toUInt16.toUInt32.toInt32)), .val (.int ((((cc.toUInt32 >>> ((24 : Int32) &&& 31).toUInt32).toInt32) &&& (255 : Int32)).toUInt32.toUInt16.toUInt32.toInt32)), .unset, .unset, .unset, .unset, .unset, .unset, .unset, .unset, .unset] [(.int (md &&& (16 : Int32)))])) _
  refine XS.ifYes X.here hx rfl (pc0 := 66) (pc' := 81) rfl (hb hby at_66) rfl ((if0 _ _).trans (teq hc66).1) (by decide) (by decide) ?_
  show Steps p.tables e below (T.setTop (mkF m 81 #[.val (.int cc), .val (.int ra), .val (.int sa), .val (.int rb), .val (.int sb), .val (.int md), .val (.int na), .val (.int nb), .val (.int ((cc &&& (255 : Int32)).toUInt32.toUInt16.toUInt32.toInt32)), .val (.int ((((cc.toUInt32 >>> ((8 : Int32) &&& 31).toUInt32).toInt32) &&& (255 : Int32)).toUInt32.toUInt16.toUInt32.toInt32)), .val (.int ((((cc.toUInt32 >>> ((16 : Int32) &&& 31).toUInt32).toInt32) &&& (255 : Int32)).toUInt32.toUInt16.toUInt32.toInt32)), .val (.int ((((cc.toUInt32 >>> ((24 : Int32) &&& 31).toUInt32).toInt32) &&& (255 : Int32)).toUInt32.toUInt16.toUInt32.toInt32)), .unset, .unset, .unset, .unset, .unset, .unset, .unset, .unset, .unset] [])) _
  refine XS.iload X.here hx rfl (hb hby at_81) rfl ?_
  show Steps p.tables e below (T.setTop (mkF m 83 #[.val (.int cc), .val (.int ra), .val (.int sa), .val (.int rb), .val (.int sb), .val (.int md), .val (.int na), .val (.int nb), .val (.int ((cc &&& (255 : Int32)).toUInt32.toUInt16.toUInt32.toInt32)), .val (.int ((((cc.toUInt32 >>> ((8 : Int32) &&& 31).toUInt32).toInt32) &&& (255 : Int32)).toUInt32.toUInt16.toUInt32.toInt32)), .val (.int ((((cc.toUInt32 >>> ((16 : Int32) &&& 31).toUInt32).toInt32) &&& (255 : Int32)).toUInt32.toUInt16.toUInt32.toInt32)), .val (.int ((((cc.toUInt32 >>> ((24 : Int32) &&& 31).toUInt32).toInt32) &&& (255 : Int32)).toUInt32.toUInt16.toUInt32.toInt32)), .unset, .unset, .unset, .unset, .unset, .unset, .unset, .unset, .unset] [(.int md)])) _
  refine XS.bipush X.here hx rfl (hb hby at_83) ?_
  show Steps p.tables e below (T.setTop (mkF m 85 #[.val (.int cc), .val (.int ra), .val (.int sa), .val (.int rb), .val (.int sb), .val (.int md), .val (.int na), .val (.int nb), .val (.int ((cc &&& (255 : Int32)).toUInt32.toUInt16.toUInt32.toInt32)), .val (.int ((((cc.toUInt32 >>> ((8 : Int32) &&& 31).toUInt32).toInt32) &&& (255 : Int32)).toUInt32.toUInt16.toUInt32.toInt32)), .val (.int ((((cc.toUInt32 >>> ((16 : Int32) &&& 31).toUInt32).toInt32) &&& (255 : Int32)).toUInt32.toUInt16.toUInt32.toInt32)), .val (.int ((((cc.toUInt32 >>> ((24 : Int32) &&& 31).toUInt32).toInt32) &&& (255 : Int32)).toUInt32.toUInt16.toUInt32.toInt32)), .unset, .unset, .unset, .unset, .unset, .unset, .unset, .unset, .unset] [(.int (32 : Int32)), (.int md)])) _
  refine XS.iand X.here hx rfl (hb hby at_85) rfl ?_
  show Steps p.tables e below (T.setTop (mkF m 86 #[.val (.int cc), .val (.int ra), .val (.int sa), .val (.int rb), .val (.int sb), .val (.int md), .val (.int na), .val (.int nb), .val (.int ((cc &&& (255 : Int32)).toUInt32.toUInt16.toUInt32.toInt32)), .val (.int ((((cc.toUInt32 >>> ((8 : Int32) &&& 31).toUInt32).toInt32) &&& (255 : Int32)).toUInt32.toUInt16.toUInt32.toInt32)), .val (.int ((((cc.toUInt32 >>> ((16 : Int32) &&& 31).toUInt32).toInt32) &&& (255 : Int32)).toUInt32.toUInt16.toUInt32.toInt32)), .val (.int ((((cc.toUInt32 >>> ((24 : Int32) &&& 31).toUInt32).toInt32) &&& (255 : Int32)).toUInt32.toUInt16.toUInt32.toInt32)), .unset, .unset, .unset, .unset, .unset, .unset, .unset, .unset, .unset] [(.int (md &&& (32 : Int32)))])) _
  refine XS.ifNo X.here hx rfl (hb hby at_86) rfl ((if0 _ _).trans (feq hc86).1) ?_
  show Steps p.tables e below (T.setTop (mkF m 89 #[.val (.int cc), .val (.int ra), .val (.int sa), .val (.int rb), .val (.int sb), .val (.int md), .val (.int na), .val (.int nb), .val (.int ((cc &&& (255 : Int32)).toUInt32.toUInt16.toUInt32.toInt32)), .val (.int ((((cc.toUInt32 >>> ((8 : Int32) &&& 31).toUInt32).toInt32) &&& (255 : Int32)).toUInt32.toUInt16.toUInt32.toInt32)), .val (.int ((((cc.toUInt32 >>> ((16 : Int32) &&& 31).toUInt32).toInt32) &&& (255 : Int32)).toUInt32.toUInt16.toUInt32.toInt32)), .val (.int ((((cc.toUInt32 >>> ((24 : Int32) &&& 31).toUInt32).toInt32) &&& (255 : Int32)).toUInt32.toUInt16.toUInt32.toInt32)), .unset, .unset, .unset, .unset, .unset, .unset, .unset, .unset, .unset] [])) _
  refine XS.iloadN X.here hx rfl (hb hby at_89) rfl ?_
  show Steps p.tables e below (T.setTop (mkF m 90 #[.val (.int cc), .val (.int ra), .val (.int sa), .val (.int rb), .val (.int sb), .val (.int md), .val (.int na), .val (.int nb), .val (.int ((cc &&& (255 : Int32)).toUInt32.toUInt16.toUInt32.toInt32)), .val (.int ((((cc.toUInt32 >>> ((8 : Int32) &&& 31).toUInt32).toInt32) &&& (255 : Int32)).toUInt32.toUInt16.toUInt32.toInt32)), .val (.int ((((cc.toUInt32 >>> ((16 : Int32) &&& 31).toUInt32).toInt32) &&& (255 : Int32)).toUInt32.toUInt16.toUInt32.toInt32)), .val (.int ((((cc.toUInt32 >>> ((24 : Int32) &&& 31).toUInt32).toInt32) &&& (255 : Int32)).toUInt32.toUInt16.toUInt32.toInt32)), .unset, .unset, .unset, .unset, .unset, .unset, .unset, .unset, .unset] [(.int ra)])) _
  refine XS.goto X.here hx rfl (pc0 := 90) (pc' := 94) rfl (hb hby at_90) (by decide) (by decide) ?_
  show Steps p.tables e below (T.setTop (mkF m 94 #[.val (.int cc), .val (.int ra), .val (.int sa), .val (.int rb), .val (.int sb), .val (.int md), .val (.int na), .val (.int nb), .val (.int ((cc &&& (255 : Int32)).toUInt32.toUInt16.toUInt32.toInt32)), .val (.int ((((cc.toUInt32 >>> ((8 : Int32) &&& 31).toUInt32).toInt32) &&& (255 : Int32)).toUInt32.toUInt16.toUInt32.toInt32)), .val (.int ((((cc.toUInt32 >>> ((16 : Int32) &&& 31).toUInt32).toInt32) &&& (255 : Int32)).toUInt32.toUInt16.toUInt32.toInt32)), .val (.int ((((cc.toUInt32 >>> ((24 : Int32) &&& 31).toUInt32).toInt32) &&& (255 : Int32)).toUInt32.toUInt16.toUInt32.toInt32)), .unset, .unset, .unset, .unset, .unset, .unset, .unset, .unset, .unset] [(.int ra)])) _
  refine XS.istore X.here hx rfl (hb hby at_94) rfl (l' := #[.val (.int cc), .val (.int ra), .val (.int sa), .val (.int rb), .val (.int sb), .val (.int md), .val (.int na), .val (.int nb), .val (.int ((cc &&& (255 : Int32)).toUInt32.toUInt16.toUInt32.toInt32)), .val (.int ((((cc.toUInt32 >>> ((8 : Int32) &&& 31).toUInt32).toInt32) &&& (255 : Int32)).toUInt32.toUInt16.toUInt32.toInt32)), .val (.int ((((cc.toUInt32 >>> ((16 : Int32) &&& 31).toUInt32).toInt32) &&& (255 : Int32)).toUInt32.toUInt16.toUInt32.toInt32)), .val (.int ((((cc.toUInt32 >>> ((24 : Int32) &&& 31).toUInt32).toInt32) &&& (255 : Int32)).toUInt32.toUInt16.toUInt32.toInt32)), .val (.int ra), .unset, .unset, .unset, .unset, .unset, .unset, .unset, .unset]) rfl ?_
  show Steps p.tables e below (T.setTop (mkF m 96 #[.val (.int cc), .val (.int ra), .val (.int sa), .val (.int rb), .val (.int sb), .val (.int md), .val (.int na), .val (.int nb), .val (.int ((cc &&& (255 : Int32)).toUInt32.toUInt16.toUInt32.toInt32)), .val (.int ((((cc.toUInt32 >>> ((8 : Int32) &&& 31).toUInt32).toInt32) &&& (255 : Int32)).toUInt32.toUInt16.toUInt32.toInt32)), .val (.int ((((cc.toUInt32 >>> ((16 : Int32) &&& 31).toUInt32).toInt32) &&& (255 : Int32)).toUInt32.toUInt16.toUInt32.toInt32)), .val (.int ((((cc.toUInt32 >>> ((24 : Int32) &&& 31).toUInt32).toInt32) &&& (255 : Int32)).toUInt32.toUInt16.toUInt32.toInt32)), .val (.int ra), .unset, .unset, .unset, .unset, .unset, .unset, .unset, .unset] [])) _
  refine XS.iload X.here hx rfl (hb hby at_96) rfl ?_
  show Steps p.tables e below (T.setTop (mkF m 98 #[.val (.int cc), .val (.int ra), .val (.int sa), .val (.int rb), .val (.int sb), .val (.int md), .val (.int na), .val (.int nb), .val (.int ((cc &&& (255 : Int32)).toUInt32.toUInt16.toUInt32.toInt32)), .val (.int ((((cc.toUInt32 >>> ((8 : Int32) &&& 31).toUInt32).toInt32) &&& (255 : Int32)).toUInt32.toUInt16.toUInt32.toInt32)), .val (.int ((((cc.toUInt32 >>> ((16 : Int32) &&& 31).toUInt32).toInt32) &&& (255 : Int32)).toUInt32.toUInt16.toUInt32.toInt32)), .val (.int ((((cc.toUInt32 >>> ((24 : Int32) &&& 31).toUInt32).toInt32) &&& (255 : Int32)).toUInt32.toUInt16.toUInt32.toInt32)), .val (.int ra), .unset, .unset, .unset, .unset, .unset, .unset, .unset, .unset] [(.int md)])) _
  refine XS.bipush X.here hx rfl (hb hby at_98) ?_
  show Steps p.tables e below (T.setTop (mkF m 100 #[.val (.int cc), .val (.int ra), .val (.int sa), .val (.int rb), .val (.int sb), .val (.int md), .val (.int na), .val (.int nb), .val (.int ((cc &&& (255 : Int32)).toUInt32.toUInt16.toUInt32.toInt32)), .val (.int ((((cc.toUInt32 >>> ((8 : Int32) &&& 31).toUInt32).toInt32) &&& (255 : Int32)).toUInt32.toUInt16.toUInt32.toInt32)), .val (.int ((((cc.toUInt32 >>> ((16 : Int32) &&& 31).toUInt32).toInt32) &&& (255 : Int32)).toUInt32.toUInt16.toUInt32.toInt32)), .val (.int ((((cc.toUInt32 >>> ((24 : Int32) &&& 31).toUInt32).toInt32) &&& (255 : Int32)).toUInt32.toUInt16.toUInt32.toInt32)), .val (.int ra), .unset, .unset, .unset, .unset, .unset, .unset, .unset, .unset] [(.int (64 : Int32)), (.int md)])) _
  refine XS.iand X.here hx rfl (hb hby at_100) rfl ?_
  show Steps p.tables e below (T.setTop (mkF m 101 #[.val (.int cc), .val (.int ra), .val (.int sa), .val (.int rb), .val (.int sb), .val (.int md), .val (.int na), .val (.int nb), .val (.int ((cc &&& (255 : Int32)).toUInt32.toUInt16.toUInt32.toInt32)), .val (.int ((((cc.toUInt32 >>> ((8 : Int32) &&& 31).toUInt32).toInt32) &&& (255 : Int32)).toUInt32.toUInt16.toUInt32.toInt32)), .val (.int ((((cc.toUInt32 >>> ((16 : Int32) &&& 31).toUInt32).toInt32) &&& (255 : Int32)).toUInt32.toUInt16.toUInt32.toInt32)), .val (.int ((((cc.toUInt32 >>> ((24 : Int32) &&& 31).toUInt32).toInt32) &&& (255 : Int32)).toUInt32.toUInt16.toUInt32.toInt32)), .val (.int ra), .unset, .unset, .unset, .unset, .unset, .unset, .unset, .unset] [(.int (md &&& (64 : Int32)))])) _
  refine XS.ifNo X.here hx rfl (hb hby at_101) rfl ((if0 _ _).trans (feq hc101).1) ?_
  show Steps p.tables e below (T.setTop (mkF m 104 #[.val (.int cc), .val (.int ra), .val (.int sa), .val (.int rb), .val (.int sb), .val (.int md), .val (.int na), .val (.int nb), .val (.int ((cc &&& (255 : Int32)).toUInt32.toUInt16.toUInt32.toInt32)), .val (.int ((((cc.toUInt32 >>> ((8 : Int32) &&& 31).toUInt32).toInt32) &&& (255 : Int32)).toUInt32.toUInt16.toUInt32.toInt32)), .val (.int ((((cc.toUInt32 >>> ((16 : Int32) &&& 31).toUInt32).toInt32) &&& (255 : Int32)).toUInt32.toUInt16.toUInt32.toInt32)), .val (.int ((((cc.toUInt32 >>> ((24 : Int32) &&& 31).toUInt32).toInt32) &&& (255 : Int32)).toUInt32.toUInt16.toUInt32.toInt32)), .val (.int ra), .unset, .unset, .unset, .unset, .unset, .unset, .unset, .unset] [])) _
  refine XS.iloadN X.here hx rfl (hb hby at_104) rfl ?_
  show Steps p.tables e below (T.setTop (mkF m 105 #[.val (.int cc), .val (.int ra), .val (.int sa), .val (.int rb), .val (.int sb), .val (.int md), .val (.int na), .val (.int nb), .val (.int ((cc &&& (255 : Int32)).toUInt32.toUInt16.toUInt32.toInt32)), .val (.int ((((cc.toUInt32 >>> ((8 : Int32) &&& 31).toUInt32).toInt32) &&& (255 : Int32)).toUInt32.toUInt16.toUInt32.toInt32)), .val (.int ((((cc.toUInt32 >>> ((16 : Int32) &&& 31).toUInt32).toInt32) &&& (255 : Int32)).toUInt32.toUInt16.toUInt32.toInt32)), .val (.int ((((cc.toUInt32 >>> ((24 : Int32) &&& 31).toUInt32).toInt32) &&& (255 : Int32)).toUInt32.toUInt16.toUInt32.toInt32)), .val (.int ra), .unset, .unset, .unset, .unset, .unset, .unset, .unset, .unset] [(.int sa)])) _
  refine XS.goto X.here hx rfl (pc0 := 105) (pc' := 110) rfl (hb hby at_105) (by decide) (by decide) ?_
  show Steps p.tables e below (T.setTop (mkF m 110 #[.val (.int cc), .val (.int ra), .val (.int sa), .val (.int rb), .val (.int sb), .val (.int md), .val (.int na), .val (.int nb), .val (.int ((cc &&& (255 : Int32)).toUInt32.toUInt16.toUInt32.toInt32)), .val (.int ((((cc.toUInt32 >>> ((8 : Int32) &&& 31).toUInt32).toInt32) &&& (255 : Int32)).toUInt32.toUInt16.toUInt32.toInt32)), .val (.int ((((cc.toUInt32 >>> ((16 : Int32) &&& 31).toUInt32).toInt32) &&& (255 : Int32)).toUInt32.toUInt16.toUInt32.toInt32)), .val (.int ((((cc.toUInt32 >>> ((24 : Int32) &&& 31).toUInt32).toInt32) &&& (255 : Int32)).toUInt32.toUInt16.toUInt32.toInt32)), .val (.int ra), .unset, .unset, .unset, .unset, .unset, .unset, .unset, .unset] [(.int sa)])) _
  refine XS.istore X.here hx rfl (hb hby at_110) rfl (l' := #[.val (.int cc), .val (.int ra), .val (.int sa), .val (.int rb), .val (.int sb), .val (.int md), .val (.int na), .val (.int nb), .val (.int ((cc &&& (255 : Int32)).toUInt32.toUInt16.toUInt32.toInt32)), .val (.int ((((cc.toUInt32 >>> ((8 : Int32) &&& 31).toUInt32).toInt32) &&& (255 : Int32)).toUInt32.toUInt16.toUInt32.toInt32)), .val (.int ((((cc.toUInt32 >>> ((16 : Int32) &&& 31).toUInt32).toInt32) &&& (255 : Int32)).toUInt32.toUInt16.toUInt32.toInt32)), .val (.int ((((cc.toUInt32 >>> ((24 : Int32) &&& 31).toUInt32).toInt32) &&& (255 : Int32)).toUInt32.toUInt16.toUInt32.toInt32)), .val (.int ra), .val (.int sa), .unset, .unset, .unset, .unset, .unset, .unset, .unset]) rfl ?_
  exact k
set_option maxRecDepth 65536 in
set_option maxHeartbeats 4000000 in
theorem segA_ftt (l : Launch) (cc : Int32) (ra : Int32) (sa : Int32) (rb : Int32) (sb : Int32) (md : Int32) (na : Int32) (nb : Int32) (hc66 : ¬ ((md &&& (16 : Int32)) = (0 : Int32))) (hc86 : (md &&& (32 : Int32)) = (0 : Int32)) (hc101 : (md &&& (64 : Int32)) = (0 : Int32)) : Seg l 20 #[.val (.int cc), .val (.int ra), .val (.int sa), .val (.int rb), .val (.int sb), .val (.int md), .val (.int na), .val (.int nb), .unset, .unset, .unset, .unset, .unset, .unset, .unset, .unset, .unset, .unset, .unset, .unset, .unset] 112 #[.val (.int cc), .val (.int ra), .val (.int sa), .val (.int rb), .val (.int sb), .val (.int md), .val (.int na), .val (.int na), .val (.int ((cc &&& (255 : Int32)).toUInt32.toUInt16.toUInt32.toInt32)), .val (.int ((((cc.toUInt32 >>> ((8 : Int32) &&& 31).toUInt32).toInt32) &&& (255 : Int32)).toUInt32.toUInt16.toUInt32.toInt32)), .val (.int ((cc &&& (255 : Int32)).toUInt32.toUInt16.toUInt32.toInt32)), .val (.int ((((cc.toUInt32 >>> ((8 : Int32) &&& 31).toUInt32).toInt32) &&& (255 : Int32)).toUInt32.toUInt16.toUInt32.toInt32)), .val (.int rb), .val (.int sb), .unset, .unset, .unset, .unset, .unset, .unset, .unset] := by
  intro p e R s m args below meth c T locs cells slots X hx hby target k
  show Steps p.tables e below (T.setTop (mkF m 20 #[.val (.int cc), .val (.int ra), .val (.int sa), .val (.int rb), .val (.int sb), .val (.int md), .val (.int na), .val (.int nb), .unset, .unset, .unset, .unset, .unset, .unset, .unset, .unset, .unset, .unset, .unset, .unset, .unset] [])) _
  refine XS.iloadN X.here hx rfl (hb hby at_20) rfl ?_
  show Steps p.tables e below (T.setTop (mkF m 21 #[.val (.int cc), .val (.int ra), .val (.int sa), .val (.int rb), .val (.int sb), .val (.int md), .val (.int na), .val (.int nb), .unset, .unset, .unset, .unset, .unset, .unset, .unset, .unset, .unset, .unset, .unset, .unset, .unset] [(.int cc)])) _
  refine XS.sipush X.here hx rfl (hb hby at_21) ?_
  show Steps p.tables e below (T.setTop (mkF m 24 #[.val (.int cc), .val (.int ra), .val (.int sa), .val (.int rb), .val (.int sb), .val (.int md), .val (.int na), .val (.int nb), .unset, .unset, .unset, .unset, .unset, .unset, .unset, .unset, .unset, .unset, .unset, .unset, .unset] [(.int (255 : Int32)), (.int cc)])) _
  refine XS.iand X.here hx rfl (hb hby at_24) rfl ?_
  show Steps p.tables e below (T.setTop (mkF m 25 #[.val (.int cc), .val (.int ra), .val (.int sa), .val (.int rb), .val (.int sb), .val (.int md), .val (.int na), .val (.int nb), .unset, .unset, .unset, .unset, .unset, .unset, .unset, .unset, .unset, .unset, .unset, .unset, .unset] [(.int (cc &&& (255 : Int32)))])) _
  refine XS.i2c X.here hx rfl (hb hby at_25) rfl ?_
  show Steps p.tables e below (T.setTop (mkF m 26 #[.val (.int cc), .val (.int ra), .val (.int sa), .val (.int rb), .val (.int sb), .val (.int md), .val (.int na), .val (.int nb), .unset, .unset, .unset, .unset, .unset, .unset, .unset, .unset, .unset, .unset, .unset, .unset, .unset] [(.int ((cc &&& (255 : Int32)).toUInt32.toUInt16.toUInt32.toInt32))])) _
  refine XS.istore X.here hx rfl (hb hby at_26) rfl (l' := #[.val (.int cc), .val (.int ra), .val (.int sa), .val (.int rb), .val (.int sb), .val (.int md), .val (.int na), .val (.int nb), .val (.int ((cc &&& (255 : Int32)).toUInt32.toUInt16.toUInt32.toInt32)), .unset, .unset, .unset, .unset, .unset, .unset, .unset, .unset, .unset, .unset, .unset, .unset]) rfl ?_
  show Steps p.tables e below (T.setTop (mkF m 28 #[.val (.int cc), .val (.int ra), .val (.int sa), .val (.int rb), .val (.int sb), .val (.int md), .val (.int na), .val (.int nb), .val (.int ((cc &&& (255 : Int32)).toUInt32.toUInt16.toUInt32.toInt32)), .unset, .unset, .unset, .unset, .unset, .unset, .unset, .unset, .unset, .unset, .unset, .unset] [])) _
  refine XS.iloadN X.here hx rfl (hb hby at_28) rfl ?_
  show Steps p.tables e below (T.setTop (mkF m 29 #[.val (.int cc), .val (.int ra), .val (.int sa), .val (.int rb), .val (.int sb), .val (.int md), .val (.int na), .val (.int nb), .val (.int ((cc &&& (255 : Int32)).toUInt32.toUInt16.toUInt32.toInt32)), .unset, .unset, .unset, .unset, .unset, .unset, .unset, .unset, .unset, .unset, .unset, .unset] [(.int cc)])) _
  refine XS.bipush X.here hx rfl (hb hby at_29) ?_
  show Steps p.tables e below (T.setTop (mkF m 31 #[.val (.int cc), .val (.int ra), .val (.int sa), .val (.int rb), .val (.int sb), .val (.int md), .val (.int na), .val (.int nb), .val (.int ((cc &&& (255 : Int32)).toUInt32.toUInt16.toUInt32.toInt32)), .unset, .unset, .unset, .unset, .unset, .unset, .unset, .unset, .unset, .unset, .unset, .unset] [(.int (8 : Int32)), (.int cc)])) _
  refine XS.iushr X.here hx rfl (hb hby at_31) rfl ?_
  show Steps p.tables e below (T.setTop (mkF m 32 #[.val (.int cc), .val (.int ra), .val (.int sa), .val (.int rb), .val (.int sb), .val (.int md), .val (.int na), .val (.int nb), .val (.int ((cc &&& (255 : Int32)).toUInt32.toUInt16.toUInt32.toInt32)), .unset, .unset, .unset, .unset, .unset, .unset, .unset, .unset, .unset, .unset, .unset, .unset] [(.int ((cc.toUInt32 >>> ((8 : Int32) &&& 31).toUInt32).toInt32))])) _
  refine XS.sipush X.here hx rfl (hb hby at_32) ?_
  show Steps p.tables e below (T.setTop (mkF m 35 #[.val (.int cc), .val (.int ra), .val (.int sa), .val (.int rb), .val (.int sb), .val (.int md), .val (.int na), .val (.int nb), .val (.int ((cc &&& (255 : Int32)).toUInt32.toUInt16.toUInt32.toInt32)), .unset, .unset, .unset, .unset, .unset, .unset, .unset, .unset, .unset, .unset, .unset, .unset] [(.int (255 : Int32)), (.int ((cc.toUInt32 >>> ((8 : Int32) &&& 31).toUInt32).toInt32))])) _
  refine XS.iand X.here hx rfl (hb hby at_35) rfl ?_
  show Steps p.tables e below (T.setTop (mkF m 36 #[.val (.int cc), .val (.int ra), .val (.int sa), .val (.int rb), .val (.int sb), .val (.int md), .val (.int na), .val (.int nb), .val (.int ((cc &&& (255 : Int32)).toUInt32.toUInt16.toUInt32.toInt32)), .unset, .unset, .unset, .unset, .unset, .unset, .unset, .unset, .unset, .unset, .unset, .unset] [(.int (((cc.toUInt32 >>> ((8 : Int32) &&& 31).toUInt32).toInt32) &&& (255 : Int32)))])) _
  refine XS.i2c X.here hx rfl (hb hby at_36) rfl ?_
  show Steps p.tables e below (T.setTop (mkF m 37 #[.val (.int cc), .val (.int ra), .val (.int sa), .val (.int rb), .val (.int sb), .val (.int md), .val (.int na), .val (.int nb), .val (.int ((cc &&& (255 : Int32)).toUInt32.toUInt16.toUInt32.toInt32)), .unset, .unset, .unset, .unset, .unset, .unset, .unset, .unset, .unset, .unset, .unset, .unset] [(.int ((((cc.toUInt32 >>> ((8 : Int32) &&& 31).toUInt32).toInt32) &&& (255 : Int32)).toUInt32.toUInt16.toUInt32.toInt32))])) _
  refine XS.istore X.here hx rfl (hb hby at_37) rfl (l' := #[.val (.int cc), .val (.int ra), .val (.int sa), .val (.int rb), .val (.int sb), .val (.int md), .val (.int na), .val (.int nb), .val (.int ((cc &&& (255 : Int32)).toUInt32.toUInt16.toUInt32.toInt32)), .val (.int ((((cc.toUInt32 >>> ((8 : Int32) &&& 31).toUInt32).toInt32) &&& (255 : Int32)).toUInt32.toUInt16.toUInt32.toInt32)), .unset, .unset, .unset, .unset, .unset, .unset, .unset, .unset, .unset, .unset, .unset]) rfl ?_
  show Steps p.tables e below (T.setTop (mkF m 39 #[.val (.int cc), .val (.int ra), .val (.int sa), .val (.int rb), .val (.int sb), .val (.int md), .val (.int na), .val (.int nb), .val (.int ((cc &&& (255 : Int32)).toUInt32.toUInt16.toUInt32.toInt32)), .val (.int ((((cc.toUInt32 >>> ((8 : Int32) &&& 31).toUInt32).toInt32) &&& (255 : Int32)).toUInt32.toUInt16.toUInt32.toInt32)), .unset, .unset, .unset, .unset, .unset, .unset, .unset, .unset, .unset, .unset, .unset] [])) _
  refine XS.iloadN X.here hx rfl (hb hby at_39) rfl ?_
  show Steps p.tables e below (T.setTop (mkF m 40 #[.val (.int cc), .val (.int ra), .val (.int sa), .val (.int rb), .val (.int sb), .val (.int md), .val (.int na), .val (.int nb), .val (.int ((cc &&& (255 : Int32)).toUInt32.toUInt16.toUInt32.toInt32)), .val (.int ((((cc.toUInt32 >>> ((8 : Int32) &&& 31).toUInt32).toInt32) &&& (255 : Int32)).toUInt32.toUInt16.toUInt32.toInt32)), .unset, .unset, .unset, .unset, .unset, .unset, .unset, .unset, .unset, .unset, .unset] [(.int cc)])) _
  refine XS.bipush X.here hx rfl (hb hby at_40) ?_
  show Steps p.tables e below (T.setTop (mkF m 42 #[.val (.int cc), .val (.int ra), .val (.int sa), .val (.int rb), .val (.int sb), .val (.int md), .val (.int na), .val (.int nb), .val (.int ((cc &&& (255 : Int32)).toUInt32.toUInt16.toUInt32.toInt32)), .val (.int ((((cc.toUInt32 >>> ((8 : Int32) &&& 31).toUInt32).toInt32) &&& (255 : Int32)).toUInt32.toUInt16.toUInt32.toInt32)), .unset, .unset, .unset, .unset, .unset, .unset, .unset, .unset, .unset, .unset, .unset] [(.int (16 : Int32)), (.int cc)])) _
  refine XS.iushr X.here hx rfl (hb hby at_42) rfl ?_
  show Steps p.tables e below (T.setTop (mkF m 43 #[.val (.int cc), .val (.int ra), .val (.int sa), .val (.int rb), .val (.int sb), .val (.int md), .val (.int na), .val (.int nb), .val (.int ((cc &&& (255 : Int32)).toUInt32.toUInt16.toUInt32.toInt32)), .val (.int ((((cc.toUInt32 >>> ((8 : Int32) &&& 31).toUInt32).toInt32) &&& (255 : Int32)).toUInt32.toUInt16.toUInt32.toInt32)), .unset, .unset, .unset, .unset, .unset, .unset, .unset, .unset, .unset, .unset, .unset] [(.int ((cc.toUInt32 >>> ((16 : Int32) &&& 31).toUInt32).toInt32))])) _
  refine XS.sipush X.here hx rfl (hb hby at_43) ?_
  show Steps p.tables e below (T.setTop (mkF m 46 #[.val (.int cc), .val (.int ra), .val (.int sa), .val (.int rb), .val (.int sb), .val (.int md), .val (.int na), .val (.int nb), .val (.int ((cc &&& (255 : Int32)).toUInt32.toUInt16.toUInt32.toInt32)), .val (.int ((((cc.toUInt32 >>> ((8 : Int32) &&& 31).toUInt32).toInt32) &&& (255 : Int32)).toUInt32.toUInt16.toUInt32.toInt32)), .unset, .unset, .unset, .unset, .unset, .unset, .unset, .unset, .unset, .unset, .unset] [(.int (255 : Int32)), (.int ((cc.toUInt32 >>> ((16 : Int32) &&& 31).toUInt32).toInt32))])) _
  refine XS.iand X.here hx rfl (hb hby at_46) rfl ?_
  show Steps p.tables e below (T.setTop (mkF m 47 #[.val (.int cc), .val (.int ra), .val (.int sa), .val (.int rb), .val (.int sb), .val (.int md), .val (.int na), .val (.int nb), .val (.int ((cc &&& (255 : Int32)).toUInt32.toUInt16.toUInt32.toInt32)), .val (.int ((((cc.toUInt32 >>> ((8 : Int32) &&& 31).toUInt32).toInt32) &&& (255 : Int32)).toUInt32.toUInt16.toUInt32.toInt32)), .unset, .unset, .unset, .unset, .unset, .unset, .unset, .unset, .unset, .unset, .unset] [(.int (((cc.toUInt32 >>> ((16 : Int32) &&& 31).toUInt32).toInt32) &&& (255 : Int32)))])) _
  refine XS.i2c X.here hx rfl (hb hby at_47) rfl ?_
  show Steps p.tables e below (T.setTop (mkF m 48 #[.val (.int cc), .val (.int ra), .val (.int sa), .val (.int rb), .val (.int sb), .val (.int md), .val (.int na), .val (.int nb), .val (.int ((cc &&& (255 : Int32)).toUInt32.toUInt16.toUInt32.toInt32)), .val (.int ((((cc.toUInt32 >>> ((8 : Int32) &&& 31).toUInt32).toInt32) &&& (255 : Int32)).toUInt32.toUInt16.toUInt32.toInt32)), .unset, .unset, .unset, .unset, .unset, .unset, .unset, .unset, .unset, .unset, .unset] [(.int ((((cc.toUInt32 >>> ((16 : Int32) &&& 31).toUInt32).toInt32) &&& (255 : Int32)).toUInt32.toUInt16.toUInt32.toInt32))])) _
  refine XS.istore X.here hx rfl (hb hby at_48) rfl (l' := #[.val (.int cc), .val (.int ra), .val (.int sa), .val (.int rb), .val (.int sb), .val (.int md), .val (.int na), .val (.int nb), .val (.int ((cc &&& (255 : Int32)).toUInt32.toUInt16.toUInt32.toInt32)), .val (.int ((((cc.toUInt32 >>> ((8 : Int32) &&& 31).toUInt32).toInt32) &&& (255 : Int32)).toUInt32.toUInt16.toUInt32.toInt32)), .val (.int ((((cc.toUInt32 >>> ((16 : Int32) &&& 31).toUInt32).toInt32) &&& (255 : Int32)).toUInt32.toUInt16.toUInt32.toInt32)), .unset, .unset, .unset, .unset, .unset, .unset, .unset, .unset, .unset, .unset]) rfl ?_
  show Steps p.tables e below (T.setTop (mkF m 50 #[.val (.int cc), .val (.int ra), .val (.int sa), .val (.int rb), .val (.int sb), .val (.int md), .val (.int na), .val (.int nb), .val (.int ((cc &&& (255 : Int32)).toUInt32.toUInt16.toUInt32.toInt32)), .val (.int ((((cc.toUInt32 >>> ((8 : Int32) &&& 31).toUInt32).toInt32) &&& (255 : Int32)).toUInt32.toUInt16.toUInt32.toInt32)), .val (.int ((((cc.toUInt32 >>> ((16 : Int32) &&& 31).toUInt32).toInt32) &&& (255 : Int32)).toUInt32.toUInt16.toUInt32.toInt32)), .unset, .unset, .unset, .unset, .unset, .unset, .unset, .unset, .unset, .unset] [])) _
  refine XS.iloadN X.here hx rfl (hb hby at_50) rfl ?_
  show Steps p.tables e below (T.setTop (mkF m 51 #[.val (.int cc), .val (.int ra), .val (.int sa), .val (.int rb), .val (.int sb), .val (.int md), .val (.int na), .val (.int nb), .val (.int ((cc &&& (255 : Int32)).toUInt32.toUInt16.toUInt32.toInt32)), .val (.int ((((cc.toUInt32 >>> ((8 : Int32) &&& 31).toUInt32).toInt32) &&& (255 : Int32)).toUInt32.toUInt16.toUInt32.toInt32)), .val (.int ((((cc.toUInt32 >>> ((16 : Int32) &&& 31).toUInt32).toInt32) &&& (255 : Int32)).toUInt32.toUInt16.toUInt32.toInt32)), .unset, .unset, .unset, .unset, .unset, .unset, .unset, .unset, .unset, .unset] [(.int cc)])) _
  refine XS.bipush X.here hx rfl (hb hby at_51) ?_
  show Steps p.tables e below (T.setTop (mkF m 53 #[.val (.int cc), .val (.int ra), .val (.int sa), .val (.int rb), .val (.int sb), .val (.int md), .val (.int na), .val (.int nb), .val (.int ((cc &&& (255 : Int32)).toUInt32.toUInt16.toUInt32.toInt32)), .val (.int ((((cc.toUInt32 >>> ((8 : Int32) &&& 31).toUInt32).toInt32) &&& (255 : Int32)).toUInt32.toUInt16.toUInt32.toInt32)), .val (.int ((((cc.toUInt32 >>> ((16 : Int32) &&& 31).toUInt32).toInt32) &&& (255 : Int32)).toUInt32.toUInt16.toUInt32.toInt32)), .unset, .unset, .unset, .unset, .unset, .unset, .unset, .unset, .unset, .unset] [(.int (24 : Int32)), (.int cc)])) _
  refine XS.iushr X.here hx rfl (hb hby at_53) rfl ?_
  show Steps p.tables e below (T.setTop (mkF m 54 #[.val (.int cc), .val (.int ra), .val (.int sa), .val (.int rb), .val (.int sb), .val (.int md), .val (.int na), .val (.int nb), .val (.int ((cc &&& (255 : Int32)).toUInt32.toUInt16.toUInt32.toInt32)), .val (.int ((((cc.toUInt32 >>> ((8 : Int32) &&& 31).toUInt32).toInt32) &&& (255 : Int32)).toUInt32.toUInt16.toUInt32.toInt32)), .val (.int ((((cc.toUInt32 >>> ((16 : Int32) &&& 31).toUInt32).toInt32) &&& (255 : Int32)).toUInt32.toUInt16.toUInt32.toInt32)), .unset, .unset, .unset, .unset, .unset, .unset, .unset, .unset, .unset, .unset] [(.int ((cc.toUInt32 >>> ((24 : Int32) &&& 31).toUInt32).toInt32))])) _
  refine XS.sipush X.here hx rfl (hb hby at_54) ?_
  show Steps p.tables e below (T.setTop (mkF m 57 #[.val (.int cc), .val (.int ra), .val (.int sa), .val (.int rb), .val (.int sb), .val (.int md), .val (.int na), .val (.int nb), .val (.int ((cc &&& (255 : Int32)).toUInt32.toUInt16.toUInt32.toInt32)), .val (.int ((((cc.toUInt32 >>> ((8 : Int32) &&& 31).toUInt32).toInt32) &&& (255 : Int32)).toUInt32.toUInt16.toUInt32.toInt32)), .val (.int ((((cc.toUInt32 >>> ((16 : Int32) &&& 31).toUInt32).toInt32) &&& (255 : Int32)).toUInt32.toUInt16.toUInt32.toInt32)), .unset, .unset, .unset, .unset, .unset, .unset, .unset, .unset, .unset, .unset] [(.int (255 : Int32)), (.int ((cc.toUInt32 >>> ((24 : Int32) &&& 31).toUInt32).toInt32))])) _
  refine XS.iand X.here hx rfl (hb hby at_57) rfl ?_
  show Steps p.tables e below (T.setTop (mkF m 58 #[.val (.int cc), .val (.int ra), .val (.int sa), .val (.int rb), .val (.int sb), .val (.int md), .val (.int na), .val (.int nb), .val (.int ((cc &&& (255 : Int32)).toUInt32.toUInt16.toUInt32.toInt32)), .val (.int ((((cc.toUInt32 >>> ((8 : Int32) &&& 31).toUInt32).toInt32) &&& (255 : Int32)).toUInt32.toUInt16.toUInt32.toInt32)), .val (.int ((((cc.toUInt32 >>> ((16 : Int32) &&& 31).toUInt32).toInt32) &&& (255 : Int32)).toUInt32.toUInt16.toUInt32.toInt32)), .unset, .unset, .unset, .unset, .unset, .unset, .unset, .unset, .unset, .unset] [(.int (((cc.toUInt32 >>> ((24 : Int32) &&& 31).toUInt32).toInt32) &&& (255 : Int32)))])) _
  refine XS.i2c X.here hx rfl (hb hby at_58) rfl ?_
  show Steps p.tables e below (T.setTop (mkF m 59 #[.val (.int cc), .val (.int ra), .val (.int sa), .val (.int rb), .val (.int sb), .val (.int md), .val (.int na), .val (.int nb), .val (.int ((cc &&& (255 : Int32)).toUInt32.toUInt16.toUInt32.toInt32)), .val (.int ((((cc.toUInt32 >>> ((8 : Int32) &&& 31).toUInt32).toInt32) &&& (255 : Int32)).toUInt32.toUInt16.toUInt32.toInt32)), .val (.int ((((cc.toUInt32 >>> ((16 : Int32) &&& 31).toUInt32).toInt32) &&& (255 : Int32)).toUInt32.toUInt16.toUInt32.toInt32)), .unset, .unset, .unset, .unset, .unset, .unset, .unset, .unset, .unset, .unset] [(.int ((((cc.toUInt32 >>> ((24 : Int32) &&& 31).toUInt32).toInt32) &&& (255 : Int32)).toUInt32.toUInt16.toUInt32.toInt32))])) _
  refine XS.istore X.here hx rfl (hb hby at_59) rfl (l' := #[.val (.int cc), .val (.int ra), .val (.int sa), .val (.int rb), .val (.int sb), .val (.int md), .val (.int na), .val (.int nb), .val (.int ((cc &&& (255 : Int32)).toUInt32.toUInt16.toUInt32.toInt32)), .val (.int ((((cc.toUInt32 >>> ((8 : Int32) &&& 31).toUInt32).toInt32) &&& (255 : Int32)).toUInt32.toUInt16.toUInt32.toInt32)), .val (.int ((((cc.toUInt32 >>> ((16 : Int32) &&& 31).toUInt32).toInt32) &&& (255 : Int32)).toUInt32.toUInt16.toUInt32.toInt32)), .val (.int ((((cc.toUInt32 >>> ((24 : Int32) &&& 31).toUInt32).toInt32) &&& (255 : Int32)).toUInt32.toUInt16.toUInt32.toInt32)), .unset, .unset, .unset, .unset, .unset, .unset, .unset, .unset, .unset]) rfl ?_
  show Steps p.tables e below (T.setTop (mkF m 61 #[.val (.int cc), .val (.int ra), .val (.int sa), .val (.int rb), .val (.int sb), .val (.int md), .val (.int na), .val (.int nb), .val (.int ((cc &&& (255 : Int32)).toUInt32.toUInt16.toUInt32.toInt32)), .val (.int ((((cc.toUInt32 >>> ((8 : Int32) &&& 31).toUInt32).toInt32) &&& (255 : Int32)).toUInt32.toUInt16.toUInt32.toInt32)), .val (.int ((((cc.toUInt32 >>> ((16 : Int32) &&& 31).toUInt32).toInt32) &&& (255 : Int32)).toUInt32.toUInt16.toUInt32.toInt32)), .val (.int ((((cc.toUInt32 >>> ((24 : Int32) &&& 31).toUInt32).toInt32) &&& (255 : Int32)).toUInt32.toUInt16.toUInt32.toInt32)), .unset, .unset, .unset, .unset, .unset, .unset, .unset, .unset, .unset] [])) _
  refine XS.iload X.here hx rfl (hb hby at_61) rfl ?_
  show Steps p.tables e below (T.setTop (mkF m 63 #[.val (.int cc), .val (.int ra), .val (.int sa), .val (.int rb), .val (.int sb), .val (.int md), .val (.int na), .val (.int nb), .val (.int ((cc &&& (255 : Int32)).toUInt32.toUInt16.toUInt32.toInt32)), .val (.int ((((cc.toUInt32 >>> ((8 : Int32) &&& 31).toUInt32).toInt32) &&& (255 : Int32)).toUInt32.toUInt16.toUInt32.toInt32)), .val (.int ((((cc.toUInt32 >>> ((16 : Int32) &&& 31).toUInt32).toInt32) &&& (255 : Int32)).toUInt32.toUInt16.toUInt32.toInt32)), .val (.int ((((cc.toUInt32 >>> ((24 : Int32) &&& 31).toUInt32).toInt32) &&& (255 : Int32)).toUInt32.toUInt16.toUInt32.toInt32)), .unset, .unset, .unset, .unset, .unset, .unset, .unset, .unset, .unset] [(.int md)])) _
  refine XS.bipush X.here hx rfl (hb hby at_63) ?_
  show Steps p.tables e below (T.setTop (mkF m 65 #[.val (.int cc), .val (.int ra), .val (.int sa), .val (.int rb), .val (.int sb), .val (.int md), .val (.int na), .val (.int nb), .val (.int ((cc &&& (255 : Int32)).toUInt32.toUInt16.toUInt32.toInt32)), .val (.int ((((cc.toUInt32 >>> ((8 : Int32) &&& 31).toUInt32).toInt32) &&& (255 : Int32)).toUInt32.toUInt16.toUInt32.toInt32)), .val (.int ((((cc.toUInt32 >>> ((16 : Int32) &&& 31).toUInt32).toInt32) &&& (255 : Int32)).toUInt32.toUInt16.toUInt32.toInt32)), .val (.int ((((cc.toUInt32 >>> ((24 : Int32) &&& 31).toUInt32).toInt32) &&& (255 : Int32)).toUInt32.toUInt16.toUInt32.toInt32)), .unset, .unset, .unset, .unset, .unset, .unset, .unset, .unset, .unset] [(.int (16 : Int32)), (.int md)])) _
  refine XS.iand X.here hx rfl (hb hby at_65) rfl ?_
  show Steps p.tables e below (T.setTop (mkF m 66 #[.val (.int cc), .val (.int ra), .val (.int sa), .val (.int rb), .val (.int sb), .val (.int md), .val (.int na), .val (.int nb), .val (.int ((cc &&& (255 : Int32)).toUInt32.toUInt16.toUInt32.toInt32)), .val (.int ((((cc.toUInt32 >>> ((8 : Int32) &&& 31).toUInt32).toInt32) &&& (255 : Int32)).toUInt32.toUInt16.toUInt32.toInt32)), .val (.int ((((cc.toUInt32 >>> ((16 : Int32) &&& 31).toUInt32).toInt32) &&& (255 : Int32)).toUInt32.toUInt16.toUInt32.toInt32)), .val (.int ((((cc.toUInt32 >>> ((24 : Int32) &&& 31).toUInt32).toInt32) &&& (255 : Int32)).toUInt32.toUInt16.toUInt32.toInt32)), .unset, .unset, .unset, .unset, .unset, .unset, .unset, .unset, .unset] [(.int (md &&& (16 : Int32)))])) _
  refine XS.ifNo X.here hx rfl (hb hby at_66) rfl ((if0 _ _).trans (feq hc66).1) ?_
  show Steps p.tables e below (T.setTop (mkF m 69 #[.val (.int cc), .val (.int ra), .val (.int sa), .val (.int rb), .val (.int sb), .val (.int md), .val (.int na), .val (.int nb), .val (.int ((cc &&& (255 : Int32)).toUInt32.toUInt16.toUInt32.toInt32)), .val (.int ((((cc.toUInt32 >>> ((8 : Int32) &&& 31).toUInt32).toInt32) &&& (255 : Int32)).toUInt32.toUInt16.toUInt32.toInt32)), .val (.int ((((cc.toUInt32 >>> ((16 : Int32) &&& 31).toUInt32).toInt32) &&& (255 : Int32)).toUInt32.toUInt16.toUInt32.toInt32)), .val (.int ((((cc.toUInt32 >>> ((24 : Int32) &&& 31).toUInt32).toInt32) &&& (255 : Int32)).toUInt32.toUInt16.toUInt32.toInt32)), .unset, .unset, .unset, .unset, .unset, .unset, .unset, .unset, .unset] [])) _
  refine XS.iload X.here hx rfl (hb hby at_69) rfl ?_
  show Steps p.tables e below (T.setTop (mkF m 71 #[.val (.int cc), .val (.int ra), .val (.int sa), .val (.int rb), .val (.int sb), .val (.int md), .val (.int na), .val (.int nb), .val (.int ((cc &&& (255 : Int32)).toUInt32.toUInt16.toUInt32.toInt32)), .val (.int ((((cc.toUInt32 >>> ((8 : Int32) &&& 31).toUInt32).toInt32) &&& (255 : Int32)).toUInt32.toUInt16.toUInt32.toInt32)), .val (.int ((((cc.toUInt32 >>> ((16 : Int32) &&& 31).toUInt32).toInt32) &&& (255 : Int32)).toUInt32.toUInt16.toUInt32.toInt32)), .val (.int ((((cc.toUInt32 >>> ((24 : Int32) &&& 31).toUInt32).toInt32) &&& (255 : Int32)).toUInt32.toUInt16.toUInt32.toInt32)), .unset, .unset, .unset, .unset, .unset, .unset, .unset, .unset, .unset] [(.int na)])) _
  refine XS.istore X.here hx rfl (hb hby at_71) rfl (l' := #[.val (.int cc), .val (.int ra), .val (.int sa), .val (.int rb), .val (.int sb), .val (.int md), .val (.int na), .val (.int na), .val (.int ((cc &&& (255 : Int32)).toUInt32.toUInt16.toUInt32.toInt32)), .val (.int ((((cc.toUInt32 >>> ((8 : Int32) &&& 31).toUInt32).toInt32) &&& (255 : Int32)).toUInt32.toUInt16.toUInt32.toInt32)), .val (.int ((((cc.toUInt32 >>> ((16 : Int32) &&& 31).toUInt32).toInt32) &&& (255 : Int32)).toUInt32.toUInt16.toUInt32.toInt32)), .val (.int ((((cc.toUInt32 >>> ((24 : Int32) &&& 31).toUInt32).toInt32) &&& (255 : Int32)).toUInt32.toUInt16.toUInt32.toInt32)), .unset, .unset, .unset, .unset, .unset, .unset, .unset, .unset, .unset]) rfl ?_
  show Steps p.tables e below (T.setTop (mkF m 73 #[.val (.int cc), .val (.int ra), .val (.int sa), .val (.int rb), .val (.int sb), .val (.int md), .val (.int na), .val (.int na), .val (.int ((cc &&& (255 : Int32)).toUInt32.toUInt16.toUInt32.toInt32)), .val (.int ((((cc.toUInt32 >>> ((8 : Int32) &&& 31).toUInt32).toInt32) &&& (255 : Int32)).toUInt32.toUInt16.toUInt32.toInt32)), .val (.int ((((cc.toUInt32 >>> ((16 : Int32) &&& 31).toUInt32).toInt32) &&& (255 : Int32)).toUInt32.toUInt16.toUInt32.toInt32)), .val (.int ((((cc.toUInt32 >>> ((24 : Int32) &&& 31).toUInt32).toInt32) &&& (255 : Int32)).toUInt32.toUInt16.toUInt32.toInt32)), .unset, .unset, .unset, .unset, .unset, .unset, .unset, .unset, .unset] [])) _
  refine XS.iload X.here hx rfl (hb hby at_73) rfl ?_
  show Steps p.tables e below (T.setTop (mkF m 75 #[.val (.int cc), .val (.int ra), .val (.int sa), .val (.int rb), .val (.int sb), .val (.int md), .val (.int na), .val (.int na), .val (.int ((cc &&& (255 : Int32)).toUInt32.toUInt16.toUInt32.toInt32)), .val (.int ((((cc.toUInt32 >>> ((8 : Int32) &&& 31).toUInt32).toInt32) &&& (255 : Int32)).toUInt32.toUInt16.toUInt32.toInt32)), .val (.int ((((cc.toUInt32 >>> ((16 : Int32) &&& 31).toUInt32).toInt32) &&& (255 : Int32)).toUInt32.toUInt16.toUInt32.toInt32)), .val (.int ((((cc.toUInt32 >>> ((24 : Int32) &&& 31).toUInt32).toInt32) &&& (255 : Int32)).toUInt32.toUInt16.toUInt32.toInt32)), .unset, .unset, .unset, .unset, .unset, .unset, .unset, .unset, .unset] [(.int ((cc &&& (255 : Int32)).toUInt32.toUInt16.toUInt32.toInt32))])) _
  refine XS.istore X.here hx rfl (hb hby at_75) rfl (l' := #[.val (.int cc), .val (.int ra), .val (.int sa), .val (.int rb), .val (.int sb), .val (.int md), .val (.int na), .val (.int na), .val (.int ((cc &&& (255 : Int32)).toUInt32.toUInt16.toUInt32.toInt32)), .val (.int ((((cc.toUInt32 >>> ((8 : Int32) &&& 31).toUInt32).toInt32) &&& (255 : Int32)).toUInt32.toUInt16.toUInt32.toInt32)), .val (.int ((cc &&& (255 : Int32)).toUInt32.toUInt16.toUInt32.toInt32)), .val (.int ((((cc.toUInt32 >>> ((24 : Int32) &&& 31).toUInt32).toInt32) &&& (255 : Int32)).toUInt32.toUInt16.toUInt32.toInt32)), .unset, .unset, .unset, .unset, .unset, .unset, .unset, .unset, .unset]) rfl ?_
  show Steps p.tables e below (T.setTop (mkF m 77 #[.val (.int cc), .val (.int ra), .val (.int sa), .val (.int rb), .val (.int sb), .val (.int md), .val (.int na), .val (.int na), .val (.int ((cc &&& (255 : Int32)).toUInt32.toUInt16.toUInt32.toInt32)), .val (.int ((((cc.toUInt32 >>> ((8 : Int32) &&& 31).toUInt32).toInt32) &&& (255 : Int32)).toUInt32.toUInt16.toUInt32.toInt32)), .val (.int ((cc &&& (255 : Int32)).toUInt32.toUInt16.toUInt32.toInt32)), .val (.int ((((cc.toUInt32 >>> ((24 : Int32) &&& 31).toUInt32).toInt32) &&& (255 : Int32)).toUInt32.toUInt16.toUInt32.toInt32)), .unset, .unset, .unset, .unset, .unset, .unset, .unset, .unset, .unset] [])) _
  refine XS.iload X.here hx rfl (hb hby at_77) rfl ?_
  show Steps p.tables e below (T.setTop (mkF m 79 #[.val (.int cc), .val (.int ra), .val (.int sa), .val (.int rb), .val (.int sb), .val (.int md), .val (.int na), .val (.int na), .val (.int ((cc &&& (255 : Int32)).toUInt32.toUInt16.toUInt32.toInt32)), .val (.int ((((cc.toUInt32 >>> ((8 : Int32) &&& 31).toUInt32).toInt32) &&& (255 : Int32)).toUInt32.toUInt16.toUInt32.toInt32)), .val (.int ((cc &&& (255 : Int32)).toUInt32.toUInt16.toUInt32.toInt32)), .val (.int ((((cc.toUInt32 >>> ((24 : Int32) &&& 31).toUInt32).toInt32) &&& (255 : Int32)).toUInt32.toUInt16.toUInt32.toInt32)), .unset, .unset, .unset, .unset, .unset, .unset, .unset, .unset, .unset] [(.int ((((cc.toUInt32 >>> ((8 : Int32) &&& 31).toUInt32).toInt32) &&& (255 : Int32)).toUInt32.toUInt16.toUInt32.toInt32))])) _
  refine XS.istore X.here hx rfl (hb hby at_79) rfl (l' := #[.val (.int cc), .val (.int ra), .val (.int sa), .val (.int rb), .val (.int sb), .val (.int md), .val (.int na), .val (.int na), .val (.int ((cc &&& (255 : Int32)).toUInt32.toUInt16.toUInt32.toInt32)), .val (.int ((((cc.toUInt32 >>> ((8 : Int32) &&& 31).toUInt32).toInt32) &&& (255 : Int32)).toUInt32.toUInt16.toUInt32.toInt32)), .val (.int ((cc &&& (255 : Int32)).toUInt32.toUInt16.toUInt32.toInt32)), .val (.int ((((cc.toUInt32 >>> ((8 : Int32) &&& 31).toUInt32).toInt32) &&& (255 : Int32)).toUInt32.toUInt16.toUInt32.toInt32)), .unset, .unset, .unset, .unset, .unset, .unset, .unset, .unset, .unset]) rfl ?_
  show Steps p.tables e below (T.setTop (mkF m 81 #[.val (.int cc), .val (.int ra), .val (.int sa), .val (.int rb), .val (.int sb), .val (.int md), .val (.int na), .val (.int na), .val (.int ((cc &&& (255 : Int32)).toUInt32.toUInt16.toUInt32.toInt32)), .val (.int ((((cc.toUInt32 >>> ((8 : Int32) &&& 31).toUInt32).toInt32) &&& (255 : Int32)).toUInt32.toUInt16.toUInt32.toInt32)), .val (.int ((cc &&& (255 : Int32)).toUInt32.toUInt16.toUInt32.toInt32)), .val (.int ((((cc.toUInt32 >>> ((8 : Int32) &&& 31).toUInt32).toInt32) &&& (255 : Int32)).toUInt32.toUInt16.toUInt32.toInt32)), .unset, .unset, .unset, .unset, .unset, .unset, .unset, .unset, .unset] [])) _
  refine XS.iload X.here hx rfl (hb hby at_81) rfl ?_
  show Steps p.tables e below (T.setTop (mkF m 83 #[.val (.int cc), .val (.int ra), .val (.int sa), .val (.int rb), .val (.int sb), .val (.int md), .val (.int na), .val (.int na), .val (.int ((cc &&& (255 : Int32)).toUInt32.toUInt16.toUInt32.toInt32)), .val (.int ((((cc.toUInt32 >>> ((8 : Int32) &&& 31).toUInt32).toInt32) &&& (255 : Int32)).toUInt32.toUInt16.toUInt32.toInt32)), .val (.int ((cc &&& (255 : Int32)).toUInt32.toUInt16.toUInt32.toInt32)), .val (.int ((((cc.toUInt32 >>> ((8 : Int32) &&& 31).toUInt32).toInt32) &&& (255 : Int32)).toUInt32.toUInt16.toUInt32.toInt32)), .unset, .unset, .unset, .unset, .unset, .unset, .unset, .unset, .unset] [(.int md)])) _
  refine XS.bipush X.here hx rfl (hb hby at_83) ?_
  show Steps p.tables e below (T.setTop (mkF m 85 #[.val (.int cc), .val (.int ra), .val (.int sa), .val (.int rb), .val (.int sb), .val (.int md), .val (.int na), .val (.int na), .val (.int ((cc &&& (255 : Int32)).toUInt32.toUInt16.toUInt32.toInt32)), .val (.int ((((cc.toUInt32 >>> ((8 : Int32) &&& 31).toUInt32).toInt32) &&& (255 : Int32)).toUInt32.toUInt16.toUInt32.toInt32)), .val (.int ((cc &&& (255 : Int32)).toUInt32.toUInt16.toUInt32.toInt32)), .val (.int ((((cc.toUInt32 >>> ((8 : Int32) &&& 31).toUInt32).toInt32) &&& (255 : Int32)).toUInt32.toUInt16.toUInt32.toInt32)), .unset, .unset, .unset, .unset, .unset, .unset, .unset, .unset, .unset] [(.int (32 : Int32)), (.int md)])) _
  refine XS.iand X.here hx rfl (hb hby at_85) rfl ?_
  show Steps p.tables e below (T.setTop (mkF m 86 #[.val (.int cc), .val (.int ra), .val (.int sa), .val (.int rb), .val (.int sb), .val (.int md), .val (.int na), .val (.int na), .val (.int ((cc &&& (255 : Int32)).toUInt32.toUInt16.toUInt32.toInt32)), .val (.int ((((cc.toUInt32 >>> ((8 : Int32) &&& 31).toUInt32).toInt32) &&& (255 : Int32)).toUInt32.toUInt16.toUInt32.toInt32)), .val (.int ((cc &&& (255 : Int32)).toUInt32.toUInt16.toUInt32.toInt32)), .val (.int ((((cc.toUInt32 >>> ((8 : Int32) &&& 31).toUInt32).toInt32) &&& (255 : Int32)).toUInt32.toUInt16.toUInt32.toInt32)), .unset, .unset, .unset, .unset, .unset, .unset, .unset, .unset, .unset] [(.int (md &&& (32 : Int32)))])) _
  refine XS.ifYes X.here hx rfl (pc0 := 86) (pc' := 93) rfl (hb hby at_86) rfl ((if0 _ _).trans (teq hc86).1) (by decide) (by decide) ?_
  show Steps p.tables e below (T.setTop (mkF m 93 #[.val (.int cc), .val (.int ra), .val (.int sa), .val (.int rb), .val (.int sb), .val (.int md), .val (.int na), .val (.int na), .val (.int ((cc &&& (255 : Int32)).toUInt32.toUInt16.toUInt32.toInt32)), .val (.int ((((cc.toUInt32 >>> ((8 : Int32) &&& 31).toUInt32).toInt32) &&& (255 : Int32)).toUInt32.toUInt16.toUInt32.toInt32)), .val (.int ((cc &&& (255 : Int32)).toUInt32.toUInt16.toUInt32.toInt32)), .val (.int ((((cc.toUInt32 >>> ((8 : Int32) &&& 31).toUInt32).toInt32) &&& (255 : Int32)).toUInt32.toUInt16.toUInt32.toInt32)), .unset, .unset, .unset, .unset, .unset, .unset, .unset, .unset, .unset] [])) _
  refine XS.iloadN X.here hx rfl (hb hby at_93) rfl ?_
  show Steps p.tables e below (T.setTop (mkF m 94 #[.val (.int cc), .val (.int ra), .val (.int sa), .val (.int rb), .val (.int sb), .val (.int md), .val (.int na), .val (.int na), .val (.int ((cc &&& (255 : Int32)).toUInt32.toUInt16.toUInt32.toInt32)), .val (.int ((((cc.toUInt32 >>> ((8 : Int32) &&& 31).toUInt32).toInt32) &&& (255 : Int32)).toUInt32.toUInt16.toUInt32.toInt32)), .val (.int ((cc &&& (255 : Int32)).toUInt32.toUInt16.toUInt32.toInt32)), .val (.int ((((cc.toUInt32 >>> ((8 : Int32) &&& 31).toUInt32).toInt32) &&& (255 : Int32)).toUInt32.toUInt16.toUInt32.toInt32)), .unset, .unset, .unset, .unset, .unset, .unset, .unset, .unset, .unset] [(.int rb)])) _
  refine XS.istore X.here hx rfl (hb hby at_94) rfl (l' := #[.val (.int cc), .val (.int ra), .val (.int sa), .val (.int rb), .val (.int sb), .val (.int md), .val (.int na), .val (.int na), .val (.int ((cc &&& (255 : Int32)).toUInt32.toUInt16.toUInt32.toInt32)), .val (.int ((((cc.toUInt32 >>> ((8 : Int32) &&& 31).toUInt32).toInt32) &&& (255 : Int32)).toUInt32.toUInt16.toUInt32.toInt32)), .val (.int ((cc &&& (255 : Int32)).toUInt32.toUInt16.toUInt32.toInt32)), .val (.int ((((cc.toUInt32 >>> ((8 : Int32) &&& 31).toUInt32).toInt32) &&& (255 : Int32)).toUInt32.toUInt16.toUInt32.toInt32)), .val (.int rb), .unset, .unset, .unset, .unset, .unset, .unset, .unset, .unset]) rfl ?_
  show Steps p.tables e below (T.setTop (mkF m 96 #[.val (.int cc), .val (.int ra), .val (.int sa), .val (.int rb), .val (.int sb), .val (.int md), .val (.int na), .val (.int na), .val (.int ((cc &&& (255 : Int32)).toUInt32.toUInt16.toUInt32.toInt32)), .val (.int ((((cc.toUInt32 >>> ((8 : Int32) &&& 31).toUInt32).toInt32) &&& (255 : Int32)).toUInt32.toUInt16.toUInt32.toInt32)), .val (.int ((cc &&& (255 : Int32)).toUInt32.toUInt16.toUInt32.toInt32)), .val (.int ((((cc.toUInt32 >>> ((8 : Int32) &&& 31).toUInt32).toInt32) &&& (255 : Int32)).toUInt32.toUInt16.toUInt32.toInt32)), .val (.int rb), .unset, .unset, .unset, .unset, .unset, .unset, .unset, .unset] [])) _
  refine XS.iload X.here hx rfl (hb hby at_96) rfl ?_
  show Steps p.tables e below (T.setTop (mkF m 98 #[.val (.int cc), .val (.int ra), .val (.int sa), .val (.int rb), .val (.int sb), .val (.int md), .val (.int na), .val (.int na), .val (.int ((cc &&& (255 : Int32)).toUInt32.toUInt16.toUInt32.toInt32)), .val (.int ((((cc.toUInt32 >>> ((8 : Int32) &&& 31).toUInt32).toInt32) &&& (255 : Int32)).toUInt32.toUInt16.toUInt32.toInt32)), .val (.int ((cc &&& (255 : Int32)).toUInt32.toUInt16.toUInt32.toInt32)), .val (.int ((((cc.toUInt32 >>> ((8 : Int32) &&& 31).toUInt32).toInt32) &&& (255 : Int32)).toUInt32.toUInt16.toUInt32.toInt32)), .val (.int rb), .unset, .unset, .unset, .unset, .unset, .unset, .unset, .unset] [(.int md)])) _
  refine XS.bipush X.here hx rfl (hb hby at_98) ?_
  show Steps p.tables e below (T.setTop (mkF m 100 #[.val (.int cc), .val (.int ra), .val (.int sa), .val (.int rb), .val (.int sb), .val (.int md), .val (.int na), .val (.int na), .val (.int ((cc &&& (255 : Int32)).toUInt32.toUInt16.toUInt32.toInt32)), .val (.int ((((cc.toUInt32 >>> ((8 : Int32) &&& 31).toUInt32).toInt32) &&& (255 : Int32)).toUInt32.toUInt16.toUInt32.toInt32)), .val (.int ((cc &&& (255 : Int32)).toUInt32.toUInt16.toUInt32.toInt32)), .val (.int ((((cc.toUInt32 >>> ((8 : Int32) &&& 31).toUInt32).toInt32) &&& (255 : Int32)).toUInt32.toUInt16.toUInt32.toInt32)), .val (.int rb), .unset, .unset, .unset, .unset, .unset, .unset, .unset, .unset] [(.int (64 : Int32)), (.int md)])) _
  refine XS.iand X.here hx rfl (hb hby at_100) rfl ?_
  show Steps p.tables e below (T.setTop (mkF m 101 #[.val (.int cc), .val (.int ra), .val (.int sa), .val (.int rb), .val (.int sb), .val (.int md), .val (.int na), .val (.int na), .val (.int ((cc &&& (255 : Int32)).toUInt32.toUInt16.toUInt32.toInt32)), .val (.int ((((cc.toUInt32 >>> ((8 : Int32) &&& 31).toUInt32).toInt32) &&& (255 : Int32)).toUInt32.toUInt16.toUInt32.toInt32)), .val (.int ((cc &&& (255 : Int32)).toUInt32.toUInt16.toUInt32.toInt32)), .val (.int ((((cc.toUInt32 >>> ((8 : Int32) &&& 31).toUInt32).toInt32) &&& (255 : Int32)).toUInt32.toUInt16.toUInt32.toInt32)), .val (.int rb), .unset, .unset, .unset, .unset, .unset, .unset, .unset, .unset] [(.int (md &&& (64 : Int32)))])) _
  refine XS.ifYes X.here hx rfl (pc0 := 101) (pc' := 108) rfl (hb hby at_101) rfl ((if0 _ _).trans (teq hc101).1) (by decide) (by decide) ?_
  show Steps p.tables e below (T.setTop (mkF m 108 #[.val (.int cc), .val (.int ra), .val (.int sa), .val (.int rb), .val (.int sb), .val (.int md), .val (.int na), .val (.int na), .val (.int ((cc &&& (255 : Int32)).toUInt32.toUInt16.toUInt32.toInt32)), .val (.int ((((cc.toUInt32 >>> ((8 : Int32) &&& 31).toUInt32).toInt32) &&& (255 : Int32)).toUInt32.toUInt16.toUInt32.toInt32)), .val (.int ((cc &&& (255 : Int32)).toUInt32.toUInt16.toUInt32.toInt32)), .val (.int ((((cc.toUInt32 >>> ((8 : Int32) &&& 31).toUInt32).toInt32) &&& (255 : Int32)).toUInt32.toUInt16.toUInt32.toInt32)), .val (.int rb), .unset, .unset, .unset, .unset, .unset, .unset, .unset, .unset] [])) _
  refine XS.iload X.here hx rfl (hb hby at_108) rfl ?_
  show Steps p.tables e below (T.setTop (mkF m 110 #[.val (.int cc), .val (.int ra), .val (.int sa), .val (.int rb), .val (.int sb), .val (.int md), .val (.int na), .val (.int na), .val (.int ((cc &&& (255 : Int32)).toUInt32.toUInt16.toUInt32.toInt32)), .val (.int ((((cc.toUInt32 >>> ((8 : Int32) &&& 31).toUInt32).toInt32) &&& (255 : Int32)).toUInt32.toUInt16.toUInt32.toInt32)), .val (.int ((cc &&& (255 : Int32)).toUInt32.toUInt16.toUInt32.toInt32)), .val (.int ((((cc.toUInt32 >>> ((8 : Int32) &&& 31).toUInt32).toInt32) &&& (255 : Int32)).toUInt32.toUInt16.toUInt32.toInt32)), .val (.int rb), .unset, .unset, .unset, .unset, .unset, .unset, .unset, .unset] [(.int sb)])) _
  refine XS.istore X.here hx rfl (hb hby at_110) rfl (l' := #[.val (.int cc), .val (.int ra), .val (.int sa), .val (.int rb), .val (.int sb), .val (.int md), .val (.int na), .val (.int na), .val (.int ((cc &&& (255 : Int32)).toUInt32.toUInt16.toUInt32.toInt32)), .val (.int ((((cc.toUInt32 >>> ((8 : Int32) &&& 31).toUInt32).toInt32) &&& (255 : Int32)).toUInt32.toUInt16.toUInt32.toInt32)), .val (.int ((cc &&& (255 : Int32)).toUInt32.toUInt16.toUInt32.toInt32)), .val (.int ((((cc.toUInt32 >>> ((8 : Int32) &&& 31).toUInt32).toInt32) &&& (255 : Int32)).toUInt32.toUInt16.toUInt32.toInt32)), .val (.int rb), .val (.int sb), .unset, .unset, .unset, .unset, .unset, .unset, .unset]) rfl ?_
  exact k
set_option maxRecDepth 65536 in
set_option maxHeartbeats 4000000 in
theorem segA_ftf (l : Launch) (cc : Int32) (ra : Int32) (sa : Int32) (rb : Int32) (sb : Int32) (md : Int32) (na : Int32) (nb : Int32) (hc66 : ¬ ((md &&& (16 : Int32)) = (0 : Int32))) (hc86 : (md &&& (32 : Int32)) = (0 : Int32)) (hc101 : ¬ ((md &&& (64 : Int32)) = (0 : Int32))) : Seg l 20 #[.val (.int cc), .val (.int ra), .val (.int sa), .val (.int rb), .val (.int sb), .val (.int md), .val (.int na), .val (.int nb), .unset, .unset, .unset, .unset, .unset, .unset, .unset, .unset, .unset, .unset, .unset, .unset, .unset] 112 #[.val (.int cc), .val (.int ra), .val (.int sa), .val (.int rb), .val (.int sb), .val (.int md), .val (.int na), .val (.int na), .val (.int ((cc &&& (255 : Int32)).toUInt32.toUInt16.toUInt32.toInt32)), .val (.int ((((cc.toUInt32 >>> ((8 : Int32) &&& 31).toUInt32).toInt32) &&& (255 : Int32)).toUInt32.toUInt16.toUInt32.toInt32)), .val (.int ((cc &&& (255 : Int32)).toUInt32.toUInt16.toUInt32.toInt32)), .val (.int ((((cc.toUInt32 >>> ((8 : Int32) &&& 31).toUInt32).toInt32) &&& (255 : Int32)).toUInt32.toUInt16.toUInt32.toInt32)), .val (.int rb), .val (.int sa), .unset, .unset, .unset, .unset, .unset, .unset, .unset] := by
  intro p e R s m args below meth c T locs cells slots X hx hby target k
  show Steps p.tables e below (T.setTop (mkF m 20 #[.val (.int cc), .val (.int ra), .val (.int sa), .val (.int rb), .val (.int sb), .val (.int md), .val (.int na), .val (.int nb), .unset, .unset, .unset, .unset, .unset, .unset, .unset, .unset, .unset, .unset, .unset, .unset, .unset] [])) _
  refine XS.iloadN X.here hx rfl (hb hby at_20) rfl ?_
  show Steps p.tables e below (T.setTop (mkF m 21 #[.val (.int cc), .val (.int ra), .val (.int sa), .val (.int rb), .val (.int sb), .val (.int md), .val (.int na), .val (.int nb), .unset, .unset, .unset, .unset, .unset, .unset, .unset, .unset, .unset, .unset, .unset, .unset, .unset] [(.int cc)])) _
  refine XS.sipush X.here hx rfl (hb hby at_21) ?_
  show Steps p.tables e below (T.setTop (mkF m 24 #[.val (.int cc), .val (.int ra), .val (.int sa), .val (.int rb), .val (.int sb), .val (.int md), .val (.int na), .val (.int nb), .unset, .unset, .unset, .unset, .unset, .unset, .unset, .unset, .unset, .unset, .unset, .unset, .unset] [(.int (255 : Int32)), (.int cc)])) _
  refine XS.iand X.here hx rfl (hb hby at_24) rfl ?_
  show Steps p.tables e below (T.setTop (mkF m 25 #[.val (.int cc), .val (.int ra), .val (.int sa), .val (.int rb), .val (.int sb), .val (.int md), .val (.int na), .val (.int nb), .unset, .unset, .unset, .unset, .unset, .unset, .unset, .unset, .unset, .unset, .unset, .unset, .unset] [(.int (cc &&& (255 : Int32)))])) _
  refine XS.i2c X.here hx rfl (hb hby at_25) rfl ?_
  show Steps p.tables e below (T.setTop (mkF m 26 #[.val (.int cc), .val (.int ra), .val (.int sa), .val (.int rb), .val (.int sb), .val (.int md), .val (.int na), .val (.int nb), .unset, .unset, .unset, .unset, .unset, .unset, .unset, .unset, .unset, .unset, .unset, .unset, .unset] [(.int ((cc &&& (255 : Int32)).toUInt32.toUInt16.toUInt32.toInt32))])) _
  refine XS.istore X.here hx rfl (hb hby at_26) rfl (l' := #[.val (.int cc), .val (.int ra), .val (.int sa), .val (.int rb), .val (.int sb), .val (.int md), .val (.int na), .val (.int nb), .val (.int ((cc &&& (255 : Int32)).toUInt32.toUInt16.toUInt32.toInt32)), .unset, .unset, .unset, .unset, .unset, .unset, .unset, .unset, .unset, .unset, .unset, .unset]) rfl ?_
  show Steps p.tables e below (T.setTop (mkF m 28 #[.val (.int cc), .val (.int ra), .val (.int sa), .val (.int rb), .val (.int sb), .val (.int md), .val (.int na), .val (.int nb), .val (.int ((cc &&& (255 : Int32)).toUInt32.toUInt16.toUInt32.toInt32)), .unset, .unset, .unset, .unset, .unset, .unset, .unset, .unset, .unset, .unset, .unset, .unset] [])) _
  refine XS.iloadN X.here hx rfl (hb hby at_28) rfl ?_
  show Steps p.tables e below (T.setTop (mkF m 29 #[.val (.int cc), .val (.int ra), .val (.int sa), .val (.int rb), .val (.int sb), .val (.int md), .val (.int na), .val (.int nb), .val (.int ((cc &&& (255 : Int32)).toUInt32.toUInt16.toUInt32.toInt32)), .unset, .unset, .unset, .unset, .unset, .unset, .unset, .unset, .unset, .unset, .unset, .unset] [(.int cc)])) _
  refine XS.bipush X.here hx rfl (hb hby at_29) ?_
  show Steps p.tables e below (T.setTop (mkF m 31 #[.val (.int cc), .val (.int ra), .val (.int sa), .val (.int rb), .val (.int sb), .val (.int md), .val (.int na), .val (.int nb), .val (.int ((cc &&& (255 : Int32)).toUInt32.toUInt16.toUInt32.toInt32)), .unset, .unset, .unset, .unset, .unset, .unset, .unset, .unset, .unset, .unset, .unset, .unset] [(.int (8 : Int32)), (.int cc)])) _
  refine XS.iushr X.here hx rfl (hb hby at_31) rfl ?_
  show Steps p.tables e below (T.setTop (mkF m 32 #[.val (.int cc), .val (.int ra), .val (.int sa), .val (.int rb), .val (.int sb), .val (.int md), .val (.int na), .val (.int nb), .val (.int ((cc &&& (255 : Int32)).toUInt32.toUInt16.toUInt32.toInt32)), .unset, .unset, .unset, .unset, .unset, .unset, .unset, .unset, .unset, .unset, .unset, .unset] [(.int ((cc.toUInt32 >>> ((8 : Int32) &&& 31).toUInt32).toInt32))])) _
  refine XS.sipush X.here hx rfl (hb hby at_32) ?_
  show Steps p.tables e below (T.setTop (mkF m 35 #[.val (.int cc), .val (.int ra), .val (.int sa), .val (.int rb), .val (.int sb), .val (.int md), .val (.int na), .val (.int nb), .val (.int ((cc &&& (255 : Int32)).toUInt32.toUInt16.toUInt32.toInt32)), .unset, .unset, .unset, .unset, .unset, .unset, .unset, .unset, .unset, .unset, .unset, .unset] [(.int (255 : Int32)), (.int ((cc.toUInt32 >>> ((8 : Int32) &&& 31).toUInt32).toInt32))])) _
  refine XS.iand X.here hx rfl (hb hby at_35) rfl ?_
  show Steps p.tables e below (T.setTop (mkF m 36 #[.val (.int cc), .val (.int ra), .val (.int sa), .val (.int rb), .val (.int sb), .val (.int md), .val (.int na), .val (.int nb), .val (.int ((cc &&& (255 : Int32)).toUInt32.toUInt16.toUInt32.toInt32)), .unset, .unset, .unset, .unset, .unset, .unset, .unset, .unset, .unset, .unset, .unset, .unset] [(.int (((cc.toUInt32 >>> ((8 : Int32) &&& 31).toUInt32).toInt32) &&& (255 : Int32)))])) _
  refine XS.i2c X.here hx rfl (hb hby at_36) rfl ?_
  show Steps p.tables e below (T.setTop (mkF m 37 #[.val (.int cc), .val (.int ra), .val (.int sa), .val (.int rb), .val (.int sb), .val (.int md), .val (.int na), .val (.int nb), .val (.int ((cc &&& (255 : Int32)).toUInt32.toUInt16.toUInt32.toInt32)), .unset, .unset, .unset, .unset, .unset, .unset, .unset, .unset, .unset, .unset, .unset, .unset] [(.int ((((cc.toUInt32 >>> ((8 : Int32) &&& 31).toUInt32).toInt32) &&& (255 : Int32)).toUInt32.toUInt16.toUInt32.toInt32))])) _
  refine XS.istore X.here hx rfl (hb hby at_37) rfl (l' := #[.val (.int cc), .val (.int ra), .val (.int sa), .val (.int rb), .val (.int sb), .val (.int md), .val (.int na), .val (.int nb), .val (.int ((cc &&& (255 : Int32)).toUInt32.toUInt16.toUInt32.toInt32)), .val (.int ((((cc.toUInt32 >>> ((8 : Int32) &&& 31).toUInt32).toInt32) &&& (255 : Int32)).toUInt32.toUInt16.toUInt32.toInt32)), .unset, .unset, .unset, .unset, .unset, .unset, .unset, .unset, .unset, .unset, .unset]) rfl ?_
  show Steps p.tables e below (T.setTop (mkF m 39 #[.val (.int cc), .val (.int ra), .val (.int sa), .val (.int rb), .val (.int sb), .val (.int md), .val (.int na), .val (.int nb), .val (.int ((cc &&& (255 : Int32)).toUInt32.toUInt16.toUInt32.toInt32)), .val (.int ((((cc.toUInt32 >>> ((8 : Int32) &&& 31).toUInt32).toInt32) &&& (255 : Int32)).toUInt32.toUInt16.toUInt32.toInt32)), .unset, .unset, .unset, .unset, .unset, .unset, .unset, .unset, .unset, .unset, .unset] [])) _
  refine XS.iloadN X.here hx rfl (hb hby at_39) rfl ?_
  show Steps p.tables e below (T.setTop (mkF m 40 #[.val (.int cc), .val (.int ra), .val (.int sa), .val (.int rb), .val (.int sb), .val (.int md), .val (.int na), .val (.int nb), .val (.int ((cc &&& (255 : Int32)).toUInt32.toUInt16.toUInt32.toInt32)), .val (.int ((((cc.toUInt32 >>> ((8 : Int32) &&& 31).toUInt32).toInt32) &&& (255 : Int32)).toUInt32.toUInt16.toUInt32.toInt32)), .unset, .unset, .unset, .unset, .unset, .unset, .unset, .unset, .unset, .unset, .unset] [(.int cc)])) _
  refine XS.bipush X.here hx rfl (hb hby at_40) ?_
  show Steps p.tables e below (T.setTop (mkF m 42 #[.val (.int cc), .val (.int ra), .val (.int sa), .val (.int rb), .val (.int sb), .val (.int md), .val (.int na), .val (.int nb), .val (.int ((cc &&& (255 : Int32)).toUInt32.toUInt16.toUInt32.toInt32)), .val (.int ((((cc.toUInt32 >>> ((8 : Int32) &&& 31).toUInt32).toInt32) &&& (255 : Int32)).toUInt32.toUInt16.toUInt32.toInt32)), .unset, .unset, .unset, .unset, .unset, .unset, .unset, .unset, .unset, .unset, .unset] [(.int (16 : Int32)), (.int cc)])) _
  refine XS.iushr X.here hx rfl (hb hby at_42) rfl ?_
  show Steps p.tables e below (T.setTop (mkF m 43 #[.val (.int cc), .val (.int ra), .val (.int sa), .val (.int rb), .val (.int sb), .val (.int md), .val (.int na), .val (.int nb), .val (.int ((cc &&& (255 : Int32)).toUInt32.toUInt16.toUInt32.toInt32)), .val (.int ((((cc.toUInt32 >>> ((8 : Int32) &&& 31).toUInt32).toInt32) &&& (255 : Int32)).toUInt32.toUInt16.toUInt32.toInt32)), .unset, .unset, .unset, .unset, .unset, .unset, .unset, .unset, .unset, .unset, .unset] [(.int ((cc.toUInt32 >>> ((16 : Int32) &&& 31).toUInt32).toInt32))])) _
  refine XS.sipush X.here hx rfl (hb hby at_43) ?_
  show Steps p.tables e below (T.setTop (mkF m 46 #[.val (.int cc), .val (.int ra), .val (.int sa), .val (.int rb), .val (.int sb), .val (.int md), .val (.int na), .val (.int nb), .val (.int ((cc &&& (255 : Int32)).toUInt32.toUInt16.toUInt32.toInt32)), .val (.int ((((cc.toUInt32 >>> ((8 : Int32) &&& 31).toUInt32).toInt32) &&& (255 : Int32)).toUInt32.toUInt16.toUInt32.toInt32)), .unset, .unset, .unset, .unset, .unset, .unset, .unset, .unset, .unset, .unset, .unset] [(.int (255 : Int32)), (.int ((cc.toUInt32 >>> ((16 : Int32) &&& 31).toUInt32).toInt32))])) _
  refine XS.iand X.here hx rfl (hb hby at_46) rfl ?_
  show Steps p.tables e below (T.setTop (mkF m 47 #[.val (.int cc), .val (.int ra), .val (.int sa), .val (.int rb), .val (.int sb), .val (.int md), .val (.int na), .val (.int nb), .val (.int ((cc &&& (255 : Int32)).toUInt32.toUInt16.toUInt32.toInt32)), .val (.int ((((cc.toUInt32 >>> ((8 : Int32) &&& 31).toUInt32).toInt32) &&& (255 : Int32)).toUInt32.toUInt16.toUInt32.toInt32)), .unset, .unset, .unset, .unset, .unset, .unset, .unset, .unset, .unset, .unset, .unset] [(.int (((cc.toUInt32 >>> ((16 : Int32) &&& 31).toUInt32).toInt32) &&& (255 : Int32)))])) _
  refine XS.i2c X.here hx rfl (hb hby at_47) rfl ?_
  show Steps p.tables e below (T.setTop (mkF m 48 #[.val (.int cc), .val (.int ra), .val (.int sa), .val (.int rb), .val (.int sb), .val (.int md), .val (.int na), .val (.int nb), .val (.int ((cc &&& (255 : Int32)).toUInt32.toUInt16.toUInt32.toInt32)), .val (.int ((((cc.toUInt32 >>> ((8 : Int32) &&& 31).toUInt32).toInt32) &&& (255 : Int32)).toUInt32.toUInt16.toUInt32.toInt32)), .unset, .unset, .unset, .unset, .unset, .unset, .unset, .unset, .unset, .unset, .unset] [(.int ((((cc.toUInt32 >>> ((16 : Int32) &&& 31).toUInt32).toInt32) &&& (255 : Int32)).toUInt32.toUInt16.toUInt32.toInt32))])) _
  refine XS.istore X.here hx rfl (hb hby at_48) rfl (l' := #[.val (.int cc), .val (.int ra), .val (.int sa), .val (.int rb), .val (.int sb), .val (.int md), .val (.int na), .val (.int nb), .val (.int ((cc &&& (255 : Int32)).toUInt32.toUInt16.toUInt32.toInt32)), .val (.int ((((cc.toUInt32 >>> ((8 : Int32) &&& 31).toUInt32).toInt32) &&& (255 : Int32)).toUInt32.toUInt16.toUInt32.toInt32)), .val (.int ((((cc.toUInt32 >>> ((16 : Int32) &&& 31).toUInt32).toInt32) &&& (255 : Int32)).toUInt32.toUInt16.toUInt32.toInt32)), .unset, .unset, .unset, .unset, .unset, .unset, .unset, .unset, .unset, .unset]) rfl ?_
  show Steps p.tables e below (T.setTop (mkF m 50 #[.val (.int cc), .val (.int ra), .val (.int sa), .val (.int rb), .val (.int sb), .val (.int md), .val (.int na), .val (.int nb), .val (.int ((cc &&& (255 : Int32)).toUInt32.toUInt16.toUInt32.toInt32)), .val (.int ((((cc.toUInt32 >>> ((8 : Int32) &&& 31).toUInt32).toInt32) &&& (255 : Int32)).toUInt32.toUInt16.toUInt32.toInt32)), .val (.int ((((cc.toUInt32 >>> ((16 : Int32) &&& 31).toUInt32).toInt32) &&& (255 : Int32)).toUInt32.toUInt16.toUInt32.toInt32)), .unset, .unset, .unset, .unset, .unset, .unset, .unset, .unset, .unset, .unset] [])) _
  refine XS.iloadN X.here hx rfl (hb hby at_50) rfl ?_
  show Steps p.tables e below (T.setTop (mkF m 51 #[.val (.int cc), .val (.int ra), .val (.int sa), .val (.int rb), .val (.int sb), .val (.int md), .val (.int na), .val (.int nb), .val (.int ((cc &&& (255 : Int32)).toUInt32.toUInt16.toUInt32.toInt32)), .val (.int ((((cc.toUInt32 >>> ((8 : Int32) &&& 31).toUInt32).toInt32) &&& (255 : Int32)).toUInt32.toUInt16.toUInt32.toInt32)), .val (.int ((((cc.toUInt32 >>> ((16 : Int32) &&& 31).toUInt32).toInt32) &&& (255 : Int32)).toUInt32.toUInt16.toUInt32.toInt32)), .unset, .unset, .unset, .unset, .unset, .unset, .unset, .unset, .unset, .unset] [(.int cc)])) _
  refine XS.bipush X.here hx rfl (hb hby at_51) ?_
  show Steps p.tables e below (T.setTop (mkF m 53 #[.val (.int cc), .val (.int ra), .val (.int sa), .val (.int rb), .val (.int sb), .val (.int md), .val (.int na), .val (.int nb), .val (.int ((cc &&& (255 : Int32)).toUInt32.toUInt16.toUInt32.toInt32)), .val (.int ((((cc.toUInt32 >>> ((8 : Int32) &&& 31).toUInt32).toInt32) &&& (255 : Int32)).toUInt32.toUInt16.toUInt32.toInt32)), .val (.int ((((cc.toUInt32 >>> ((16 : Int32) &&& 31).toUInt32).toInt32) &&& (255 : Int32)).toUInt32.toUInt16.toUInt32.toInt32)), .unset, .unset, .unset, .unset, .unset, .unset, .unset, .unset, .unset, .unset] [(.int (24 : Int32)), (.int cc)])) _
  refine XS.iushr X.here hx rfl (hb hby at_53) rfl ?_
  show Steps p.tables e below (T.setTop (mkF m 54 #[.val (.int cc), .val (.int ra), .val (.int sa), .val (.int rb), .val (.int sb), .val (.int md), .val (.int na), .val (.int nb), .val (.int ((cc &&& (255 : Int32)).toUInt32.toUInt16.toUInt32.toInt32)), .val (.int ((((cc.toUInt32 >>> ((8 : Int32) &&& 31).toUInt32).toInt32) &&& (255 : Int32)).toUInt32.toUInt16.toUInt32.toInt32)), .val (.int ((((cc.toUInt32 >>> ((16 : Int32) &&& 31).toUInt32).toInt32) &&& (255 : Int32)).toUInt32.toUInt16.toUInt32.toInt32)), .unset, .unset, .unset, .unset, .unset, .unset, .unset, .unset, .unset, .unset] [(.int ((cc.toUInt32 >>> ((24 : Int32) &&& 31).toUInt32).toInt32))])) _
  refine XS.sipush X.here hx rfl (hb hby at_54) ?_
  show Steps p.tables e below (T.setTop (mkF m 57 #[.val (.int cc), .val (.int ra), .val (.int sa), .val (.int rb), .val (.int sb), .val (.int md), .val (.int na), .val (.int nb), .val (.int ((cc &&& (255 : Int32)).toUInt32.toUInt16.toUInt32.toInt32)), .val (.int ((((cc.toUInt32 >>> ((8 : Int32) &&& 31).toUInt32).toInt32) &&& (255 : Int32)).toUInt32.toUInt16.toUInt32.toInt32)), .val (.int ((((cc.toUInt32 >>> ((16 : Int32) &&& 31).toUInt32).toInt32) &&& (255 : Int32)).toUInt32.toUInt16.toUInt32.toInt32)), .unset, .unset, .unset, .unset, .unset, .unset, .unset, .unset, .unset, .unset] [(.int (255 : Int32)), (.int ((cc.toUInt32 >>> ((24 : Int32) &&& 31).toUInt32).toInt32))])) _
  refine XS.iand X.here hx rfl (hb hby at_57) rfl ?_
  show Steps p.tables e below (T.setTop (mkF m 58 #[.val (.int cc), .val (.int ra), .val (.int sa), .val (.int rb), .val (.int sb), .val (.int md), .val (.int na), .val (.int nb), .val (.int ((cc &&& (255 : Int32)).toUInt32.toUInt16.toUInt32.toInt32)), .val (.int ((((cc.toUInt32 >>> ((8 : Int32) &&& 31).toUInt32).toInt32) &&& (255 : Int32)).toUInt32.toUInt16.toUInt32.toInt32)), .val (.int ((((cc.toUInt32 >>> ((16 : Int32) &&& 31).toUInt32).toInt32) &&& (255 : Int32)).toUInt32.toUInt16.toUInt32.toInt32)), .unset, .unset, .unset, .unset, .unset, .unset, .unset, .unset, .unset, .unset] [(.int (((cc.toUInt32 >>> ((24 : Int32) &&& 31).toUInt32).toInt32) &&& (255 : Int32)))])) _
  refine XS.i2c X.here hx rfl (hb hby at_58) rfl ?_
  show Steps p.tables e below (T.setTop (mkF m 59 #[.val (.int cc), .val (.int ra), .val (.int sa), .val (.int rb), .val (.int sb), .val (.int md), .val (.int na), .val (.int nb), .val (.int ((cc &&& (255 : Int32)).toUInt32.toUInt16.toUInt32.toInt32)), .val (.int ((((cc.toUInt32 >>> ((8 : Int32) &&& 31).toUInt32).toInt32) &&& (255 : Int32)).toUInt32.toUInt16.toUInt32.toInt32)), .val (.int ((((cc.toUInt32 >>> ((16 : Int32) &&& 31).toUInt32).toInt32) &&& (255 : Int32)).toUInt32.toUInt16.toUInt32.toInt32)), .unset, .unset, .unset, .unset, .unset, .unset, .unset, .unset, .unset, .unset] [(.int ((((cc.toUInt32 >>> ((24 : Int32) &&& 31).toUInt32).toInt32) &&& (255 : Int32)).toUInt32.toUInt16.toUInt32.toInt32))])) _
  refine XS.istore X.here hx rfl (hb hby at_59) rfl (l' := #[.val (.int cc), .val (.int ra), .val (.int sa), .val (.int rb), .val (.int sb), .val (.int md), .val (.int na), .val (.int nb), .val (.int ((cc &&& (255 : Int32)).toUInt32.toUInt16.toUInt32.toInt32)), .val (.int ((((cc.toUInt32 >>> ((8 : Int32) &&& 31).toUInt32).toInt32) &&& (255 : Int32)).toUInt32.toUInt16.toUInt32.toInt32)), .val (.int ((((cc.toUInt32 >>> ((16 : Int32) &&& 31).toUInt32).toInt32) &&& (255 : Int32)).toUInt32.toUInt16.toUInt32.toInt32)), .val (.int ((((cc.toUInt32 >>> ((24 : Int32) &&& 31).toUInt32).toInt32) &&& (255 : Int32)).toUInt32.toUInt16.toUInt32.toInt32)), .unset, .unset, .unset, .unset, .unset, .unset, .unset, .unset, .unset]) rfl ?_
  show Steps p.tables e below (T.setTop (mkF m 61 #[.val (.int cc), .val (.int ra), .val (.int sa), .val (.int rb), .val (.int sb), .val (.int md), .val (.int na), .val (.int nb), .val (.int ((cc &&& (255 : Int32)).toUInt32.toUInt16.toUInt32.toInt32)), .val (.int ((((cc.toUInt32 >>> ((8 : Int32) &&& 31).toUInt32).toInt32) &&& (255 : Int32)).toUInt32.toUInt16.toUInt32.toInt32)), .val (.int ((((cc.toUInt32 >>> ((16 : Int32) &&& 31).toUInt32).toInt32) &&& (255 : Int32)).toUInt32.toUInt16.toUInt32.toInt32)), .val (.int ((((cc.toUInt32 >>> ((24 : Int32) &&& 31).toUInt32).toInt32) &&& (255 : Int32)).toUInt32.toUInt16.toUInt32.toInt32)), .unset, .unset, .unset, .unset, .unset, .unset, .unset, .unset, .unset] [])) _
  refine XS.iload X.here hx rfl (hb hby at_61) rfl ?_
  show Steps p.tables e below (T.setTop (mkF m 63 #[.val (.int cc), .val (.int ra), .val (.int sa), .val (.int rb), .val (.int sb), .val (.int md), .val (.int na), .val (.int nb), .val (.int ((cc &&& (255 : Int32)).toUInt32.toUInt16.toUInt32.toInt32)), .val (.int ((((cc.toUInt32 >>> ((8 : Int32) &&& 31).toUInt32).toInt32) &&& (255 : Int32)).toUInt32.toUInt16.toUInt32.toInt32)), .val (.int ((((cc.toUInt32 >>> ((16 : Int32) &&& 31).toUInt32).toInt32) &&& (255 : Int32)).toUInt32.toUInt16.toUInt32.toInt32)), .val (.int ((((cc.toUInt32 >>> ((24 : Int32) &&& 31).toUInt32).toInt32) &&& (255 : Int32)).toUInt32.toUInt16.toUInt32.toInt32)), .unset, .unset, .unset, .unset, .unset, .unset, .unset, .unset, .unset] [(.int md)])) _
  refine XS.bipush X.here hx rfl (hb hby at_63) ?_
  show Steps p.tables e below (T.setTop (mkF m 65 #[.val (.int cc), .val (.int ra), .val (.int sa), .val (.int rb), .val (.int sb), .val (.int md), .val (.int na), .val (.int nb), .val (.int ((cc &&& (255 : Int32)).toUInt32.toUInt16.toUInt32.toInt32)), .val (.int ((((cc.toUInt32 >>> ((8 : Int32) &&& 31).toUInt32).toInt32) &&& (255 : Int32)).toUInt32.toUInt16.toUInt32.toInt32)), .val (.int ((((cc.toUInt32 >>> ((16 : Int32) &&& 31).toUInt32).toInt32) &&& (255 : Int32)).toUInt32.toUInt16.toUInt32.toInt32)), .val (.int ((((cc.toUInt32 >>> ((24 : Int32) &&& 31).toUInt32).toInt32) &&& (255 : Int32)).toUInt32.toUInt16.toUInt32.toInt32)), .unset, .unset, .unset, .unset, .unset, .unset, .unset, .unset, .unset] [(.int (16 : Int32)), (.int md)])) _
  refine XS.iand X.here hx rfl (hb hby at_65) rfl ?_
  show Steps p.tables e below (T.setTop (mkF m 66 #[.val (.int cc), .val (.int ra), .val (.int sa), .val (.int rb), .val (.int sb), .val (.int md), .val (.int na), .val (.int nb), .val (.int ((cc &&& (255 : Int32)).toUInt32.toUInt16.toUInt32.toInt32)), .val (.int ((((cc.toUInt32 >>> ((8 : Int32) &&& 31).toUInt32).toInt32) &&& (255 : Int32)).toUInt32.toUInt16.toUInt32.toInt32)), .val (.int ((((cc.toUInt32 >>> ((16 : Int32) &&& 31).toUInt32).toInt32) &&& (255 : Int32)).toUInt32.toUInt16.toUInt32.toInt32)), .val (.int ((((cc.toUInt32 >>> ((24 : Int32) &&& 31).toUInt32).toInt32) &&& (255 : Int32)).toUInt32.toUInt16.toUInt32.toInt32)), .unset, .unset, .unset, .unset, .unset, .unset, .unset, .unset, .unset] [(.int (md &&& (16 : Int32)))])) _
  refine XS.ifNo X.here hx rfl (hb hby at_66) rfl ((if0 _ _).trans (feq hc66).1) ?_
  show Steps p.tables e below (T.setTop (mkF m 69 #[.val (.int cc), .val (.int ra), .val (.int sa), .val (.int rb), .val (.int sb), .val (.int md), .val (.int na), .val (.int nb), .val (.int ((cc &&& (255 : Int32)).toUInt32.toUInt16.toUInt32.toInt32)), .val (.int ((((cc.toUInt32 >>> ((8 : Int32) &&& 31).toUInt32).toInt32) &&& (255 : Int32)).toUInt32.toUInt16.toUInt32.toInt32)), .val (.int ((((cc.toUInt32 >>> ((16 : Int32) &&& 31).toUInt32).toInt32) &&& (255 : Int32)).toUInt32.toUInt16.toUInt32.toInt32)), .val (.int ((((cc.toUInt32 >>> ((24 : Int32) &&& 31).toUInt32).toInt32) &&& (255 : Int32)).toUInt32.toUInt16.toUInt32.toInt32)), .unset, .unset, .unset, .unset, .unset, .unset, .unset, .unset, .unset] [])) _
  refine XS.iload X.here hx rfl (hb hby at_69) rfl ?_
  show Steps p.tables e below (T.setTop (mkF m 71 #[.val (.int cc), .val (.int ra), .val (.int sa), .val (.int rb), .val (.int sb), .val (.int md), .val (.int na), .val (.int nb), .val (.int ((cc &&& (255 : Int32)).toUInt32.toUInt16.toUInt32.toInt32)), .val (.int ((((cc.toUInt32 >>> ((8 : Int32) &&& 31).toUInt32).toInt32) &&& (255 : Int32)).toUInt32.toUInt16.toUInt32.toInt32)), .val (.int ((((cc.toUInt32 >>> ((16 : Int32) &&& 31).toUInt32).toInt32) &&& (255 : Int32)).toUInt32.toUInt16.toUInt32.toInt32)), .val (.int ((((cc.toUInt32 >>> ((24 : Int32) &&& 31).toUInt32).toInt32) &&& (255 : Int32)).toUInt32.toUInt16.toUInt32.toInt32)), .unset, .unset, .unset, .unset, .unset, .unset, .unset, .unset, .unset] [(.int na)])) _
  refine XS.istore X.here hx rfl (hb hby at_71) rfl (l' := #[.val (.int cc), .val (.int ra), .val (.int sa), .val (.int rb), .val (.int sb), .val (.int md), .val (.int na), .val (.int na), .val (.int ((cc &&& (255 : Int32)).toUInt32.toUInt16.toUInt32.toInt32)), .val (.int ((((cc.toUInt32 >>> ((8 : Int32) &&& 31).toUInt32).toInt32) &&& (255 : Int32)).toUInt32.toUInt16.toUInt32.toInt32)), .val (.int ((((cc.toUInt32 >>> ((16 : Int32) &&& 31).toUInt32).toInt32) &&& (255 : Int32)).toUInt32.toUInt16.toUInt32.toInt32)), .val (.int ((((cc.toUInt32 >>> ((24 : Int32) &&& 31).toUInt32).toInt32) &&& (255 : Int32)).toUInt32.toUInt16.toUInt32.toInt32)), .unset, .unset, .unset, .unset, .unset, .unset, .unset, .unset, .unset]) rfl ?_
  show Steps p.tables e below (T.setTop (mkF m 73 #[.val (.int cc), .val (.int ra), .val (.int sa), .val (.int rb), .val (.int sb), .val (.int md), .val (.int na), .val (.int na), .val (.int ((cc &&& (255 : Int32)).toUInt32.toUInt16.toUInt32.toInt32)), .val (.int ((((cc.toUInt32 >>> ((8 : Int32) &&& 31).toUInt32).toInt32) &&& (255 : Int32)).toUInt32.toUInt16.toUInt32.toInt32)), .val (.int ((((cc.toUInt32 >>> ((16 : Int32) &&& 31).toUInt32).toInt32) &&& (255 : Int32)).toUInt32.toUInt16.toUInt32.toInt32)), .val (.int ((((cc.toUInt32 >>> ((24 : Int32) &&& 31).toUInt32).toInt32) &&& (255 : Int32)).toUInt32.toUInt16.toUInt32.toInt32)), .unset, .unset, .unset, .unset, .unset, .unset, .unset, .unset, .unset] [])) _
  refine XS.iload X.here hx rfl (hb hby at_73) rfl ?_
  show Steps p.tables e below (T.setTop (mkF m 75 #[.val (.int cc), .val (.int ra), .val (.int sa), .val (.int rb), .val (.int sb), .val (.int md), .val (.int na), .val (.int na), .val (.int ((cc &&& (255 : Int32)).toUInt32.toUInt16.toUInt32.toInt32)), .val (.int ((((cc.toUInt32 >>> ((8 : Int32) &&& 31).toUInt32).toInt32) &&& (255 : Int32)).toUInt32.toUInt16.toUInt32.toInt32)), .val (.int ((((cc.toUInt32 >>> ((16 : Int32) &&& 31).toUInt32).toInt32) &&& (255 : Int32)).toUInt32.toUInt16.toUInt32.toInt32)), .val (.int ((((cc.toUInt32 >>> ((24 : Int32) &&& 31).toUInt32).toInt32) &&& (255 : Int32)).toUInt32.toUInt16.toUInt32.toInt32)), .unset, .unset, .unset, .unset, .unset, .unset, .unset, .unset, .unset] [(.int ((cc &&& (255 : Int32)).toUInt32.toUInt16.toUInt32.toInt32))])) _
  refine XS.istore X.here hx rfl (hb hby at_75) rfl (l' := #[.val (.int cc), .val (.int ra), .val (.int sa), .val (.int rb), .val (.int sb), .val (.int md), .val (.int na), .val (.int na), .val (.int ((cc &&& (255 : Int32)).toUInt32.toUInt16.toUInt32.toInt32)), .val (.int ((((cc.toUInt32 >>> ((8 : Int32) &&& 31).toUInt32).toInt32) &&& (255 : Int32)).toUInt32.toUInt16.toUInt32.toInt32)), .val (.int ((cc &&& (255 : Int32)).toUInt32.toUInt16.toUInt32.toInt32)), .val (.int ((((cc.toUInt32 >>> ((24 : Int32) &&& 31).toUInt32).toInt32) &&& (255 : Int32)).toUInt32.toUInt16.toUInt32.toInt32)), .unset, .unset, .unset, .unset, .unset, .unset, .unset, .unset, .unset]) rfl ?_
  show Steps p.tables e below (T.setTop (mkF m 77 #[.val (.int cc), .val (.int ra), .val (.int sa), .val (.int rb), .val (.int sb), .val (.int md), .val (.int na), .val (.int na), .val (.int ((cc &&& (255 : Int32)).toUInt32.toUInt16.toUInt32.toInt32)), .val (.int ((((cc.toUInt32 >>> ((8 : Int32) &&& 31).toUInt32).toInt32) &&& (255 : Int32)).toUInt32.toUInt16.toUInt32.toInt32)), .val (.int ((cc &&& (255 : Int32)).toUInt32.toUInt16.toUInt32.toInt32)), .val (.int ((((cc.toUInt32 >>> ((24 : Int32) &&& 31).toUInt32).toInt32) &&& (255 : Int32)).toUInt32.toUInt16.toUInt32.toInt32)), .unset, .unset, .unset, .unset, .unset, .unset, .unset, .unset, .unset] [])) _
  refine XS.iload X.here hx rfl (hb hby at_77) rfl ?_
  show Steps p.tables e below (T.setTop (mkF m 79 #[.val (.int cc), .val (.int ra), .val (.int sa), .val (.int rb), .val (.int sb), .val (.int md), .val (.int na), .val (.int na), .val (.int ((cc &&& (255 : Int32)).toUInt32.toUInt16.toUInt32.toInt32)), .val (.int ((((cc.toUInt32 >>> ((8 : Int32) &&& 31).toUInt32).toInt32) &&& (255 : Int32)).toUInt32.toUInt16.toUInt32.toInt32)), .val (.int ((cc &&& (255 : Int32)).toUInt32.toUInt16.toUInt32.toInt32)), .val (.int ((((cc.toUInt32 >>> ((24 : Int32) &&& 31).toUInt32).toInt32) &&& (255 : Int32)).toUInt32.toUInt16.toUInt32.toInt32)), .unset, .unset, .unset, .unset, .unset, .unset, .unset, .unset, .unset] [(.int ((((cc.toUInt32 >>> ((8 : Int32) &&& 31).toUInt32).toInt32) &&& (255 : Int32)).toUInt32.toUInt16.toUInt32.toInt32))])) _
  refine XS.istore X.here hx rfl (hb hby at_79) rfl (l' := #[.val (.int cc), .val (.int ra), .val (.int sa), .val (.int rb), .val (.int sb), .val (.int md), .val (.int na), .val (.int na), .val (.int ((cc &&& (255 : Int32)).toUInt32.toUInt16.toUInt32.toInt32)), .val (.int ((((cc.toUInt32 >>> ((8 : Int32) &&& 31).toUInt32).toInt32) &&& (255 : Int32)).toUInt32.toUInt16.toUInt32.toInt32)), .val (.int ((cc &&& (255 : Int32)).toUInt32.toUInt16.toUInt32.toInt32)), .val (.int ((((cc.toUInt32 >>> ((8 : Int32) &&& 31).toUInt32).toInt32) &&& (255 : Int32)).toUInt32.toUInt16.toUInt32.toInt32)), .unset, .unset, .unset, .unset, .unset, .unset, .unset, .unset, .unset]) rfl ?_
  show Steps p.tables e below (T.setTop (mkF m 81 #[.val (.int cc), .val (.int ra), .val (.int sa), .val (.int rb), .val (.int sb), .val (.int md), .val (.int na), .val (.int na), .val (.int ((cc &&& (255 : Int32)).toUInt32.toUInt16.toUInt32.toInt32)), .val (.int ((((cc.toUInt32 >>> ((8 : Int32) &&& 31).toUInt32).toInt32) &&& (255 : Int32)).toUInt32.toUInt16.toUInt32.toInt32)), .val (.int ((cc &&& (255 : Int32)).toUInt32.toUInt16.toUInt32.toInt32)), .val (.int ((((cc.toUInt32 >>> ((8 : Int32) &&& 31).toUInt32).toInt32) &&& (255 : Int32)).toUInt32.toUInt16.toUInt32.toInt32)), .unset, .unset, .unset, .unset, .unset, .unset, .unset, .unset, .unset] [])) _
  refine XS.iload X.here hx rfl (hb hby at_81) rfl ?_
  show Steps p.tables e below (T.setTop (mkF m 83 #[.val (.int cc), .val (.int ra), .val (.int sa), .val (.int rb), .val (.int sb), .val (.int md), .val (.int na), .val (.int na), .val (.int ((cc &&& (255 : Int32)).toUInt32.toUInt16.toUInt32.toInt32)), .val (.int ((((cc.toUInt32 >>> ((8 : Int32) &&& 31).toUInt32).toInt32) &&& (255 : Int32)).toUInt32.toUInt16.toUInt32.toInt32)), .val (.int ((cc &&& (255 : Int32)).toUInt32.toUInt16.toUInt32.toInt32)), .val (.int ((((cc.toUInt32 >>> ((8 : Int32) &&& 31).toUInt32).toInt32) &&& (255 : Int32)).toUInt32.toUInt16.toUInt32.toInt32)), .unset, .unset, .unset, .unset, .unset, .unset, .unset, .unset, .unset] [(.int md)])) _
  refine XS.bipush X.here hx rfl (hb hby at_83) ?_
  show Steps p.tables e below (T.setTop (mkF m 85 #[.val (.int cc), .val (.int ra), .val (.int sa), .val (.int rb), .val (.int sb), .val (.int md), .val (.int na), .val (.int na), .val (.int ((cc &&& (255 : Int32)).toUInt32.toUInt16.toUInt32.toInt32)), .val (.int ((((cc.toUInt32 >>> ((8 : Int32) &&& 31).toUInt32).toInt32) &&& (255 : Int32)).toUInt32.toUInt16.toUInt32.toInt32)), .val (.int ((cc &&& (255 : Int32)).toUInt32.toUInt16.toUInt32.toInt32)), .val (.int ((((cc.toUInt32 >>> ((8 : Int32) &&& 31).toUInt32).toInt32) &&& (255 : Int32)).toUInt32.toUInt16.toUInt32.toInt32)), .unset, .unset, .unset, .unset, .unset, .unset, .unset, .unset, .unset] [(.int (32 : Int32)), (.int md)])) _
  refine XS.iand X.here hx rfl (hb hby at_85) rfl ?_
  show Steps p.tables e below (T.setTop (mkF m 86 #[.val (.int cc), .val (.int ra), .val (.int sa), .val (.int rb), .val (.int sb), .val (.int md), .val (.int na), .val (.int na), .val (.int ((cc &&& (255 : Int32)).toUInt32.toUInt16.toUInt32.toInt32)), .val (.int ((((cc.toUInt32 >>> ((8 : Int32) &&& 31).toUInt32).toInt32) &&& (255 : Int32)).toUInt32.toUInt16.toUInt32.toInt32)), .val (.int ((cc &&& (255 : Int32)).toUInt32.toUInt16.toUInt32.toInt32)), .val (.int ((((cc.toUInt32 >>> ((8 : Int32) &&& 31).toUInt32).toInt32) &&& (255 : Int32)).toUInt32.toUInt16.toUInt32.toInt32)), .unset, .unset, .unset, .unset, .unset, .unset, .unset, .unset, .unset] [(.int (md &&& (32 : Int32)))])) _
  refine XS.ifYes X.here hx rfl (pc0 := 86) (pc' := 93) rfl (hb hby at_86) rfl ((if0 _ _).trans (teq hc86).1) (by decide) (by decide) ?_
  show Steps p.tables e below (T.setTop (mkF m 93 #[.val (.int cc), .val (.int ra), .val (.int sa), .val (.int rb), .val (.int sb), .val (.int md), .val (.int na), .val (.int na), .val (.int ((cc &&& (255 : Int32)).toUInt32.toUInt16.toUInt32.toInt32)), .val (.int ((((cc.toUInt32 >>> ((8 : Int32) &&& 31).toUInt32).toInt32) &&& (255 : Int32)).toUInt32.toUInt16.toUInt32.toInt32)), .val (.int ((cc &&& (255 : Int32)).toUInt32.toUInt16.toUInt32.toInt32)), .val (.int ((((cc.toUInt32 >>> ((8 : Int32) &&& 31).toUInt32).toInt32) &&& (255 : Int32)).toUInt32.toUInt16.toUInt32.toInt32)), .unset, .unset, .unset, .unset, .unset, .unset, .unset, .unset, .unset] [])) _
  refine XS.iloadN X.here hx rfl (hb hby at_93) rfl ?_
  show Steps p.tables e below (T.setTop (mkF m 94 #[.val (.int cc), .val (.int ra), .val (.int sa), .val (.int rb), .val (.int sb), .val (.int md), .val (.int na), .val (.int na), .val (.int ((cc &&& (255 : Int32)).toUInt32.toUInt16.toUInt32.toInt32)), .val (.int ((((cc.toUInt32 >>> ((8 : Int32) &&& 31).toUInt32).toInt32) &&& (255 : Int32)).toUInt32.toUInt16.toUInt32.toInt32)), .val (.int ((cc &&& (255 : Int32)).toUInt32.toUInt16.toUInt32.toInt32)), .val (.int ((((cc.toUInt32 >>> ((8 : Int32) &&& 31).toUInt32).toInt32) &&& (255 : Int32)).toUInt32.toUInt16.toUInt32.toInt32)), .unset, .unset, .unset, .unset, .unset, .unset, .unset, .unset, .unset] [(.int rb)])) _
  refine XS.istore X.here hx rfl (hb hby at_94) rfl (l' := #[.val (.int cc), .val (.int ra), .val (.int sa), .val (.int rb), .val (.int sb), .val (.int md), .val (.int na), .val (.int na), .val (.int ((cc &&& (255 : Int32)).toUInt32.toUInt16.toUInt32.toInt32)), .val (.int ((((cc.toUInt32 >>> ((8 : Int32) &&& 31).toUInt32).toInt32) &&& (255 : Int32)).toUInt32.toUInt16.toUInt32.toInt32)), .val (.int ((cc &&& (255 : Int32)).toUInt32.toUInt16.toUInt32.toInt32)), .val (.int ((((cc.toUInt32 >>> ((8 : Int32) &&& 31).toUInt32).toInt32) &&& (255 : Int32)).toUInt32.toUInt16.toUInt32.toInt32)), .val (.int rb), .unset, .unset, .unset, .unset, .unset, .unset, .unset, .unset]) rfl ?_
  show Steps p.tables e below (T.setTop (mkF m 96 #[.val (.int cc), .val (.int ra), .val (.int sa), .val (.int rb), .val (.int sb), .val (.int md), .val (.int na), .val (.int na), .val (.int ((cc &&& (255 : Int32)).toUInt32.toUInt16.toUInt32.toInt32)), .val (.int ((((cc.toUInt32 >>> ((8 : Int32) &&& 31).toUInt32).toInt32) &&& (255 : Int32)).toUInt32.toUInt16.toUInt32.toInt32)), .val (.int ((cc &&& (255 : Int32)).toUInt32.toUInt16.toUInt32.toInt32)), .val (.int ((((cc.toUInt32 >>> ((8 : Int32) &&& 31).toUInt32).toInt32) &&& (255 : Int32)).toUInt32.toUInt16.toUInt32.toInt32)), .val (.int rb), .unset, .unset, .unset, .unset, .unset, .unset, .unset, .unset] [])) _
  refine XS.iload X.here hx rfl (hb hby at_96) rfl ?_
  show Steps p.tables e below (T.setTop (mkF m 98 #[.val (.int cc), .val (.int ra), .val (.int sa), .val (.int rb), .val (.int sb), .val (.int md), .val (.int na), .val (.int na), .val (.int ((cc &&& (255 : Int32)).toUInt32.toUInt16.toUInt32.toInt32)), .val (.int ((((cc.toUInt32 >>> ((8 : Int32) &&& 31).toUInt32).toInt32) &&& (255 : Int32)).toUInt32.toUInt16.toUInt32.toInt32)), .val (.int ((cc &&& (255 : Int32)).toUInt32.toUInt16.toUInt32.toInt32)), .val (.int ((((cc.toUInt32 >>> ((8 : Int32) &&& 31).toUInt32).toInt32) &&& (255 : Int32)).toUInt32.toUInt16.toUInt32.toInt32)), .val (.int rb), .unset, .unset, .unset, .unset, .unset, .unset, .unset, .unset] [(.int md)])) _
  refine XS.bipush X.here hx rfl (hb hby at_98) ?_
  show Steps p.tables e below (T.setTop (mkF m 100 #[.val (.int cc), .val (.int ra), .val (.int sa), .val (.int rb), .val (.int sb), .val (.int md), .val (.int na), .val (.int na), .val (.int ((cc &&& (255 : Int32)).toUInt32.toUInt16.toUInt32.toInt32)), .val (.int ((((cc.toUInt32 >>> ((8 : Int32) &&& 31).toUInt32).toInt32) &&& (255 : Int32)).toUInt32.toUInt16.toUInt32.toInt32)), .val (.int ((cc &&& (255 : Int32)).toUInt32.toUInt16.toUInt32.toInt32)), .val (.int ((((cc.toUInt32 >>> ((8 : Int32) &&& 31).toUInt32).toInt32) &&& (255 : Int32)).toUInt32.toUInt16.toUInt32.toInt32)), .val (.int rb), .unset, .unset, .unset, .unset, .unset, .unset, .unset, .unset] [(.int (64 : Int32)), (.int md)])) _
  refine XS.iand X.here hx rfl (hb hby at_100) rfl ?_
  show Steps p.tables e below (T.setTop (mkF m 101 #[.val (.int cc), .val (.int ra), .val (.int sa), .val (.int rb), .val (.int sb), .val (.int md), .val (.int na), .val (.int na), .val (.int ((cc &&& (255 : Int32)).toUInt32.toUInt16.toUInt32.toInt32)), .val (.int ((((cc.toUInt32 >>> ((8 : Int32) &&& 31).toUInt32).toInt32) &&& (255 : Int32)).toUInt32.toUInt16.toUInt32.toInt32)), .val (.int ((cc &&& (255 : Int32)).toUInt32.toUInt16.toUInt32.toInt32)), .val (.int ((((cc.toUInt32 >>> ((8 : Int32) &&& 31).toUInt32).toInt32) &&& (255 : Int32)).toUInt32.toUInt16.toUInt32.toInt32)), .val (.int rb), .unset, .unset, .unset, .unset, .unset, .unset, .unset, .unset] [(.int (md &&& (64 : Int32)))])) _
  refine XS.ifNo X.here hx rfl (hb hby at_101) rfl ((if0 _ _).trans (feq hc101).1) ?_
  show Steps p.tables e below (T.setTop (mkF m 104 #[.val (.int cc), .val (.int ra), .val (.int sa), .val (.int rb), .val (.int sb), .val (.int md), .val (.int na), .val (.int na), .val (.int ((cc &&& (255 : Int32)).toUInt32.toUInt16.toUInt32.toInt32)), .val (.int ((((cc.toUInt32 >>> ((8 : Int32) &&& 31).toUInt32).toInt32) &&& (255 : Int32)).toUInt32.toUInt16.toUInt32.toInt32)), .val (.int ((cc &&& (255 : Int32)).toUInt32.toUInt16.toUInt32.toInt32)), .val (.int ((((cc.toUInt32 >>> ((8 : Int32) &&& 31).toUInt32).toInt32) &&& (255 : Int32)).toUInt32.toUInt16.toUInt32.toInt32)), .val (.int rb), .unset, .unset, .unset, .unset, .unset, .unset, .unset, .unset] [])) _
  refine XS.iloadN X.here hx rfl (hb hby at_104) rfl ?_
  show Steps p.tables e below (T.setTop (mkF m 105 #[.val (.int cc), .val (.int ra), .val (.int sa), .val (.int rb), .val (.int sb), .val (.int md), .val (.int na), .val (.int na), .val (.int ((cc &&& (255 : Int32)).toUInt32.toUInt16.toUInt32.toInt32)), .val (.int ((((cc.toUInt32 >>> ((8 : Int32) &&& 31).toUInt32).toInt32) &&& (255 : Int32)).toUInt32.toUInt16.toUInt32.toInt32)), .val (.int ((cc &&& (255 : Int32)).toUInt32.toUInt16.toUInt32.toInt32)), .val (.int ((((cc.toUInt32 >>> ((8 : Int32) &&& 31).toUInt32).toInt32) &&& (255 : Int32)).toUInt32.toUInt16.toUInt32.toInt32)), .val (.int rb), .unset, .unset, .unset, .unset, .unset, .unset, .unset, .unset] [(.int sa)])) _
  refine XS.goto X.here hx rfl (pc0 := 105) (pc' := 110) rfl (hb hby at_105) (by decide) (by decide) ?_
  show Steps p.tables e below (T.setTop (mkF m 110 #[.val (.int cc), .val (.int ra), .val (.int sa), .val (.int rb), .val (.int sb), .val (.int md), .val (.int na), .val (.int na), .val (.int ((cc &&& (255 : Int32)).toUInt32.toUInt16.toUInt32.toInt32)), .val (.int ((((cc.toUInt32 >>> ((8 : Int32) &&& 31).toUInt32).toInt32) &&& (255 : Int32)).toUInt32.toUInt16.toUInt32.toInt32)), .val (.int ((cc &&& (255 : Int32)).toUInt32.toUInt16.toUInt32.toInt32)), .val (.int ((((cc.toUInt32 >>> ((8 : Int32) &&& 31).toUInt32).toInt32) &&& (255 : Int32)).toUInt32.toUInt16.toUInt32.toInt32)), .val (.int rb), .unset, .unset, .unset, .unset, .unset, .unset, .unset, .unset] [(.int sa)])) _
  refine XS.istore X.here hx rfl (hb hby at_110) rfl (l' := #[.val (.int cc), .val (.int ra), .val (.int sa), .val (.int rb), .val (.int sb), .val (.int md), .val (.int na), .val (.int na), .val (.int ((cc &&& (255 : Int32)).toUInt32.toUInt16.toUInt32.toInt32)), .val (.int ((((cc.toUInt32 >>> ((8 : Int32) &&& 31).toUInt32).toInt32) &&& (255 : Int32)).toUInt32.toUInt16.toUInt32.toInt32)), .val (.int ((cc &&& (255 : Int32)).toUInt32.toUInt16.toUInt32.toInt32)), .val (.int ((((cc.toUInt32 >>> ((8 : Int32) &&& 31).toUInt32).toInt32) &&& (255 : Int32)).toUInt32.toUInt16.toUInt32.toInt32)), .val (.int rb), .val (.int sa), .unset, .unset, .unset, .unset, .unset, .unset, .unset]) rfl ?_
  exact k
set_option maxRecDepth 65536 in
set_option maxHeartbeats 4000000 in
theorem segA_fft (l : Launch) (cc : Int32) (ra : Int32) (sa : Int32) (rb : Int32) (sb : Int32) (md : Int32) (na : Int32) (nb : Int32) (hc66 : ¬ ((md &&& (16 : Int32)) = (0 : Int32))) (hc86 : ¬ ((md &&& (32 : Int32)) = (0 : Int32))) (hc101 : (md &&& (64 : Int32)) = (0 : Int32)) : Seg l 20 #[.val (.int cc), .val (.int ra), .val (.int sa), .val (.int rb), .val (.int sb), .val (.int md), .val (.int na), .val (.int nb), .unset, .unset, .unset, .unset, .unset, .unset, .unset, .unset, .unset, .unset, .unset, .unset, .unset] 112 #[.val (.int cc), .val (.int ra), .val (.int sa), .val (.int rb), .val (.int sb), .val (.int md), .val (.int na), .val (.int na), .val (.int ((cc &&& (255 : Int32)).toUInt32.toUInt16.toUInt32.toInt32)), .val (.int ((((cc.toUInt32 >>> ((8 : Int32) &&& 31).toUInt32).toInt32) &&& (255 : Int32)).toUInt32.toUInt16.toUInt32.toInt32)), .val (.int ((cc &&& (255 : Int32)).toUInt32.toUInt16.toUInt32.toInt32)), .val (.int ((((cc.toUInt32 >>> ((8 : Int32) &&& 31).toUInt32).toInt32) &&& (255 : Int32)).toUInt32.toUInt16.toUInt32.toInt32)), .val (.int ra), .val (.int sb), .unset, .unset, .unset, .unset, .unset, .unset, .unset] := by
  intro p e R s m args below meth c T locs cells slots X hx hby target k
  show Steps p.tables e below (T.setTop (mkF m 20 #[.val (.int cc), .val (.int ra), .val (.int sa), .val (.int rb), .val (.int sb), .val (.int md), .val (.int na), .val (.int nb), .unset, .unset, .unset, .unset, .unset, .unset, .unset, .unset, .unset, .unset, .unset, .unset, .unset] [])) _
  refine XS.iloadN X.here hx rfl (hb hby at_20) rfl ?_
  show Steps p.tables e below (T.setTop (mkF m 21 #[.val (.int cc), .val (.int ra), .val (.int sa), .val (.int rb), .val (.int sb), .val (.int md), .val (.int na), .val (.int nb), .unset, .unset, .unset, .unset, .unset, .unset, .unset, .unset, .unset, .unset, .unset, .unset, .unset] [(.int cc)])) _
  refine XS.sipush X.here hx rfl (hb hby at_21) ?_
  show Steps p.tables e below (T.setTop (mkF m 24 #[.val (.int cc), .val (.int ra), .val (.int sa), .val (.int rb), .val (.int sb), .val (.int md), .val (.int na), .val (.int nb), .unset, .unset, .unset, .unset, .unset, .unset, .unset, .unset, .unset, .unset, .unset, .unset, .unset] [(.int (255 : Int32)), (.int cc)])) _
  refine XS.iand X.here hx rfl (hb hby at_24) rfl ?_
  show Steps p.tables e below (T.setTop (mkF m 25 #[.val (.int cc), .val (.int ra), .val (.int sa), .val (.int rb), .val (.int sb), .val (.int md), .val (.int na), .val (.int nb), .unset, .unset, .unset, .unset, .unset, .unset, .unset, .unset, .unset, .unset, .unset, .unset, .unset] [(.int (cc &&& (255 : Int32)))])) _
  refine XS.i2c X.here hx rfl (hb hby at_25) rfl ?_
  show Steps p.tables e below (T.setTop (mkF m 26 #[.val (.int cc), .val (.int ra), .val (.int sa), .val (.int rb), .val (.int sb), .val (.int md), .val (.int na), .val (.int nb), .unset, .unset, .unset, .unset, .unset, .unset, .unset, .unset, .unset, .unset, .unset, .unset, .unset] [(.int ((cc &&& (255 : Int32)).toUInt32.toUInt16.toUInt32.toInt32))])) _
  refine XS.istore X.here hx rfl (hb hby at_26) rfl (l' := #[.val (.int cc), .val (.int ra), .val (.int sa), .val (.int rb), .val (.int sb), .val (.int md), .val (.int na), .val (.int nb), .val (.int ((cc &&& (255 : Int32)).toUInt32.toUInt16.toUInt32.toInt32)), .unset, .unset, .unset, .unset, .unset, .unset, .unset, .unset, .unset, .unset, .unset, .unset]) rfl ?_
  show Steps p.tables e below (T.setTop (mkF m 28 #[.val (.int cc), .val (.int ra), .val (.int sa), .val (.int rb), .val (.int sb), .val (.int md), .val (.int na), .val (.int nb), .val (.int ((cc &&& (255 : Int32)).toUInt32.toUInt16.toUInt32.toInt32)), .unset, .unset, .unset, .unset, .unset, .unset, .unset, .unset, .unset, .unset, .unset, .unset] [])) _
  refine XS.iloadN X.here hx rfl (hb hby at_28) rfl ?_
  show Steps p.tables e below (T.setTop (mkF m 29 #[.val (.int cc), .val (.int ra), .val (.int sa), .val (.int rb), .val (.int sb), .val (.int md), .val (.int na), .val (.int nb), .val (.int ((cc &&& (255 : Int32)).toUInt32.toUInt16.toUInt32.toInt32)), .unset, .unset, .unset, .unset, .unset, .unset, .unset, .unset, .unset, .unset, .unset, .unset] [(.int cc)])) _
  refine XS.bipush X.here hx rfl (hb hby at_29) ?_
  show Steps p.tables e below (T.setTop (mkF m 31 #[.val (.int cc), .val (.int ra), .val (.int sa), .val (.int rb), .val (.int sb), .val (.int md), .val (.int na), .val (.int nb), .val (.int ((cc &&& (255 : Int32)).toUInt32.toUInt16.toUInt32.toInt32)), .unset, .unset, .unset, .unset, .unset, .unset, .unset, .unset, .unset, .unset, .unset, .unset] [(.int (8 : Int32)), (.int cc)])) _
  refine XS.iushr X.here hx rfl (hb hby at_31) rfl ?_
  show Steps p.tables e below (T.setTop (mkF m 32 #[.val (.int cc), .val (.int ra), .val (.int sa), .val (.int rb), .val (.int sb), .val (.int md), .val (.int na), .val (.int nb), .val (.int ((cc &&& (255 : Int32)).toUInt32.toUInt16.toUInt32.toInt32)), .unset, .unset, .unset, .unset, .unset, .unset, .unset, .unset, .unset, .unset, .unset, .unset] [(.int ((cc.toUInt32 >>> ((8 : Int32) &&& 31).toUInt32).toInt32))])) _
  refine XS.sipush X.here hx rfl (hb hby at_32) ?_
  show Steps p.tables e below (T.setTop (mkF m 35 #[.val (.int cc), .val (.int ra), .val (.int sa), .val (.int rb), .val (.int sb), .val (.int md), .val (.int na), .val (.int nb), .val (.int ((cc &&& (255 : Int32)).toUInt32.toUInt16.toUInt32.toInt32)), .unset, .unset, .unset, .unset, .unset, .unset, .unset, .unset, .unset, .unset, .unset, .unset] [(.int (255 : Int32)), (.int ((cc.toUInt32 >>> ((8 : Int32) &&& 31).toUInt32).toInt32))])) _
  refine XS.iand X.here hx rfl (hb hby at_35) rfl ?_
  show Steps p.tables e below (T.setTop (mkF m 36 #[.val (.int cc), .val (.int ra), .val (.int sa), .val (.int rb), .val (.int sb), .val (.int md), .val (.int na), .val (.int nb), .val (.int ((cc &&& (255 : Int32)).toUInt32.toUInt16.toUInt32.toInt32)), .unset, .unset, .unset, .unset, .unset, .unset, .unset, .unset, .unset, .unset, .unset, .unset] [(.int (((cc.toUInt32 >>> ((8 : Int32) &&& 31).toUInt32).toInt32) &&& (255 : Int32)))])) _
  refine XS.i2c X.here hx rfl (hb hby at_36) rfl ?_
  show Steps p.tables e below (T.setTop (mkF m 37 #[.val (.int cc), .val (.int ra), .val (.int sa), .val (.int rb), .val (.int sb), .val (.int md), .val (.int na), .val (.int nb), .val (.int ((cc &&& (255 : Int32)).toUInt32.toUInt16.toUInt32.toInt32)), .unset, .unset, .unset, .unset, .unset, .unset, .unset, .unset, .unset, .unset, .unset, .unset] [(.int ((((cc.toUInt32 >>> ((8 : Int32) &&& 31).toUInt32).toInt32) &&& (255 : Int32)).toUInt32.toUInt16.toUInt32.toInt32))])) _
  refine XS.istore X.here hx rfl (hb hby at_37) rfl (l' := #[.val (.int cc), .val (.int ra), .val (.int sa), .val (.int rb), .val (.int sb), .val (.int md), .val (.int na), .val (.int nb), .val (.int ((cc &&& (255 : Int32)).toUInt32.toUInt16.toUInt32.toInt32)), .val (.int ((((cc.toUInt32 >>> ((8 : Int32) &&& 31).toUInt32).toInt32) &&& (255 : Int32)).toUInt32.toUInt16.toUInt32.toInt32)), .unset, .unset, .unset, .unset, .unset, .unset, .unset, .unset, .unset, .unset, .unset]) rfl ?_
  show Steps p.tables e below (T.setTop (mkF m 39 #[.val (.int cc), .val (.int ra), .val (.int sa), .val (.int rb), .val (.int sb), .val (.int md), .val (.int na), .val (.int nb), .val (.int ((cc &&& (255 : Int32)).toUInt32.toUInt16.toUInt32.toInt32)), .val (.int ((((cc.toUInt32 >>> ((8 : Int32) &&& 31).toUInt32).toInt32) &&& (255 : Int32)).toUInt32.toUInt16.toUInt32.toInt32)), .unset, .unset, .unset, .unset, .unset, .unset, .unset, .unset, .unset, .unset, .unset] [])) _
  refine XS.iloadN X.here hx rfl (hb hby at_39) rfl ?_
  show Steps p.tables e below (T.setTop (mkF m 40 #[.val (.int cc), .val (.int ra), .val (.int sa), .val (.int rb), .val (.int sb), .val (.int md), .val (.int na), .val (.int nb), .val (.int ((cc &&& (255 : Int32)).toUInt32.toUInt16.toUInt32.toInt32)), .val (.int ((((cc.toUInt32 >>> ((8 : Int32) &&& 31).toUInt32).toInt32) &&& (255 : Int32)).toUInt32.toUInt16.toUInt32.toInt32)), .unset, .unset, .unset, .unset, .unset, .unset, .unset, .unset, .unset, .unset, .unset] [(.int cc)])) _
  refine XS.bipush X.here hx rfl (hb hby at_40) ?_
  show Steps p.tables e below (T.setTop (mkF m 42 #[.val (.int cc), .val (.int ra), .val (.int sa), .val (.int rb), .val (.int sb), .val (.int md), .val (.int na), .val (.int nb), .val (.int ((cc &&& (255 : Int32)).toUInt32.toUInt16.toUInt32.toInt32)), .val (.int ((((cc.toUInt32 >>> ((8 : Int32) &&& 31).toUInt32).toInt32) &&& (255 : Int32)).toUInt32.toUInt16.toUInt32.toInt32)), .unset, .unset, .unset, .unset, .unset, .unset, .unset, .unset, .unset, .unset, .unset] [(.int (16 : Int32)), (.int cc)])) _
  refine XS.iushr X.here hx rfl (hb hby at_42) rfl ?_
  show Steps p.tables e below (T.setTop (mkF m 43 #[.val (.int cc), .val (.int ra), .val (.int sa), .val (.int rb), .val (.int sb), .val (.int md), .val (.int na), .val (.int nb), .val (.int ((cc &&& (255 : Int32)).toUInt32.toUInt16.toUInt32.toInt32)), .val (.int ((((cc.toUInt32 >>> ((8 : Int32) &&& 31).toUInt32).toInt32) &&& (255 : Int32)).toUInt32.toUInt16.toUInt32.toInt32)), .unset, .unset, .unset, .unset, .unset, .unset, .unset, .unset, .unset, .unset, .unset] [(.int ((cc.toUInt32 >>> ((16 : Int32) &&& 31).toUInt32).toInt32))])) _
  refine XS.sipush X.here hx rfl (hb hby at_43) ?_
  show Steps p.tables e below (T.setTop (mkF m 46 #[.val (.int cc), .val (.int ra), .val (.int sa), .val (.int rb), .val (.int sb), .val (.int md), .val (.int na), .val (.int nb), .val (.int ((cc &&& (255 : Int32)).toUInt32.toUInt16.toUInt32.toInt32)), .val (.int ((((cc.toUInt32 >>> ((8 : Int32) &&& 31).toUInt32).toInt32) &&& (255 : Int32)).toUInt32.toUInt16.toUInt32.toInt32)), .unset, .unset, .unset, .unset, .unset, .unset, .unset, .unset, .unset, .unset, .unset] [(.int (255 : Int32)), (.int ((cc.toUInt32 >>> ((16 : Int32) &&& 31).toUInt32).toInt32))])) _
  refine XS.iand X.here hx rfl (hb hby at_46) rfl ?_
  show Steps p.tables e below (T.setTop (mkF m 47 #[.val (.int cc), .val (.int ra), .val (.int sa), .val (.int rb), .val (.int sb), .val (.int md), .val (.int na), .val (.int nb), .val (.int ((cc &&& (255 : Int32)).toUInt32.toUInt16.toUInt32.toInt32)), .val (.int ((((cc.toUInt32 >>> ((8 : Int32) &&& 31).toUInt32).toInt32) &&& (255 : Int32)).toUInt32.toUInt16.toUInt32.toInt32)), .unset, .unset, .unset, .unset, .unset, .unset, .unset, .unset, .unset, .unset, .unset] [(.int (((cc.toUInt32 >>> ((16 : Int32) &&& 31).toUInt32).toInt32) &&& (255 : Int32)))])) _
  refine XS.i2c X.here hx rfl (hb hby at_47) rfl ?_
  show Steps p.tables e below (T.setTop (mkF m 48 #[.val (.int cc), .val (.int ra), .val (.int sa), .val (.int rb), .val (.int sb), .val (.int md), .val (.int na), .val (.int nb), .val (.int ((cc &&& (255 : Int32)).toUInt32.toUInt16.toUInt32.toInt32)), .val (.int ((((cc.toUInt32 >>> ((8 : Int32) &&& 31).toUInt32).toInt32) &&& (255 : Int32)).toUInt32.toUInt16.toUInt32.toInt32)), .unset, .unset, .unset, .unset, .unset, .unset, .unset, .unset, .unset, .unset, .unset] [(.int ((((cc.toUInt32 >>> ((16 : Int32) &&& 31).toUInt32).toInt32) &&& (255 : Int32)).toUInt32.toUInt16.toUInt32.toInt32))])) _
  refine XS.istore X.here hx rfl (hb hby at_48) rfl (l' := #[.val (.int cc), .val (.int ra), .val (.int sa), .val (.int rb), .val (.int sb), .val (.int md), .val (.int na), .val (.int nb), .val (.int ((cc &&& (255 : Int32)).toUInt32.toUInt16.toUInt32.toInt32)), .val (.int ((((cc.toUInt32 >>> ((8 : Int32) &&& 31).toUInt32).toInt32) &&& (255 : Int32)).toUInt32.toUInt16.toUInt32.toInt32)), .val (.int ((((cc.toUInt32 >>> ((16 : Int32) &&& 31).toUInt32).toInt32) &&& (255 : Int32)).toUInt32.toUInt16.toUInt32.toInt32)), .unset, .unset, .unset, .unset, .unset, .unset, .unset, .unset, .unset, .unset]) rfl ?_
  show Steps p.tables e below (T.setTop (mkF m 50 #[.val (.int cc), .val (.int ra), .val (.int sa), .val (.int rb), .val (.int sb), .val (.int md), .val (.int na), .val (.int nb), .val (.int ((cc &&& (255 : Int32)).toUInt32.toUInt16.toUInt32.toInt32)), .val (.int ((((cc.toUInt32 >>> ((8 : Int32) &&& 31).toUInt32).toInt32) &&& (255 : Int32)).toUInt32.toUInt16.toUInt32.toInt32)), .val (.int ((((cc.toUInt32 >>> ((16 : Int32) &&& 31).toUInt32).toInt32) &&& (255 : Int32)).toUInt32.toUInt16.toUInt32.toInt32)), .unset, .unset, .unset, .unset, .unset, .unset, .unset, .unset, .unset, .unset] [])) _
  refine XS.iloadN X.here hx rfl (hb hby at_50) rfl ?_
  show Steps p.tables e below (T.setTop (mkF m 51 #[.val (.int cc), .val (.int ra), .val (.int sa), .val (.int rb), .val (.int sb), .val (.int md), .val (.int na), .val (.int nb), .val (.int ((cc &&& (255 : Int32)).toUInt32.toUInt16.toUInt32.toInt32)), .val (.int ((((cc.toUInt32 >>> ((8 : Int32) &&& 31).toUInt32).toInt32) &&& (255 : Int32)).toUInt32.toUInt16.toUInt32.toInt32)), .val (.int ((((cc.toUInt32 >>> ((16 : Int32) &&& 31).toUInt32).toInt32) &&& (255 : Int32)).toUInt32.toUInt16.toUInt32.toInt32)), .unset, .unset, .unset, .unset, .unset, .unset, .unset, .unset, .unset, .unset] [(.int cc)])) _
  refine XS.bipush X.here hx rfl (hb hby at_51) ?_
  show Steps p.tables e below (T.setTop (mkF m 53 #[.val (.int cc), .val (.int ra), .val (.int sa), .val (.int rb), .val (.int sb), .val (.int md), .val (.int na), .val (.int nb), .val (.int ((cc &&& (255 : Int32)).toUInt32.toUInt16.toUInt32.toInt32)), .val (.int ((((cc.toUInt32 >>> ((8 : Int32) &&& 31).toUInt32).toInt32) &&& (255 : Int32)).toUInt32.toUInt16.toUInt32.toInt32)), .val (.int ((((cc.toUInt32 >>> ((16 : Int32) &&& 31).toUInt32).toInt32) &&& (255 : Int32)).toUInt32.toUInt16.toUInt32.toInt32)), .unset, .unset, .unset, .unset, .unset, .unset, .unset, .unset, .unset, .unset] [(.int (24 : Int32)), (.int cc)])) _
  refine XS.iushr X.here hx rfl (hb hby at_53) rfl ?_
  show Steps p.tables e below (T.setTop (mkF m 54 #[.val (.int cc), .val (.int ra), .val (.int sa), .val (.int rb), .val (.int sb), .val (.int md), .val (.int na), .val (.int nb), .val (.int ((cc &&& (255 : Int32)).toUInt32.toUInt16.toUInt32.toInt32)), .val (.int ((((cc.toUInt32 >>> ((8 : Int32) &&& 31).toUInt32).toInt32) &&& (255 : Int32)).toUInt32.toUInt16.toUInt32.toInt32)), .val (.int ((((cc.toUInt32 >>> ((16 : Int32) &&& 31).toUInt32).toInt32) &&& (255 : Int32)).toUInt32.toUInt16.toUInt32.toInt32)), .unset, .unset, .unset, .unset, .unset, .unset, .unset, .unset, .unset, .unset] [(.int ((cc.toUInt32 >>> ((24 : Int32) &&& 31).toUInt32).toInt32))])) _
  refine XS.sipush X.here hx rfl (hb hby at_54) ?_
  show Steps p.tables e below (T.setTop (mkF m 57 #[.val (.int cc), .val (.int ra), .val (.int sa), .val (.int rb), .val (.int sb), .val (.int md), .val (.int na), .val (.int nb), .val (.int ((cc &&& (255 : Int32)).toUInt32.toUInt16.toUInt32.toInt32)), .val (.int ((((cc.toUInt32 >>> ((8 : Int32) &&& 31).toUInt32).toInt32) &&& (255 : Int32)).toUInt32.toUInt16.toUInt32.toInt32)), .val (.int ((((cc.toUInt32 >>> ((16 : Int32) &&& 31).toUInt32).toInt32) &&& (255 : Int32)).toUInt32.toUInt16.toUInt32.toInt32)), .unset, .unset, .unset, .unset, .unset, .unset, .unset, .unset, .unset, .unset] [(.int (255 : Int32)), (.int ((cc.toUInt32 >>> ((24 : Int32) &&& 31).toUInt32).toInt32))])) _
  refine XS.iand X.here hx rfl (hb hby at_57) rfl ?_
  show Steps p.tables e below (T.setTop (mkF m 58 #[.val (.int cc), .val (.int ra), .val (.int sa), .val (.int rb), .val (.int sb), .val (.int md), .val (.int na), .val (.int nb), .val (.int ((cc &&& (255 : Int32)).toUInt32.toUInt16.toUInt32.toInt32)), .val (.int ((((cc.toUInt32 >>> ((8 : Int32) &&& 31).toUInt32).toInt32) &&& (255 : Int32)).toUInt32.toUInt16.toUInt32.toInt32)), .val (.int ((((cc.toUInt32 >>> ((16 : Int32) &&& 31).toUInt32).toInt32) &&& (255 : Int32)).toUInt32.toUInt16.toUInt32.toInt32)), .unset, .unset, .unset, .unset, .unset, .unset, .unset, .unset, .unset, .unset] [(.int (((cc.toUInt32 >>> ((24 : Int32) &&& 31).toUInt32).toInt32) &&& (255 : Int32)))])) _
  refine XS.i2c X.here hx rfl (hb hby at_58) rfl ?_
  show Steps p.tables e below (T.setTop (mkF m 59 #[.val (.int cc), .val (.int ra), .val (.int sa), .val (.int rb), .val (.int sb), .val (.int md), .val (.int na), .val (.int nb), .val (.int ((cc &&& (255 : Int32)).toUInt32.toUInt16.toUInt32.toInt32)), .val (.int ((((cc.toUInt32 >>> ((8 : Int32) &&& 31).toUInt32).toInt32) &&& (255 : Int32)).toUInt32.toUInt16.toUInt32.toInt32)), .val (.int ((((cc.toUInt32 >>> ((16 : Int32) &&& 31).toUInt32).toInt32) &&& (255 : Int32)).toUInt32.toUInt16.toUInt32.toInt32)), .unset, .unset, .unset, .unset, .unset, .unset, .unset, .unset, .unset, .unset] [(.int ((((cc.toUInt32 >>> ((24 : Int32) &&& 31).toUInt32).toInt32) &&& (255 : Int32)).toUInt32.toUInt16.toUInt32.toInt32))])) _
  refine XS.istore X.here hx rfl (hb hby at_59) rfl (l' := #[.val (.int cc), .val (.int ra), .val (.int sa), .val (.int rb), .val (.int sb), .val (.int md), .val (.int na), .val (.int nb), .val (.int ((cc &&& (255 : Int32)).toUInt32.toUInt16.toUInt32.toInt32)), .val (.int ((((cc.toUInt32 >>> ((8 : Int32) &&& 31).toUInt32).toInt32) &&& (255 : Int32)).toUInt32.toUInt16.toUInt32.toInt32)), .val (.int ((((cc.toUInt32 >>> ((16 : Int32) &&& 31).toUInt32).toInt32) &&& (255 : Int32)).toUInt32.toUInt16.toUInt32.toInt32)), .val (.int ((((cc.toUInt32 >>> ((24 : Int32) &&& 31).toUInt32).toInt32) &&& (255 : Int32)).toUInt32.toUInt16.toUInt32.toInt32)), .unset, .unset, .unset, .unset, .unset, .unset, .unset, .unset, .unset]) rfl ?_
  show Steps p.tables e below (T.setTop (mkF m 61 #[.val (.int cc), .val (.int ra), .val (.int sa), .val (.int rb), .val (.int sb), .val (.int md), .val (.int na), .val (.int nb), .val (.int ((cc &&& (255 : Int32)).toUInt32.toUInt16.toUInt32.toInt32)), .val (.int ((((cc.toUInt32 >>> ((8 : Int32) &&& 31).toUInt32).toInt32) &&& (255 : Int32)).toUInt32.toUInt16.toUInt32.toInt32)), .val (.int ((((cc.toUInt32 >>> ((16 : Int32) &&& 31).toUInt32).toInt32) &&& (255 : Int32)).toUInt32.toUInt16.toUInt32.toInt32)), .val (.int ((((cc.toUInt32 >>> ((24 : Int32) &&& 31).toUInt32).toInt32) &&& (255 : Int32)).toUInt32.toUInt16.toUInt32.toInt32)), .unset, .unset, .unset, .unset, .unset, .unset, .unset, .unset, .unset] [])) _
  refine XS.iload X.here hx rfl (hb hby at_61) rfl ?_
  show Steps p.tables e below (T.setTop (mkF m 63 #[.val (.int cc), .val (.int ra), .val (.int sa), .val (.int rb), .val (.int sb), .val (.int md), .val (.int na), .val (.int nb), .val (.int ((cc &&& (255 : Int32)).toUInt32.toUInt16.toUInt32.toInt32)), .val (.int ((((cc.toUInt32 >>> ((8 : Int32) &&& 31).toUInt32).toInt32) &&& (255 : Int32)).toUInt32.toUInt16.toUInt32.toInt32)), .val (.int ((((cc.toUInt32 >>> ((16 : Int32) &&& 31).toUInt32).toInt32) &&& (255 : Int32)).toUInt32.toUInt16.toUInt32.toInt32)), .val (.int ((((cc.toUInt32 >>> ((24 : Int32) &&& 31).toUInt32).toInt32) &&& (255 : Int32)).toUInt32.toUInt16.toUInt32.toInt32)), .unset, .unset, .unset, .unset, .unset, .unset, .unset, .unset, .unset] [(.int md)])) _
  refine XS.bipush X.here hx rfl (hb hby at_63) ?_
  show Steps p.tables e below (T.setTop (mkF m 65 #[.val (.int cc), .val (.int ra), .val (.int sa), .val (.int rb), .val (.int sb), .val (.int md), .val (.int na), .val (.int nb), .val (.int ((cc &&& (255 : Int32)).toUInt32.toUInt16.toUInt32.toInt32)), .val (.int ((((cc.toUInt32 >>> ((8 : Int32) &&& 31).toUInt32).toInt32) &&& (255 : Int32)).toUInt32.toUInt16.toUInt32.toInt32)), .val (.int ((((cc.toUInt32 >>> ((16 : Int32) &&& 31).toUInt32).toInt32) &&& (255 : Int32)).toUInt32.toUInt16.toUInt32.toInt32)), .val (.int ((((cc.toUInt32 >>> ((24 : Int32) &&& 31).toUInt32).toInt32) &&& (255 : Int32)).toUInt32.toUInt16.toUInt32.toInt32)), .unset, .unset, .unset, .unset, .unset, .unset, .unset, .unset, .unset] [(.int (16 : Int32)), (.int md)])) _
  refine XS.iand X.here hx rfl (hb hby at_65) rfl ?_
  show Steps p.tables e below (T.setTop (mkF m 66 #[.val (.int cc), .val (.int ra), .val (.int sa), .val (.int rb), .val (.int sb), .val (.int md), .val (.int na), .val (.int nb), .val (.int ((cc &&& (255 : Int32)).toUInt32.toUInt16.toUInt32.toInt32)), .val (.int ((((cc.toUInt32 >>> ((8 : Int32) &&& 31).toUInt32).toInt32) &&& (255 : Int32)).toUInt32.toUInt16.toUInt32.toInt32)), .val (.int ((((cc.toUInt32 >>> ((16 : Int32) &&& 31).toUInt32).toInt32) &&& (255 : Int32)).toUInt32.toUInt16.toUInt32.toInt32)), .val (.int ((((cc.toUInt32 >>> ((24 : Int32) &&& 31).toUInt32).toInt32) &&& (255 : Int32)).toUInt32.toUInt16.toUInt32.toInt32)), .unset, .unset, .unset, .unset, .unset, .unset, .unset, .unset, .unset] [(.int (md &&& (16 : Int32)))])) _
  refine XS.ifNo X.here hx rfl (hb hby at_66) rfl ((if0 _ _).trans (feq hc66).1) ?_
  show Steps p.tables e below (T.setTop (mkF m 69 #[.val (.int cc), .val (.int ra), .val (.int sa), .val (.int rb), .val (.int sb), .val (.int md), .val (.int na), .val (.int nb), .val (.int ((cc &&& (255 : Int32)).toUInt32.toUInt16.toUInt32.toInt32)), .val (.int ((((cc.toUInt32 >>> ((8 : Int32) &&& 31).toUInt32).toInt32) &&& (255 : Int32)).toUInt32.toUInt16.toUInt32.toInt32)), .val (.int ((((cc.toUInt32 >>> ((16 : Int32) &&& 31).toUInt32).toInt32) &&& (255 : Int32)).toUInt32.toUInt16.toUInt32.toInt32)), .val (.int ((((cc.toUInt32 >>> ((24 : Int32) &&& 31).toUInt32).toInt32) &&& (255 : Int32)).toUInt32.toUInt16.toUInt32.toInt32)), .unset, .unset, .unset, .unset, .unset, .unset, .unset, .unset, .unset] [])) _
  refine XS.iload X.here hx rfl (hb hby at_69) rfl ?_
  show Steps p.tables e below (T.setTop (mkF m 71 #[.val (.int cc), .val (.int ra), .val (.int sa), .val (.int rb), .val (.int sb), .val (.int md), .val (.int na), .val (.int nb), .val (.int ((cc &&& (255 : Int32)).toUInt32.toUInt16.toUInt32.toInt32)), .val (.int ((((cc.toUInt32 >>> ((8 : Int32) &&& 31).toUInt32).toInt32) &&& (255 : Int32)).toUInt32.toUInt16.toUInt32.toInt32)), .val (.int ((((cc.toUInt32 >>> ((16 : Int32) &&& 31).toUInt32).toInt32) &&& (255 : Int32)).toUInt32.toUInt16.toUInt32.toInt32)), .val (.int ((((cc.toUInt32 >>> ((24 : Int32) &&& 31).toUInt32).toInt32) &&& (255 : Int32)).toUInt32.toUInt16.toUInt32.toInt32)), .unset, .unset, .unset, .unset, .unset, .unset, .unset, .unset, .unset] [(.int na)])) _
  refine XS.istore X.here hx rfl (hb hby at_71) rfl (l' := #[.val (.int cc), .val (.int ra), .val (.int sa), .val (.int rb), .val (.int sb), .val (.int md), .val (.int na), .val (.int na), .val (.int ((cc &&& (255 : Int32)).toUInt32.toUInt16.toUInt32.toInt32)), .val (.int ((((cc.toUInt32 >>> ((8 : Int32) &&& 31).toUInt32).toInt32) &&& (255 : Int32)).toUInt32.toUInt16.toUInt32.toInt32)), .val (.int ((((cc.toUInt32 >>> ((16 : Int32) &&& 31).toUInt32).toInt32) &&& (255 : Int32)).toUInt32.toUInt16.toUInt32.toInt32)), .val (.int ((((cc.toUInt32 >>> ((24 : Int32) &&& 31).toUInt32).toInt32) &&& (255 : Int32)).toUInt32.toUInt16.toUInt32.toInt32)), .unset, .unset, .unset, .unset, .unset, .unset, .unset, .unset, .unset]) rfl ?_
  show Steps p.tables e below (T.setTop (mkF m 73 #[.val (.int cc), .val (.int ra), .val (.int sa), .val (.int rb), .val (.int sb), .val (.int md), .val (.int na), .val (.int na), .val (.int ((cc &&& (255 : Int32)).toUInt32.toUInt16.toUInt32.toInt32)), .val (.int ((((cc.toUInt32 >>> ((8 : Int32) &&& 31).toUInt32).toInt32) &&& (255 : Int32)).toUInt32.toUInt16.toUInt32.toInt32)), .val (.int ((((cc.toUInt32 >>> ((16 : Int32) &&& 31).toUInt32).toInt32) &&& (255 : Int32)).toUInt32.toUInt16.toUInt32.toInt32)), .val (.int ((((cc.toUInt32 >>> ((24 : Int32) &&& 31).toUInt32).toInt32) &&& (255 : Int32)).toUInt32.toUInt16.toUInt32.toInt32)), .unset, .unset, .unset, .unset, .unset, .unset, .unset, .unset, .unset] [])) _
  refine XS.iload X.here hx rfl (hb hby at_73) rfl ?_
  show Steps p.tables e below (T.setTop (mkF m 75 #[.val (.int cc), .val (.int ra), .val (.int sa), .val (.int rb), .val (.int sb), .val (.int md), .val (.int na), .val (.int na), .val (.int ((cc &&& (255 : Int32)).toUInt32.toUInt16.toUInt32.toInt32)), .val (.int ((((cc.toUInt32 >>> ((8 : Int32) &&& 31).toUInt32).toInt32) &&& (255 : Int32)).toUInt32.toUInt16.toUInt32.toInt32)), .val (.int ((((cc.toUInt32 >>> ((16 : Int32) &&& 31).toUInt32).toInt32) &&& (255 : Int32)).toUInt32.toUInt16.toUInt32.toInt32)), .val (.int ((((cc.toUInt32 >>> ((24 : Int32) &&& 31).toUInt32).toInt32) &&& (255 : Int32)).toUInt32.toUInt16.toUInt32.toInt32)), .unset, .unset, .unset, .unset, .unset, .unset, .unset, .unset, .unset] [(.int ((cc &&& (255 : Int32)).toUInt32.toUInt16.toUInt32.toInt32))])) _
  refine XS.istore X.here hx rfl (hb hby at_75) rfl (l' := #[.val (.int cc), .val (.int ra), .val (.int sa), .val (.int rb), .val (.int sb), .val (.int md), .val (.int na), .val (.int na), .val (.int ((cc &&& (255 : Int32)).toUInt32.toUInt16.toUInt32.toInt32)), .val (.int ((((cc.toUInt32 >>> ((8 : Int32) &&& 31).toUInt32).toInt32) &&& (255 : Int32)).toUInt32.toUInt16.toUInt32.toInt32)), .val (.int ((cc &&& (255 : Int32)).toUInt32.toUInt16.toUInt32.toInt32)), .val (.int ((((cc.toUInt32 >>> ((24 : Int32) &&& 31).toUInt32).toInt32) &&& (255 : Int32)).toUInt32.toUInt16.toUInt32.toInt32)), .unset, .unset, .unset, .unset, .unset, .unset, .unset, .unset, .unset]) rfl ?_
  show Steps p.tables e below (T.setTop (mkF m 77 #[.val (.int cc), .val (.int ra), .val (.int sa), .val (.int rb), .val (.int sb), .val (.int md), .val (.int na), .val (.int na), .val (.int ((cc &&& (255 : Int32)).toUInt32.toUInt16.toUInt32.toInt32)), .val (.int ((((cc.toUInt32 >>> ((8 : Int32) &&& 31).toUInt32).toInt32) &&& (255 : Int32)).toUInt32.toUInt16.toUInt32.toInt32)), .val (.int ((cc &&& (255 : Int32)).toUInt32.toUInt16.toUInt32.toInt32)), .val (.int ((((cc.toUInt32 >>> ((24 : Int32) &&& 31).toUInt32).toInt32) &&& (255 : Int32)).toUInt32.toUInt16.toUInt32.toInt32)), .unset, .unset, .unset, .unset, .unset, .unset, .unset, .unset, .unset] [])) _
  refine XS.iload X.here hx rfl (hb hby at_77) rfl ?_
  show Steps p.tables e below (T.setTop (mkF m 79 #[.val (.int cc), .val (.int ra), .val (.int sa), .val (.int rb), .val (.int sb), .val (.int md), .val (.int na), .val (.int na), .val (.int ((cc &&& (255 : Int32)).toUInt32.toUInt16.toUInt32.toInt32)), .val (.int ((((cc.toUInt32 >>> ((8 : Int32) &&& 31).toUInt32).toInt32) &&& (255 : Int32)).toUInt32.toUInt16.toUInt32.toInt32)), .val (.int ((cc &&& (255 : Int32)).toUInt32.toUInt16.toUInt32.toInt32)), .val (.int ((((cc.toUInt32 >>> ((24 : Int32) &&& 31).toUInt32).toInt32) &&& (255 : Int32)).toUInt32.toUInt16.toUInt32.toInt32)), .unset, .unset, .unset, .unset, .unset, .unset, .unset, .unset, .unset] [(.int ((((cc.toUInt32 >>> ((8 : Int32) &&& 31).toUInt32).toInt32) &&& (255 : Int32)).toUInt32.toUInt16.toUInt32.toInt32))])) _
  refine XS.istore X.here hx rfl (hb hby at_79) rfl (l' := #[.val (.int cc), .val (.int ra), .val (.int sa), .val (.int rb), .val (.int sb), .val (.int md), .val (.int na), .val (.int na), .val (.int ((cc &&& (255 : Int32)).toUInt32.toUInt16.toUInt32.toInt32)), .val (.int ((((cc.toUInt32 >>> ((8 : Int32) &&& 31).toUInt32).toInt32) &&& (255 : Int32)).toUInt32.toUInt16.toUInt32.toInt32)), .val (.int ((cc &&& (255 : Int32)).toUInt32.toUInt16.toUInt32.toInt32)), .val (.int ((((cc.toUInt32 >>> ((8 : Int32) &&& 31).toUInt32).toInt32) &&& (255 : Int32)).toUInt32.toUInt16.toUInt32.toInt32)), .unset, .unset, .unset, .unset, .unset, .unset, .unset, .unset, .unset]) rfl ?_
  show Steps p.tables e below (T.setTop (mkF m 81 #[.val (.int cc), .val (.int ra), .val (.int sa), .val (.int rb), .val (.int sb), .val (.int md), .val (.int na), .val (.int na), .val (.int ((cc &&& (255 : Int32)).toUInt32.toUInt16.toUInt32.toInt32)), .val (.int ((((cc.toUInt32 >>> ((8 : Int32) &&& 31).toUInt32).toInt32) &&& (255 : Int32)).toUInt32.toUInt16.toUInt32.toInt32)), .val (.int ((cc &&& (255 : Int32)).toUInt32.toUInt16.toUInt32.toInt32)), .val (.int ((((cc.toUInt32 >>> ((8 : Int32) &&& 31).toUInt32).toInt32) &&& (255 : Int32)).toUInt32.toUInt16.toUInt32.toInt32)), .unset, .unset, .unset, .unset, .unset, .unset, .unset, .unset, .unset] [])) _
  refine XS.iload X.here hx rfl (hb hby at_81) rfl ?_
  show Steps p.tables e below (T.setTop (mkF m 83 #[.val (.int cc), .val (.int ra), .val (.int sa), .val (.int rb), .val (.int sb), .val (.int md), .val (.int na), .val (.int na), .val (.int ((cc &&& (255 : Int32)).toUInt32.toUInt16.toUInt32.toInt32)), .val (.int ((((cc.toUInt32 >>> ((8 : Int32) &&& 31).toUInt32).toInt32) &&& (255 : Int32)).toUInt32.toUInt16.toUInt32.toInt32)), .val (.int ((cc &&& (255 : Int32)).toUInt32.toUInt16.toUInt32.toInt32)), .val (.int ((((cc.toUInt32 >>> ((8 : Int32) &&& 31).toUInt32).toInt32) &&& (255 : Int32)).toUInt32.toUInt16.toUInt32.toInt32)), .unset, .unset, .unset, .unset, .unset, .unset, .unset, .unset, .unset] [(.int md)])) _
  refine XS.bipush X.here hx rfl (hb hby at_83) ?_
  show Steps p.tables e below (T.setTop (mkF m 85 #[.val (.int cc), .val (.int ra), .val (.int sa), .val (.int rb), .val (.int sb), .val (.int md), .val (.int na), .val (.int na), .val (.int ((cc &&& (255 : Int32)).toUInt32.toUInt16.toUInt32.toInt32)), .val (.int ((((cc.toUInt32 >>> ((8 : Int32) &&& 31).toUInt32).toInt32) &&& (255 : Int32)).toUInt32.toUInt16.toUInt32.toInt32)), .val (.int ((cc &&& (255 : Int32)).toUInt32.toUInt16.toUInt32.toInt32)), .val (.int ((((cc.toUInt32 >>> ((8 : Int32) &&& 31).toUInt32).toInt32) &&& (255 : Int32)).toUInt32.toUInt16.toUInt32.toInt32)), .unset, .unset, .unset, .unset, .unset, .unset, .unset, .unset, .unset] [(.int (32 : Int32)), (.int md)])) _
  refine XS.iand X.here hx rfl (hb hby at_85) rfl ?_
  show Steps p.tables e below (T.setTop (mkF m 86 #[.val (.int cc), .val (.int ra), .val (.int sa), .val (.int rb), .val (.int sb), .val (.int md), .val (.int na), .val (.int na), .val (.int ((cc &&& (255 : Int32)).toUInt32.toUInt16.toUInt32.toInt32)), .val (.int ((((cc.toUInt32 >>> ((8 : Int32) &&& 31).toUInt32).toInt32) &&& (255 : Int32)).toUInt32.toUInt16.toUInt32.toInt32)), .val (.int ((cc &&& (255 : Int32)).toUInt32.toUInt16.toUInt32.toInt32)), .val (.int ((((cc.toUInt32 >>> ((8 : Int32) &&& 31).toUInt32).toInt32) &&& (255 : Int32)).toUInt32.toUInt16.toUInt32.toInt32)), .unset, .unset, .unset, .unset, .unset, .unset, .unset, .unset, .unset] [(.int (md &&& (32 : Int32)))])) _
  refine XS.ifNo X.here hx rfl (hb hby at_86) rfl ((if0 _ _).trans (feq hc86).1) ?_
  show Steps p.tables e below (T.setTop (mkF m 89 #[.val (.int cc), .val (.int ra), .val (.int sa), .val (.int rb), .val (.int sb), .val (.int md), .val (.int na), .val (.int na), .val (.int ((cc &&& (255 : Int32)).toUInt32.toUInt16.toUInt32.toInt32)), .val (.int ((((cc.toUInt32 >>> ((8 : Int32) &&& 31).toUInt32).toInt32) &&& (255 : Int32)).toUInt32.toUInt16.toUInt32.toInt32)), .val (.int ((cc &&& (255 : Int32)).toUInt32.toUInt16.toUInt32.toInt32)), .val (.int ((((cc.toUInt32 >>> ((8 : Int32) &&& 31).toUInt32).toInt32) &&& (255 : Int32)).toUInt32.toUInt16.toUInt32.toInt32)), .unset, .unset, .unset, .unset, .unset, .unset, .unset, .unset, .unset] [])) _
  refine XS.iloadN X.here hx rfl (hb hby at_89) rfl ?_
  show Steps p.tables e below (T.setTop (mkF m 90 #[.val (.int cc), .val (.int ra), .val (.int sa), .val (.int rb), .val (.int sb), .val (.int md), .val (.int na), .val (.int na), .val (.int ((cc &&& (255 : Int32)).toUInt32.toUInt16.toUInt32.toInt32)), .val (.int ((((cc.toUInt32 >>> ((8 : Int32) &&& 31).toUInt32).toInt32) &&& (255 : Int32)).toUInt32.toUInt16.toUInt32.toInt32)), .val (.int ((cc &&& (255 : Int32)).toUInt32.toUInt16.toUInt32.toInt32)), .val (.int ((((cc.toUInt32 >>> ((8 : Int32) &&& 31).toUInt32).toInt32) &&& (255 : Int32)).toUInt32.toUInt16.toUInt32.toInt32)), .unset, .unset, .unset, .unset, .unset, .unset, .unset, .unset, .unset] [(.int ra)])) _
  refine XS.goto X.here hx rfl (pc0 := 90) (pc' := 94) rfl (hb hby at_90) (by decide) (by decide) ?_
  show Steps p.tables e below (T.setTop (mkF m 94 #[.val (.int cc), .val (.int ra), .val (.int sa), .val (.int rb), .val (.int sb), .val (.int md), .val (.int na), .val (.int na), .val (.int ((cc &&& (255 : Int32)).toUInt32.toUInt16.toUInt32.toInt32)), .val (.int ((((cc.toUInt32 >>> ((8 : Int32) &&& 31).toUInt32).toInt32) &&& (255 : Int32)).toUInt32.toUInt16.toUInt32.toInt32)), .val (.int ((cc &&& (255 : Int32)).toUInt32.toUInt16.toUInt32.toInt32)), .val (.int ((((cc.toUInt32 >>> ((8 : Int32) &&& 31).toUInt32).toInt32) &&& (255 : Int32)).toUInt32.toUInt16.toUInt32.toInt32)), .unset, .unset, .unset, .unset, .unset, .unset, .unset, .unset, .unset] [(.int ra)])) _
  refine XS.istore X.here hx rfl (hb hby at_94) rfl (l' := #[.val (.int cc), .val (.int ra), .val (.int sa), .val (.int rb), .val (.int sb), .val (.int md), .val (.int na), .val (.int na), .val (.int ((cc &&& (255 : Int32)).toUInt32.toUInt16.toUInt32.toInt32)), .val (.int ((((cc.toUInt32 >>> ((8 : Int32) &&& 31).toUInt32).toInt32) &&& (255 : Int32)).toUInt32.toUInt16.toUInt32.toInt32)), .val (.int ((cc &&& (255 : Int32)).toUInt32.toUInt16.toUInt32.toInt32)), .val (.int ((((cc.toUInt32 >>> ((8 : Int32) &&& 31).toUInt32).toInt32) &&& (255 : Int32)).toUInt32.toUInt16.toUInt32.toInt32)), .val (.int ra), .unset, .unset, .unset, .unset, .unset, .unset, .unset, .unset]) rfl ?_
  show Steps p.tables e below (T.setTop (mkF m 96 #[.val (.int cc), .val (.int ra), .val (.int sa), .val (.int rb), .val (.int sb), .val (.int md), .val (.int na), .val (.int na), .val (.int ((cc &&& (255 : Int32)).toUInt32.toUInt16.toUInt32.toInt32)), .val (.int ((((cc.toUInt32 >>> ((8 : Int32) &&& 31).toUInt32).toInt32) &&& (255 : Int32)).toUInt32.toUInt16.toUInt32.toInt32)), .val (.int ((cc &&& (255 : Int32)).toUInt32.toUInt16.toUInt32.toInt32)), .val (.int ((((cc.toUInt32 >>> ((8 : Int32) &&& 31).toUInt32).toInt32) &&& (255 : Int32)).toUInt32.toUInt16.toUInt32.toInt32)), .val (.int ra), .unset, .unset, .unset, .unset, .unset, .unset, .unset, .unset] [])) _
  refine XS.iload X.here hx rfl (hb hby at_96) rfl ?_
  show Steps p.tables e below (T.setTop (mkF m 98 #[.val (.int cc), .val (.int ra), .val (.int sa), .val (.int rb), .val (.int sb), .val (.int md), .val (.int na), .val (.int na), .val (.int ((cc &&& (255 : Int32)).toUInt32.toUInt16.toUInt32.toInt32)), .val (.int ((((cc.toUInt32 >>> ((8 : Int32) &&& 31).toUInt32).toInt32) &&& (255 : Int32)).toUInt32.toUInt16.toUInt32.toInt32)), .val (.int ((cc &&& (255 : Int32)).toUInt32.toUInt16.toUInt32.toInt32)), .val (.int ((((cc.toUInt32 >>> ((8 : Int32) &&& 31).toUInt32).toInt32) &&& (255 : Int32)).toUInt32.toUInt16.toUInt32.toInt32)), .val (.int ra), .unset, .unset, .unset, .unset, .unset, .unset, .unset, .unset] [(.int md)])) _
  refine XS.bipush X.here hx rfl (hb hby at_98) ?_
  show Steps p.tables e below (T.setTop (mkF m 100 #[.val (.int cc), .val (.int ra), .val (.int sa), .val (.int rb), .val (.int sb), .val (.int md), .val (.int na), .val (.int na), .val (.int ((cc &&& (255 : Int32)).toUInt32.toUInt16.toUInt32.toInt32)), .val (.int ((((cc.toUInt32 >>> ((8 : Int32) &&& 31).toUInt32).toInt32) &&& (255 : Int32)).toUInt32.toUInt16.toUInt32.toInt32)), .val (.int ((cc &&& (255 : Int32)).toUInt32.toUInt16.toUInt32.toInt32)), .val (.int ((((cc.toUInt32 >>> ((8 : Int32) &&& 31).toUInt32).toInt32) &&& (255 : Int32)).toUInt32.toUInt16.toUInt32.toInt32)), .val (.int ra), .unset, .unset, .unset, .unset, .unset, .unset, .unset, .unset] [(.int (64 : Int32)), (.int md)])) _
  refine XS.iand X.here hx rfl (hb hby at_100) rfl ?_
  show Steps p.tables e below (T.setTop (mkF m 101 #[.val (.int cc), .val (.int ra), .val (.int sa), .val (.int rb), .val (.int sb), .val (.int md), .val (.int na), .val (.int na), .val (.int ((cc &&& (255 : Int32)).toUInt32.toUInt16.toUInt32.toInt32)), .val (.int ((((cc.toUInt32 >>> ((8 : Int32) &&& 31).toUInt32).toInt32) &&& (255 : Int32)).toUInt32.toUInt16.toUInt32.toInt32)), .val (.int ((cc &&& (255 : Int32)).toUInt32.toUInt16.toUInt32.toInt32)), .val (.int ((((cc.toUInt32 >>> ((8 : Int32) &&& 31).toUInt32).toInt32) &&& (255 : Int32)).toUInt32.toUInt16.toUInt32.toInt32)), .val (.int ra), .unset, .unset, .unset, .unset, .unset, .unset, .unset, .unset] [(.int (md &&& (64 : Int32)))])) _
  refine XS.ifYes X.here hx rfl (pc0 := 101) (pc' := 108) rfl (hb hby at_101) rfl ((if0 _ _).trans (teq hc101).1) (by decide) (by decide) ?_
  show Steps p.tables e below (T.setTop (mkF m 108 #[.val (.int cc), .val (.int ra), .val (.int sa), .val (.int rb), .val (.int sb), .val (.int md), .val (.int na), .val (.int na), .val (.int ((cc &&& (255 : Int32)).toUInt32.toUInt16.toUInt32.toInt32)), .val (.int ((((cc.toUInt32 >>> ((8 : Int32) &&& 31).toUInt32).toInt32) &&& (255 : Int32)).toUInt32.toUInt16.toUInt32.toInt32)), .val (.int ((cc &&& (255 : Int32)).toUInt32.toUInt16.toUInt32.toInt32)), .val (.int ((((cc.toUInt32 >>> ((8 : Int32) &&& 31).toUInt32).toInt32) &&& (255 : Int32)).toUInt32.toUInt16.toUInt32.toInt32)), .val (.int ra), .unset, .unset, .unset, .unset, .unset, .unset, .unset, .unset] [])) _
  refine XS.iload X.here hx rfl (hb hby at_108) rfl ?_
  show Steps p.tables e below (T.setTop (mkF m 110 #[.val (.int cc), .val (.int ra), .val (.int sa), .val (.int rb), .val (.int sb), .val (.int md), .val (.int na), .val (.int na), .val (.int ((cc &&& (255 : Int32)).toUInt32.toUInt16.toUInt32.toInt32)), .val (.int ((((cc.toUInt32 >>> ((8 : Int32) &&& 31).toUInt32).toInt32) &&& (255 : Int32)).toUInt32.toUInt16.toUInt32.toInt32)), .val (.int ((cc &&& (255 : Int32)).toUInt32.toUInt16.toUInt32.toInt32)), .val (.int ((((cc.toUInt32 >>> ((8 : Int32) &&& 31).toUInt32).toInt32) &&& (255 : Int32)).toUInt32.toUInt16.toUInt32.toInt32)), .val (.int ra), .unset, .unset, .unset, .unset, .unset, .unset, .unset, .unset] [(.int sb)])) _
  refine XS.istore X.here hx rfl (hb hby at_110) rfl (l' := #[.val (.int cc), .val (.int ra), .val (.int sa), .val (.int rb), .val (.int sb), .val (.int md), .val (.int na), .val (.int na), .val (.int ((cc &&& (255 : Int32)).toUInt32.toUInt16.toUInt32.toInt32)), .val (.int ((((cc.toUInt32 >>> ((8 : Int32) &&& 31).toUInt32).toInt32) &&& (255 : Int32)).toUInt32.toUInt16.toUInt32.toInt32)), .val (.int ((cc &&& (255 : Int32)).toUInt32.toUInt16.toUInt32.toInt32)), .val (.int ((((cc.toUInt32 >>> ((8 : Int32) &&& 31).toUInt32).toInt32) &&& (255 : Int32)).toUInt32.toUInt16.toUInt32.toInt32)), .val (.int ra), .val (.int sb), .unset, .unset, .unset, .unset, .unset, .unset, .unset]) rfl ?_
  exact k
set_option maxRecDepth 65536 in
set_option maxHeartbeats 4000000 in
theorem segA_fff (l : Launch) (cc : Int32) (ra : Int32) (sa : Int32) (rb : Int32) (sb : Int32) (md : Int32) (na : Int32) (nb : Int32) (hc66 : ¬ ((md &&& (16 : Int32)) = (0 : Int32))) (hc86 : ¬ ((md &&& (32 : Int32)) = (0 : Int32))) (hc101 : ¬ ((md &&& (64 : Int32)) = (0 : Int32))) : Seg l 20 #[.val (.int cc), .val (.int ra), .val (.int sa), .val (.int rb), .val (.int sb), .val (.int md), .val (.int na), .val (.int nb), .unset, .unset, .unset, .unset, .unset, .unset, .unset, .unset, .unset, .unset, .unset, .unset, .unset] 112 #[.val (.int cc), .val (.int ra), .val (.int sa), .val (.int rb), .val (.int sb), .val (.int md), .val (.int na), .val (.int na), .val (.int ((cc &&& (255 : Int32)).toUInt32.toUInt16.toUInt32.toInt32)), .val (.int ((((cc.toUInt32 >>> ((8 : Int32) &&& 31).toUInt32).toInt32) &&& (255 : Int32)).toUInt32.toUInt16.toUInt32.toInt32)), .val (.int ((cc &&& (255 : Int32)).toUInt32.toUInt16.toUInt32.toInt32)), .val (.int ((((cc.toUInt32 >>> ((8 : Int32) &&& 31).toUInt32).toInt32) &&& (255 : Int32)).toUInt32.toUInt16.toUInt32.toInt32)), .val (.int ra), .val (.int sa), .unset, .unset, .unset, .unset, .unset, .unset, .unset] := by
  intro p e R s m args below meth c T locs cells slots X hx hby target k
  show Steps p.tables e below (T.setTop (mkF m 20 #[.val (.int cc), .val (.int ra), .val (.int sa), .val (.int rb), .val (.int sb), .val (.int md), .val (.int na), .val (.int nb), .unset, .unset, .unset, .unset, .unset, .unset, .unset, .unset, .unset, .unset, .unset, .unset, .unset] [])) _
  refine XS.iloadN X.here hx rfl (hb hby at_20) rfl ?_
  show Steps p.tables e below (T.setTop (mkF m 21 #[.val (.int cc), .val (.int ra), .val (.int sa), .val (.int rb), .val (.int sb), .val (.int md), .val (.int na), .val (.int nb), .unset, .unset, .unset, .unset, .unset, .unset, .unset, .unset, .unset, .unset, .unset, .unset, .unset] [(.int cc)])) _
  refine XS.sipush X.here hx rfl (hb hby at_21) ?_
  show Steps p.tables e below (T.setTop (mkF m 24 #[.val (.int cc), .val (.int ra), .val (.int sa), .val (.int rb), .val (.int sb), .val (.int md), .val (.int na), .val (.int nb), .unset, .unset, .unset, .unset, .unset, .unset, .unset, .unset, .unset, .unset, .unset, .unset, .unset] [(.int (255 : Int32)), (.int cc)])) _
  refine XS.iand X.here hx rfl (hb hby at_24) rfl ?_
  show Steps p.tables e below (T.setTop (mkF m 25 #[.val (.int cc), .val (.int ra), .val (.int sa), .val (.int rb), .val (.int sb), .val (.int md), .val (.int na), .val (.int nb), .unset, .unset, .unset, .unset, .unset, .unset, .unset, .unset, .unset, .unset, .unset, .unset, .unset] [(.int (cc &&& (255 : Int32)))])) _
  refine XS.i2c X.here hx rfl (hb hby at_25) rfl ?_
  show Steps p.tables e below (T.setTop (mkF m 26 #[.val (.int cc), .val (.int ra), .val (.int sa), .val (.int rb), .val (.int sb), .val (.int md), .val (.int na), .val (.int nb), .unset, .unset, .unset, .unset, .unset, .unset, .unset, .unset, .unset, .unset, .unset, .unset, .unset] [(.int ((cc &&& (255 : Int32)).toUInt32.toUInt16.toUInt32.toInt32))])) _
  refine XS.istore X.here hx rfl (hb hby at_26) rfl (l' := #[.val (.int cc), .val (.int ra), .val (.int sa), .val (.int rb), .val (.int sb), .val (.int md), .val (.int na), .val (.int nb), .val (.int ((cc &&& (255 : Int32)).toUInt32.toUInt16.toUInt32.toInt32)), .unset, .unset, .unset, .unset, .unset, .unset, .unset, .unset, .unset, .unset, .unset, .unset]) rfl ?_
  show Steps p.tables e below (T.setTop (mkF m 28 #[.val (.int cc), .val (.int ra), .val (.int sa), .val (.int rb), .val (.int sb), .val (.int md), .val (.int na), .val (.int nb), .val (.int ((cc &&& (255 : Int32)).toUInt32.toUInt16.toUInt32.toInt32)), .unset, .unset, .unset, .unset, .unset, .unset, .unset, .unset, .unset, .unset, .unset, .unset] [])) _
  refine XS.iloadN X.here hx rfl (hb hby at_28) rfl ?_
  show Steps p.tables e below (T.setTop (mkF m 29 #[.val (.int cc), .val (.int ra), .val (.int sa), .val (.int rb), .val (.int sb), .val (.int md), .val (.int na), .val (.int nb), .val (.int ((cc &&& (255 : Int32)).toUInt32.toUInt16.toUInt32.toInt32)), .unset, .unset, .unset, .unset, .unset, .unset, .unset, .unset, .unset, .unset, .unset, .unset] [(.int cc)])) _
  refine XS.bipush X.here hx rfl (hb hby at_29) ?_
  show Steps p.tables e below (T.setTop (mkF m 31 #[.val (.int cc), .val (.int ra), .val (.int sa), .val (.int rb), .val (.int sb), .val (.int md), .val (.int na), .val (.int nb), .val (.int ((cc &&& (255 : Int32)).toUInt32.toUInt16.toUInt32.toInt32)), .unset, .unset, .unset, .unset, .unset, .unset, .unset, .unset, .unset, .unset, .unset, .unset] [(.int (8 : Int32)), (.int cc)])) _
  refine XS.iushr X.here hx rfl (hb hby at_31) rfl ?_
  show Steps p.tables e below (T.setTop (mkF m 32 #[.val (.int cc), .val (.int ra), .val (.int sa), .val (.int rb), .val (.int sb), .val (.int md), .val (.int na), .val (.int nb), .val (.int ((cc &&& (255 : Int32)).toUInt32.toUInt16.toUInt32.toInt32)), .unset, .unset, .unset, .unset, .unset, .unset, .unset, .unset, .unset, .unset, .unset, .unset] [(.int ((cc.toUInt32 >>> ((8 : Int32) &&& 31).toUInt32).toInt32))])) _
  refine XS.sipush X.here hx rfl (hb hby at_32) ?_
  show Steps p.tables e below (T.setTop (mkF m 35 #[.val (.int cc), .val (.int ra), .val (.int sa), .val (.int rb), .val (.int sb), .val (.int md), .val (.int na), .val (.int nb), .val (.int ((cc &&& (255 : Int32)).toUInt32.toUInt16.toUInt32.toInt32)), .unset, .unset, .unset, .unset, .unset, .unset, .unset, .unset, .unset, .unset, .unset, .unset] [(.int (255 : Int32)), (.int ((cc.toUInt32 >>> ((8 : Int32) &&& 31).toUInt32).toInt32))])) _
  refine XS.iand X.here hx rfl (hb hby at_35) rfl ?_
  show Steps p.tables e below (T.setTop (mkF m 36 #[.val (.int cc), .val (.int ra), .val (.int sa), .val (.int rb), .val (.int sb), .val (.int md), .val (.int na), .val (.int nb), .val (.int ((cc &&& (255 : Int32)).toUInt32.toUInt16.toUInt32.toInt32)), .unset, .unset, .unset, .unset, .unset, .unset, .unset, .unset, .unset, .unset, .unset, .unset] [(.int (((cc.toUInt32 >>> ((8 : Int32) &&& 31).toUInt32).toInt32) &&& (255 : Int32)))])) _
  refine XS.i2c X.here hx rfl (hb hby at_36) rfl ?_
  show Steps p.tables e below (T.setTop (mkF m 37 #[.val (.int cc), .val (.int ra), .val (.int sa), .val (.int rb), .val (.int sb), .val (.int md), .val (.int na), .val (.int nb), .val (.int ((cc &&& (255 : Int32)).toUInt32.toUInt16.toUInt32.toInt32)), .unset, .unset, .unset, .unset, .unset, .unset, .unset, .unset, .unset, .unset, .unset, .unset] [(.int ((((cc.toUInt32 >>> ((8 : Int32) &&& 31).toUInt32).toInt32) &&& (255 : Int32)).toUInt32.toUInt16.toUInt32.toInt32))])) _
  refine XS.istore X.here hx rfl (hb hby at_37) rfl (l' := #[.val (.int cc), .val (.int ra), .val (.int sa), .val (.int rb), .val (.int sb), .val (.int md), .val (.int na), .val (.int nb), .val (.int ((cc &&& (255 : Int32)).toUInt32.toUInt16.toUInt32.toInt32)), .val (.int ((((cc.toUInt32 >>> ((8 : Int32) &&& 31).toUInt32).toInt32) &&& (255 : Int32)).toUInt32.toUInt16.toUInt32.toInt32)), .unset, .unset, .unset, .unset, .unset, .unset, .unset, .unset, .unset, .unset, .unset]) rfl ?_
  show Steps p.tables e below (T.setTop (mkF m 39 #[.val (.int cc), .val (.int ra), .val (.int sa), .val (.int rb), .val (.int sb), .val (.int md), .val (.int na), .val (.int nb), .val (.int ((cc &&& (255 : Int32)).toUInt32.toUInt16.toUInt32.toInt32)), .val (.int ((((cc.toUInt32 >>> ((8 : Int32) &&& 31).toUInt32).toInt32) &&& (255 : Int32)).toUInt32.toUInt16.toUInt32.toInt32)), .unset, .unset, .unset, .unset, .unset, .unset, .unset, .unset, .unset, .unset, .unset] [])) _
  refine XS.iloadN X.here hx rfl (hb hby at_39) rfl ?_
  show Steps p.tables e below (T.setTop (mkF m 40 #[.val (.int cc), .val (.int ra), .val (.int sa), .val (.int rb), .val (.int sb), .val (.int md), .val (.int na), .val (.int nb), .val (.int ((cc &&& (255 : Int32)).toUInt32.toUInt16.toUInt32.toInt32)), .val (.int ((((cc.toUInt32 >>> ((8 : Int32) &&& 31).toUInt32).toInt32) &&& (255 : Int32)).toUInt32.toUInt16.toUInt32.toInt32)), .unset, .unset, .unset, .unset, .unset, .unset, .unset, .unset, .unset, .unset, .unset] [(.int cc)])) _
  refine XS.bipush X.here hx rfl (hb hby at_40) ?_
  show Steps p.tables e below (T.setTop (mkF m 42 #[.val (.int cc), .val (.int ra), .val (.int sa), .val (.int rb), .val (.int sb), .val (.int md), .val (.int na), .val (.int nb), .val (.int ((cc &&& (255 : Int32)).toUInt32.toUInt16.toUInt32.toInt32)), .val (.int ((((cc.toUInt32 >>> ((8 : Int32) &&& 31).toUInt32).toInt32) &&& (255 : Int32)).toUInt32.toUInt16.toUInt32.toInt32)), .unset, .unset, .unset, .unset, .unset, .unset, .unset, .unset, .unset, .unset, .unset] [(.int (16 : Int32)), (.int cc)])) _
  refine XS.iushr X.here hx rfl (hb hby at_42) rfl ?_
  show Steps p.tables e below (T.setTop (mkF m 43 #[.val (.int cc), .val (.int ra), .val (.int sa), .val (.int rb), .val (.int sb), .val (.int md), .val (.int na), .val (.int nb), .val (.int ((cc &&& (255 : Int32)).toUInt32.toUInt16.toUInt32.toInt32)), .val (.int ((((cc.toUInt32 >>> ((8 : Int32) &&& 31).toUInt32).toInt32) &&& (255 : Int32)).toUInt32.toUInt16.toUInt32.toInt32)), .unset, .unset, .unset, .unset, .unset, .unset, .unset, .unset, .unset, .unset, .unset] [(.int ((cc.toUInt32 >>> ((16 : Int32) &&& 31).toUInt32).toInt32))])) _
  refine XS.sipush X.here hx rfl (hb hby at_43) ?_
  show Steps p.tables e below (T.setTop (mkF m 46 #[.val (.int cc), .val (.int ra), .val (.int sa), .val (.int rb), .val (.int sb), .val (.int md), .val (.int na), .val (.int nb), .val (.int ((cc &&& (255 : Int32)).toUInt32.toUInt16.toUInt32.toInt32)), .val (.int ((((cc.toUInt32 >>> ((8 : Int32) &&& 31).toUInt32).toInt32) &&& (255 : Int32)).toUInt32.toUInt16.toUInt32.toInt32)), .unset, .unset, .unset, .unset, .unset, .unset, .unset, .unset, .unset, .unset, .unset] [(.int (255 : Int32)), (.int ((cc.toUInt32 >>> ((16 : Int32) &&& 31).toUInt32).toInt32))])) _
  refine XS.iand X.here hx rfl (hb hby at_46) rfl ?_
  show Steps p.tables e below (T.setTop (mkF m 47 #[.val (.int cc), .val (.int ra), .val (.int sa), .val (.int rb), .val (.int sb), .val (.int md), .val (.int na), .val (.int nb), .val (.int ((cc &&& (255 : Int32)).toUInt32.toUInt16.toUInt32.toInt32)), .val (.int ((((cc.toUInt32 >>> ((8 : Int32) &&& 31).toUInt32).toInt32) &&& (255 : Int32)).toUInt32.toUInt16.toUInt32.toInt32)), .unset, .unset, .unset, .unset, .unset, .unset, .unset, .unset, .unset, .unset, .unset] [(.int (((cc.toUInt32 >>> ((16 : Int32) &&& 31).toUInt32).toInt32) &&& (255 : Int32)))])) _
  refine XS.i2c X.here hx rfl (hb hby at_47) rfl ?_
  show Steps p.tables e below (T.setTop (mkF m 48 #[.val (.int cc), .val (.int ra), .val (.int sa), .val (.int rb), .val (.int sb), .val (.int md), .val (.int na), .val (.int nb), .val (.int ((cc &&& (255 : Int32)).toUInt32.toUInt16.toUInt32.toInt32)), .val (.int ((((cc.toUInt32 >>> ((8 : Int32) &&& 31).toUInt32).toInt32) &&& (255 : Int32)).toUInt32.toUInt16.toUInt32.toInt32)), .unset, .unset, .unset, .unset, .unset, .unset, .unset, .unset, .unset, .unset, .unset] [(.int ((((cc.toUInt32 >>> ((16 : Int32) &&& 31).toUInt32).toInt32) &&& (255 : Int32)).toUInt32.toUInt16.toUInt32.toInt32))])) _
  refine XS.istore X.here hx rfl (hb hby at_48) rfl (l' := #[.val (.int cc), .val (.int ra), .val (.int sa), .val (.int rb), .val (.int sb), .val (.int md), .val (.int na), .val (.int nb), .val (.int ((cc &&& (255 : Int32)).toUInt32.toUInt16.toUInt32.toInt32)), .val (.int ((((cc.toUInt32 >>> ((8 : Int32) &&& 31).toUInt32).toInt32) &&& (255 : Int32)).toUInt32.toUInt16.toUInt32.toInt32)), .val (.int ((((cc.toUInt32 >>> ((16 : Int32) &&& 31).toUInt32).toInt32) &&& (255 : Int32)).toUInt32.toUInt16.toUInt32.toInt32)), .unset, .unset, .unset, .unset, .unset, .unset, .unset, .unset, .unset, .unset]) rfl ?_
  show Steps p.tables e below (T.setTop (mkF m 50 #[.val (.int cc), .val (.int ra), .val (.int sa), .val (.int rb), .val (.int sb), .val (.int md), .val (.int na), .val (.int nb), .val (.int ((cc &&& (255 : Int32)).toUInt32.toUInt16.toUInt32.toInt32)), .val (.int ((((cc.toUInt32 >>> ((8 : Int32) &&& 31).toUInt32).toInt32) &&& (255 : Int32)).toUInt32.toUInt16.toUInt32.toInt32)), .val (.int ((((cc.toUInt32 >>> ((16 : Int32) &&& 31).toUInt32).toInt32) &&& (255 : Int32)).toUInt32.toUInt16.toUInt32.toInt32)), .unset, .unset, .unset, .unset, .unset, .unset, .unset, .unset, .unset, .unset] [])) _
  refine XS.iloadN X.here hx rfl (hb hby at_50) rfl ?_
  show Steps p.tables e below (T.setTop (mkF m 51 #[.val (.int cc), .val (.int ra), .val (.int sa), .val (.int rb), .val (.int sb), .val (.int md), .val (.int na), .val (.int nb), .val (.int ((cc &&& (255 : Int32)).toUInt32.toUInt16.toUInt32.toInt32)), .val (.int ((((cc.toUInt32 >>> ((8 : Int32) &&& 31).toUInt32).toInt32) &&& (255 : Int32)).toUInt32.toUInt16.toUInt32.toInt32)), .val (.int ((((cc.toUInt32 >>> ((16 : Int32) &&& 31).toUInt32).toInt32) &&& (255 : Int32)).toUInt32.toUInt16.toUInt32.toInt32)), .unset, .unset, .unset, .unset, .unset, .unset, .unset, .unset, .unset, .unset] [(.int cc)])) _
  refine XS.bipush X.here hx rfl (hb hby at_51) ?_
  show Steps p.tables e below (T.setTop (mkF m 53 #[.val (.int cc), .val (.int ra), .val (.int sa), .val (.int rb), .val (.int sb), .val (.int md), .val (.int na), .val (.int nb), .val (.int ((cc &&& (255 : Int32)).toUInt32.toUInt16.toUInt32.toInt32)), .val (.int ((((cc.toUInt32 >>> ((8 : Int32) &&& 31).toUInt32).toInt32) &&& (255 : Int32)).toUInt32.toUInt16.toUInt32.toInt32)), .val (.int ((((cc.toUInt32 >>> ((16 : Int32) &&& 31).toUInt32).toInt32) &&& (255 : Int32)).toUInt32.toUInt16.toUInt32.toInt32)), .unset, .unset, .unset, .unset, .unset, .unset, .unset, .unset, .unset, .unset] [(.int (24 : Int32)), (.int cc)])) _
  refine XS.iushr X.here hx rfl (hb hby at_53) rfl ?_
  show Steps p.tables e below (T.setTop (mkF m 54 #[.val (.int cc), .val (.int ra), .val (.int sa), .val (.int rb), .val (.int sb), .val (.int md), .val (.int na), .val (.int nb), .val (.int ((cc &&& (255 : Int32)).toUInt32.toUInt16.toUInt32.toInt32)), .val (.int ((((cc.toUInt32 >>> ((8 : Int32) &&& 31).toUInt32).toInt32) &&& (255 : Int32)).toUInt32.toUInt16.toUInt32.toInt32)), .val (.int ((((cc.toUInt32 >>> ((16 : Int32) &&& 31).toUInt32).toInt32) &&& (255 : Int32)).toUInt32.toUInt16.toUInt32.toInt32)), .unset, .unset, .unset, .unset, .unset, .unset, .unset, .unset, .unset, .unset] [(.int ((cc.toUInt32 >>> ((24 : Int32) &&& 31).toUInt32).toInt32))])) _
  refine XS.sipush X.here hx rfl (hb hby at_54) ?_
  show Steps p.tables e below (T.setTop (mkF m 57 #[.val (.int cc), .val (.int ra), .val (.int sa), .val (.int rb), .val (.int sb), .val (.int md), .val (.int na), .val (.int nb), .val (.int ((cc &&& (255 : Int32)).toUInt32.toUInt16.toUInt32.toInt32)), .val (.int ((((cc.toUInt32 >>> ((8 : Int32) &&& 31).toUInt32).toInt32) &&& (255 : Int32)).toUInt32.toUInt16.toUInt32.toInt32)), .val (.int ((((cc.toUInt32 >>> ((16 : Int32) &&& 31).toUInt32).toInt32) &&& (255 : Int32)).toUInt32.toUInt16.toUInt32.toInt32)), .unset, .unset, .unset, .unset, .unset, .unset, .unset, .unset, .unset, .unset] [(.int (255 : Int32)), (.int ((cc.toUInt32 >>> ((24 : Int32) &&& 31).toUInt32).toInt32))])) _
  refine XS.iand X.here hx rfl (hb hby at_57) rfl ?_
  show Steps p.tables e below (T.setTop (mkF m 58 #[.val (.int cc), .val (.int ra), .val (.int sa), .val (.int rb), .val (.int sb), .val (.int md), .val (.int na), .val (.int nb), .val (.int ((cc &&& (255 : Int32)).toUInt32.toUInt16.toUInt32.toInt32)), .val (.int ((((cc.toUInt32 >>> ((8 : Int32) &&& 31).toUInt32).toInt32) &&& (255 : Int32)).toUInt32.toUInt16.toUInt32.toInt32)), .val (.int ((((cc.toUInt32 >>> ((16 : Int32) &&& 31).toUInt32).toInt32) &&& (255 : Int32)).toUInt32.toUInt16.toUInt32.toInt32)), .unset, .unset, .unset, .unset, .unset, .unset, .unset, .unset, .unset, .unset] [(.int (((cc.toUInt32 >>> ((24 : Int32) &&& 31).toUInt32).toInt32) &&& (255 : Int32)))])) _
  refine XS.i2c X.here hx rfl (hb hby at_58) rfl ?_
  show Steps p.tables e below (T.setTop (mkF m 59 #[.val (.int cc), .val (.int ra), .val (.int sa), .val (.int rb), .val (.int sb), .val (.int md), .val (.int na), .val (.int nb), .val (.int ((cc &&& (255 : Int32)).toUInt32.toUInt16.toUInt32.toInt32)), .val (.int ((((cc.toUInt32 >>> ((8 : Int32) &&& 31).toUInt32).toInt32) &&& (255 : Int32)).toUInt32.toUInt16.toUInt32.toInt32)), .val (.int ((((cc.toUInt32 >>> ((16 : Int32) &&& 31).toUInt32).toInt32) &&& (255 : Int32)).toUInt32.toUInt16.toUInt32.toInt32)), .unset, .unset, .unset, .unset, .unset, .unset, .unset, .unset, .unset, .unset] [(.int ((((cc.toUInt32 >>> ((24 : Int32) &&& 31).toUInt32).toInt32) &&& (255 : Int32)).toUInt32.toUInt16.toUInt32.toInt32))])) _
  refine XS.istore X.here hx rfl (hb hby at_59) rfl (l' := #[.val (.int cc), .val (.int ra), .val (.int sa), .val (.int rb), .val (.int sb), .val (.int md), .val (.int na), .val (.int nb), .val (.int ((cc &&& (255 : Int32)).toUInt32.toUInt16.toUInt32.toInt32)), .val (.int ((((cc.toUInt32 >>> ((8 : Int32) &&& 31).toUInt32).toInt32) &&& (255 : Int32)).toUInt32.toUInt16.toUInt32.toInt32)), .val (.int ((((cc.toUInt32 >>> ((16 : Int32) &&& 31).toUInt32).toInt32) &&& (255 : Int32)).toUInt32.toUInt16.toUInt32.toInt32)), .val (.int ((((cc.toUInt32 >>> ((24 : Int32) &&& 31).toUInt32).toInt32) &&& (255 : Int32)).toUInt32.toUInt16.toUInt32.toInt32)), .unset, .unset, .unset, .unset, .unset, .unset, .unset, .unset, .unset]) rfl ?_
  show Steps p.tables e below (T.setTop (mkF m 61 #[.val (.int cc), .val (.int ra), .val (.int sa), .val (.int rb), .val (.int sb), .val (.int md), .val (.int na), .val (.int nb), .val (.int ((cc &&& (255 : Int32)).toUInt32.toUInt16.toUInt32.toInt32)), .val (.int ((((cc.toUInt32 >>> ((8 : Int32) &&& 31).toUInt32).toInt32) &&& (255 : Int32)).toUInt32.toUInt16.toUInt32.toInt32)), .val (.int ((((cc.toUInt32 >>> ((16 : Int32) &&& 31).toUInt32).toInt32) &&& (255 : Int32)).toUInt32.toUInt16.toUInt32.toInt32)), .val (.int ((((cc.toUInt32 >>> ((24 : Int32) &&& 31).toUInt32).toInt32) &&& (255 : Int32)).toUInt32.toUInt16.toUInt32.toInt32)), .unset, .unset, .unset, .unset, .unset, .unset, .unset, .unset, .unset] [])) _
  refine XS.iload X.here hx rfl (hb hby at_61) rfl ?_
  show Steps p.tables e below (T.setTop (mkF m 63 #[.val (.int cc), .val (.int ra), .val (.int sa), .val (.int rb), .val (.int sb), .val (.int md), .val (.int na), .val (.int nb), .val (.int ((cc &&& (255 : Int32)).toUInt32.toUInt16.toUInt32.toInt32)), .val (.int ((((cc.toUInt32 >>> ((8 : Int32) &&& 31).toUInt32).toInt32) &&& (255 : Int32)).toUInt32.toUInt16.toUInt32.toInt32)), .val (.int ((((cc.toUInt32 >>> ((16 : Int32) &&& 31).toUInt32).toInt32) &&& (255 : Int32)).toUInt32.toUInt16.toUInt32.toInt32)), .val (.int ((((cc.toUInt32 >>> ((24 : Int32) &&& 31).toUInt32).toInt32) &&& (255 : Int32)).toUInt32.toUInt16.toUInt32.toInt32)), .unset, .unset, .unset, .unset, .unset, .unset, .unset, .unset, .unset] [(.int md)])) _
  refine XS.bipush X.here hx rfl (hb hby at_63) ?_
  show Steps p.tables e below (T.setTop (mkF m 65 #[.val (.int cc), .val (.int ra), .val (.int sa), .val (.int rb), .val (.int sb), .val (.int md), .val (.int na), .val (.int nb), .val (.int ((cc &&& (255 : Int32)).toUInt32.toUInt16.toUInt32.toInt32)), .val (.int ((((cc.toUInt32 >>> ((8 : Int32) &&& 31).toUInt32).toInt32) &&& (255 : Int32)).toUInt32.toUInt16.toUInt32.toInt32)), .val (.int ((((cc.toUInt32 >>> ((16 : Int32) &&& 31).toUInt32).toInt32) &&& (255 : Int32)).toUInt32.toUInt16.toUInt32.toInt32)), .val (.int ((((cc.toUInt32 >>> ((24 : Int32) &&& 31).toUInt32).toInt32) &&& (255 : Int32)).toUInt32.toUInt16.toUInt32.toInt32)), .unset, .unset, .unset, .unset, .unset, .unset, .unset, .unset, .unset] [(.int (16 : Int32)), (.int md)])) _
  refine XS.iand X.here hx rfl (hb hby at_65) rfl ?_
  show Steps p.tables e below (T.setTop (mkF m 66 #[.val (.int cc), .val (.int ra), .val (.int sa), .val (.int rb), .val (.int sb), .val (.int md), .val (.int na), .val (.int nb), .val (.int ((cc &&& (255 : Int32)).toUInt32.toUInt16.toUInt32.toInt32)), .val (.int ((((cc.toUInt32 >>> ((8 : Int32) &&& 31).toUInt32).toInt32) &&& (255 : Int32)).toUInt32.toUInt16.toUInt32.toInt32)), .val (.int ((((cc.toUInt32 >>> ((16 : Int32) &&& 31).toUInt32).toInt32) &&& (255 : Int32)).toUInt32.toUInt16.toUInt32.toInt32)), .val (.int ((((cc.toUInt32 >>> ((24 : Int32) &&& 31).toUInt32).toInt32) &&& (255 : Int32)).toUInt32.toUInt16.toUInt32.toInt32)), .unset, .unset, .unset, .unset, .unset, .unset, .unset, .unset, .unset] [(.int (md &&& (16 : Int32)))])) _
  refine XS.ifNo X.here hx rfl (hb hby at_66) rfl ((if0 _ _).trans (feq hc66).1) ?_
  show Steps p.tables e below (T.setTop (mkF m 69 #[.val (.int cc), .val (.int ra), .val (.int sa), .val (.int rb), .val (.int sb), .val (.int md), .val (.int na), .val (.int nb), .val (.int ((cc &&& (255 : Int32)).toUInt32.toUInt16.toUInt32.toInt32)), .val (.int ((((cc.toUInt32 >>> ((8 : Int32) &&& 31).toUInt32).toInt32) &&& (255 : Int32)).toUInt32.toUInt16.toUInt32.toInt32)), .val (.int ((((cc.toUInt32 >>> ((16 : Int32) &&& 31).toUInt32).toInt32) &&& (255 : Int32)).toUInt32.toUInt16.toUInt32.toInt32)), .val (.int ((((cc.toUInt32 >>> ((24 : Int32) &&& 31).toUInt32).toInt32) &&& (255 : Int32)).toUInt32.toUInt16.toUInt32.toInt32)), .unset, .unset, .unset, .unset, .unset, .unset, .unset, .unset, .unset] [])) _
  refine XS.iload X.here hx rfl (hb hby at_69) rfl ?_
  show Steps p.tables e below (T.setTop (mkF m 71 #[.val (.int cc), .val (.int ra), .val (.int sa), .val (.int rb), .val (.int sb), .val (.int md), .val (.int na), .val (.int nb), .val (.int ((cc &&& (255 : Int32)).toUInt32.toUInt16.toUInt32.toInt32)), .val (.int ((((cc.toUInt32 >>> ((8 : Int32) &&& 31).toUInt32).toInt32) &&& (255 : Int32)).toUInt32.toUInt16.toUInt32.toInt32)), .val (.int ((((cc.toUInt32 >>> ((16 : Int32) &&& 31).toUInt32).toInt32) &&& (255 : Int32)).toUInt32.toUInt16.toUInt32.toInt32)), .val (.int ((((cc.toUInt32 >>> ((24 : Int32) &&& 31).toUInt32).toInt32) &&& (255 : Int32)).toUInt32.toUInt16.toUInt32.toInt32)), .unset, .unset, .unset, .unset, .unset, .unset, .unset, .unset, .unset] [(.int na)])) _
  refine XS.istore X.here hx rfl (hb hby at_71) rfl (l' := #[.val (.int cc), .val (.int ra), .val (.int sa), .val (.int rb), .val (.int sb), .val (.int md), .val (.int na), .val (.int na), .val (.int ((cc &&& (255 : Int32)).toUInt32.toUInt16.toUInt32.toInt32)), .val (.int ((((cc.toUInt32 >>> ((8 : Int32) &&& 31).toUInt32).toInt32) &&& (255 : Int32)).toUInt32.toUInt16.toUInt32.toInt32)), .val (.int ((((cc.toUInt32 >>> ((16 : Int32) &&& 31).toUInt32).toInt32) &&& (255 : Int32)).toUInt32.toUInt16.toUInt32.toInt32)), .val (.int ((((cc.toUInt32 >>> ((24 : Int32) &&& 31).toUInt32).toInt32) &&& (255 : Int32)).toUInt32.toUInt16.toUInt32.toInt32)), .unset, .unset, .unset, .unset, .unset, .unset, .unset, .unset, .unset]) rfl ?_
  show Steps p.tables e below (T.setTop (mkF m 73 #[.val (.int cc), .val (.int ra), .val (.int sa), .val (.int rb), .val (.int sb), .val (.int md), .val (.int na), .val (.int na), .val (.int ((cc &&& (255 : Int32)).toUInt32.toUInt16.toUInt32.toInt32)), .val (.int ((((cc.toUInt32 >>> ((8 : Int32) &&& 31).toUInt32).toInt32) &&& (255 : Int32)).toUInt32.toUInt16.toUInt32.toInt32)), .val (.int ((((cc.toUInt32 >>> ((16 : Int32) &&& 31).toUInt32).toInt32) &&& (255 : Int32)).toUInt32.toUInt16.toUInt32.toInt32)), .val (.int ((((cc.toUInt32 >>> ((24 : Int32) &&& 31).toUInt32).toInt32) &&& (255 : Int32)).toUInt32.toUInt16.toUInt32.toInt32)), .unset, .unset, .unset, .unset, .unset, .unset, .unset, .unset, .unset] [])) _
  refine XS.iload X.here hx rfl (hb hby at_73) rfl ?_
  show Steps p.tables e below (T.setTop (mkF m 75 #[.val (.int cc), .val (.int ra), .val (.int sa), .val (.int rb), .val (.int sb), .val (.int md), .val (.int na), .val (.int na), .val (.int ((cc &&& (255 : Int32)).toUInt32.toUInt16.toUInt32.toInt32)), .val (.int ((((cc.toUInt32 >>> ((8 : Int32) &&& 31).toUInt32).toInt32) &&& (255 : Int32)).toUInt32.toUInt16.toUInt32.toInt32)), .val (.int ((((cc.toUInt32 >>> ((16 : Int32) &&& 31).toUInt32).toInt32) &&& (255 : Int32)).toUInt32.toUInt16.toUInt32.toInt32)), .val (.int ((((cc.toUInt32 >>> ((24 : Int32) &&& 31).toUInt32).toInt32) &&& (255 : Int32)).toUInt32.toUInt16.toUInt32.toInt32)), .unset, .unset, .unset, .unset, .unset, .unset, .unset, .unset, .unset] [(.int ((cc &&& (255 : Int32)).toUInt32.toUInt16.toUInt32.toInt32))])) _
  refine XS.istore X.here hx rfl (hb hby at_75) rfl (l' := #[.val (.int cc), .val (.int ra), .val (.int sa), .val (.int rb), .val (.int sb), .val (.int md), .val (.int na), .val (.int na), .val (.int ((cc &&& (255 : Int32)).toUInt32.toUInt16.toUInt32.toInt32)), .val (.int ((((cc.toUInt32 >>> ((8 : Int32) &&& 31).toUInt32).toInt32) &&& (255 : Int32)).toUInt32.toUInt16.toUInt32.toInt32)), .val (.int ((cc &&& (255 : Int32)).toUInt32.toUInt16.toUInt32.toInt32)), .val (.int ((((cc.toUInt32 >>> ((24 : Int32) &&& 31).toUInt32).toInt32) &&& (255 : Int32)).toUInt32.toUInt16.toUInt32.toInt32)), .unset, .unset, .unset, .unset, .unset, .unset, .unset, .unset, .unset]) rfl ?_
  show Steps p.tables e below (T.setTop (mkF m 77 #[.val (.int cc), .val (.int ra), .val (.int sa), .val (.int rb), .val (.int sb), .val (.int md), .val (.int na), .val (.int na), .val (.int ((cc &&& (255 : Int32)).toUInt32.toUInt16.toUInt32.toInt32)), .val (.int ((((cc.toUInt32 >>> ((8 : Int32) &&& 31).toUInt32).toInt32) &&& (255 : Int32)).toUInt32.toUInt16.toUInt32.toInt32)), .val (.int ((cc &&& (255 : Int32)).toUInt32.toUInt16.toUInt32.toInt32)), .val (.int ((((cc.toUInt32 >>> ((24 : Int32) &&& 31).toUInt32).toInt32) &&& (255 : Int32)).toUInt32.toUInt16.toUInt32.toInt32)), .unset, .unset, .unset, .unset, .unset, .unset, .unset, .unset, .unset] [])) _
  refine XS.iload X.here hx rfl (hb hby at_77) rfl ?_
  show Steps p.tables e below (T.setTop (mkF m 79 #[.val (.int cc), .val (.int ra), .val (.int sa), .val (.int rb), .val (.int sb), .val (.int md), .val (.int na), .val (.int na), .val (.int ((cc &&& (255 : Int32)).toUInt32.toUInt16.toUInt32.toInt32)), .val (.int ((((cc.toUInt32 >>> ((8 : Int32) &&& 31).toUInt32).toInt32) &&& (255 : Int32)).toUInt32.toUInt16.toUInt32.toInt32)), .val (.int ((cc &&& (255 : Int32)).toUInt32.toUInt16.toUInt32.toInt32)), .val (.int ((((cc.toUInt32 >>> ((24 : Int32) &&& 31).toUInt32).toInt32) &&& (255 : Int32)).toUInt32.toUInt16.toUInt32.toInt32)), .unset, .unset, .unset, .unset, .unset, .unset, .unset, .unset, .unset] [(.int ((((cc.toUInt32 >>> ((8 : Int32) &&& 31).toUInt32).toInt32) &&& (255 : Int32)).toUInt32.toUInt16.toUInt32.toInt32))])) _
  refine XS.istore X.here hx rfl (hb hby at_79) rfl (l' := #[.val (.int cc), .val (.int ra), .val (.int sa), .val (.int rb), .val (.int sb), .val (.int md), .val (.int na), .val (.int na), .val (.int ((cc &&& (255 : Int32)).toUInt32.toUInt16.toUInt32.toInt32)), .val (.int ((((cc.toUInt32 >>> ((8 : Int32) &&& 31).toUInt32).toInt32) &&& (255 : Int32)).toUInt32.toUInt16.toUInt32.toInt32)), .val (.int ((cc &&& (255 : Int32)).toUInt32.toUInt16.toUInt32.toInt32)), .val (.int ((((cc.toUInt32 >>> ((8 : Int32) &&& 31).toUInt32).toInt32) &&& (255 : Int32)).toUInt32.toUInt16.toUInt32.toInt32)), .unset, .unset, .unset, .unset, .unset, .unset, .unset, .unset, .unset]) rfl ?_
  show Steps p.tables e below (T.setTop (mkF m 81 #[.val (.int cc), .val (.int ra), .val (.int sa), .val (.int rb), .val (.int sb), .val (.int md), .val (.int na), .val (.int na), .val (.int ((cc &&& (255 : Int32)).toUInt32.toUInt16.toUInt32.toInt32)), .val (.int ((((cc.toUInt32 >>> ((8 : Int32) &&& 31).toUInt32).toInt32) &&& (255 : Int32)).toUInt32.toUInt16.toUInt32.toInt32)), .val (.int ((cc &&& (255 : Int32)).toUInt32.toUInt16.toUInt32.toInt32)), .val (.int ((((cc.toUInt32 >>> ((8 : Int32) &&& 31).toUInt32).toInt32) &&& (255 : Int32)).toUInt32.toUInt16.toUInt32.toInt32)), .unset, .unset, .unset, .unset, .unset, .unset, .unset, .unset, .unset] [])) _
  refine XS.iload X.here hx rfl (hb hby at_81) rfl ?_
  show Steps p.tables e below (T.setTop (mkF m 83 #[.val (.int cc), .val (.int ra), .val (.int sa), .val (.int rb), .val (.int sb), .val (.int md), .val (.int na), .val (.int na), .val (.int ((cc &&& (255 : Int32)).toUInt32.toUInt16.toUInt32.toInt32)), .val (.int ((((cc.toUInt32 >>> ((8 : Int32) &&& 31).toUInt32).toInt32) &&& (255 : Int32)).toUInt32.toUInt16.toUInt32.toInt32)), .val (.int ((cc &&& (255 : Int32)).toUInt32.toUInt16.toUInt32.toInt32)), .val (.int ((((cc.toUInt32 >>> ((8 : Int32) &&& 31).toUInt32).toInt32) &&& (255 : Int32)).toUInt32.toUInt16.toUInt32.toInt32)), .unset, .unset, .unset, .unset, .unset, .unset, .unset, .unset, .unset] [(.int md)])) _
  refine XS.bipush X.here hx rfl (hb hby at_83) ?_
  show Steps p.tables e below (T.setTop (mkF m 85 #[.val (.int cc), .val (.int ra), .val (.int sa), .val (.int rb), .val (.int sb), .val (.int md), .val (.int na), .val (.int na), .val (.int ((cc &&& (255 : Int32)).toUInt32.toUInt16.toUInt32.toInt32)), .val (.int ((((cc.toUInt32 >>> ((8 : Int32) &&& 31).toUInt32).toInt32) &&& (255 : Int32)).toUInt32.toUInt16.toUInt32.toInt32)), .val (.int ((cc &&& (255 : Int32)).toUInt32.toUInt16.toUInt32.toInt32)), .val (.int ((((cc.toUInt32 >>> ((8 : Int32) &&& 31).toUInt32).toInt32) &&& (255 : Int32)).toUInt32.toUInt16.toUInt32.toInt32)), .unset, .unset, .unset, .unset, .unset, .unset, .unset, .unset, .unset] [(.int (32 : Int32)), (.int md)])) _
  refine XS.iand X.here hx rfl (hb hby at_85) rfl ?_
  show Steps p.tables e below (T.setTop (mkF m 86 #[.val (.int cc), .val (.int ra), .val (.int sa), .val (.int rb), .val (.int sb), .val (.int md), .val (.int na), .val (.int na), .val (.int ((cc &&& (255 : Int32)).toUInt32.toUInt16.toUInt32.toInt32)), .val (.int ((((cc.toUInt32 >>> ((8 : Int32) &&& 31).toUInt32).toInt32) &&& (255 : Int32)).toUInt32.toUInt16.toUInt32.toInt32)), .val (.int ((cc &&& (255 : Int32)).toUInt32.toUInt16.toUInt32.toInt32)), .val (.int ((((cc.toUInt32 >>> ((8 : Int32) &&& 31).toUInt32).toInt32) &&& (255 : Int32)).toUInt32.toUInt16.toUInt32.toInt32)), .unset, .unset, .unset, .unset, .unset, .unset, .unset, .unset, .unset] [(.int (md &&& (32 : Int32)))])) _
  refine XS.ifNo X.here hx rfl (hb hby at_86) rfl ((if0 _ _).trans (feq hc86).1) ?_
  show Steps p.tables e below (T.setTop (mkF m 89 #[.val (.int cc), .val (.int ra), .val (.int sa), .val (.int rb), .val (.int sb), .val (.int md), .val (.int na), .val (.int na), .val (.int ((cc &&& (255 : Int32)).toUInt32.toUInt16.toUInt32.toInt32)), .val (.int ((((cc.toUInt32 >>> ((8 : Int32) &&& 31).toUInt32).toInt32) &&& (255 : Int32)).toUInt32.toUInt16.toUInt32.toInt32)), .val (.int ((cc &&& (255 : Int32)).toUInt32.toUInt16.toUInt32.toInt32)), .val (.int ((((cc.toUInt32 >>> ((8 : Int32) &&& 31).toUInt32).toInt32) &&& (255 : Int32)).toUInt32.toUInt16.toUInt32.toInt32)), .unset, .unset, .unset, .unset, .unset, .unset, .unset, .unset, .unset] [])) _
  refine XS.iloadN X.here hx rfl (hb hby at_89) rfl ?_
  show Steps p.tables e below (T.setTop (mkF m 90 #[.val (.int cc), .val (.int ra), .val (.int sa), .val (.int rb), .val (.int sb), .val (.int md), .val (.int na), .val (.int na), .val (.int ((cc &&& (255 : Int32)).toUInt32.toUInt16.toUInt32.toInt32)), .val (.int ((((cc.toUInt32 >>> ((8 : Int32) &&& 31).toUInt32).toInt32) &&& (255 : Int32)).toUInt32.toUInt16.toUInt32.toInt32)), .val (.int ((cc &&& (255 : Int32)).toUInt32.toUInt16.toUInt32.toInt32)), .val (.int ((((cc.toUInt32 >>> ((8 : Int32) &&& 31).toUInt32).toInt32) &&& (255 : Int32)).toUInt32.toUInt16.toUInt32.toInt32)), .unset, .unset, .unset, .unset, .unset, .unset, .unset, .unset, .unset] [(.int ra)])) _
  refine XS.goto X.here hx rfl (pc0 := 90) (pc' := 94) rfl (hb hby at_90) (by decide) (by decide) ?_
  show Steps p.tables e below (T.setTop (mkF m 94 #[.val (.int cc), .val (.int ra), .val (.int sa), .val (.int rb), .val (.int sb), .val (.int md), .val (.int na), .val (.int na), .val (.int ((cc &&& (255 : Int32)).toUInt32.toUInt16.toUInt32.toInt32)), .val (.int ((((cc.toUInt32 >>> ((8 : Int32) &&& 31).toUInt32).toInt32) &&& (255 : Int32)).toUInt32.toUInt16.toUInt32.toInt32)), .val (.int ((cc &&& (255 : Int32)).toUInt32.toUInt16.toUInt32.toInt32)), .val (.int ((((cc.toUInt32 >>> ((8 : Int32) &&& 31).toUInt32).toInt32) &&& (255 : Int32)).toUInt32.toUInt16.toUInt32.toInt32)), .unset, .unset, .unset, .unset, .unset, .unset, .unset, .unset, .unset] [(.int ra)])) _
  refine XS.istore X.here hx rfl (hb hby at_94) rfl (l' := #[.val (.int cc), .val (.int ra), .val (.int sa), .val (.int rb), .val (.int sb), .val (.int md), .val (.int na), .val (.int na), .val (.int ((cc &&& (255 : Int32)).toUInt32.toUInt16.toUInt32.toInt32)), .val (.int ((((cc.toUInt32 >>> ((8 : Int32) &&& 31).toUInt32).toInt32) &&& (255 : Int32)).toUInt32.toUInt16.toUInt32.toInt32)), .val (.int ((cc &&& (255 : Int32)).toUInt32.toUInt16.toUInt32.toInt32)), .val (.int ((((cc.toUInt32 >>> ((8 : Int32) &&& 31).toUInt32).toInt32) &&& (255 : Int32)).toUInt32.toUInt16.toUInt32.toInt32)), .val (.int ra), .unset, .unset, .unset, .unset, .unset, .unset, .unset, .unset]) rfl ?_
  show Steps p.tables e below (T.setTop (mkF m 96 #[.val (.int cc), .val (.int ra), .val (.int sa), .val (.int rb), .val (.int sb), .val (.int md), .val (.int na), .val (.int na), .val (.int ((cc &&& (255 : Int32)).toUInt32.toUInt16.toUInt32.toInt32)), .val (.int ((((cc.toUInt32 >>> ((8 : Int32) &&& 31).toUInt32).toInt32) &&& (255 : Int32)).toUInt32.toUInt16.toUInt32.toInt32)), .val (.int ((cc &&& (255 : Int32)).toUInt32.toUInt16.toUInt32.toInt32)), .val (.int ((((cc.toUInt32 >>> ((8 : Int32) &&& 31).toUInt32).toInt32) &&& (255 : Int32)).toUInt32.toUInt16.toUInt32.toInt32)), .val (.int ra), .unset, .unset, .unset, .unset, .unset, .unset, .unset, .unset] [])) _
  refine XS.iload X.here hx rfl (hb hby at_96) rfl ?_
  show Steps p.tables e below (T.setTop (mkF m 98 #[.val (.int cc), .val (.int ra), .val (.int sa), .val (.int rb), .val (.int sb), .val (.int md), .val (.int na), .val (.int na), .val (.int ((cc &&& (255 : Int32)).toUInt32.toUInt16.toUInt32.toInt32)), .val (.int ((((cc.toUInt32 >>> ((8 : Int32) &&& 31).toUInt32).toInt32) &&& (255 : Int32)).toUInt32.toUInt16.toUInt32.toInt32)), .val (.int ((cc &&& (255 : Int32)).toUInt32.toUInt16.toUInt32.toInt32)), .val (.int ((((cc.toUInt32 >>> ((8 : Int32) &&& 31).toUInt32).toInt32) &&& (255 : Int32)).toUInt32.toUInt16.toUInt32.toInt32)), .val (.int ra), .unset, .unset, .unset, .unset, .unset, .unset, .unset, .unset] [(.int md)])) _
  refine XS.bipush X.here hx rfl (hb hby at_98) ?_
  show Steps p.tables e below (T.setTop (mkF m 100 #[.val (.int cc), .val (.int ra), .val (.int sa), .val (.int rb), .val (.int sb), .val (.int md), .val (.int na), .val (.int na), .val (.int ((cc &&& (255 : Int32)).toUInt32.toUInt16.toUInt32.toInt32)), .val (.int ((((cc.toUInt32 >>> ((8 : Int32) &&& 31).toUInt32).toInt32) &&& (255 : Int32)).toUInt32.toUInt16.toUInt32.toInt32)), .val (.int ((cc &&& (255 : Int32)).toUInt32.toUInt16.toUInt32.toInt32)), .val (.int ((((cc.toUInt32 >>> ((8 : Int32) &&& 31).toUInt32).toInt32) &&& (255 : Int32)).toUInt32.toUInt16.toUInt32.toInt32)), .val (.int ra), .unset, .unset, .unset, .unset, .unset, .unset, .unset, .unset] [(.int (64 : Int32)), (.int md)])) _
  refine XS.iand X.here hx rfl (hb hby at_100) rfl ?_
  show Steps p.tables e below (T.setTop (mkF m 101 #[.val (.int cc), .val (.int ra), .val (.int sa), .val (.int rb), .val (.int sb), .val (.int md), .val (.int na), .val (.int na), .val (.int ((cc &&& (255 : Int32)).toUInt32.toUInt16.toUInt32.toInt32)), .val (.int ((((cc.toUInt32 >>> ((8 : Int32) &&& 31).toUInt32).toInt32) &&& (255 : Int32)).toUInt32.toUInt16.toUInt32.toInt32)), .val (.int ((cc &&& (255 : Int32)).toUInt32.toUInt16.toUInt32.toInt32)), .val (.int ((((cc.toUInt32 >>> ((8 : Int32) &&& 31).toUInt32).toInt32) &&& (255 : Int32)).toUInt32.toUInt16.toUInt32.toInt32)), .val (.int ra), .unset, .unset, .unset, .unset, .unset, .unset, .unset, .unset] [(.int (md &&& (64 : Int32)))])) _
  refine XS.ifNo X.here hx rfl (hb hby at_101) rfl ((if0 _ _).trans (feq hc101).1) ?_
  show Steps p.tables e below (T.setTop (mkF m 104 #[.val (.int cc), .val (.int ra), .val (.int sa), .val (.int rb), .val (.int sb), .val (.int md), .val (.int na), .val (.int na), .val (.int ((cc &&& (255 : Int32)).toUInt32.toUInt16.toUInt32.toInt32)), .val (.int ((((cc.toUInt32 >>> ((8 : Int32) &&& 31).toUInt32).toInt32) &&& (255 : Int32)).toUInt32.toUInt16.toUInt32.toInt32)), .val (.int ((cc &&& (255 : Int32)).toUInt32.toUInt16.toUInt32.toInt32)), .val (.int ((((cc.toUInt32 >>> ((8 : Int32) &&& 31).toUInt32).toInt32) &&& (255 : Int32)).toUInt32.toUInt16.toUInt32.toInt32)), .val (.int ra), .unset, .unset, .unset, .unset, .unset, .unset, .unset, .unset] [])) _
  refine XS.iloadN X.here hx rfl (hb hby at_104) rfl ?_
  show Steps p.tables e below (T.setTop (mkF m 105 #[.val (.int cc), .val (.int ra), .val (.int sa), .val (.int rb), .val (.int sb), .val (.int md), .val (.int na), .val (.int na), .val (.int ((cc &&& (255 : Int32)).toUInt32.toUInt16.toUInt32.toInt32)), .val (.int ((((cc.toUInt32 >>> ((8 : Int32) &&& 31).toUInt32).toInt32) &&& (255 : Int32)).toUInt32.toUInt16.toUInt32.toInt32)), .val (.int ((cc &&& (255 : Int32)).toUInt32.toUInt16.toUInt32.toInt32)), .val (.int ((((cc.toUInt32 >>> ((8 : Int32) &&& 31).toUInt32).toInt32) &&& (255 : Int32)).toUInt32.toUInt16.toUInt32.toInt32)), .val (.int ra), .unset, .unset, .unset, .unset, .unset, .unset, .unset, .unset] [(.int sa)])) _
  refine XS.goto X.here hx rfl (pc0 := 105) (pc' := 110) rfl (hb hby at_105) (by decide) (by decide) ?_
  show Steps p.tables e below (T.setTop (mkF m 110 #[.val (.int cc), .val (.int ra), .val (.int sa), .val (.int rb), .val (.int sb), .val (.int md), .val (.int na), .val (.int na), .val (.int ((cc &&& (255 : Int32)).toUInt32.toUInt16.toUInt32.toInt32)), .val (.int ((((cc.toUInt32 >>> ((8 : Int32) &&& 31).toUInt32).toInt32) &&& (255 : Int32)).toUInt32.toUInt16.toUInt32.toInt32)), .val (.int ((cc &&& (255 : Int32)).toUInt32.toUInt16.toUInt32.toInt32)), .val (.int ((((cc.toUInt32 >>> ((8 : Int32) &&& 31).toUInt32).toInt32) &&& (255 : Int32)).toUInt32.toUInt16.toUInt32.toInt32)), .val (.int ra), .unset, .unset, .unset, .unset, .unset, .unset, .unset, .unset] [(.int sa)])) _
  refine XS.istore X.here hx rfl (hb hby at_110) rfl (l' := #[.val (.int cc), .val (.int ra), .val (.int sa), .val (.int rb), .val (.int sb), .val (.int md), .val (.int na), .val (.int na), .val (.int ((cc &&& (255 : Int32)).toUInt32.toUInt16.toUInt32.toInt32)), .val (.int ((((cc.toUInt32 >>> ((8 : Int32) &&& 31).toUInt32).toInt32) &&& (255 : Int32)).toUInt32.toUInt16.toUInt32.toInt32)), .val (.int ((cc &&& (255 : Int32)).toUInt32.toUInt16.toUInt32.toInt32)), .val (.int ((((cc.toUInt32 >>> ((8 : Int32) &&& 31).toUInt32).toInt32) &&& (255 : Int32)).toUInt32.toUInt16.toUInt32.toInt32)), .val (.int ra), .val (.int sa), .unset, .unset, .unset, .unset, .unset, .unset, .unset]) rfl ?_
  exact k
set_option maxRecDepth 65536 in
set_option maxHeartbeats 4000000 in
theorem segE_1 (l : Launch) (cc : Int32) (ra : Int32) (sa : Int32) (rb : Int32) (sb : Int32) (md : Int32) (na : Int32) (nc : Int32) (u0 : Int32) (u1 : Int32) (w0 : Int32) (w1 : Int32) (rr : Int32) (ss : Int32) (kd : Int32) (q14 : Slot) (q15 : Slot) (q16 : Slot) (q18 : Slot) (hc200 : ¬ (na = nc)) : Seg l 196 #[.val (.int cc), .val (.int ra), .val (.int sa), .val (.int rb), .val (.int sb), .val (.int md), .val (.int na), .val (.int nc), .val (.int u0), .val (.int u1), .val (.int w0), .val (.int w1), .val (.int rr), .val (.int ss), q14, q15, q16, .val (.int kd), q18, .unset, .unset] 236 #[.val (.int cc), .val (.int ra), .val (.int sa), .val (.int rb), .val (.int sb), .val (.int md), .val (.int na), .val (.int nc), .val (.int u0), .val (.int u1), .val (.int w0), .val (.int w1), .val (.int rr), .val (.int ss), q14, q15, q16, .val (.int kd), q18, .val (.int (0 : Int32)), .unset] := by
  intro p e R s m args below meth c T locs cells slots X hx hby target k
  show Steps p.tables e below (T.setTop (mkF m 196 #[.val (.int cc), .val (.int ra), .val (.int sa), .val (.int rb), .val (.int sb), .val (.int md), .val (.int na), .val (.int nc), .val (.int u0), .val (.int u1), .val (.int w0), .val (.int w1), .val (.int rr), .val (.int ss), q14, q15, q16, .val (.int kd), q18, .unset, .unset] [])) _
  refine XS.iload X.here hx rfl (hb hby at_196) rfl ?_
  show Steps p.tables e below (T.setTop (mkF m 198 #[.val (.int cc), .val (.int ra), .val (.int sa), .val (.int rb), .val (.int sb), .val (.int md), .val (.int na), .val (.int nc), .val (.int u0), .val (.int u1), .val (.int w0), .val (.int w1), .val (.int rr), .val (.int ss), q14, q15, q16, .val (.int kd), q18, .unset, .unset] [(.int na)])) _
  refine XS.iload X.here hx rfl (hb hby at_198) rfl ?_
  show Steps p.tables e below (T.setTop (mkF m 200 #[.val (.int cc), .val (.int ra), .val (.int sa), .val (.int rb), .val (.int sb), .val (.int md), .val (.int na), .val (.int nc), .val (.int u0), .val (.int u1), .val (.int w0), .val (.int w1), .val (.int rr), .val (.int ss), q14, q15, q16, .val (.int kd), q18, .unset, .unset] [(.int nc), (.int na)])) _
  refine XS.icmpYes X.here hx rfl (pc0 := 200) (pc' := 233) rfl (hb hby at_200) rfl (feq hc200).2 (by decide) (by decide) ?_
  show Steps p.tables e below (T.setTop (mkF m 233 #[.val (.int cc), .val (.int ra), .val (.int sa), .val (.int rb), .val (.int sb), .val (.int md), .val (.int na), .val (.int nc), .val (.int u0), .val (.int u1), .val (.int w0), .val (.int w1), .val (.int rr), .val (.int ss), q14, q15, q16, .val (.int kd), q18, .unset, .unset] [])) _
  refine XS.iconst X.here hx rfl (hb hby at_233) ?_
  show Steps p.tables e below (T.setTop (mkF m 234 #[.val (.int cc), .val (.int ra), .val (.int sa), .val (.int rb), .val (.int sb), .val (.int md), .val (.int na), .val (.int nc), .val (.int u0), .val (.int u1), .val (.int w0), .val (.int w1), .val (.int rr), .val (.int ss), q14, q15, q16, .val (.int kd), q18, .unset, .unset] [(.int (0 : Int32))])) _
  refine XS.istore X.here hx rfl (hb hby at_234) rfl (l' := #[.val (.int cc), .val (.int ra), .val (.int sa), .val (.int rb), .val (.int sb), .val (.int md), .val (.int na), .val (.int nc), .val (.int u0), .val (.int u1), .val (.int w0), .val (.int w1), .val (.int rr), .val (.int ss), q14, q15, q16, .val (.int kd), q18, .val (.int (0 : Int32)), .unset]) rfl ?_
  exact k
set_option maxRecDepth 65536 in
set_option maxHeartbeats 4000000 in
theorem segE_2 (l : Launch) (cc : Int32) (ra : Int32) (sa : Int32) (rb : Int32) (sb : Int32) (md : Int32) (na : Int32) (nc : Int32) (u0 : Int32) (u1 : Int32) (w0 : Int32) (w1 : Int32) (rr : Int32) (ss : Int32) (kd : Int32) (q14 : Slot) (q15 : Slot) (q16 : Slot) (q18 : Slot) (hc200 : na = nc) (hc206 : na < (1 : Int32)) (hc219 : na < (2 : Int32)) : Seg l 196 #[.val (.int cc), .val (.int ra), .val (.int sa), .val (.int rb), .val (.int sb), .val (.int md), .val (.int na), .val (.int nc), .val (.int u0), .val (.int u1), .val (.int w0), .val (.int w1), .val (.int rr), .val (.int ss), q14, q15, q16, .val (.int kd), q18, .unset, .unset] 236 #[.val (.int cc), .val (.int ra), .val (.int sa), .val (.int rb), .val (.int sb), .val (.int md), .val (.int na), .val (.int nc), .val (.int u0), .val (.int u1), .val (.int w0), .val (.int w1), .val (.int rr), .val (.int ss), q14, q15, q16, .val (.int kd), q18, .val (.int (1 : Int32)), .unset] := by
  intro p e R s m args below meth c T locs cells slots X hx hby target k
  show Steps p.tables e below (T.setTop (mkF m 196 #[.val (.int cc), .val (.int ra), .val (.int sa), .val (.int rb), .val (.int sb), .val (.int md), .val (.int na), .val (.int nc), .val (.int u0), .val (.int u1), .val (.int w0), .val (.int w1), .val (.int rr), .val (.int ss), q14, q15, q16, .val (.int kd), q18, .unset, .unset] [])) _
  refine XS.iload X.here hx rfl (hb hby at_196) rfl ?_
  show Steps p.tables e below (T.setTop (mkF m 198 #[.val (.int cc), .val (.int ra), .val (.int sa), .val (.int rb), .val (.int sb), .val (.int md), .val (.int na), .val (.int nc), .val (.int u0), .val (.int u1), .val (.int w0), .val (.int w1), .val (.int rr), .val (.int ss), q14, q15, q16, .val (.int kd), q18, .unset, .unset] [(.int na)])) _
  refine XS.iload X.here hx rfl (hb hby at_198) rfl ?_
  show Steps p.tables e below (T.setTop (mkF m 200 #[.val (.int cc), .val (.int ra), .val (.int sa), .val (.int rb), .val (.int sb), .val (.int md), .val (.int na), .val (.int nc), .val (.int u0), .val (.int u1), .val (.int w0), .val (.int w1), .val (.int rr), .val (.int ss), q14, q15, q16, .val (.int kd), q18, .unset, .unset] [(.int nc), (.int na)])) _
  refine XS.icmpNo X.here hx rfl (hb hby at_200) rfl (teq hc200).2 ?_
  show Steps p.tables e below (T.setTop (mkF m 203 #[.val (.int cc), .val (.int ra), .val (.int sa), .val (.int rb), .val (.int sb), .val (.int md), .val (.int na), .val (.int nc), .val (.int u0), .val (.int u1), .val (.int w0), .val (.int w1), .val (.int rr), .val (.int ss), q14, q15, q16, .val (.int kd), q18, .unset, .unset] [])) _
  refine XS.iload X.here hx rfl (hb hby at_203) rfl ?_
  show Steps p.tables e below (T.setTop (mkF m 205 #[.val (.int cc), .val (.int ra), .val (.int sa), .val (.int rb), .val (.int sb), .val (.int md), .val (.int na), .val (.int nc), .val (.int u0), .val (.int u1), .val (.int w0), .val (.int w1), .val (.int rr), .val (.int ss), q14, q15, q16, .val (.int kd), q18, .unset, .unset] [(.int na)])) _
  refine XS.iconst X.here hx rfl (hb hby at_205) ?_
  show Steps p.tables e below (T.setTop (mkF m 206 #[.val (.int cc), .val (.int ra), .val (.int sa), .val (.int rb), .val (.int sb), .val (.int md), .val (.int na), .val (.int nc), .val (.int u0), .val (.int u1), .val (.int w0), .val (.int w1), .val (.int rr), .val (.int ss), q14, q15, q16, .val (.int kd), q18, .unset, .unset] [(.int (1 : Int32)), (.int na)])) _
  refine XS.icmpYes X.here hx rfl (pc0 := 206) (pc' := 216) rfl (hb hby at_206) rfl (tlt hc206).1 (by decide) (by decide) ?_
  show Steps p.tables e below (T.setTop (mkF m 216 #[.val (.int cc), .val (.int ra), .val (.int sa), .val (.int rb), .val (.int sb), .val (.int md), .val (.int na), .val (.int nc), .val (.int u0), .val (.int u1), .val (.int w0), .val (.int w1), .val (.int rr), .val (.int ss), q14, q15, q16, .val (.int kd), q18, .unset, .unset] [])) _
  refine XS.iload X.here hx rfl (hb hby at_216) rfl ?_
  show Steps p.tables e below (T.setTop (mkF m 218 #[.val (.int cc), .val (.int ra), .val (.int sa), .val (.int rb), .val (.int sb), .val (.int md), .val (.int na), .val (.int nc), .val (.int u0), .val (.int u1), .val (.int w0), .val (.int w1), .val (.int rr), .val (.int ss), q14, q15, q16, .val (.int kd), q18, .unset, .unset] [(.int na)])) _
  refine XS.iconst X.here hx rfl (hb hby at_218) ?_
  show Steps p.tables e below (T.setTop (mkF m 219 #[.val (.int cc), .val (.int ra), .val (.int sa), .val (.int rb), .val (.int sb), .val (.int md), .val (.int na), .val (.int nc), .val (.int u0), .val (.int u1), .val (.int w0), .val (.int w1), .val (.int rr), .val (.int ss), q14, q15, q16, .val (.int kd), q18, .unset, .unset] [(.int (2 : Int32)), (.int na)])) _
  refine XS.icmpYes X.here hx rfl (pc0 := 219) (pc' := 229) rfl (hb hby at_219) rfl (tlt hc219).1 (by decide) (by decide) ?_
  show Steps p.tables e below (T.setTop (mkF m 229 #[.val (.int cc), .val (.int ra), .val (.int sa), .val (.int rb), .val (.int sb), .val (.int md), .val (.int na), .val (.int nc), .val (.int u0), .val (.int u1), .val (.int w0), .val (.int w1), .val (.int rr), .val (.int ss), q14, q15, q16, .val (.int kd), q18, .unset, .unset] [])) _
  refine XS.iconst X.here hx rfl (hb hby at_229) ?_
  show Steps p.tables e below (T.setTop (mkF m 230 #[.val (.int cc), .val (.int ra), .val (.int sa), .val (.int rb), .val (.int sb), .val (.int md), .val (.int na), .val (.int nc), .val (.int u0), .val (.int u1), .val (.int w0), .val (.int w1), .val (.int rr), .val (.int ss), q14, q15, q16, .val (.int kd), q18, .unset, .unset] [(.int (1 : Int32))])) _
  refine XS.goto X.here hx rfl (pc0 := 230) (pc' := 234) rfl (hb hby at_230) (by decide) (by decide) ?_
  show Steps p.tables e below (T.setTop (mkF m 234 #[.val (.int cc), .val (.int ra), .val (.int sa), .val (.int rb), .val (.int sb), .val (.int md), .val (.int na), .val (.int nc), .val (.int u0), .val (.int u1), .val (.int w0), .val (.int w1), .val (.int rr), .val (.int ss), q14, q15, q16, .val (.int kd), q18, .unset, .unset] [(.int (1 : Int32))])) _
  refine XS.istore X.here hx rfl (hb hby at_234) rfl (l' := #[.val (.int cc), .val (.int ra), .val (.int sa), .val (.int rb), .val (.int sb), .val (.int md), .val (.int na), .val (.int nc), .val (.int u0), .val (.int u1), .val (.int w0), .val (.int w1), .val (.int rr), .val (.int ss), q14, q15, q16, .val (.int kd), q18, .val (.int (1 : Int32)), .unset]) rfl ?_
  exact k
set_option maxRecDepth 65536 in
set_option maxHeartbeats 4000000 in
theorem segE_3 (l : Launch) (cc : Int32) (ra : Int32) (sa : Int32) (rb : Int32) (sb : Int32) (md : Int32) (na : Int32) (nc : Int32) (u0 : Int32) (u1 : Int32) (w0 : Int32) (w1 : Int32) (rr : Int32) (ss : Int32) (kd : Int32) (q14 : Slot) (q15 : Slot) (q16 : Slot) (q18 : Slot) (hc200 : na = nc) (hc206 : ¬ (na < (1 : Int32))) (hc213 : ¬ (u0 = w0)) : Seg l 196 #[.val (.int cc), .val (.int ra), .val (.int sa), .val (.int rb), .val (.int sb), .val (.int md), .val (.int na), .val (.int nc), .val (.int u0), .val (.int u1), .val (.int w0), .val (.int w1), .val (.int rr), .val (.int ss), q14, q15, q16, .val (.int kd), q18, .unset, .unset] 236 #[.val (.int cc), .val (.int ra), .val (.int sa), .val (.int rb), .val (.int sb), .val (.int md), .val (.int na), .val (.int nc), .val (.int u0), .val (.int u1), .val (.int w0), .val (.int w1), .val (.int rr), .val (.int ss), q14, q15, q16, .val (.int kd), q18, .val (.int (0 : Int32)), .unset] := by
  intro p e R s m args below meth c T locs cells slots X hx hby target k
  show Steps p.tables e below (T.setTop (mkF m 196 #[.val (.int cc), .val (.int ra), .val (.int sa), .val (.int rb), .val (.int sb), .val (.int md), .val (.int na), .val (.int nc), .val (.int u0), .val (.int u1), .val (.int w0), .val (.int w1), .val (.int rr), .val (.int ss), q14, q15, q16, .val (.int kd), q18, .unset, .unset] [])) _
  refine XS.iload X.here hx rfl (hb hby at_196) rfl ?_
  show Steps p.tables e below (T.setTop (mkF m 198 #[.val (.int cc), .val (.int ra), .val (.int sa), .val (.int rb), .val (.int sb), .val (.int md), .val (.int na), .val (.int nc), .val (.int u0), .val (.int u1), .val (.int w0), .val (.int w1), .val (.int rr), .val (.int ss), q14, q15, q16, .val (.int kd), q18, .unset, .unset] [(.int na)])) _
  refine XS.iload X.here hx rfl (hb hby at_198) rfl ?_
  show Steps p.tables e below (T.setTop (mkF m 200 #[.val (.int cc), .val (.int ra), .val (.int sa), .val (.int rb), .val (.int sb), .val (.int md), .val (.int na), .val (.int nc), .val (.int u0), .val (.int u1), .val (.int w0), .val (.int w1), .val (.int rr), .val (.int ss), q14, q15, q16, .val (.int kd), q18, .unset, .unset] [(.int nc), (.int na)])) _
  refine XS.icmpNo X.here hx rfl (hb hby at_200) rfl (teq hc200).2 ?_
  show Steps p.tables e below (T.setTop (mkF m 203 #[.val (.int cc), .val (.int ra), .val (.int sa), .val (.int rb), .val (.int sb), .val (.int md), .val (.int na), .val (.int nc), .val (.int u0), .val (.int u1), .val (.int w0), .val (.int w1), .val (.int rr), .val (.int ss), q14, q15, q16, .val (.int kd), q18, .unset, .unset] [])) _
  refine XS.iload X.here hx rfl (hb hby at_203) rfl ?_
  show Steps p.tables e below (T.setTop (mkF m 205 #[.val (.int cc), .val (.int ra), .val (.int sa), .val (.int rb), .val (.int sb), .val (.int md), .val (.int na), .val (.int nc), .val (.int u0), .val (.int u1), .val (.int w0), .val (.int w1), .val (.int rr), .val (.int ss), q14, q15, q16, .val (.int kd), q18, .unset, .unset] [(.int na)])) _
  refine XS.iconst X.here hx rfl (hb hby at_205) ?_
  show Steps p.tables e below (T.setTop (mkF m 206 #[.val (.int cc), .val (.int ra), .val (.int sa), .val (.int rb), .val (.int sb), .val (.int md), .val (.int na), .val (.int nc), .val (.int u0), .val (.int u1), .val (.int w0), .val (.int w1), .val (.int rr), .val (.int ss), q14, q15, q16, .val (.int kd), q18, .unset, .unset] [(.int (1 : Int32)), (.int na)])) _
  refine XS.icmpNo X.here hx rfl (hb hby at_206) rfl (flt hc206).1 ?_
  show Steps p.tables e below (T.setTop (mkF m 209 #[.val (.int cc), .val (.int ra), .val (.int sa), .val (.int rb), .val (.int sb), .val (.int md), .val (.int na), .val (.int nc), .val (.int u0), .val (.int u1), .val (.int w0), .val (.int w1), .val (.int rr), .val (.int ss), q14, q15, q16, .val (.int kd), q18, .unset, .unset] [])) _
  refine XS.iload X.here hx rfl (hb hby at_209) rfl ?_
  show Steps p.tables e below (T.setTop (mkF m 211 #[.val (.int cc), .val (.int ra), .val (.int sa), .val (.int rb), .val (.int sb), .val (.int md), .val (.int na), .val (.int nc), .val (.int u0), .val (.int u1), .val (.int w0), .val (.int w1), .val (.int rr), .val (.int ss), q14, q15, q16, .val (.int kd), q18, .unset, .unset] [(.int u0)])) _
  refine XS.iload X.here hx rfl (hb hby at_211) rfl ?_
  show Steps p.tables e below (T.setTop (mkF m 213 #[.val (.int cc), .val (.int ra), .val (.int sa), .val (.int rb), .val (.int sb), .val (.int md), .val (.int na), .val (.int nc), .val (.int u0), .val (.int u1), .val (.int w0), .val (.int w1), .val (.int rr), .val (.int ss), q14, q15, q16, .val (.int kd), q18, .unset, .unset] [(.int w0), (.int u0)])) _
  refine XS.icmpYes X.here hx rfl (pc0 := 213) (pc' := 233) rfl (hb hby at_213) rfl (feq hc213).2 (by decide) (by decide) ?_
  show Steps p.tables e below (T.setTop (mkF m 233 #[.val (.int cc), .val (.int ra), .val (.int sa), .val (.int rb), .val (.int sb), .val (.int md), .val (.int na), .val (.int nc), .val (.int u0), .val (.int u1), .val (.int w0), .val (.int w1), .val (.int rr), .val (.int ss), q14, q15, q16, .val (.int kd), q18, .unset, .unset] [])) _
  refine XS.iconst X.here hx rfl (hb hby at_233) ?_
  show Steps p.tables e below (T.setTop (mkF m 234 #[.val (.int cc), .val (.int ra), .val (.int sa), .val (.int rb), .val (.int sb), .val (.int md), .val (.int na), .val (.int nc), .val (.int u0), .val (.int u1), .val (.int w0), .val (.int w1), .val (.int rr), .val (.int ss), q14, q15, q16, .val (.int kd), q18, .unset, .unset] [(.int (0 : Int32))])) _
  refine XS.istore X.here hx rfl (hb hby at_234) rfl (l' := #[.val (.int cc), .val (.int ra), .val (.int sa), .val (.int rb), .val (.int sb), .val (.int md), .val (.int na), .val (.int nc), .val (.int u0), .val (.int u1), .val (.int w0), .val (.int w1), .val (.int rr), .val (.int ss), q14, q15, q16, .val (.int kd), q18, .val (.int (0 : Int32)), .unset]) rfl ?_
  exact k
set_option maxRecDepth 65536 in
set_option maxHeartbeats 4000000 in
theorem segE_4 (l : Launch) (cc : Int32) (ra : Int32) (sa : Int32) (rb : Int32) (sb : Int32) (md : Int32) (na : Int32) (nc : Int32) (u0 : Int32) (u1 : Int32) (w0 : Int32) (w1 : Int32) (rr : Int32) (ss : Int32) (kd : Int32) (q14 : Slot) (q15 : Slot) (q16 : Slot) (q18 : Slot) (hc200 : na = nc) (hc206 : ¬ (na < (1 : Int32))) (hc213 : u0 = w0) (hc219 : na < (2 : Int32)) : Seg l 196 #[.val (.int cc), .val (.int ra), .val (.int sa), .val (.int rb), .val (.int sb), .val (.int md), .val (.int na), .val (.int nc), .val (.int u0), .val (.int u1), .val (.int w0), .val (.int w1), .val (.int rr), .val (.int ss), q14, q15, q16, .val (.int kd), q18, .unset, .unset] 236 #[.val (.int cc), .val (.int ra), .val (.int sa), .val (.int rb), .val (.int sb), .val (.int md), .val (.int na), .val (.int nc), .val (.int u0), .val (.int u1), .val (.int w0), .val (.int w1), .val (.int rr), .val (.int ss), q14, q15, q16, .val (.int kd), q18, .val (.int (1 : Int32)), .unset] := by
  intro p e R s m args below meth c T locs cells slots X hx hby target k
  show Steps p.tables e below (T.setTop (mkF m 196 #[.val (.int cc), .val (.int ra), .val (.int sa), .val (.int rb), .val (.int sb), .val (.int md), .val (.int na), .val (.int nc), .val (.int u0), .val (.int u1), .val (.int w0), .val (.int w1), .val (.int rr), .val (.int ss), q14, q15, q16, .val (.int kd), q18, .unset, .unset] [])) _
  refine XS.iload X.here hx rfl (hb hby at_196) rfl ?_
  show Steps p.tables e below (T.setTop (mkF m 198 #[.val (.int cc), .val (.int ra), .val (.int sa), .val (.int rb), .val (.int sb), .val (.int md), .val (.int na), .val (.int nc), .val (.int u0), .val (.int u1), .val (.int w0), .val (.int w1), .val (.int rr), .val (.int ss), q14, q15, q16, .val (.int kd), q18, .unset, .unset] [(.int na)])) _
  refine XS.iload X.here hx rfl (hb hby at_198) rfl ?_
  show Steps p.tables e below (T.setTop (mkF m 200 #[.val (.int cc), .val (.int ra), .val (.int sa), .val (.int rb), .val (.int sb), .val (.int md), .val (.int na), .val (.int nc), .val (.int u0), .val (.int u1), .val (.int w0), .val (.int w1), .val (.int rr), .val (.int ss), q14, q15, q16, .val (.int kd), q18, .unset, .unset] [(.int nc), (.int na)])) _
  refine XS.icmpNo X.here hx rfl (hb hby at_200) rfl (teq hc200).2 ?_
  show Steps p.tables e below (T.setTop (mkF m 203 #[.val (.int cc), .val (.int ra), .val (.int sa), .val (.int rb), .val (.int sb), .val (.int md), .val (.int na), .val (.int nc), .val (.int u0), .val (.int u1), .val (.int w0), .val (.int w1), .val (.int rr), .val (.int ss), q14, q15, q16, .val (.int kd), q18, .unset, .unset] [])) _
  refine XS.iload X.here hx rfl (hb hby at_203) rfl ?_
  show Steps p.tables e below (T.setTop (mkF m 205 #[.val (.int cc), .val (.int ra), .val (.int sa), .val (.int rb), .val (.int sb), .val (.int md), .val (.int na), .val (.int nc), .val (.int u0), .val (.int u1), .val (.int w0), .val (.int w1), .val (.int rr), .val (.int ss), q14, q15, q16, .val (.int kd), q18, .unset, .unset] [(.int na)])) _
  refine XS.iconst X.here hx rfl (hb hby at_205) ?_
  show Steps p.tables e below (T.setTop (mkF m 206 #[.val (.int cc), .val (.int ra), .val (.int sa), .val (.int rb), .val (.int sb), .val (.int md), .val (.int na), .val (.int nc), .val (.int u0), .val (.int u1), .val (.int w0), .val (.int w1), .val (.int rr), .val (.int ss), q14, q15, q16, .val (.int kd), q18, .unset, .unset] [(.int (1 : Int32)), (.int na)])) _
  refine XS.icmpNo X.here hx rfl (hb hby at_206) rfl (flt hc206).1 ?_
  show Steps p.tables e below (T.setTop (mkF m 209 #[.val (.int cc), .val (.int ra), .val (.int sa), .val (.int rb), .val (.int sb), .val (.int md), .val (.int na), .val (.int nc), .val (.int u0), .val (.int u1), .val (.int w0), .val (.int w1), .val (.int rr), .val (.int ss), q14, q15, q16, .val (.int kd), q18, .unset, .unset] [])) _
  refine XS.iload X.here hx rfl (hb hby at_209) rfl ?_
  show Steps p.tables e below (T.setTop (mkF m 211 #[.val (.int cc), .val (.int ra), .val (.int sa), .val (.int rb), .val (.int sb), .val (.int md), .val (.int na), .val (.int nc), .val (.int u0), .val (.int u1), .val (.int w0), .val (.int w1), .val (.int rr), .val (.int ss), q14, q15, q16, .val (.int kd), q18, .unset, .unset] [(.int u0)])) _
  refine XS.iload X.here hx rfl (hb hby at_211) rfl ?_
  show Steps p.tables e below (T.setTop (mkF m 213 #[.val (.int cc), .val (.int ra), .val (.int sa), .val (.int rb), .val (.int sb), .val (.int md), .val (.int na), .val (.int nc), .val (.int u0), .val (.int u1), .val (.int w0), .val (.int w1), .val (.int rr), .val (.int ss), q14, q15, q16, .val (.int kd), q18, .unset, .unset] [(.int w0), (.int u0)])) _
  refine XS.icmpNo X.here hx rfl (hb hby at_213) rfl (teq hc213).2 ?_
  show Steps p.tables e below (T.setTop (mkF m 216 #[.val (.int cc), .val (.int ra), .val (.int sa), .val (.int rb), .val (.int sb), .val (.int md), .val (.int na), .val (.int nc), .val (.int u0), .val (.int u1), .val (.int w0), .val (.int w1), .val (.int rr), .val (.int ss), q14, q15, q16, .val (.int kd), q18, .unset, .unset] [])) _
  refine XS.iload X.here hx rfl (hb hby at_216) rfl ?_
  show Steps p.tables e below (T.setTop (mkF m 218 #[.val (.int cc), .val (.int ra), .val (.int sa), .val (.int rb), .val (.int sb), .val (.int md), .val (.int na), .val (.int nc), .val (.int u0), .val (.int u1), .val (.int w0), .val (.int w1), .val (.int rr), .val (.int ss), q14, q15, q16, .val (.int kd), q18, .unset, .unset] [(.int na)])) _
  refine XS.iconst X.here hx rfl (hb hby at_218) ?_
  show Steps p.tables e below (T.setTop (mkF m 219 #[.val (.int cc), .val (.int ra), .val (.int sa), .val (.int rb), .val (.int sb), .val (.int md), .val (.int na), .val (.int nc), .val (.int u0), .val (.int u1), .val (.int w0), .val (.int w1), .val (.int rr), .val (.int ss), q14, q15, q16, .val (.int kd), q18, .unset, .unset] [(.int (2 : Int32)), (.int na)])) _
  refine XS.icmpYes X.here hx rfl (pc0 := 219) (pc' := 229) rfl (hb hby at_219) rfl (tlt hc219).1 (by decide) (by decide) ?_
  show Steps p.tables e below (T.setTop (mkF m 229 #[.val (.int cc), .val (.int ra), .val (.int sa), .val (.int rb), .val (.int sb), .val (.int md), .val (.int na), .val (.int nc), .val (.int u0), .val (.int u1), .val (.int w0), .val (.int w1), .val (.int rr), .val (.int ss), q14, q15, q16, .val (.int kd), q18, .unset, .unset] [])) _
  refine XS.iconst X.here hx rfl (hb hby at_229) ?_
  show Steps p.tables e below (T.setTop (mkF m 230 #[.val (.int cc), .val (.int ra), .val (.int sa), .val (.int rb), .val (.int sb), .val (.int md), .val (.int na), .val (.int nc), .val (.int u0), .val (.int u1), .val (.int w0), .val (.int w1), .val (.int rr), .val (.int ss), q14, q15, q16, .val (.int kd), q18, .unset, .unset] [(.int (1 : Int32))])) _
  refine XS.goto X.here hx rfl (pc0 := 230) (pc' := 234) rfl (hb hby at_230) (by decide) (by decide) ?_
  show Steps p.tables e below (T.setTop (mkF m 234 #[.val (.int cc), .val (.int ra), .val (.int sa), .val (.int rb), .val (.int sb), .val (.int md), .val (.int na), .val (.int nc), .val (.int u0), .val (.int u1), .val (.int w0), .val (.int w1), .val (.int rr), .val (.int ss), q14, q15, q16, .val (.int kd), q18, .unset, .unset] [(.int (1 : Int32))])) _
  refine XS.istore X.here hx rfl (hb hby at_234) rfl (l' := #[.val (.int cc), .val (.int ra), .val (.int sa), .val (.int rb), .val (.int sb), .val (.int md), .val (.int na), .val (.int nc), .val (.int u0), .val (.int u1), .val (.int w0), .val (.int w1), .val (.int rr), .val (.int ss), q14, q15, q16, .val (.int kd), q18, .val (.int (1 : Int32)), .unset]) rfl ?_
  exact k
set_option maxRecDepth 65536 in
set_option maxHeartbeats 4000000 in
theorem segE_5 (l : Launch) (cc : Int32) (ra : Int32) (sa : Int32) (rb : Int32) (sb : Int32) (md : Int32) (na : Int32) (nc : Int32) (u0 : Int32) (u1 : Int32) (w0 : Int32) (w1 : Int32) (rr : Int32) (ss : Int32) (kd : Int32) (q14 : Slot) (q15 : Slot) (q16 : Slot) (q18 : Slot) (hc200 : na = nc) (hc206 : ¬ (na < (1 : Int32))) (hc213 : u0 = w0) (hc219 : ¬ (na < (2 : Int32))) (hc226 : ¬ (u1 = w1)) : Seg l 196 #[.val (.int cc), .val (.int ra), .val (.int sa), .val (.int rb), .val (.int sb), .val (.int md), .val (.int na), .val (.int nc), .val (.int u0), .val (.int u1), .val (.int w0), .val (.int w1), .val (.int rr), .val (.int ss), q14, q15, q16, .val (.int kd), q18, .unset, .unset] 236 #[.val (.int cc), .val (.int ra), .val (.int sa), .val (.int rb), .val (.int sb), .val (.int md), .val (.int na), .val (.int nc), .val (.int u0), .val (.int u1), .val (.int w0), .val (.int w1), .val (.int rr), .val (.int ss), q14, q15, q16, .val (.int kd), q18, .val (.int (0 : Int32)), .unset] := by
  intro p e R s m args below meth c T locs cells slots X hx hby target k
  show Steps p.tables e below (T.setTop (mkF m 196 #[.val (.int cc), .val (.int ra), .val (.int sa), .val (.int rb), .val (.int sb), .val (.int md), .val (.int na), .val (.int nc), .val (.int u0), .val (.int u1), .val (.int w0), .val (.int w1), .val (.int rr), .val (.int ss), q14, q15, q16, .val (.int kd), q18, .unset, .unset] [])) _
  refine XS.iload X.here hx rfl (hb hby at_196) rfl ?_
  show Steps p.tables e below (T.setTop (mkF m 198 #[.val (.int cc), .val (.int ra), .val (.int sa), .val (.int rb), .val (.int sb), .val (.int md), .val (.int na), .val (.int nc), .val (.int u0), .val (.int u1), .val (.int w0), .val (.int w1), .val (.int rr), .val (.int ss), q14, q15, q16, .val (.int kd), q18, .unset, .unset] [(.int na)])) _
  refine XS.iload X.here hx rfl (hb hby at_198) rfl ?_
  show Steps p.tables e below (T.setTop (mkF m 200 #[.val (.int cc), .val (.int ra), .val (.int sa), .val (.int rb), .val (.int sb), .val (.int md), .val (.int na), .val (.int nc), .val (.int u0), .val (.int u1), .val (.int w0), .val (.int w1), .val (.int rr), .val (.int ss), q14, q15, q16, .val (.int kd), q18, .unset, .unset] [(.int nc), (.int na)])) _
  refine XS.icmpNo X.here hx rfl (hb hby at_200) rfl (teq hc200).2 ?_
  show Steps p.tables e below (T.setTop (mkF m 203 #[.val (.int cc), .val (.int ra), .val (.int sa), .val (.int rb), .val (.int sb), .val (.int md), .val (.int na), .val (.int nc), .val (.int u0), .val (.int u1), .val (.int w0), .val (.int w1), .val (.int rr), .val (.int ss), q14, q15, q16, .val (.int kd), q18, .unset, .unset] [])) _
  refine XS.iload X.here hx rfl (hb hby at_203) rfl ?_
  show Steps p.tables e below (T.setTop (mkF m 205 #[.val (.int cc), .val (.int ra), .val (.int sa), .val (.int rb), .val (.int sb), .val (.int md), .val (.int na), .val (.int nc), .val (.int u0), .val (.int u1), .val (.int w0), .val (.int w1), .val (.int rr), .val (.int ss), q14, q15, q16, .val (.int kd), q18, .unset, .unset] [(.int na)])) _
  refine XS.iconst X.here hx rfl (hb hby at_205) ?_
  show Steps p.tables e below (T.setTop (mkF m 206 #[.val (.int cc), .val (.int ra), .val (.int sa), .val (.int rb), .val (.int sb), .val (.int md), .val (.int na), .val (.int nc), .val (.int u0), .val (.int u1), .val (.int w0), .val (.int w1), .val (.int rr), .val (.int ss), q14, q15, q16, .val (.int kd), q18, .unset, .unset] [(.int (1 : Int32)), (.int na)])) _
  refine XS.icmpNo X.here hx rfl (hb hby at_206) rfl (flt hc206).1 ?_
  show Steps p.tables e below (T.setTop (mkF m 209 #[.val (.int cc), .val (.int ra), .val (.int sa), .val (.int rb), .val (.int sb), .val (.int md), .val (.int na), .val (.int nc), .val (.int u0), .val (.int u1), .val (.int w0), .val (.int w1), .val (.int rr), .val (.int ss), q14, q15, q16, .val (.int kd), q18, .unset, .unset] [])) _
  refine XS.iload X.here hx rfl (hb hby at_209) rfl ?_
  show Steps p.tables e below (T.setTop (mkF m 211 #[.val (.int cc), .val (.int ra), .val (.int sa), .val (.int rb), .val (.int sb), .val (.int md), .val (.int na), .val (.int nc), .val (.int u0), .val (.int u1), .val (.int w0), .val (.int w1), .val (.int rr), .val (.int ss), q14, q15, q16, .val (.int kd), q18, .unset, .unset] [(.int u0)])) _
  refine XS.iload X.here hx rfl (hb hby at_211) rfl ?_
  show Steps p.tables e below (T.setTop (mkF m 213 #[.val (.int cc), .val (.int ra), .val (.int sa), .val (.int rb), .val (.int sb), .val (.int md), .val (.int na), .val (.int nc), .val (.int u0), .val (.int u1), .val (.int w0), .val (.int w1), .val (.int rr), .val (.int ss), q14, q15, q16, .val (.int kd), q18, .unset, .unset] [(.int w0), (.int u0)])) _
  refine XS.icmpNo X.here hx rfl (hb hby at_213) rfl (teq hc213).2 ?_
  show Steps p.tables e below (T.setTop (mkF m 216 #[.val (.int cc), .val (.int ra), .val (.int sa), .val (.int rb), .val (.int sb), .val (.int md), .val (.int na), .val (.int nc), .val (.int u0), .val (.int u1), .val (.int w0), .val (.int w1), .val (.int rr), .val (.int ss), q14, q15, q16, .val (.int kd), q18, .unset, .unset] [])) _
  refine XS.iload X.here hx rfl (hb hby at_216) rfl ?_
  show Steps p.tables e below (T.setTop (mkF m 218 #[.val (.int cc), .val (.int ra), .val (.int sa), .val (.int rb), .val (.int sb), .val (.int md), .val (.int na), .val (.int nc), .val (.int u0), .val (.int u1), .val (.int w0), .val (.int w1), .val (.int rr), .val (.int ss), q14, q15, q16, .val (.int kd), q18, .unset, .unset] [(.int na)])) _
  refine XS.iconst X.here hx rfl (hb hby at_218) ?_
  show Steps p.tables e below (T.setTop (mkF m 219 #[.val (.int cc), .val (.int ra), .val (.int sa), .val (.int rb), .val (.int sb), .val (.int md), .val (.int na), .val (.int nc), .val (.int u0), .val (.int u1), .val (.int w0), .val (.int w1), .val (.int rr), .val (.int ss), q14, q15, q16, .val (.int kd), q18, .unset, .unset] [(.int (2 : Int32)), (.int na)])) _
  refine XS.icmpNo X.here hx rfl (hb hby at_219) rfl (flt hc219).1 ?_
  show Steps p.tables e below (T.setTop (mkF m 222 #[.val (.int cc), .val (.int ra), .val (.int sa), .val (.int rb), .val (.int sb), .val (.int md), .val (.int na), .val (.int nc), .val (.int u0), .val (.int u1), .val (.int w0), .val (.int w1), .val (.int rr), .val (.int ss), q14, q15, q16, .val (.int kd), q18, .unset, .unset] [])) _
  refine XS.iload X.here hx rfl (hb hby at_222) rfl ?_
  show Steps p.tables e below (T.setTop (mkF m 224 #[.val (.int cc), .val (.int ra), .val (.int sa), .val (.int rb), .val (.int sb), .val (.int md), .val (.int na), .val (.int nc), .val (.int u0), .val (.int u1), .val (.int w0), .val (.int w1), .val (.int rr), .val (.int ss), q14, q15, q16, .val (.int kd), q18, .unset, .unset] [(.int u1)])) _
  refine XS.iload X.here hx rfl (hb hby at_224) rfl ?_
  show Steps p.tables e below (T.setTop (mkF m 226 #[.val (.int cc), .val (.int ra), .val (.int sa), .val (.int rb), .val (.int sb), .val (.int md), .val (.int na), .val (.int nc), .val (.int u0), .val (.int u1), .val (.int w0), .val (.int w1), .val (.int rr), .val (.int ss), q14, q15, q16, .val (.int kd), q18, .unset, .unset] [(.int w1), (.int u1)])) _
  refine XS.icmpYes X.here hx rfl (pc0 := 226) (pc' := 233) rfl (hb hby at_226) rfl (feq hc226).2 (by decide) (by decide) ?_
  show Steps p.tables e below (T.setTop (mkF m 233 #[.val (.int cc), .val (.int ra), .val (.int sa), .val (.int rb), .val (.int sb), .val (.int md), .val (.int na), .val (.int nc), .val (.int u0), .val (.int u1), .val (.int w0), .val (.int w1), .val (.int rr), .val (.int ss), q14, q15, q16, .val (.int kd), q18, .unset, .unset] [])) _
  refine XS.iconst X.here hx rfl (hb hby at_233) ?_
  show Steps p.tables e below (T.setTop (mkF m 234 #[.val (.int cc), .val (.int ra), .val (.int sa), .val (.int rb), .val (.int sb), .val (.int md), .val (.int na), .val (.int nc), .val (.int u0), .val (.int u1), .val (.int w0), .val (.int w1), .val (.int rr), .val (.int ss), q14, q15, q16, .val (.int kd), q18, .unset, .unset] [(.int (0 : Int32))])) _
  refine XS.istore X.here hx rfl (hb hby at_234) rfl (l' := #[.val (.int cc), .val (.int ra), .val (.int sa), .val (.int rb), .val (.int sb), .val (.int md), .val (.int na), .val (.int nc), .val (.int u0), .val (.int u1), .val (.int w0), .val (.int w1), .val (.int rr), .val (.int ss), q14, q15, q16, .val (.int kd), q18, .val (.int (0 : Int32)), .unset]) rfl ?_
  exact k
set_option maxRecDepth 65536 in
set_option maxHeartbeats 4000000 in
theorem segE_6 (l : Launch) (cc : Int32) (ra : Int32) (sa : Int32) (rb : Int32) (sb : Int32) (md : Int32) (na : Int32) (nc : Int32) (u0 : Int32) (u1 : Int32) (w0 : Int32) (w1 : Int32) (rr : Int32) (ss : Int32) (kd : Int32) (q14 : Slot) (q15 : Slot) (q16 : Slot) (q18 : Slot) (hc200 : na = nc) (hc206 : ¬ (na < (1 : Int32))) (hc213 : u0 = w0) (hc219 : ¬ (na < (2 : Int32))) (hc226 : u1 = w1) : Seg l 196 #[.val (.int cc), .val (.int ra), .val (.int sa), .val (.int rb), .val (.int sb), .val (.int md), .val (.int na), .val (.int nc), .val (.int u0), .val (.int u1), .val (.int w0), .val (.int w1), .val (.int rr), .val (.int ss), q14, q15, q16, .val (.int kd), q18, .unset, .unset] 236 #[.val (.int cc), .val (.int ra), .val (.int sa), .val (.int rb), .val (.int sb), .val (.int md), .val (.int na), .val (.int nc), .val (.int u0), .val (.int u1), .val (.int w0), .val (.int w1), .val (.int rr), .val (.int ss), q14, q15, q16, .val (.int kd), q18, .val (.int (1 : Int32)), .unset] := by
  intro p e R s m args below meth c T locs cells slots X hx hby target k
  show Steps p.tables e below (T.setTop (mkF m 196 #[.val (.int cc), .val (.int ra), .val (.int sa), .val (.int rb), .val (.int sb), .val (.int md), .val (.int na), .val (.int nc), .val (.int u0), .val (.int u1), .val (.int w0), .val (.int w1), .val (.int rr), .val (.int ss), q14, q15, q16, .val (.int kd), q18, .unset, .unset] [])) _
  refine XS.iload X.here hx rfl (hb hby at_196) rfl ?_
  show Steps p.tables e below (T.setTop (mkF m 198 #[.val (.int cc), .val (.int ra), .val (.int sa), .val (.int rb), .val (.int sb), .val (.int md), .val (.int na), .val (.int nc), .val (.int u0), .val (.int u1), .val (.int w0), .val (.int w1), .val (.int rr), .val (.int ss), q14, q15, q16, .val (.int kd), q18, .unset, .unset] [(.int na)])) _
  refine XS.iload X.here hx rfl (hb hby at_198) rfl ?_
  show Steps p.tables e below (T.setTop (mkF m 200 #[.val (.int cc), .val (.int ra), .val (.int sa), .val (.int rb), .val (.int sb), .val (.int md), .val (.int na), .val (.int nc), .val (.int u0), .val (.int u1), .val (.int w0), .val (.int w1), .val (.int rr), .val (.int ss), q14, q15, q16, .val (.int kd), q18, .unset, .unset] [(.int nc), (.int na)])) _
  refine XS.icmpNo X.here hx rfl (hb hby at_200) rfl (teq hc200).2 ?_
  show Steps p.tables e below (T.setTop (mkF m 203 #[.val (.int cc), .val (.int ra), .val (.int sa), .val (.int rb), .val (.int sb), .val (.int md), .val (.int na), .val (.int nc), .val (.int u0), .val (.int u1), .val (.int w0), .val (.int w1), .val (.int rr), .val (.int ss), q14, q15, q16, .val (.int kd), q18, .unset, .unset] [])) _
  refine XS.iload X.here hx rfl (hb hby at_203) rfl ?_
  show Steps p.tables e below (T.setTop (mkF m 205 #[.val (.int cc), .val (.int ra), .val (.int sa), .val (.int rb), .val (.int sb), .val (.int md), .val (.int na), .val (.int nc), .val (.int u0), .val (.int u1), .val (.int w0), .val (.int w1), .val (.int rr), .val (.int ss), q14, q15, q16, .val (.int kd), q18, .unset, .unset] [(.int na)])) _
  refine XS.iconst X.here hx rfl (hb hby at_205) ?_
  show Steps p.tables e below (T.setTop (mkF m 206 #[.val (.int cc), .val (.int ra), .val (.int sa), .val (.int rb), .val (.int sb), .val (.int md), .val (.int na), .val (.int nc), .val (.int u0), .val (.int u1), .val (.int w0), .val (.int w1), .val (.int rr), .val (.int ss), q14, q15, q16, .val (.int kd), q18, .unset, .unset] [(.int (1 : Int32)), (.int na)])) _
  refine XS.icmpNo X.here hx rfl (hb hby at_206) rfl (flt hc206).1 ?_
  show Steps p.tables e below (T.setTop (mkF m 209 #[.val (.int cc), .val (.int ra), .val (.int sa), .val (.int rb), .val (.int sb), .val (.int md), .val (.int na), .val (.int nc), .val (.int u0), .val (.int u1), .val (.int w0), .val (.int w1), .val (.int rr), .val (.int ss), q14, q15, q16, .val (.int kd), q18, .unset, .unset] [])) _
  refine XS.iload X.here hx rfl (hb hby at_209) rfl ?_
  show Steps p.tables e below (T.setTop (mkF m 211 #[.val (.int cc), .val (.int ra), .val (.int sa), .val (.int rb), .val (.int sb), .val (.int md), .val (.int na), .val (.int nc), .val (.int u0), .val (.int u1), .val (.int w0), .val (.int w1), .val (.int rr), .val (.int ss), q14, q15, q16, .val (.int kd), q18, .unset, .unset] [(.int u0)])) _
  refine XS.iload X.here hx rfl (hb hby at_211) rfl ?_
  show Steps p.tables e below (T.setTop (mkF m 213 #[.val (.int cc), .val (.int ra), .val (.int sa), .val (.int rb), .val (.int sb), .val (.int md), .val (.int na), .val (.int nc), .val (.int u0), .val (.int u1), .val (.int w0), .val (.int w1), .val (.int rr), .val (.int ss), q14, q15, q16, .val (.int kd), q18, .unset, .unset] [(.int w0), (.int u0)])) _
  refine XS.icmpNo X.here hx rfl (hb hby at_213) rfl (teq hc213).2 ?_
  show Steps p.tables e below (T.setTop (mkF m 216 #[.val (.int cc), .val (.int ra), .val (.int sa), .val (.int rb), .val (.int sb), .val (.int md), .val (.int na), .val (.int nc), .val (.int u0), .val (.int u1), .val (.int w0), .val (.int w1), .val (.int rr), .val (.int ss), q14, q15, q16, .val (.int kd), q18, .unset, .unset] [])) _
  refine XS.iload X.here hx rfl (hb hby at_216) rfl ?_
  show Steps p.tables e below (T.setTop (mkF m 218 #[.val (.int cc), .val (.int ra), .val (.int sa), .val (.int rb), .val (.int sb), .val (.int md), .val (.int na), .val (.int nc), .val (.int u0), .val (.int u1), .val (.int w0), .val (.int w1), .val (.int rr), .val (.int ss), q14, q15, q16, .val (.int kd), q18, .unset, .unset] [(.int na)])) _
  refine XS.iconst X.here hx rfl (hb hby at_218) ?_
  show Steps p.tables e below (T.setTop (mkF m 219 #[.val (.int cc), .val (.int ra), .val (.int sa), .val (.int rb), .val (.int sb), .val (.int md), .val (.int na), .val (.int nc), .val (.int u0), .val (.int u1), .val (.int w0), .val (.int w1), .val (.int rr), .val (.int ss), q14, q15, q16, .val (.int kd), q18, .unset, .unset] [(.int (2 : Int32)), (.int na)])) _
  refine XS.icmpNo X.here hx rfl (hb hby at_219) rfl (flt hc219).1 ?_
  show Steps p.tables e below (T.setTop (mkF m 222 #[.val (.int cc), .val (.int ra), .val (.int sa), .val (.int rb), .val (.int sb), .val (.int md), .val (.int na), .val (.int nc), .val (.int u0), .val (.int u1), .val (.int w0), .val (.int w1), .val (.int rr), .val (.int ss), q14, q15, q16, .val (.int kd), q18, .unset, .unset] [])) _
  refine XS.iload X.here hx rfl (hb hby at_222) rfl ?_
  show Steps p.tables e below (T.setTop (mkF m 224 #[.val (.int cc), .val (.int ra), .val (.int sa), .val (.int rb), .val (.int sb), .val (.int md), .val (.int na), .val (.int nc), .val (.int u0), .val (.int u1), .val (.int w0), .val (.int w1), .val (.int rr), .val (.int ss), q14, q15, q16, .val (.int kd), q18, .unset, .unset] [(.int u1)])) _
  refine XS.iload X.here hx rfl (hb hby at_224) rfl ?_
  show Steps p.tables e below (T.setTop (mkF m 226 #[.val (.int cc), .val (.int ra), .val (.int sa), .val (.int rb), .val (.int sb), .val (.int md), .val (.int na), .val (.int nc), .val (.int u0), .val (.int u1), .val (.int w0), .val (.int w1), .val (.int rr), .val (.int ss), q14, q15, q16, .val (.int kd), q18, .unset, .unset] [(.int w1), (.int u1)])) _
  refine XS.icmpNo X.here hx rfl (hb hby at_226) rfl (teq hc226).2 ?_
  show Steps p.tables e below (T.setTop (mkF m 229 #[.val (.int cc), .val (.int ra), .val (.int sa), .val (.int rb), .val (.int sb), .val (.int md), .val (.int na), .val (.int nc), .val (.int u0), .val (.int u1), .val (.int w0), .val (.int w1), .val (.int rr), .val (.int ss), q14, q15, q16, .val (.int kd), q18, .unset, .unset] [])) _
  refine XS.iconst X.here hx rfl (hb hby at_229) ?_
  show Steps p.tables e below (T.setTop (mkF m 230 #[.val (.int cc), .val (.int ra), .val (.int sa), .val (.int rb), .val (.int sb), .val (.int md), .val (.int na), .val (.int nc), .val (.int u0), .val (.int u1), .val (.int w0), .val (.int w1), .val (.int rr), .val (.int ss), q14, q15, q16, .val (.int kd), q18, .unset, .unset] [(.int (1 : Int32))])) _
  refine XS.goto X.here hx rfl (pc0 := 230) (pc' := 234) rfl (hb hby at_230) (by decide) (by decide) ?_
  show Steps p.tables e below (T.setTop (mkF m 234 #[.val (.int cc), .val (.int ra), .val (.int sa), .val (.int rb), .val (.int sb), .val (.int md), .val (.int na), .val (.int nc), .val (.int u0), .val (.int u1), .val (.int w0), .val (.int w1), .val (.int rr), .val (.int ss), q14, q15, q16, .val (.int kd), q18, .unset, .unset] [(.int (1 : Int32))])) _
  refine XS.istore X.here hx rfl (hb hby at_234) rfl (l' := #[.val (.int cc), .val (.int ra), .val (.int sa), .val (.int rb), .val (.int sb), .val (.int md), .val (.int na), .val (.int nc), .val (.int u0), .val (.int u1), .val (.int w0), .val (.int w1), .val (.int rr), .val (.int ss), q14, q15, q16, .val (.int kd), q18, .val (.int (1 : Int32)), .unset]) rfl ?_
  exact k
set_option maxRecDepth 65536 in
set_option maxHeartbeats 4000000 in
theorem segF_1 (l : Launch) (cc : Int32) (ra : Int32) (sa : Int32) (rb : Int32) (sb : Int32) (md : Int32) (na : Int32) (nc : Int32) (u0 : Int32) (u1 : Int32) (w0 : Int32) (w1 : Int32) (rr : Int32) (ss : Int32) (kd : Int32) (sm : Int32) (q14 : Slot) (q15 : Slot) (q16 : Slot) (q18 : Slot) (hc239 : ¬ (kd < (2 : Int32))) : Seg l 236 #[.val (.int cc), .val (.int ra), .val (.int sa), .val (.int rb), .val (.int sb), .val (.int md), .val (.int na), .val (.int nc), .val (.int u0), .val (.int u1), .val (.int w0), .val (.int w1), .val (.int rr), .val (.int ss), q14, q15, q16, .val (.int kd), q18, .val (.int sm), .unset] 266 #[.val (.int cc), .val (.int ra), .val (.int sa), .val (.int rb), .val (.int sb), .val (.int md), .val (.int na), .val (.int nc), .val (.int u0), .val (.int u1), .val (.int w0), .val (.int w1), .val (.int rr), .val (.int ss), q14, q15, q16, .val (.int kd), q18, .val (.int sm), .val (.int (0 : Int32))] := by
  intro p e R s m args below meth c T locs cells slots X hx hby target k
  show Steps p.tables e below (T.setTop (mkF m 236 #[.val (.int cc), .val (.int ra), .val (.int sa), .val (.int rb), .val (.int sb), .val (.int md), .val (.int na), .val (.int nc), .val (.int u0), .val (.int u1), .val (.int w0), .val (.int w1), .val (.int rr), .val (.int ss), q14, q15, q16, .val (.int kd), q18, .val (.int sm), .unset] [])) _
  refine XS.iload X.here hx rfl (hb hby at_236) rfl ?_
  show Steps p.tables e below (T.setTop (mkF m 238 #[.val (.int cc), .val (.int ra), .val (.int sa), .val (.int rb), .val (.int sb), .val (.int md), .val (.int na), .val (.int nc), .val (.int u0), .val (.int u1), .val (.int w0), .val (.int w1), .val (.int rr), .val (.int ss), q14, q15, q16, .val (.int kd), q18, .val (.int sm), .unset] [(.int kd)])) _
  refine XS.iconst X.here hx rfl (hb hby at_238) ?_
  show Steps p.tables e below (T.setTop (mkF m 239 #[.val (.int cc), .val (.int ra), .val (.int sa), .val (.int rb), .val (.int sb), .val (.int md), .val (.int na), .val (.int nc), .val (.int u0), .val (.int u1), .val (.int w0), .val (.int w1), .val (.int rr), .val (.int ss), q14, q15, q16, .val (.int kd), q18, .val (.int sm), .unset] [(.int (2 : Int32)), (.int kd)])) _
  refine XS.icmpYes X.here hx rfl (pc0 := 239) (pc' := 263) rfl (hb hby at_239) rfl (flt hc239).2.1 (by decide) (by decide) ?_
  show Steps p.tables e below (T.setTop (mkF m 263 #[.val (.int cc), .val (.int ra), .val (.int sa), .val (.int rb), .val (.int sb), .val (.int md), .val (.int na), .val (.int nc), .val (.int u0), .val (.int u1), .val (.int w0), .val (.int w1), .val (.int rr), .val (.int ss), q14, q15, q16, .val (.int kd), q18, .val (.int sm), .unset] [])) _
  refine XS.iconst X.here hx rfl (hb hby at_263) ?_
  show Steps p.tables e below (T.setTop (mkF m 264 #[.val (.int cc), .val (.int ra), .val (.int sa), .val (.int rb), .val (.int sb), .val (.int md), .val (.int na), .val (.int nc), .val (.int u0), .val (.int u1), .val (.int w0), .val (.int w1), .val (.int rr), .val (.int ss), q14, q15, q16, .val (.int kd), q18, .val (.int sm), .unset] [(.int (0 : Int32))])) _
  refine XS.istore X.here hx rfl (hb hby at_264) rfl (l' := #[.val (.int cc), .val (.int ra), .val (.int sa), .val (.int rb), .val (.int sb), .val (.int md), .val (.int na), .val (.int nc), .val (.int u0), .val (.int u1), .val (.int w0), .val (.int w1), .val (.int rr), .val (.int ss), q14, q15, q16, .val (.int kd), q18, .val (.int sm), .val (.int (0 : Int32))]) rfl ?_
  exact k
set_option maxRecDepth 65536 in
set_option maxHeartbeats 4000000 in
theorem segF_2 (l : Launch) (cc : Int32) (ra : Int32) (sa : Int32) (rb : Int32) (sb : Int32) (md : Int32) (na : Int32) (nc : Int32) (u0 : Int32) (u1 : Int32) (w0 : Int32) (w1 : Int32) (rr : Int32) (ss : Int32) (kd : Int32) (sm : Int32) (q14 : Slot) (q15 : Slot) (q16 : Slot) (q18 : Slot) (hc239 : kd < (2 : Int32)) (hc244 : sm = (0 : Int32)) : Seg l 236 #[.val (.int cc), .val (.int ra), .val (.int sa), .val (.int rb), .val (.int sb), .val (.int md), .val (.int na), .val (.int nc), .val (.int u0), .val (.int u1), .val (.int w0), .val (.int w1), .val (.int rr), .val (.int ss), q14, q15, q16, .val (.int kd), q18, .val (.int sm), .unset] 266 #[.val (.int cc), .val (.int ra), .val (.int sa), .val (.int rb), .val (.int sb), .val (.int md), .val (.int na), .val (.int nc), .val (.int u0), .val (.int u1), .val (.int w0), .val (.int w1), .val (.int rr), .val (.int ss), q14, q15, q16, .val (.int kd), q18, .val (.int sm), .val (.int (0 : Int32))] := by
  intro p e R s m args below meth c T locs cells slots X hx hby target k
  show Steps p.tables e below (T.setTop (mkF m 236 #[.val (.int cc), .val (.int ra), .val (.int sa), .val (.int rb), .val (.int sb), .val (.int md), .val (.int na), .val (.int nc), .val (.int u0), .val (.int u1), .val (.int w0), .val (.int w1), .val (.int rr), .val (.int ss), q14, q15, q16, .val (.int kd), q18, .val (.int sm), .unset] [])) _
  refine XS.iload X.here hx rfl (hb hby at_236) rfl ?_
  show Steps p.tables e below (T.setTop (mkF m 238 #[.val (.int cc), .val (.int ra), .val (.int sa), .val (.int rb), .val (.int sb), .val (.int md), .val (.int na), .val (.int nc), .val (.int u0), .val (.int u1), .val (.int w0), .val (.int w1), .val (.int rr), .val (.int ss), q14, q15, q16, .val (.int kd), q18, .val (.int sm), .unset] [(.int kd)])) _
  refine XS.iconst X.here hx rfl (hb hby at_238) ?_
  show Steps p.tables e below (T.setTop (mkF m 239 #[.val (.int cc), .val (.int ra), .val (.int sa), .val (.int rb), .val (.int sb), .val (.int md), .val (.int na), .val (.int nc), .val (.int u0), .val (.int u1), .val (.int w0), .val (.int w1), .val (.int rr), .val (.int ss), q14, q15, q16, .val (.int kd), q18, .val (.int sm), .unset] [(.int (2 : Int32)), (.int kd)])) _
  refine XS.icmpNo X.here hx rfl (hb hby at_239) rfl (tlt hc239).2.1 ?_
  show Steps p.tables e below (T.setTop (mkF m 242 #[.val (.int cc), .val (.int ra), .val (.int sa), .val (.int rb), .val (.int sb), .val (.int md), .val (.int na), .val (.int nc), .val (.int u0), .val (.int u1), .val (.int w0), .val (.int w1), .val (.int rr), .val (.int ss), q14, q15, q16, .val (.int kd), q18, .val (.int sm), .unset] [])) _
  refine XS.iload X.here hx rfl (hb hby at_242) rfl ?_
  show Steps p.tables e below (T.setTop (mkF m 244 #[.val (.int cc), .val (.int ra), .val (.int sa), .val (.int rb), .val (.int sb), .val (.int md), .val (.int na), .val (.int nc), .val (.int u0), .val (.int u1), .val (.int w0), .val (.int w1), .val (.int rr), .val (.int ss), q14, q15, q16, .val (.int kd), q18, .val (.int sm), .unset] [(.int sm)])) _
  refine XS.ifYes X.here hx rfl (pc0 := 244) (pc' := 263) rfl (hb hby at_244) rfl ((if0 _ _).trans (teq hc244).1) (by decide) (by decide) ?_
  show Steps p.tables e below (T.setTop (mkF m 263 #[.val (.int cc), .val (.int ra), .val (.int sa), .val (.int rb), .val (.int sb), .val (.int md), .val (.int na), .val (.int nc), .val (.int u0), .val (.int u1), .val (.int w0), .val (.int w1), .val (.int rr), .val (.int ss), q14, q15, q16, .val (.int kd), q18, .val (.int sm), .unset] [])) _
  refine XS.iconst X.here hx rfl (hb hby at_263) ?_
  show Steps p.tables e below (T.setTop (mkF m 264 #[.val (.int cc), .val (.int ra), .val (.int sa), .val (.int rb), .val (.int sb), .val (.int md), .val (.int na), .val (.int nc), .val (.int u0), .val (.int u1), .val (.int w0), .val (.int w1), .val (.int rr), .val (.int ss), q14, q15, q16, .val (.int kd), q18, .val (.int sm), .unset] [(.int (0 : Int32))])) _
  refine XS.istore X.here hx rfl (hb hby at_264) rfl (l' := #[.val (.int cc), .val (.int ra), .val (.int sa), .val (.int rb), .val (.int sb), .val (.int md), .val (.int na), .val (.int nc), .val (.int u0), .val (.int u1), .val (.int w0), .val (.int w1), .val (.int rr), .val (.int ss), q14, q15, q16, .val (.int kd), q18, .val (.int sm), .val (.int (0 : Int32))]) rfl ?_
  exact k
set_option maxRecDepth 65536 in
set_option maxHeartbeats 4000000 in
theorem segF_3 (l : Launch) (cc : Int32) (ra : Int32) (sa : Int32) (rb : Int32) (sb : Int32) (md : Int32) (na : Int32) (nc : Int32) (u0 : Int32) (u1 : Int32) (w0 : Int32) (w1 : Int32) (rr : Int32) (ss : Int32) (kd : Int32) (sm : Int32) (q14 : Slot) (q15 : Slot) (q16 : Slot) (q18 : Slot) (hc239 : kd < (2 : Int32)) (hc244 : ¬ (sm = (0 : Int32))) (hc250 : ¬ (ra = rr)) : Seg l 236 #[.val (.int cc), .val (.int ra), .val (.int sa), .val (.int rb), .val (.int sb), .val (.int md), .val (.int na), .val (.int nc), .val (.int u0), .val (.int u1), .val (.int w0), .val (.int w1), .val (.int rr), .val (.int ss), q14, q15, q16, .val (.int kd), q18, .val (.int sm), .unset] 266 #[.val (.int cc), .val (.int ra), .val (.int sa), .val (.int rb), .val (.int sb), .val (.int md), .val (.int na), .val (.int nc), .val (.int u0), .val (.int u1), .val (.int w0), .val (.int w1), .val (.int rr), .val (.int ss), q14, q15, q16, .val (.int kd), q18, .val (.int sm), .val (.int (0 : Int32))] := by
  intro p e R s m args below meth c T locs cells slots X hx hby target k
  show Steps p.tables e below (T.setTop (mkF m 236 #[.val (.int cc), .val (.int ra), .val (.int sa), .val (.int rb), .val (.int sb), .val (.int md), .val (.int na), .val (.int nc), .val (.int u0), .val (.int u1), .val (.int w0), .val (.int w1), .val (.int rr), .val (.int ss), q14, q15, q16, .val (.int kd), q18, .val (.int sm), .unset] [])) _
  refine XS.iload X.here hx rfl (hb hby at_236) rfl ?_
  show Steps p.tables e below (T.setTop (mkF m 238 #[.val (.int cc), .val (.int ra), .val (.int sa), .val (.int rb), .val (.int sb), .val (.int md), .val (.int na), .val (.int nc), .val (.int u0), .val (.int u1), .val (.int w0), .val (.int w1), .val (.int rr), .val (.int ss), q14, q15, q16, .val (.int kd), q18, .val (.int sm), .unset] [(.int kd)])) _
  refine XS.iconst X.here hx rfl (hb hby at_238) ?_
  show Steps p.tables e below (T.setTop (mkF m 239 #[.val (.int cc), .val (.int ra), .val (.int sa), .val (.int rb), .val (.int sb), .val (.int md), .val (.int na), .val (.int nc), .val (.int u0), .val (.int u1), .val (.int w0), .val (.int w1), .val (.int rr), .val (.int ss), q14, q15, q16, .val (.int kd), q18, .val (.int sm), .unset] [(.int (2 : Int32)), (.int kd)])) _
  refine XS.icmpNo X.here hx rfl (hb hby at_239) rfl (tlt hc239).2.1 ?_
  show Steps p.tables e below (T.setTop (mkF m 242 #[.val (.int cc), .val (.int ra), .val (.int sa), .val (.int rb), .val (.int sb), .val (.int md), .val (.int na), .val (.int nc), .val (.int u0), .val (.int u1), .val (.int w0), .val (.int w1), .val (.int rr), .val (.int ss), q14, q15, q16, .val (.int kd), q18, .val (.int sm), .unset] [])) _
  refine XS.iload X.here hx rfl (hb hby at_242) rfl ?_
  show Steps p.tables e below (T.setTop (mkF m 244 #[.val (.int cc), .val (.int ra), .val (.int sa), .val (.int rb), .val (.int sb), .val (.int md), .val (.int na), .val (.int nc), .val (.int u0), .val (.int u1), .val (.int w0), .val (.int w1), .val (.int rr), .val (.int ss), q14, q15, q16, .val (.int kd), q18, .val (.int sm), .unset] [(.int sm)])) _
  refine XS.ifNo X.here hx rfl (hb hby at_244) rfl ((if0 _ _).trans (feq hc244).1) ?_
  show Steps p.tables e below (T.setTop (mkF m 247 #[.val (.int cc), .val (.int ra), .val (.int sa), .val (.int rb), .val (.int sb), .val (.int md), .val (.int na), .val (.int nc), .val (.int u0), .val (.int u1), .val (.int w0), .val (.int w1), .val (.int rr), .val (.int ss), q14, q15, q16, .val (.int kd), q18, .val (.int sm), .unset] [])) _
  refine XS.iloadN X.here hx rfl (hb hby at_247) rfl ?_
  show Steps p.tables e below (T.setTop (mkF m 248 #[.val (.int cc), .val (.int ra), .val (.int sa), .val (.int rb), .val (.int sb), .val (.int md), .val (.int na), .val (.int nc), .val (.int u0), .val (.int u1), .val (.int w0), .val (.int w1), .val (.int rr), .val (.int ss), q14, q15, q16, .val (.int kd), q18, .val (.int sm), .unset] [(.int ra)])) _
  refine XS.iload X.here hx rfl (hb hby at_248) rfl ?_
  show Steps p.tables e below (T.setTop (mkF m 250 #[.val (.int cc), .val (.int ra), .val (.int sa), .val (.int rb), .val (.int sb), .val (.int md), .val (.int na), .val (.int nc), .val (.int u0), .val (.int u1), .val (.int w0), .val (.int w1), .val (.int rr), .val (.int ss), q14, q15, q16, .val (.int kd), q18, .val (.int sm), .unset] [(.int rr), (.int ra)])) _
  refine XS.icmpYes X.here hx rfl (pc0 := 250) (pc' := 263) rfl (hb hby at_250) rfl (feq hc250).2 (by decide) (by decide) ?_
  show Steps p.tables e below (T.setTop (mkF m 263 #[.val (.int cc), .val (.int ra), .val (.int sa), .val (.int rb), .val (.int sb), .val (.int md), .val (.int na), .val (.int nc), .val (.int u0), .val (.int u1), .val (.int w0), .val (.int w1), .val (.int rr), .val (.int ss), q14, q15, q16, .val (.int kd), q18, .val (.int sm), .unset] [])) _
  refine XS.iconst X.here hx rfl (hb hby at_263) ?_
  show Steps p.tables e below (T.setTop (mkF m 264 #[.val (.int cc), .val (.int ra), .val (.int sa), .val (.int rb), .val (.int sb), .val (.int md), .val (.int na), .val (.int nc), .val (.int u0), .val (.int u1), .val (.int w0), .val (.int w1), .val (.int rr), .val (.int ss), q14, q15, q16, .val (.int kd), q18, .val (.int sm), .unset] [(.int (0 : Int32))])) _
  refine XS.istore X.here hx rfl (hb hby at_264) rfl (l' := #[.val (.int cc), .val (.int ra), .val (.int sa), .val (.int rb), .val (.int sb), .val (.int md), .val (.int na), .val (.int nc), .val (.int u0), .val (.int u1), .val (.int w0), .val (.int w1), .val (.int rr), .val (.int ss), q14, q15, q16, .val (.int kd), q18, .val (.int sm), .val (.int (0 : Int32))]) rfl ?_
  exact k
set_option maxRecDepth 65536 in
set_option maxHeartbeats 4000000 in
theorem segF_4 (l : Launch) (cc : Int32) (ra : Int32) (sa : Int32) (rb : Int32) (sb : Int32) (md : Int32) (na : Int32) (nc : Int32) (u0 : Int32) (u1 : Int32) (w0 : Int32) (w1 : Int32) (rr : Int32) (ss : Int32) (kd : Int32) (sm : Int32) (q14 : Slot) (q15 : Slot) (q16 : Slot) (q18 : Slot) (hc239 : kd < (2 : Int32)) (hc244 : ¬ (sm = (0 : Int32))) (hc250 : ra = rr) (hc256 : ¬ (sa = ss)) : Seg l 236 #[.val (.int cc), .val (.int ra), .val (.int sa), .val (.int rb), .val (.int sb), .val (.int md), .val (.int na), .val (.int nc), .val (.int u0), .val (.int u1), .val (.int w0), .val (.int w1), .val (.int rr), .val (.int ss), q14, q15, q16, .val (.int kd), q18, .val (.int sm), .unset] 266 #[.val (.int cc), .val (.int ra), .val (.int sa), .val (.int rb), .val (.int sb), .val (.int md), .val (.int na), .val (.int nc), .val (.int u0), .val (.int u1), .val (.int w0), .val (.int w1), .val (.int rr), .val (.int ss), q14, q15, q16, .val (.int kd), q18, .val (.int sm), .val (.int (0 : Int32))] := by
  intro p e R s m args below meth c T locs cells slots X hx hby target k
  show Steps p.tables e below (T.setTop (mkF m 236 #[.val (.int cc), .val (.int ra), .val (.int sa), .val (.int rb), .val (.int sb), .val (.int md), .val (.int na), .val (.int nc), .val (.int u0), .val (.int u1), .val (.int w0), .val (.int w1), .val (.int rr), .val (.int ss), q14, q15, q16, .val (.int kd), q18, .val (.int sm), .unset] [])) _
  refine XS.iload X.here hx rfl (hb hby at_236) rfl ?_
  show Steps p.tables e below (T.setTop (mkF m 238 #[.val (.int cc), .val (.int ra), .val (.int sa), .val (.int rb), .val (.int sb), .val (.int md), .val (.int na), .val (.int nc), .val (.int u0), .val (.int u1), .val (.int w0), .val (.int w1), .val (.int rr), .val (.int ss), q14, q15, q16, .val (.int kd), q18, .val (.int sm), .unset] [(.int kd)])) _
  refine XS.iconst X.here hx rfl (hb hby at_238) ?_
  show Steps p.tables e below (T.setTop (mkF m 239 #[.val (.int cc), .val (.int ra), .val (.int sa), .val (.int rb), .val (.int sb), .val (.int md), .val (.int na), .val (.int nc), .val (.int u0), .val (.int u1), .val (.int w0), .val (.int w1), .val (.int rr), .val (.int ss), q14, q15, q16, .val (.int kd), q18, .val (.int sm), .unset] [(.int (2 : Int32)), (.int kd)])) _
  refine XS.icmpNo X.here hx rfl (hb hby at_239) rfl (tlt hc239).2.1 ?_
  show Steps p.tables e below (T.setTop (mkF m 242 #[.val (.int cc), .val (.int ra), .val (.int sa), .val (.int rb), .val (.int sb), .val (.int md), .val (.int na), .val (.int nc), .val (.int u0), .val (.int u1), .val (.int w0), .val (.int w1), .val (.int rr), .val (.int ss), q14, q15, q16, .val (.int kd), q18, .val (.int sm), .unset] [])) _
  refine XS.iload X.here hx rfl (hb hby at_242) rfl ?_
  show Steps p.tables e below (T.setTop (mkF m 244 #[.val (.int cc), .val (.int ra), .val (.int sa), .val (.int rb), .val (.int sb), .val (.int md), .val (.int na), .val (.int nc), .val (.int u0), .val (.int u1), .val (.int w0), .val (.int w1), .val (.int rr), .val (.int ss), q14, q15, q16, .val (.int kd), q18, .val (.int sm), .unset] [(.int sm)])) _
  refine XS.ifNo X.here hx rfl (hb hby at_244) rfl ((if0 _ _).trans (feq hc244).1) ?_
  show Steps p.tables e below (T.setTop (mkF m 247 #[.val (.int cc), .val (.int ra), .val (.int sa), .val (.int rb), .val (.int sb), .val (.int md), .val (.int na), .val (.int nc), .val (.int u0), .val (.int u1), .val (.int w0), .val (.int w1), .val (.int rr), .val (.int ss), q14, q15, q16, .val (.int kd), q18, .val (.int sm), .unset] [])) _
  refine XS.iloadN X.here hx rfl (hb hby at_247) rfl ?_
  show Steps p.tables e below (T.setTop (mkF m 248 #[.val (.int cc), .val (.int ra), .val (.int sa), .val (.int rb), .val (.int sb), .val (.int md), .val (.int na), .val (.int nc), .val (.int u0), .val (.int u1), .val (.int w0), .val (.int w1), .val (.int rr), .val (.int ss), q14, q15, q16, .val (.int kd), q18, .val (.int sm), .unset] [(.int ra)])) _
  refine XS.iload X.here hx rfl (hb hby at_248) rfl ?_
  show Steps p.tables e below (T.setTop (mkF m 250 #[.val (.int cc), .val (.int ra), .val (.int sa), .val (.int rb), .val (.int sb), .val (.int md), .val (.int na), .val (.int nc), .val (.int u0), .val (.int u1), .val (.int w0), .val (.int w1), .val (.int rr), .val (.int ss), q14, q15, q16, .val (.int kd), q18, .val (.int sm), .unset] [(.int rr), (.int ra)])) _
  refine XS.icmpNo X.here hx rfl (hb hby at_250) rfl (teq hc250).2 ?_
  show Steps p.tables e below (T.setTop (mkF m 253 #[.val (.int cc), .val (.int ra), .val (.int sa), .val (.int rb), .val (.int sb), .val (.int md), .val (.int na), .val (.int nc), .val (.int u0), .val (.int u1), .val (.int w0), .val (.int w1), .val (.int rr), .val (.int ss), q14, q15, q16, .val (.int kd), q18, .val (.int sm), .unset] [])) _
  refine XS.iloadN X.here hx rfl (hb hby at_253) rfl ?_
  show Steps p.tables e below (T.setTop (mkF m 254 #[.val (.int cc), .val (.int ra), .val (.int sa), .val (.int rb), .val (.int sb), .val (.int md), .val (.int na), .val (.int nc), .val (.int u0), .val (.int u1), .val (.int w0), .val (.int w1), .val (.int rr), .val (.int ss), q14, q15, q16, .val (.int kd), q18, .val (.int sm), .unset] [(.int sa)])) _
  refine XS.iload X.here hx rfl (hb hby at_254) rfl ?_
  show Steps p.tables e below (T.setTop (mkF m 256 #[.val (.int cc), .val (.int ra), .val (.int sa), .val (.int rb), .val (.int sb), .val (.int md), .val (.int na), .val (.int nc), .val (.int u0), .val (.int u1), .val (.int w0), .val (.int w1), .val (.int rr), .val (.int ss), q14, q15, q16, .val (.int kd), q18, .val (.int sm), .unset] [(.int ss), (.int sa)])) _
  refine XS.icmpYes X.here hx rfl (pc0 := 256) (pc' := 263) rfl (hb hby at_256) rfl (feq hc256).2 (by decide) (by decide) ?_
  show Steps p.tables e below (T.setTop (mkF m 263 #[.val (.int cc), .val (.int ra), .val (.int sa), .val (.int rb), .val (.int sb), .val (.int md), .val (.int na), .val (.int nc), .val (.int u0), .val (.int u1), .val (.int w0), .val (.int w1), .val (.int rr), .val (.int ss), q14, q15, q16, .val (.int kd), q18, .val (.int sm), .unset] [])) _
  refine XS.iconst X.here hx rfl (hb hby at_263) ?_
  show Steps p.tables e below (T.setTop (mkF m 264 #[.val (.int cc), .val (.int ra), .val (.int sa), .val (.int rb), .val (.int sb), .val (.int md), .val (.int na), .val (.int nc), .val (.int u0), .val (.int u1), .val (.int w0), .val (.int w1), .val (.int rr), .val (.int ss), q14, q15, q16, .val (.int kd), q18, .val (.int sm), .unset] [(.int (0 : Int32))])) _
  refine XS.istore X.here hx rfl (hb hby at_264) rfl (l' := #[.val (.int cc), .val (.int ra), .val (.int sa), .val (.int rb), .val (.int sb), .val (.int md), .val (.int na), .val (.int nc), .val (.int u0), .val (.int u1), .val (.int w0), .val (.int w1), .val (.int rr), .val (.int ss), q14, q15, q16, .val (.int kd), q18, .val (.int sm), .val (.int (0 : Int32))]) rfl ?_
  exact k
set_option maxRecDepth 65536 in
set_option maxHeartbeats 4000000 in
theorem segF_5 (l : Launch) (cc : Int32) (ra : Int32) (sa : Int32) (rb : Int32) (sb : Int32) (md : Int32) (na : Int32) (nc : Int32) (u0 : Int32) (u1 : Int32) (w0 : Int32) (w1 : Int32) (rr : Int32) (ss : Int32) (kd : Int32) (sm : Int32) (q14 : Slot) (q15 : Slot) (q16 : Slot) (q18 : Slot) (hc239 : kd < (2 : Int32)) (hc244 : ¬ (sm = (0 : Int32))) (hc250 : ra = rr) (hc256 : sa = ss) : Seg l 236 #[.val (.int cc), .val (.int ra), .val (.int sa), .val (.int rb), .val (.int sb), .val (.int md), .val (.int na), .val (.int nc), .val (.int u0), .val (.int u1), .val (.int w0), .val (.int w1), .val (.int rr), .val (.int ss), q14, q15, q16, .val (.int kd), q18, .val (.int sm), .unset] 266 #[.val (.int cc), .val (.int ra), .val (.int sa), .val (.int rb), .val (.int sb), .val (.int md), .val (.int na), .val (.int nc), .val (.int u0), .val (.int u1), .val (.int w0), .val (.int w1), .val (.int rr), .val (.int ss), q14, q15, q16, .val (.int kd), q18, .val (.int sm), .val (.int (1 : Int32))] := by
  intro p e R s m args below meth c T locs cells slots X hx hby target k
  show Steps p.tables e below (T.setTop (mkF m 236 #[.val (.int cc), .val (.int ra), .val (.int sa), .val (.int rb), .val (.int sb), .val (.int md), .val (.int na), .val (.int nc), .val (.int u0), .val (.int u1), .val (.int w0), .val (.int w1), .val (.int rr), .val (.int ss), q14, q15, q16, .val (.int kd), q18, .val (.int sm), .unset] [])) _
  refine XS.iload X.here hx rfl (hb hby at_236) rfl ?_
  show Steps p.tables e below (T.setTop (mkF m 238 #[.val (.int cc), .val (.int ra), .val (.int sa), .val (.int rb), .val (.int sb), .val (.int md), .val (.int na), .val (.int nc), .val (.int u0), .val (.int u1), .val (.int w0), .val (.int w1), .val (.int rr), .val (.int ss), q14, q15, q16, .val (.int kd), q18, .val (.int sm), .unset] [(.int kd)])) _
  refine XS.iconst X.here hx rfl (hb hby at_238) ?_
  show Steps p.tables e below (T.setTop (mkF m 239 #[.val (.int cc), .val (.int ra), .val (.int sa), .val (.int rb), .val (.int sb), .val (.int md), .val (.int na), .val (.int nc), .val (.int u0), .val (.int u1), .val (.int w0), .val (.int w1), .val (.int rr), .val (.int ss), q14, q15, q16, .val (.int kd), q18, .val (.int sm), .unset] [(.int (2 : Int32)), (.int kd)])) _
  refine XS.icmpNo X.here hx rfl (hb hby at_239) rfl (tlt hc239).2.1 ?_
  show Steps p.tables e below (T.setTop (mkF m 242 #[.val (.int cc), .val (.int ra), .val (.int sa), .val (.int rb), .val (.int sb), .val (.int md), .val (.int na), .val (.int nc), .val (.int u0), .val (.int u1), .val (.int w0), .val (.int w1), .val (.int rr), .val (.int ss), q14, q15, q16, .val (.int kd), q18, .val (.int sm), .unset] [])) _
  refine XS.iload X.here hx rfl (hb hby at_242) rfl ?_
  show Steps p.tables e below (T.setTop (mkF m 244 #[.val (.int cc), .val (.int ra), .val (.int sa), .val (.int rb), .val (.int sb), .val (.int md), .val (.int na), .val (.int nc), .val (.int u0), .val (.int u1), .val (.int w0), .val (.int w1), .val (.int rr), .val (.int ss), q14, q15, q16, .val (.int kd), q18, .val (.int sm), .unset] [(.int sm)])) _
  refine XS.ifNo X.here hx rfl (hb hby at_244) rfl ((if0 _ _).trans (feq hc244).1) ?_
  show Steps p.tables e below (T.setTop (mkF m 247 #[.val (.int cc), .val (.int ra), .val (.int sa), .val (.int rb), .val (.int sb), .val (.int md), .val (.int na), .val (.int nc), .val (.int u0), .val (.int u1), .val (.int w0), .val (.int w1), .val (.int rr), .val (.int ss), q14, q15, q16, .val (.int kd), q18, .val (.int sm), .unset] [])) _
  refine XS.iloadN X.here hx rfl (hb hby at_247) rfl ?_
  show Steps p.tables e below (T.setTop (mkF m 248 #[.val (.int cc), .val (.int ra), .val (.int sa), .val (.int rb), .val (.int sb), .val (.int md), .val (.int na), .val (.int nc), .val (.int u0), .val (.int u1), .val (.int w0), .val (.int w1), .val (.int rr), .val (.int ss), q14, q15, q16, .val (.int kd), q18, .val (.int sm), .unset] [(.int ra)])) _
  refine XS.iload X.here hx rfl (hb hby at_248) rfl ?_
  show Steps p.tables e below (T.setTop (mkF m 250 #[.val (.int cc), .val (.int ra), .val (.int sa), .val (.int rb), .val (.int sb), .val (.int md), .val (.int na), .val (.int nc), .val (.int u0), .val (.int u1), .val (.int w0), .val (.int w1), .val (.int rr), .val (.int ss), q14, q15, q16, .val (.int kd), q18, .val (.int sm), .unset] [(.int rr), (.int ra)])) _
  refine XS.icmpNo X.here hx rfl (hb hby at_250) rfl (teq hc250).2 ?_
  show Steps p.tables e below (T.setTop (mkF m 253 #[.val (.int cc), .val (.int ra), .val (.int sa), .val (.int rb), .val (.int sb), .val (.int md), .val (.int na), .val (.int nc), .val (.int u0), .val (.int u1), .val (.int w0), .val (.int w1), .val (.int rr), .val (.int ss), q14, q15, q16, .val (.int kd), q18, .val (.int sm), .unset] [])) _
  refine XS.iloadN X.here hx rfl (hb hby at_253) rfl ?_
  show Steps p.tables e below (T.setTop (mkF m 254 #[.val (.int cc), .val (.int ra), .val (.int sa), .val (.int rb), .val (.int sb), .val (.int md), .val (.int na), .val (.int nc), .val (.int u0), .val (.int u1), .val (.int w0), .val (.int w1), .val (.int rr), .val (.int ss), q14, q15, q16, .val (.int kd), q18, .val (.int sm), .unset] [(.int sa)])) _
  refine XS.iload X.here hx rfl (hb hby at_254) rfl ?_
  show Steps p.tables e below (T.setTop (mkF m 256 #[.val (.int cc), .val (.int ra), .val (.int sa), .val (.int rb), .val (.int sb), .val (.int md), .val (.int na), .val (.int nc), .val (.int u0), .val (.int u1), .val (.int w0), .val (.int w1), .val (.int rr), .val (.int ss), q14, q15, q16, .val (.int kd), q18, .val (.int sm), .unset] [(.int ss), (.int sa)])) _
  refine XS.icmpNo X.here hx rfl (hb hby at_256) rfl (teq hc256).2 ?_
  show Steps p.tables e below (T.setTop (mkF m 259 #[.val (.int cc), .val (.int ra), .val (.int sa), .val (.int rb), .val (.int sb), .val (.int md), .val (.int na), .val (.int nc), .val (.int u0), .val (.int u1), .val (.int w0), .val (.int w1), .val (.int rr), .val (.int ss), q14, q15, q16, .val (.int kd), q18, .val (.int sm), .unset] [])) _
  refine XS.iconst X.here hx rfl (hb hby at_259) ?_
  show Steps p.tables e below (T.setTop (mkF m 260 #[.val (.int cc), .val (.int ra), .val (.int sa), .val (.int rb), .val (.int sb), .val (.int md), .val (.int na), .val (.int nc), .val (.int u0), .val (.int u1), .val (.int w0), .val (.int w1), .val (.int rr), .val (.int ss), q14, q15, q16, .val (.int kd), q18, .val (.int sm), .unset] [(.int (1 : Int32))])) _
  refine XS.goto X.here hx rfl (pc0 := 260) (pc' := 264) rfl (hb hby at_260) (by decide) (by decide) ?_
  show Steps p.tables e below (T.setTop (mkF m 264 #[.val (.int cc), .val (.int ra), .val (.int sa), .val (.int rb), .val (.int sb), .val (.int md), .val (.int na), .val (.int nc), .val (.int u0), .val (.int u1), .val (.int w0), .val (.int w1), .val (.int rr), .val (.int ss), q14, q15, q16, .val (.int kd), q18, .val (.int sm), .unset] [(.int (1 : Int32))])) _
  refine XS.istore X.here hx rfl (hb hby at_264) rfl (l' := #[.val (.int cc), .val (.int ra), .val (.int sa), .val (.int rb), .val (.int sb), .val (.int md), .val (.int na), .val (.int nc), .val (.int u0), .val (.int u1), .val (.int w0), .val (.int w1), .val (.int rr), .val (.int ss), q14, q15, q16, .val (.int kd), q18, .val (.int sm), .val (.int (1 : Int32))]) rfl ?_
  exact k
theorem pd__I_I : parseMethodDescriptor "(I)I" = some ⟨[.int], some .int⟩ := by decide +kernel
theorem pd__ICC_Ljava_lang_String_ : parseMethodDescriptor "(ICC)Ljava/lang/String;" = some ⟨[.int, .char, .char], some (.object "java/lang/String")⟩ := by decide +kernel
theorem pd__Ljava_lang_String_II_V : parseMethodDescriptor "(Ljava/lang/String;II)V" = some ⟨[(.object "java/lang/String"), .int, .int], none⟩ := by decide +kernel
def Q_rm0Nul (Z : State) (cc : Int32) (ra : Int32) (sa : Int32) (rb : Int32) (sb : Int32) (md : Int32) (na : Int32) (nc : Int32) (u0 : Int32) (u1 : Int32) (w0 : Int32) (w1 : Int32) (rr : Int32) (ss : Int32) (kd : Int32) (nb : Int32) (sm : Int32) (ex : Int32) (cz : Int32) (h0 : Heap) (n0 : Nat) (v : Option Value) (h : Heap) (L : List Loc) : Prop := v = some (.int (1 : Int32)) ∧ Fr n0 L
theorem ef_rm0Nul (m : MethodId) (cc : Int32) (ra : Int32) (sa : Int32) (rb : Int32) (sb : Int32) (md : Int32) : entryFrame m #[(.int cc), (.int ra), (.int sa), (.int rb), (.int sb), (.int md)] maxLocals = mkF m 0 #[.val (.int cc), .val (.int ra), .val (.int sa), .val (.int rb), .val (.int sb), .val (.int md), .unset, .unset, .unset, .unset, .unset, .unset, .unset, .unset, .unset, .unset, .unset, .unset, .unset, .unset, .unset] [] := by first | (simp [entryFrame, mkF, argsToLocals, Value.category, maxLocals]; done) | rfl
set_option maxRecDepth 65536 in
set_option maxHeartbeats 40000000 in
theorem rm0Nul (l : Launch) (Z : State) (a0 : Array Value) (hw : ∀ d ∈ tables_1, d.before a0 Z = true) (ws : List Jvm.Cond) (cc : Int32) (ra : Int32) (sa : Int32) (rb : Int32) (sb : Int32) (md : Int32) (na : Int32) (nc : Int32) (u0 : Int32) (u1 : Int32) (w0 : Int32) (w1 : Int32) (rr : Int32) (ss : Int32) (kd : Int32) (nb : Int32) (sm : Int32) (ex : Int32) (cz : Int32) (h0 : Heap) (n0 : Nat) (X00 : Old Z n0 h0) (S_COMPACT_STRINGS : Sta Z Z.heap "java/lang/String" "COMPACT_STRINGS" "Z" (.int cz)) (hna : na = 0 ∨ na = 1 ∨ na = 2) (hnc : nc = 0 ∨ nc = 1 ∨ nc = 2) (hu0 : CharOK u0) (hu1 : CharOK u1) (hw0 : CharOK w0) (hw1 : CharOK w1) (hcz : ¬ cz = 0) (hA : Seg l 20 #[.val (.int cc), .val (.int ra), .val (.int sa), .val (.int rb), .val (.int sb), .val (.int md), .val (.int na), .val (.int nb), .unset, .unset, .unset, .unset, .unset, .unset, .unset, .unset, .unset, .unset, .unset, .unset, .unset] 112 #[.val (.int cc), .val (.int ra), .val (.int sa), .val (.int rb), .val (.int sb), .val (.int md), .val (.int na), .val (.int nc), .val (.int u0), .val (.int u1), .val (.int w0), .val (.int w1), .val (.int rr), .val (.int ss), .unset, .unset, .unset, .unset, .unset, .unset, .unset]) (hE : ∀ q14 q15 q16 q18 : Slot, Seg l 196 #[.val (.int cc), .val (.int ra), .val (.int sa), .val (.int rb), .val (.int sb), .val (.int md), .val (.int na), .val (.int nc), .val (.int u0), .val (.int u1), .val (.int w0), .val (.int w1), .val (.int rr), .val (.int ss), q14, q15, q16, .val (.int kd), q18, .unset, .unset] 266 #[.val (.int cc), .val (.int ra), .val (.int sa), .val (.int rb), .val (.int sb), .val (.int md), .val (.int na), .val (.int nc), .val (.int u0), .val (.int u1), .val (.int w0), .val (.int w1), .val (.int rr), .val (.int ss), q14, q15, q16, .val (.int kd), q18, .val (.int sm), .val (.int ex)]) (hva : (lenv (md &&& (3 : Int32))) = na) (hvb : (lenv (((md.toUInt32 >>> ((2 : Int32) &&& 31).toUInt32).toInt32) &&& (3 : Int32))) = nb) (hvk : (((md.toUInt32 >>> ((7 : Int32) &&& 31).toUInt32).toInt32) &&& (3 : Int32)) = kd) (hc159 : kd = (2 : Int32)) (hc275 : (0 : Int32) = ex) :
    MetFree l x (head1 (Jvm.Cond.code x code maxLocals ret :: ws) room_1) (fun aa U => aa = #[(.int cc), (.int ra), (.int sa), (.int rb), (.int sb), (.int md)] ∧ Z.Warmed39 U.vm ∧ U.heap = h0 ∧ CHv Z ELs U.vm h0) (fun _ _ _ _ _ => True) (fun _ U o U' => ∃ v L, o = .returned v ∧ Q_rm0Nul Z cc ra sa rb sb md na nc u0 u1 w0 w1 rr ss kd nb sm ex cz h0 n0 v U'.heap L ∧ CHr Z ELs U.vm U.heap U'.vm U'.heap ∧ ReturnedEndW U o U' L room_1.cells room_1.slots) := by
  refine MetFree.of_bodySF (plainFor_of_name pn_com_example_abox_to_sql_aboxtosql_AddedAssertionEqualsPinLaw) hisR ?_
  intro p e s m args below meth c s₁ Bd hml0 hP hK
  obtain ⟨rfl, hZq, hh, hC0⟩ := hP
  have hx := Bd.exec
  have hby := Bd.bytes
  have hml : c.maxLocals = 21 := hml0
  have hown : s.vm.findClass "com/example/abox_to_sql/aboxtosql/AddedAssertionEqualsPinLaw" = some m.cls := findClass_of_methodNamed Bd.named
  have hnm := (name_of_methodNamed Bd.named Bd.method).1
  have X0 : Stand p l e room_1 (s.setVm s.vm) m #[(.int cc), (.int ra), (.int sa), (.int rb), (.int sb), (.int md)] below meth c s₁ [] 0 0 := Stand.of_body Bd
  have e0 : s₁.heap = h0 := by rw [← hh, Bd.state]; rfl
  have N0 := Fr.nil n0
  have Z0 : n0 ≤ h0.size := own_z0 X00
  have pre0 : ∀ t, Steps p.tables e below (s₁.setTop (mkF m 0 #[.val (.int cc), .val (.int ra), .val (.int sa), .val (.int rb), .val (.int sb), .val (.int md), .unset, .unset, .unset, .unset, .unset, .unset, .unset, .unset, .unset, .unset, .unset, .unset, .unset, .unset, .unset] [])) t → Steps p.tables e below (s₁.setTop (entryFrame m #[(.int cc), (.int ra), (.int sa), (.int rb), (.int sb), (.int md)] maxLocals)) t := fun t k => castTop (ef_rm0Nul m cc ra sa rb sb md) k
  have hZ_0 : Z.Warmed39 (s.setVm s.vm).vm := hZq
  have hown_0 : (s.setVm s.vm).vm.findClass "com/example/abox_to_sql/aboxtosql/AddedAssertionEqualsPinLaw" = some m.cls := hown
  have hS_0 : s.Since s.vm 0 := (State.WarmedH.refl s).since 0
  have hk_0 : 0 ≤ h0.size := Nat.zero_le _
  have R_0 : CHr Z ELs s.vm h0 s.vm h0 := CHr.refl hC0
  obtain ⟨_, _, ⟨T1, L1, k1, n1⟩, -, X1, ⟨Lc1, hQ1, l1, y1, z1⟩, st1⟩ := Jvm.LawKit.callS X0 hx (y := (⟨"com/example/abox_to_sql/aboxtosql/AddedAssertionEqualsPinLaw", "len", "(I)I"⟩ : MethodName)) hown_0 (mvT hZ_0 (hw _ (List.mem_of_getElem? (i := 0) rfl))) (mvT hZ_0 (hw _ (List.mem_of_getElem? (i := 1) rfl))) (mvT hZ_0 (hw _ (List.mem_of_getElem? (i := 2) rfl))) (mvT hZ_0 (hw _ (List.mem_of_getElem? (i := 3) rfl))) (by decide) (backOf (W := 0) (rmLen l Z a0 hw [] (md &&& (3 : Int32)) h0 n0 (own_z0 X00)) hZ_0 (hw _ (List.mem_of_getElem? (i := 3) rfl)) (hw _ (List.mem_of_getElem? (i := 2) rfl)) (by decide) (by decide)) (g := (mkF m 4 #[.val (.int cc), .val (.int ra), .val (.int sa), .val (.int rb), .val (.int sb), .val (.int md), .unset, .unset, .unset, .unset, .unset, .unset, .unset, .unset, .unset, .unset, .unset, .unset, .unset, .unset, .unset] [(.int (md &&& (3 : Int32)))])) rfl (by rw [hml]; rfl) (argsL := [(.int (md &&& (3 : Int32)))]) (rest := []) (lenOf pd__I_I rfl) rfl (by show 2 * 0 + _ ≤ _; exact Nat.le_of_eq rfl) (hb hby at_4) (fun _ _ => ⟨rfl, e0, (by decide : 0 + 0 ≤ _), (by decide : 0 + 0 ≤ _)⟩)
  dsimp only [Pt.U, Pt.locs, Pt.cells, Pt.slots] at X1 l1 y1 z1 st1 hQ1
  subst l1 y1 z1
  obtain ⟨rfl, N1q, e1⟩ := hQ1
  have N1 := Fr.app N0 N1q
  obtain ⟨_, _, ⟨T2, L2, k2, n2⟩, -, X2, ⟨Lc2, hQ2, l2, y2, z2⟩, st2⟩ := Jvm.LawKit.callS X1 hx (y := (⟨"com/example/abox_to_sql/aboxtosql/AddedAssertionEqualsPinLaw", "len", "(I)I"⟩ : MethodName)) hown_0 (mvT hZ_0 (hw _ (List.mem_of_getElem? (i := 0) rfl))) (mvT hZ_0 (hw _ (List.mem_of_getElem? (i := 1) rfl))) (mvT hZ_0 (hw _ (List.mem_of_getElem? (i := 2) rfl))) (mvT hZ_0 (hw _ (List.mem_of_getElem? (i := 3) rfl))) (by decide) (backOf (W := 0) (rmLen l Z a0 hw [] (((md.toUInt32 >>> ((2 : Int32) &&& 31).toUInt32).toInt32) &&& (3 : Int32)) h0 n0 (own_z0 X00)) hZ_0 (hw _ (List.mem_of_getElem? (i := 3) rfl)) (hw _ (List.mem_of_getElem? (i := 2) rfl)) (by decide) (by decide)) (g := (mkF m 15 #[.val (.int cc), .val (.int ra), .val (.int sa), .val (.int rb), .val (.int sb), .val (.int md), .val (.int na), .unset, .unset, .unset, .unset, .unset, .unset, .unset, .unset, .unset, .unset, .unset, .unset, .unset, .unset] [(.int (((md.toUInt32 >>> ((2 : Int32) &&& 31).toUInt32).toInt32) &&& (3 : Int32)))])) rfl (by rw [hml]; rfl) (argsL := [(.int (((md.toUInt32 >>> ((2 : Int32) &&& 31).toUInt32).toInt32) &&& (3 : Int32)))]) (rest := []) (lenOf pd__I_I rfl) rfl (by show 2 * 0 + _ ≤ _; exact Nat.le_of_eq rfl) (hb hby at_15) (fun _ _ => ⟨rfl, e1, (by decide : 0 + 0 ≤ _), (by decide : 0 + 0 ≤ _)⟩)
  dsimp only [Pt.U, Pt.locs, Pt.cells, Pt.slots] at X2 l2 y2 z2 st2 hQ2
  subst l2 y2 z2
  obtain ⟨rfl, N2q, e2⟩ := hQ2
  have N2 := Fr.app N1 N2q
  obtain ⟨_, _, ⟨T3, L3, k3, n3⟩, -, Xq3, hSq3, hgq3, ⟨Lc3, hQ3, l3, y3, z3, Rs3⟩, st3⟩ := callSS X2 hx (y := (⟨"com/example/abox_to_sql/aboxtosql/AddedAssertionEqualsPinLaw", "str", "(ICC)Ljava/lang/String;"⟩ : MethodName)) hown_0 (mvT hZ_0 (hw _ (List.mem_of_getElem? (i := 4) rfl))) (mvT hZ_0 (hw _ (List.mem_of_getElem? (i := 5) rfl))) (mvT hZ_0 (hw _ (List.mem_of_getElem? (i := 2) rfl))) (mvT hZ_0 (hw _ (List.mem_of_getElem? (i := 6) rfl))) (by decide) (backOfSH (W := 0) (rmStr l Z a0 hw [] na u0 u1 cz h0 n0 X00 S_COMPACT_STRINGS hna hu0 hu1 hcz) hZ_0 (hw _ (List.mem_of_getElem? (i := 6) rfl)) (hw _ (List.mem_of_getElem? (i := 2) rfl)) (by decide) (by decide) (own_EL hw) R_0.1) (g := (mkF m 118 #[.val (.int cc), .val (.int ra), .val (.int sa), .val (.int rb), .val (.int sb), .val (.int md), .val (.int na), .val (.int nc), .val (.int u0), .val (.int u1), .val (.int w0), .val (.int w1), .val (.int rr), .val (.int ss), .unset, .unset, .unset, .unset, .unset, .unset, .unset] [(.int u1), (.int u0), (.int na)])) rfl (by rw [hml]; rfl) (argsL := [(.int na), (.int u0), (.int u1)]) (rest := []) (lenOf pd__ICC_Ljava_lang_String_ rfl) rfl (by show 2 * 0 + _ ≤ _; exact Nat.le_of_eq rfl) (hb hby at_118) (fun _ _ => ⟨rfl, e2, (by decide : 0 + 6 ≤ _), (by decide : 0 + 16 ≤ _)⟩)
  dsimp only [Pt.U, Pt.locs, Pt.cells, Pt.slots] at hSq3 hgq3 Rs3 Xq3 l3 y3 z3 st3 hQ3
  subst l3 y3 z3
  obtain ⟨X3, hS_3, hZ_3, hown_3⟩ := rebS hS_0 (own_hk e2 hk_0) Xq3 hSq3 hgq3 hZ_0 hown_0
  obtain ⟨t_3, tb_3, tk_3, rfl, N3q, K3, hsz_t_3, Q3_0, Q3_1, Q3_2, Q3_3⟩ := hQ3
  have g_t_3 : n0 ≤ t_3 := Nat.le_trans (own_z0 X00) hsz_t_3
  have sz_t_3 : h0.size ≤ t_3 := Nat.le_trans (Nat.le_refl _) hsz_t_3
  have R_3 : CHr Z ELs s.vm h0 T3.vm T3.heap := R_0.trans Rs3
  have hk_3 : T3.heap.size ≤ T3.heap.size := Nat.le_refl _
  have X00__3 := X00.keep K3 all0
  have K0_3 : Keep h0 T3.heap [] := (Keep.refl h0 []).trans K3 all0
  have N3 := Fr.app N2 N3q
  obtain ⟨_, _, ⟨T4, L4, k4, n4⟩, -, Xq4, hSq4, hgq4, ⟨Lc4, hQ4, l4, y4, z4, Rs4⟩, st4⟩ := callSS X3 hx (y := (⟨"com/example/abox_to_sql/aboxtosql/AddedAssertionEqualsPinLaw", "str", "(ICC)Ljava/lang/String;"⟩ : MethodName)) hown_3 (mvT hZ_3 (hw _ (List.mem_of_getElem? (i := 4) rfl))) (mvT hZ_3 (hw _ (List.mem_of_getElem? (i := 5) rfl))) (mvT hZ_3 (hw _ (List.mem_of_getElem? (i := 2) rfl))) (mvT hZ_3 (hw _ (List.mem_of_getElem? (i := 6) rfl))) (by decide) (backOfSH (W := 0) (rmStr l Z a0 hw [] nc w0 w1 cz T3.heap n0 X00__3 S_COMPACT_STRINGS hnc hw0 hw1 hcz) hZ_3 (hw _ (List.mem_of_getElem? (i := 6) rfl)) (hw _ (List.mem_of_getElem? (i := 2) rfl)) (by decide) (by decide) (own_EL hw) R_3.1) (g := (mkF m 129 #[.val (.int cc), .val (.int ra), .val (.int sa), .val (.int rb), .val (.int sb), .val (.int md), .val (.int na), .val (.int nc), .val (.int u0), .val (.int u1), .val (.int w0), .val (.int w1), .val (.int rr), .val (.int ss), .val (.ref t_3), .unset, .unset, .unset, .unset, .unset, .unset] [(.int w1), (.int w0), (.int nc)])) rfl (by rw [hml]; rfl) (argsL := [(.int nc), (.int w0), (.int w1)]) (rest := []) (lenOf pd__ICC_Ljava_lang_String_ rfl) rfl (by show 2 * 0 + _ ≤ _; exact Nat.le_of_eq rfl) (hb hby at_129) (fun _ _ => ⟨rfl, rfl, (by decide : 6 + 6 ≤ _), (by decide : 16 + 16 ≤ _)⟩)
  dsimp only [Pt.U, Pt.locs, Pt.cells, Pt.slots] at hSq4 hgq4 Rs4 Xq4 l4 y4 z4 st4 hQ4
  subst l4 y4 z4
  obtain ⟨X4, hS_4, hZ_4, hown_4⟩ := rebS hS_3 (own_hk rfl hk_3) Xq4 hSq4 hgq4 hZ_3 hown_3
  obtain ⟨t_4, tb_4, tk_4, rfl, N4q, K4, hsz_t_4, Q4_0, Q4_1, Q4_2, Q4_3⟩ := hQ4
  have ne_t_3_t_4 : t_3 ≠ t_4 := Nat.ne_of_lt (Nat.lt_of_lt_of_le Q3_0.lt hsz_t_4)
  have ne_tb_3_t_4 : tb_3 ≠ t_4 := Nat.ne_of_lt (Nat.lt_of_lt_of_le Q3_3.lt hsz_t_4)
  have g_t_4 : n0 ≤ t_4 := Nat.le_trans (own_z0 X00__3) hsz_t_4
  have sz_t_4 : h0.size ≤ t_4 := Nat.le_trans K0_3.1 hsz_t_4
  have R_4 : CHr Z ELs s.vm h0 T4.vm T4.heap := R_3.trans Rs4
  have hk_4 : T4.heap.size ≤ T4.heap.size := Nat.le_refl _
  have Q3_0__4 := Q3_0.keep K4
  have Q3_1__4 := Q3_1.keep K4 nin0
  have Q3_2__4 := Q3_2.keep K4 nin0
  have Q3_3__4 := Q3_3.keep K4 nin0
  have X00__4 := X00__3.keep K4 all0
  have K0_4 : Keep h0 T4.heap [] := K0_3.trans K4 all0
  have N4 := Fr.app N3 N4q
  obtain ⟨T5, h5, X5, e5, E5, A5, D5, -, st5⟩ := newO X4 hx hZ_4 hown_4 (hw _ (List.mem_of_getElem? (i := 40) rfl)) (hw _ (List.mem_of_getElem? (i := 41) rfl)) (hw _ (List.mem_of_getElem? (i := 42) rfl)) rfl (g := (mkF m 134 #[.val (.int cc), .val (.int ra), .val (.int sa), .val (.int rb), .val (.int sb), .val (.int md), .val (.int na), .val (.int nc), .val (.int u0), .val (.int u1), .val (.int w0), .val (.int w1), .val (.int rr), .val (.int ss), .val (.ref t_3), .val (.ref t_4), .unset, .unset, .unset, .unset, .unset] [])) rfl (hb hby at_134) (by decide) (by decide)
  obtain ⟨b5, gb5⟩ : ∃ z, z = T4.heap.size := ⟨_, rfl⟩
  rw [← gb5] at A5 D5 st5
  have ne_t_3_b5 : t_3 ≠ b5 := Nat.ne_of_lt (Nat.lt_of_lt_of_le Q3_0__4.lt (Nat.le_of_eq gb5.symm))
  have ne_tb_3_b5 : tb_3 ≠ b5 := Nat.ne_of_lt (Nat.lt_of_lt_of_le Q3_3__4.lt (Nat.le_of_eq gb5.symm))
  have ne_t_4_b5 : t_4 ≠ b5 := Nat.ne_of_lt (Nat.lt_of_lt_of_le Q4_0.lt (Nat.le_of_eq gb5.symm))
  have ne_tb_4_b5 : tb_4 ≠ b5 := Nat.ne_of_lt (Nat.lt_of_lt_of_le Q4_3.lt (Nat.le_of_eq gb5.symm))
  have g_b5 : n0 ≤ b5 := Nat.le_trans (own_z0 X00__4) (Nat.le_of_eq gb5.symm)
  have sz_b5 : h0.size ≤ b5 := Nat.le_trans K0_4.1 (Nat.le_of_eq gb5.symm)
  have Rs5 : CHr Z ELs T4.vm T4.heap T4.vm h5 := CHr.ext E5 R_4.1
  have R_5 : CHr Z ELs s.vm h0 T4.vm h5 := R_4.trans Rs5
  have hk_5 := Nat.le_trans hk_4 Rs5.2.1
  have Q3_0__5 := Q3_0__4.ext E5
  have Q3_1__5 := Q3_1__4.ext E5
  have Q3_2__5 := Q3_2__4.ext E5
  have Q3_3__5 := Q3_3__4.ext E5
  have Q4_0__5 := Q4_0.ext E5
  have Q4_1__5 := Q4_1.ext E5
  have Q4_2__5 := Q4_2.ext E5
  have Q4_3__5 := Q4_3.ext E5
  have X00__5 := X00__4.ext E5
  have K0_5 : Keep h0 h5 [] := K0_4.ext E5
  have F_b5_assertion : Fld Z h5 b5 "com/example/abox_to_sql/aboxtosql/AddedAssertion" "assertion" "Ljava/lang/String;" .null := D5 (Or.inr (hw _ (List.mem_of_getElem? (i := 54) rfl))) (ty := (.object "java/lang/String")) (by decide)
  have F_b5_factsRead : Fld Z h5 b5 "com/example/abox_to_sql/aboxtosql/AddedAssertion" "factsRead" "I" (.int (0 : Int32)) := D5 (Or.inr (hw _ (List.mem_of_getElem? (i := 56) rfl))) (ty := .int) (by decide)
  have F_b5_factsStored : Fld Z h5 b5 "com/example/abox_to_sql/aboxtosql/AddedAssertion" "factsStored" "I" (.int (0 : Int32)) := D5 (Or.inr (hw _ (List.mem_of_getElem? (i := 58) rfl))) (ty := .int) (by decide)
  obtain ⟨_, _, ⟨T6, L6, k6, n6⟩, -, Xq6, hSq6, hgq6, ⟨Lc6, hQ6, l6, y6, z6, Rs6⟩, st6⟩ := X5.specialBackS hx (y := (⟨"com/example/abox_to_sql/aboxtosql/AddedAssertion", "<init>", "(Ljava/lang/String;II)V"⟩ : MethodName)) rfl hown_4 (mvT hZ_4 (hw _ (List.mem_of_getElem? (i := 43) rfl))) (mvT hZ_4 (hw _ (List.mem_of_getElem? (i := 44) rfl))) (mvT hZ_4 (hw _ (List.mem_of_getElem? (i := 45) rfl))) (by decide) (backOfSH (W := 1) (rmA l Z a0 hw [] b5 t_3 ra sa h5 n0 X00__5 A5 F_b5_assertion F_b5_factsRead F_b5_factsStored Q3_0__5 g_b5) hZ_4 (hw _ (List.mem_of_getElem? (i := 45) rfl)) (hw _ (List.mem_of_getElem? (i := 42) rfl)) (by decide) (by decide) (own_EL hw) R_5.1) (g := (mkF m 142 #[.val (.int cc), .val (.int ra), .val (.int sa), .val (.int rb), .val (.int sb), .val (.int md), .val (.int na), .val (.int nc), .val (.int u0), .val (.int u1), .val (.int w0), .val (.int w1), .val (.int rr), .val (.int ss), .val (.ref t_3), .val (.ref t_4), .unset, .unset, .unset, .unset, .unset] [(.int sa), (.int ra), (.ref t_3), (.ref b5), (.ref b5)])) rfl (by rw [hml]; rfl) (Steps.refl _) (a := b5) (argsL := [(.ref t_3), (.int ra), (.int sa)]) (rest := [(.ref b5)]) (lenOf pd__Ljava_lang_String_II_V rfl) rfl (by show 2 * 0 + _ ≤ _; exact Nat.le_of_eq rfl) (hb hby at_142) (fun _ _ => ⟨rfl, e5, (by decide : 13 + 2 ≤ _), (by decide : 35 + 40 ≤ _)⟩)
  dsimp only [Pt.U, Pt.locs, Pt.cells, Pt.slots] at hSq6 hgq6 Rs6 Xq6 l6 y6 z6 st6 hQ6
  subst l6 y6 z6
  obtain ⟨X6, hS_6, hZ_6, hown_6⟩ := rebS hS_4 (own_hk e5 hk_5) Xq6 hSq6 hgq6 hZ_4 hown_4
  obtain ⟨rfl, N6q, K6, Q6_0, Q6_1, Q6_2, Q6_3⟩ := hQ6
  have R_6 : CHr Z ELs s.vm h0 T6.vm T6.heap := R_5.trans Rs6
  have hk_6 : T6.heap.size ≤ T6.heap.size := Nat.le_refl _
  have Q3_0__6 := Q3_0__5.keep K6
  have Q3_1__6 := Q3_1__5.keep K6 (ninS ne_t_3_b5 nin0)
  have Q3_2__6 := Q3_2__5.keep K6 (ninS ne_t_3_b5 nin0)
  have Q3_3__6 := Q3_3__5.keep K6 (ninS ne_tb_3_b5 nin0)
  have Q4_0__6 := Q4_0__5.keep K6
  have Q4_1__6 := Q4_1__5.keep K6 (ninS ne_t_4_b5 nin0)
  have Q4_2__6 := Q4_2__5.keep K6 (ninS ne_t_4_b5 nin0)
  have Q4_3__6 := Q4_3__5.keep K6 (ninS ne_tb_4_b5 nin0)
  have A5__6 := A5.keep K6
  have X00__6 := X00__5.keep K6 (allS (P := fun x => n0 ≤ x) g_b5 all0)
  have K0_6 : Keep h0 T6.heap [] := K0_5.trans K6 (allS (P := fun x => x ∈ [] ∨ h0.size ≤ x) (Or.inr sz_b5) all0)
  have N6 := Fr.app N4 N6q
  obtain ⟨cq7, kq7, q7a, q7b, q7c⟩ := isOf hZ_6 rfl Q6_0
  obtain ⟨_, _, ⟨T7, L7, k7, n7⟩, -, X7, ⟨Lc7, hQ7, l7, y7, z7⟩, st7⟩ := X6.virtualBack hx (y := (⟨"com/example/abox_to_sql/aboxtosql/AddedAssertion", "equals", "(Ljava/lang/Object;)Z"⟩ : MethodName)) (z := (⟨"com/example/abox_to_sql/aboxtosql/AddedAssertion", "equals", "(Ljava/lang/Object;)Z"⟩ : MethodName)) hown_6 (mvT hZ_6 (hw _ (List.mem_of_getElem? (i := 59) rfl))) (mvT hZ_6 (hw _ (List.mem_of_getElem? (i := 60) rfl))) (notFace_of_selects (args := #[]) (mvT hZ_6 (hw _ (List.mem_of_getElem? (i := 62) rfl)))) (mvT hZ_6 (hw _ (List.mem_of_getElem? (i := 62) rfl))) (mvT hZ_6 (hw _ (List.mem_of_getElem? (i := 61) rfl))) (by decide) (backOf (W := 0) (rmE5 l Z a0 hw [] b5 T6.heap n0 (own_z0 X00__6)) hZ_6 (hw _ (List.mem_of_getElem? (i := 63) rfl)) (hw _ (List.mem_of_getElem? (i := 42) rfl)) (by decide) (by decide)) q7a q7c (g := (mkF m 270 #[.val (.int cc), .val (.int ra), .val (.int sa), .val (.int rb), .val (.int sb), .val (.int md), .val (.int na), .val (.int nc), .val (.int u0), .val (.int u1), .val (.int w0), .val (.int w1), .val (.int rr), .val (.int ss), .val (.ref t_3), .val (.ref t_4), .val (.ref b5), .val (.int kd), .val .null, .val (.int sm), .val (.int ex)] [.null, (.ref b5)])) rfl (by rw [hml]; rfl) (Steps.refl _) (argsL := [.null]) (rest := []) (lenOf pd__Ljava_lang_Object__Z rfl) rfl (by show 2 * 0 + _ ≤ _; exact Nat.le_of_eq rfl) (hb hby at_270) (fun _ _ => ⟨rfl, rfl, (by decide : 15 + 0 ≤ _), (by decide : 75 + 0 ≤ _)⟩)
  dsimp only [Pt.U, Pt.locs, Pt.cells, Pt.slots] at X7 l7 y7 z7 st7 hQ7
  subst l7 y7 z7
  obtain ⟨rfl, N7q, e7⟩ := hQ7
  have N7 := Fr.app N6 N7q
  obtain ⟨fs, hr, hrun, hended, hEnd⟩ := X7.leaveW hS_6 (own_hk e7 hk_6) (v := some (.int (1 : Int32))) (fun h => by rw [Bd.returns] at h; cases h)
  refine ⟨_, _, pre0 _ ?_, hrun, hended, _, _, rfl, ?_, ?_, own_rew_mono hEnd (by decide) (by decide)⟩
  · show Steps p.tables e below (s₁.setTop (mkF m 0 #[.val (.int cc), .val (.int ra), .val (.int sa), .val (.int rb), .val (.int sb), .val (.int md), .unset, .unset, .unset, .unset, .unset, .unset, .unset, .unset, .unset, .unset, .unset, .unset, .unset, .unset, .unset] [])) _
    refine XS.iload X0.here hx rfl (hb hby at_0) rfl ?_
    show Steps p.tables e below (s₁.setTop (mkF m 2 #[.val (.int cc), .val (.int ra), .val (.int sa), .val (.int rb), .val (.int sb), .val (.int md), .unset, .unset, .unset, .unset, .unset, .unset, .unset, .unset, .unset, .unset, .unset, .unset, .unset, .unset, .unset] [(.int md)])) _
    refine XS.iconst X0.here hx rfl (hb hby at_2) ?_
    show Steps p.tables e below (s₁.setTop (mkF m 3 #[.val (.int cc), .val (.int ra), .val (.int sa), .val (.int rb), .val (.int sb), .val (.int md), .unset, .unset, .unset, .unset, .unset, .unset, .unset, .unset, .unset, .unset, .unset, .unset, .unset, .unset, .unset] [(.int (3 : Int32)), (.int md)])) _
    refine XS.iand X0.here hx rfl (hb hby at_3) rfl ?_
    show Steps p.tables e below (s₁.setTop (mkF m 4 #[.val (.int cc), .val (.int ra), .val (.int sa), .val (.int rb), .val (.int sb), .val (.int md), .unset, .unset, .unset, .unset, .unset, .unset, .unset, .unset, .unset, .unset, .unset, .unset, .unset, .unset, .unset] [(.int (md &&& (3 : Int32)))])) _
    refine st1 _ ?_
    show Steps p.tables e below (T1.setTop (mkF m 7 #[.val (.int cc), .val (.int ra), .val (.int sa), .val (.int rb), .val (.int sb), .val (.int md), .unset, .unset, .unset, .unset, .unset, .unset, .unset, .unset, .unset, .unset, .unset, .unset, .unset, .unset, .unset] [(.int (lenv (md &&& (3 : Int32))))])) _
    rw [hva]
    refine XS.istore X1.here hx rfl (hb hby at_7) rfl (l' := #[.val (.int cc), .val (.int ra), .val (.int sa), .val (.int rb), .val (.int sb), .val (.int md), .val (.int na), .unset, .unset, .unset, .unset, .unset, .unset, .unset, .unset, .unset, .unset, .unset, .unset, .unset, .unset]) rfl ?_
    show Steps p.tables e below (T1.setTop (mkF m 9 #[.val (.int cc), .val (.int ra), .val (.int sa), .val (.int rb), .val (.int sb), .val (.int md), .val (.int na), .unset, .unset, .unset, .unset, .unset, .unset, .unset, .unset, .unset, .unset, .unset, .unset, .unset, .unset] [])) _
    refine XS.iload X1.here hx rfl (hb hby at_9) rfl ?_
    show Steps p.tables e below (T1.setTop (mkF m 11 #[.val (.int cc), .val (.int ra), .val (.int sa), .val (.int rb), .val (.int sb), .val (.int md), .val (.int na), .unset, .unset, .unset, .unset, .unset, .unset, .unset, .unset, .unset, .unset, .unset, .unset, .unset, .unset] [(.int md)])) _
    refine XS.iconst X1.here hx rfl (hb hby at_11) ?_
    show Steps p.tables e below (T1.setTop (mkF m 12 #[.val (.int cc), .val (.int ra), .val (.int sa), .val (.int rb), .val (.int sb), .val (.int md), .val (.int na), .unset, .unset, .unset, .unset, .unset, .unset, .unset, .unset, .unset, .unset, .unset, .unset, .unset, .unset] [(.int (2 : Int32)), (.int md)])) _
    refine XS.iushr X1.here hx rfl (hb hby at_12) rfl ?_
    show Steps p.tables e below (T1.setTop (mkF m 13 #[.val (.int cc), .val (.int ra), .val (.int sa), .val (.int rb), .val (.int sb), .val (.int md), .val (.int na), .unset, .unset, .unset, .unset, .unset, .unset, .unset, .unset, .unset, .unset, .unset, .unset, .unset, .unset] [(.int ((md.toUInt32 >>> ((2 : Int32) &&& 31).toUInt32).toInt32))])) _
    refine XS.iconst X1.here hx rfl (hb hby at_13) ?_
    show Steps p.tables e below (T1.setTop (mkF m 14 #[.val (.int cc), .val (.int ra), .val (.int sa), .val (.int rb), .val (.int sb), .val (.int md), .val (.int na), .unset, .unset, .unset, .unset, .unset, .unset, .unset, .unset, .unset, .unset, .unset, .unset, .unset, .unset] [(.int (3 : Int32)), (.int ((md.toUInt32 >>> ((2 : Int32) &&& 31).toUInt32).toInt32))])) _
    refine XS.iand X1.here hx rfl (hb hby at_14) rfl ?_
    show Steps p.tables e below (T1.setTop (mkF m 15 #[.val (.int cc), .val (.int ra), .val (.int sa), .val (.int rb), .val (.int sb), .val (.int md), .val (.int na), .unset, .unset, .unset, .unset, .unset, .unset, .unset, .unset, .unset, .unset, .unset, .unset, .unset, .unset] [(.int (((md.toUInt32 >>> ((2 : Int32) &&& 31).toUInt32).toInt32) &&& (3 : Int32)))])) _
    refine st2 _ ?_
    show Steps p.tables e below (T2.setTop (mkF m 18 #[.val (.int cc), .val (.int ra), .val (.int sa), .val (.int rb), .val (.int sb), .val (.int md), .val (.int na), .unset, .unset, .unset, .unset, .unset, .unset, .unset, .unset, .unset, .unset, .unset, .unset, .unset, .unset] [(.int (lenv (((md.toUInt32 >>> ((2 : Int32) &&& 31).toUInt32).toInt32) &&& (3 : Int32))))])) _
    rw [hvb]
    refine XS.istore X2.here hx rfl (hb hby at_18) rfl (l' := #[.val (.int cc), .val (.int ra), .val (.int sa), .val (.int rb), .val (.int sb), .val (.int md), .val (.int na), .val (.int nb), .unset, .unset, .unset, .unset, .unset, .unset, .unset, .unset, .unset, .unset, .unset, .unset, .unset]) rfl ?_
    show Steps p.tables e below (T2.setTop (mkF m 20 #[.val (.int cc), .val (.int ra), .val (.int sa), .val (.int rb), .val (.int sb), .val (.int md), .val (.int na), .val (.int nb), .unset, .unset, .unset, .unset, .unset, .unset, .unset, .unset, .unset, .unset, .unset, .unset, .unset] [])) _
    refine hA _ _ _ _ _ _ _ _ _ _ _ _ _ X2 hx hby _ ?_
    show Steps p.tables e below (T2.setTop (mkF m 112 #[.val (.int cc), .val (.int ra), .val (.int sa), .val (.int rb), .val (.int sb), .val (.int md), .val (.int na), .val (.int nc), .val (.int u0), .val (.int u1), .val (.int w0), .val (.int w1), .val (.int rr), .val (.int ss), .unset, .unset, .unset, .unset, .unset, .unset, .unset] [])) _
    refine XS.iload X2.here hx rfl (hb hby at_112) rfl ?_
    show Steps p.tables e below (T2.setTop (mkF m 114 #[.val (.int cc), .val (.int ra), .val (.int sa), .val (.int rb), .val (.int sb), .val (.int md), .val (.int na), .val (.int nc), .val (.int u0), .val (.int u1), .val (.int w0), .val (.int w1), .val (.int rr), .val (.int ss), .unset, .unset, .unset, .unset, .unset, .unset, .unset] [(.int na)])) _
    refine XS.iload X2.here hx rfl (hb hby at_114) rfl ?_
    show Steps p.tables e below (T2.setTop (mkF m 116 #[.val (.int cc), .val (.int ra), .val (.int sa), .val (.int rb), .val (.int sb), .val (.int md), .val (.int na), .val (.int nc), .val (.int u0), .val (.int u1), .val (.int w0), .val (.int w1), .val (.int rr), .val (.int ss), .unset, .unset, .unset, .unset, .unset, .unset, .unset] [(.int u0), (.int na)])) _
    refine XS.iload X2.here hx rfl (hb hby at_116) rfl ?_
    show Steps p.tables e below (T2.setTop (mkF m 118 #[.val (.int cc), .val (.int ra), .val (.int sa), .val (.int rb), .val (.int sb), .val (.int md), .val (.int na), .val (.int nc), .val (.int u0), .val (.int u1), .val (.int w0), .val (.int w1), .val (.int rr), .val (.int ss), .unset, .unset, .unset, .unset, .unset, .unset, .unset] [(.int u1), (.int u0), (.int na)])) _
    refine st3.trans ?_
    show Steps p.tables e below (T3.setTop (mkF m 121 #[.val (.int cc), .val (.int ra), .val (.int sa), .val (.int rb), .val (.int sb), .val (.int md), .val (.int na), .val (.int nc), .val (.int u0), .val (.int u1), .val (.int w0), .val (.int w1), .val (.int rr), .val (.int ss), .unset, .unset, .unset, .unset, .unset, .unset, .unset] [(.ref t_3)])) _
    refine XS.astore X3.here hx rfl (hb hby at_121) rfl rfl (l' := #[.val (.int cc), .val (.int ra), .val (.int sa), .val (.int rb), .val (.int sb), .val (.int md), .val (.int na), .val (.int nc), .val (.int u0), .val (.int u1), .val (.int w0), .val (.int w1), .val (.int rr), .val (.int ss), .val (.ref t_3), .unset, .unset, .unset, .unset, .unset, .unset]) rfl ?_
    show Steps p.tables e below (T3.setTop (mkF m 123 #[.val (.int cc), .val (.int ra), .val (.int sa), .val (.int rb), .val (.int sb), .val (.int md), .val (.int na), .val (.int nc), .val (.int u0), .val (.int u1), .val (.int w0), .val (.int w1), .val (.int rr), .val (.int ss), .val (.ref t_3), .unset, .unset, .unset, .unset, .unset, .unset] [])) _
    refine XS.iload X3.here hx rfl (hb hby at_123) rfl ?_
    show Steps p.tables e below (T3.setTop (mkF m 125 #[.val (.int cc), .val (.int ra), .val (.int sa), .val (.int rb), .val (.int sb), .val (.int md), .val (.int na), .val (.int nc), .val (.int u0), .val (.int u1), .val (.int w0), .val (.int w1), .val (.int rr), .val (.int ss), .val (.ref t_3), .unset, .unset, .unset, .unset, .unset, .unset] [(.int nc)])) _
    refine XS.iload X3.here hx rfl (hb hby at_125) rfl ?_
    show Steps p.tables e below (T3.setTop (mkF m 127 #[.val (.int cc), .val (.int ra), .val (.int sa), .val (.int rb), .val (.int sb), .val (.int md), .val (.int na), .val (.int nc), .val (.int u0), .val (.int u1), .val (.int w0), .val (.int w1), .val (.int rr), .val (.int ss), .val (.ref t_3), .unset, .unset, .unset, .unset, .unset, .unset] [(.int w0), (.int nc)])) _
    refine XS.iload X3.here hx rfl (hb hby at_127) rfl ?_
    show Steps p.tables e below (T3.setTop (mkF m 129 #[.val (.int cc), .val (.int ra), .val (.int sa), .val (.int rb), .val (.int sb), .val (.int md), .val (.int na), .val (.int nc), .val (.int u0), .val (.int u1), .val (.int w0), .val (.int w1), .val (.int rr), .val (.int ss), .val (.ref t_3), .unset, .unset, .unset, .unset, .unset, .unset] [(.int w1), (.int w0), (.int nc)])) _
    refine st4.trans ?_
    show Steps p.tables e below (T4.setTop (mkF m 132 #[.val (.int cc), .val (.int ra), .val (.int sa), .val (.int rb), .val (.int sb), .val (.int md), .val (.int na), .val (.int nc), .val (.int u0), .val (.int u1), .val (.int w0), .val (.int w1), .val (.int rr), .val (.int ss), .val (.ref t_3), .unset, .unset, .unset, .unset, .unset, .unset] [(.ref t_4)])) _
    refine XS.astore X4.here hx rfl (hb hby at_132) rfl rfl (l' := #[.val (.int cc), .val (.int ra), .val (.int sa), .val (.int rb), .val (.int sb), .val (.int md), .val (.int na), .val (.int nc), .val (.int u0), .val (.int u1), .val (.int w0), .val (.int w1), .val (.int rr), .val (.int ss), .val (.ref t_3), .val (.ref t_4), .unset, .unset, .unset, .unset, .unset]) rfl ?_
    show Steps p.tables e below (T4.setTop (mkF m 134 #[.val (.int cc), .val (.int ra), .val (.int sa), .val (.int rb), .val (.int sb), .val (.int md), .val (.int na), .val (.int nc), .val (.int u0), .val (.int u1), .val (.int w0), .val (.int w1), .val (.int rr), .val (.int ss), .val (.ref t_3), .val (.ref t_4), .unset, .unset, .unset, .unset, .unset] [])) _
    refine st5 _ ?_
    show Steps p.tables e below (T5.setTop (mkF m 137 #[.val (.int cc), .val (.int ra), .val (.int sa), .val (.int rb), .val (.int sb), .val (.int md), .val (.int na), .val (.int nc), .val (.int u0), .val (.int u1), .val (.int w0), .val (.int w1), .val (.int rr), .val (.int ss), .val (.ref t_3), .val (.ref t_4), .unset, .unset, .unset, .unset, .unset] [(.ref b5)])) _
    refine XS.dup X5.here hx rfl (hb hby at_137) rfl rfl ?_
    show Steps p.tables e below (T5.setTop (mkF m 138 #[.val (.int cc), .val (.int ra), .val (.int sa), .val (.int rb), .val (.int sb), .val (.int md), .val (.int na), .val (.int nc), .val (.int u0), .val (.int u1), .val (.int w0), .val (.int w1), .val (.int rr), .val (.int ss), .val (.ref t_3), .val (.ref t_4), .unset, .unset, .unset, .unset, .unset] [(.ref b5), (.ref b5)])) _
    refine XS.aload X5.here hx rfl (hb hby at_138) rfl rfl ?_
    show Steps p.tables e below (T5.setTop (mkF m 140 #[.val (.int cc), .val (.int ra), .val (.int sa), .val (.int rb), .val (.int sb), .val (.int md), .val (.int na), .val (.int nc), .val (.int u0), .val (.int u1), .val (.int w0), .val (.int w1), .val (.int rr), .val (.int ss), .val (.ref t_3), .val (.ref t_4), .unset, .unset, .unset, .unset, .unset] [(.ref t_3), (.ref b5), (.ref b5)])) _
    refine XS.iloadN X5.here hx rfl (hb hby at_140) rfl ?_
    show Steps p.tables e below (T5.setTop (mkF m 141 #[.val (.int cc), .val (.int ra), .val (.int sa), .val (.int rb), .val (.int sb), .val (.int md), .val (.int na), .val (.int nc), .val (.int u0), .val (.int u1), .val (.int w0), .val (.int w1), .val (.int rr), .val (.int ss), .val (.ref t_3), .val (.ref t_4), .unset, .unset, .unset, .unset, .unset] [(.int ra), (.ref t_3), (.ref b5), (.ref b5)])) _
    refine XS.iloadN X5.here hx rfl (hb hby at_141) rfl ?_
    show Steps p.tables e below (T5.setTop (mkF m 142 #[.val (.int cc), .val (.int ra), .val (.int sa), .val (.int rb), .val (.int sb), .val (.int md), .val (.int na), .val (.int nc), .val (.int u0), .val (.int u1), .val (.int w0), .val (.int w1), .val (.int rr), .val (.int ss), .val (.ref t_3), .val (.ref t_4), .unset, .unset, .unset, .unset, .unset] [(.int sa), (.int ra), (.ref t_3), (.ref b5), (.ref b5)])) _
    refine st6.trans ?_
    show Steps p.tables e below (T6.setTop (mkF m 145 #[.val (.int cc), .val (.int ra), .val (.int sa), .val (.int rb), .val (.int sb), .val (.int md), .val (.int na), .val (.int nc), .val (.int u0), .val (.int u1), .val (.int w0), .val (.int w1), .val (.int rr), .val (.int ss), .val (.ref t_3), .val (.ref t_4), .unset, .unset, .unset, .unset, .unset] [(.ref b5)])) _
    refine XS.astore X6.here hx rfl (hb hby at_145) rfl rfl (l' := #[.val (.int cc), .val (.int ra), .val (.int sa), .val (.int rb), .val (.int sb), .val (.int md), .val (.int na), .val (.int nc), .val (.int u0), .val (.int u1), .val (.int w0), .val (.int w1), .val (.int rr), .val (.int ss), .val (.ref t_3), .val (.ref t_4), .val (.ref b5), .unset, .unset, .unset, .unset]) rfl ?_
    show Steps p.tables e below (T6.setTop (mkF m 147 #[.val (.int cc), .val (.int ra), .val (.int sa), .val (.int rb), .val (.int sb), .val (.int md), .val (.int na), .val (.int nc), .val (.int u0), .val (.int u1), .val (.int w0), .val (.int w1), .val (.int rr), .val (.int ss), .val (.ref t_3), .val (.ref t_4), .val (.ref b5), .unset, .unset, .unset, .unset] [])) _
    refine XS.iload X6.here hx rfl (hb hby at_147) rfl ?_
    show Steps p.tables e below (T6.setTop (mkF m 149 #[.val (.int cc), .val (.int ra), .val (.int sa), .val (.int rb), .val (.int sb), .val (.int md), .val (.int na), .val (.int nc), .val (.int u0), .val (.int u1), .val (.int w0), .val (.int w1), .val (.int rr), .val (.int ss), .val (.ref t_3), .val (.ref t_4), .val (.ref b5), .unset, .unset, .unset, .unset] [(.int md)])) _
    refine XS.bipush X6.here hx rfl (hb hby at_149) ?_
    show Steps p.tables e below (T6.setTop (mkF m 151 #[.val (.int cc), .val (.int ra), .val (.int sa), .val (.int rb), .val (.int sb), .val (.int md), .val (.int na), .val (.int nc), .val (.int u0), .val (.int u1), .val (.int w0), .val (.int w1), .val (.int rr), .val (.int ss), .val (.ref t_3), .val (.ref t_4), .val (.ref b5), .unset, .unset, .unset, .unset] [(.int (7 : Int32)), (.int md)])) _
    refine XS.iushr X6.here hx rfl (hb hby at_151) rfl ?_
    show Steps p.tables e below (T6.setTop (mkF m 152 #[.val (.int cc), .val (.int ra), .val (.int sa), .val (.int rb), .val (.int sb), .val (.int md), .val (.int na), .val (.int nc), .val (.int u0), .val (.int u1), .val (.int w0), .val (.int w1), .val (.int rr), .val (.int ss), .val (.ref t_3), .val (.ref t_4), .val (.ref b5), .unset, .unset, .unset, .unset] [(.int ((md.toUInt32 >>> ((7 : Int32) &&& 31).toUInt32).toInt32))])) _
    refine XS.iconst X6.here hx rfl (hb hby at_152) ?_
    show Steps p.tables e below (T6.setTop (mkF m 153 #[.val (.int cc), .val (.int ra), .val (.int sa), .val (.int rb), .val (.int sb), .val (.int md), .val (.int na), .val (.int nc), .val (.int u0), .val (.int u1), .val (.int w0), .val (.int w1), .val (.int rr), .val (.int ss), .val (.ref t_3), .val (.ref t_4), .val (.ref b5), .unset, .unset, .unset, .unset] [(.int (3 : Int32)), (.int ((md.toUInt32 >>> ((7 : Int32) &&& 31).toUInt32).toInt32))])) _
    refine XS.iand X6.here hx rfl (hb hby at_153) rfl ?_
    show Steps p.tables e below (T6.setTop (mkF m 154 #[.val (.int cc), .val (.int ra), .val (.int sa), .val (.int rb), .val (.int sb), .val (.int md), .val (.int na), .val (.int nc), .val (.int u0), .val (.int u1), .val (.int w0), .val (.int w1), .val (.int rr), .val (.int ss), .val (.ref t_3), .val (.ref t_4), .val (.ref b5), .unset, .unset, .unset, .unset] [(.int (((md.toUInt32 >>> ((7 : Int32) &&& 31).toUInt32).toInt32) &&& (3 : Int32)))])) _
    rw [hvk]
    refine XS.istore X6.here hx rfl (hb hby at_154) rfl (l' := #[.val (.int cc), .val (.int ra), .val (.int sa), .val (.int rb), .val (.int sb), .val (.int md), .val (.int na), .val (.int nc), .val (.int u0), .val (.int u1), .val (.int w0), .val (.int w1), .val (.int rr), .val (.int ss), .val (.ref t_3), .val (.ref t_4), .val (.ref b5), .val (.int kd), .unset, .unset, .unset]) rfl ?_
    show Steps p.tables e below (T6.setTop (mkF m 156 #[.val (.int cc), .val (.int ra), .val (.int sa), .val (.int rb), .val (.int sb), .val (.int md), .val (.int na), .val (.int nc), .val (.int u0), .val (.int u1), .val (.int w0), .val (.int w1), .val (.int rr), .val (.int ss), .val (.ref t_3), .val (.ref t_4), .val (.ref b5), .val (.int kd), .unset, .unset, .unset] [])) _
    refine XS.iload X6.here hx rfl (hb hby at_156) rfl ?_
    show Steps p.tables e below (T6.setTop (mkF m 158 #[.val (.int cc), .val (.int ra), .val (.int sa), .val (.int rb), .val (.int sb), .val (.int md), .val (.int na), .val (.int nc), .val (.int u0), .val (.int u1), .val (.int w0), .val (.int w1), .val (.int rr), .val (.int ss), .val (.ref t_3), .val (.ref t_4), .val (.ref b5), .val (.int kd), .unset, .unset, .unset] [(.int kd)])) _
    refine XS.iconst X6.here hx rfl (hb hby at_158) ?_
    show Steps p.tables e below (T6.setTop (mkF m 159 #[.val (.int cc), .val (.int ra), .val (.int sa), .val (.int rb), .val (.int sb), .val (.int md), .val (.int na), .val (.int nc), .val (.int u0), .val (.int u1), .val (.int w0), .val (.int w1), .val (.int rr), .val (.int ss), .val (.ref t_3), .val (.ref t_4), .val (.ref b5), .val (.int kd), .unset, .unset, .unset] [(.int (2 : Int32)), (.int kd)])) _
    refine XS.icmpNo X6.here hx rfl (hb hby at_159) rfl (teq hc159).2 ?_
    show Steps p.tables e below (T6.setTop (mkF m 162 #[.val (.int cc), .val (.int ra), .val (.int sa), .val (.int rb), .val (.int sb), .val (.int md), .val (.int na), .val (.int nc), .val (.int u0), .val (.int u1), .val (.int w0), .val (.int w1), .val (.int rr), .val (.int ss), .val (.ref t_3), .val (.ref t_4), .val (.ref b5), .val (.int kd), .unset, .unset, .unset] [])) _
    refine XS.aconstNull X6.here hx rfl (hb hby at_162) ?_
    show Steps p.tables e below (T6.setTop (mkF m 163 #[.val (.int cc), .val (.int ra), .val (.int sa), .val (.int rb), .val (.int sb), .val (.int md), .val (.int na), .val (.int nc), .val (.int u0), .val (.int u1), .val (.int w0), .val (.int w1), .val (.int rr), .val (.int ss), .val (.ref t_3), .val (.ref t_4), .val (.ref b5), .val (.int kd), .unset, .unset, .unset] [.null])) _
    refine XS.astore X6.here hx rfl (hb hby at_163) rfl rfl (l' := #[.val (.int cc), .val (.int ra), .val (.int sa), .val (.int rb), .val (.int sb), .val (.int md), .val (.int na), .val (.int nc), .val (.int u0), .val (.int u1), .val (.int w0), .val (.int w1), .val (.int rr), .val (.int ss), .val (.ref t_3), .val (.ref t_4), .val (.ref b5), .val (.int kd), .val .null, .unset, .unset]) rfl ?_
    show Steps p.tables e below (T6.setTop (mkF m 165 #[.val (.int cc), .val (.int ra), .val (.int sa), .val (.int rb), .val (.int sb), .val (.int md), .val (.int na), .val (.int nc), .val (.int u0), .val (.int u1), .val (.int w0), .val (.int w1), .val (.int rr), .val (.int ss), .val (.ref t_3), .val (.ref t_4), .val (.ref b5), .val (.int kd), .val .null, .unset, .unset] [])) _
    refine XS.goto X6.here hx rfl (pc0 := 165) (pc' := 196) rfl (hb hby at_165) (by decide) (by decide) ?_
    show Steps p.tables e below (T6.setTop (mkF m 196 #[.val (.int cc), .val (.int ra), .val (.int sa), .val (.int rb), .val (.int sb), .val (.int md), .val (.int na), .val (.int nc), .val (.int u0), .val (.int u1), .val (.int w0), .val (.int w1), .val (.int rr), .val (.int ss), .val (.ref t_3), .val (.ref t_4), .val (.ref b5), .val (.int kd), .val .null, .unset, .unset] [])) _
    refine hE _ _ _ _ _ _ _ _ _ _ _ _ _ _ _ _ _ X6 hx hby _ ?_
    show Steps p.tables e below (T6.setTop (mkF m 266 #[.val (.int cc), .val (.int ra), .val (.int sa), .val (.int rb), .val (.int sb), .val (.int md), .val (.int na), .val (.int nc), .val (.int u0), .val (.int u1), .val (.int w0), .val (.int w1), .val (.int rr), .val (.int ss), .val (.ref t_3), .val (.ref t_4), .val (.ref b5), .val (.int kd), .val .null, .val (.int sm), .val (.int ex)] [])) _
    refine XS.aload X6.here hx rfl (hb hby at_266) rfl rfl ?_
    show Steps p.tables e below (T6.setTop (mkF m 268 #[.val (.int cc), .val (.int ra), .val (.int sa), .val (.int rb), .val (.int sb), .val (.int md), .val (.int na), .val (.int nc), .val (.int u0), .val (.int u1), .val (.int w0), .val (.int w1), .val (.int rr), .val (.int ss), .val (.ref t_3), .val (.ref t_4), .val (.ref b5), .val (.int kd), .val .null, .val (.int sm), .val (.int ex)] [(.ref b5)])) _
    refine XS.aload X6.here hx rfl (hb hby at_268) rfl rfl ?_
    show Steps p.tables e below (T6.setTop (mkF m 270 #[.val (.int cc), .val (.int ra), .val (.int sa), .val (.int rb), .val (.int sb), .val (.int md), .val (.int na), .val (.int nc), .val (.int u0), .val (.int u1), .val (.int w0), .val (.int w1), .val (.int rr), .val (.int ss), .val (.ref t_3), .val (.ref t_4), .val (.ref b5), .val (.int kd), .val .null, .val (.int sm), .val (.int ex)] [.null, (.ref b5)])) _
    refine st7.trans ?_
    show Steps p.tables e below (T7.setTop (mkF m 273 #[.val (.int cc), .val (.int ra), .val (.int sa), .val (.int rb), .val (.int sb), .val (.int md), .val (.int na), .val (.int nc), .val (.int u0), .val (.int u1), .val (.int w0), .val (.int w1), .val (.int rr), .val (.int ss), .val (.ref t_3), .val (.ref t_4), .val (.ref b5), .val (.int kd), .val .null, .val (.int sm), .val (.int ex)] [(.int (0 : Int32))])) _
    refine XS.iload X7.here hx rfl (hb hby at_273) rfl ?_
    show Steps p.tables e below (T7.setTop (mkF m 275 #[.val (.int cc), .val (.int ra), .val (.int sa), .val (.int rb), .val (.int sb), .val (.int md), .val (.int na), .val (.int nc), .val (.int u0), .val (.int u1), .val (.int w0), .val (.int w1), .val (.int rr), .val (.int ss), .val (.ref t_3), .val (.ref t_4), .val (.ref b5), .val (.int kd), .val .null, .val (.int sm), .val (.int ex)] [(.int ex), (.int (0 : Int32))])) _
    refine XS.icmpNo X7.here hx rfl (hb hby at_275) rfl (teq hc275).2 ?_
    show Steps p.tables e below (T7.setTop (mkF m 278 #[.val (.int cc), .val (.int ra), .val (.int sa), .val (.int rb), .val (.int sb), .val (.int md), .val (.int na), .val (.int nc), .val (.int u0), .val (.int u1), .val (.int w0), .val (.int w1), .val (.int rr), .val (.int ss), .val (.ref t_3), .val (.ref t_4), .val (.ref b5), .val (.int kd), .val .null, .val (.int sm), .val (.int ex)] [])) _
    refine XS.iconst X7.here hx rfl (hb hby at_278) ?_
    show Steps p.tables e below (T7.setTop (mkF m 279 #[.val (.int cc), .val (.int ra), .val (.int sa), .val (.int rb), .val (.int sb), .val (.int md), .val (.int na), .val (.int nc), .val (.int u0), .val (.int u1), .val (.int w0), .val (.int w1), .val (.int rr), .val (.int ss), .val (.ref t_3), .val (.ref t_4), .val (.ref b5), .val (.int kd), .val .null, .val (.int sm), .val (.int ex)] [(.int (1 : Int32))])) _
    refine XS.goto X7.here hx rfl (pc0 := 279) (pc' := 283) rfl (hb hby at_279) (by decide) (by decide) ?_
    show Steps p.tables e below (T7.setTop (mkF m 283 #[.val (.int cc), .val (.int ra), .val (.int sa), .val (.int rb), .val (.int sb), .val (.int md), .val (.int na), .val (.int nc), .val (.int u0), .val (.int u1), .val (.int w0), .val (.int w1), .val (.int rr), .val (.int ss), .val (.ref t_3), .val (.ref t_4), .val (.ref b5), .val (.int kd), .val .null, .val (.int sm), .val (.int ex)] [(.int (1 : Int32))])) _
    exact retN X7 hx (t := .boolean) Bd.returns (by simp) (hb hby at_283) hr
  · show Q_rm0Nul Z cc ra sa rb sb md na nc u0 u1 w0 w1 rr ss kd nb sm ex cz h0 n0 _ T7.heap _
    rw [e7]
    exact ⟨rfl, N7⟩
  · show CHr Z ELs s.vm s.heap T7.vm T7.heap
    rw [hh, e7]
    exact R_6.trans (CHv.at X7 hZ_6 (own_EL hw) R_6.1)
def Q_rm0Str (Z : State) (cc : Int32) (ra : Int32) (sa : Int32) (rb : Int32) (sb : Int32) (md : Int32) (na : Int32) (nc : Int32) (u0 : Int32) (u1 : Int32) (w0 : Int32) (w1 : Int32) (rr : Int32) (ss : Int32) (kd : Int32) (nb : Int32) (sm : Int32) (ex : Int32) (cz : Int32) (h0 : Heap) (n0 : Nat) (v : Option Value) (h : Heap) (L : List Loc) : Prop := v = some (.int (1 : Int32)) ∧ Fr n0 L
theorem ef_rm0Str (m : MethodId) (cc : Int32) (ra : Int32) (sa : Int32) (rb : Int32) (sb : Int32) (md : Int32) : entryFrame m #[(.int cc), (.int ra), (.int sa), (.int rb), (.int sb), (.int md)] maxLocals = mkF m 0 #[.val (.int cc), .val (.int ra), .val (.int sa), .val (.int rb), .val (.int sb), .val (.int md), .unset, .unset, .unset, .unset, .unset, .unset, .unset, .unset, .unset, .unset, .unset, .unset, .unset, .unset, .unset] [] := by first | (simp [entryFrame, mkF, argsToLocals, Value.category, maxLocals]; done) | rfl
set_option maxRecDepth 65536 in
set_option maxHeartbeats 40000000 in
theorem rm0Str (l : Launch) (Z : State) (a0 : Array Value) (hw : ∀ d ∈ tables_1, d.before a0 Z = true) (ws : List Jvm.Cond) (cc : Int32) (ra : Int32) (sa : Int32) (rb : Int32) (sb : Int32) (md : Int32) (na : Int32) (nc : Int32) (u0 : Int32) (u1 : Int32) (w0 : Int32) (w1 : Int32) (rr : Int32) (ss : Int32) (kd : Int32) (nb : Int32) (sm : Int32) (ex : Int32) (cz : Int32) (h0 : Heap) (n0 : Nat) (X00 : Old Z n0 h0) (S_COMPACT_STRINGS : Sta Z Z.heap "java/lang/String" "COMPACT_STRINGS" "Z" (.int cz)) (hna : na = 0 ∨ na = 1 ∨ na = 2) (hnc : nc = 0 ∨ nc = 1 ∨ nc = 2) (hu0 : CharOK u0) (hu1 : CharOK u1) (hw0 : CharOK w0) (hw1 : CharOK w1) (hcz : ¬ cz = 0) (hA : Seg l 20 #[.val (.int cc), .val (.int ra), .val (.int sa), .val (.int rb), .val (.int sb), .val (.int md), .val (.int na), .val (.int nb), .unset, .unset, .unset, .unset, .unset, .unset, .unset, .unset, .unset, .unset, .unset, .unset, .unset] 112 #[.val (.int cc), .val (.int ra), .val (.int sa), .val (.int rb), .val (.int sb), .val (.int md), .val (.int na), .val (.int nc), .val (.int u0), .val (.int u1), .val (.int w0), .val (.int w1), .val (.int rr), .val (.int ss), .unset, .unset, .unset, .unset, .unset, .unset, .unset]) (hE : ∀ q14 q15 q16 q18 : Slot, Seg l 196 #[.val (.int cc), .val (.int ra), .val (.int sa), .val (.int rb), .val (.int sb), .val (.int md), .val (.int na), .val (.int nc), .val (.int u0), .val (.int u1), .val (.int w0), .val (.int w1), .val (.int rr), .val (.int ss), q14, q15, q16, .val (.int kd), q18, .unset, .unset] 266 #[.val (.int cc), .val (.int ra), .val (.int sa), .val (.int rb), .val (.int sb), .val (.int md), .val (.int na), .val (.int nc), .val (.int u0), .val (.int u1), .val (.int w0), .val (.int w1), .val (.int rr), .val (.int ss), q14, q15, q16, .val (.int kd), q18, .val (.int sm), .val (.int ex)]) (hva : (lenv (md &&& (3 : Int32))) = na) (hvb : (lenv (((md.toUInt32 >>> ((2 : Int32) &&& 31).toUInt32).toInt32) &&& (3 : Int32))) = nb) (hvk : (((md.toUInt32 >>> ((7 : Int32) &&& 31).toUInt32).toInt32) &&& (3 : Int32)) = kd) (hc159 : ¬ (kd = (2 : Int32))) (hc171 : kd = (3 : Int32)) (hc275 : (0 : Int32) = ex) :
    MetFree l x (head1 (Jvm.Cond.code x code maxLocals ret :: ws) room_1) (fun aa U => aa = #[(.int cc), (.int ra), (.int sa), (.int rb), (.int sb), (.int md)] ∧ Z.Warmed39 U.vm ∧ U.heap = h0 ∧ CHv Z ELs U.vm h0) (fun _ _ _ _ _ => True) (fun _ U o U' => ∃ v L, o = .returned v ∧ Q_rm0Str Z cc ra sa rb sb md na nc u0 u1 w0 w1 rr ss kd nb sm ex cz h0 n0 v U'.heap L ∧ CHr Z ELs U.vm U.heap U'.vm U'.heap ∧ ReturnedEndW U o U' L room_1.cells room_1.slots) := by
  refine MetFree.of_bodySF (plainFor_of_name pn_com_example_abox_to_sql_aboxtosql_AddedAssertionEqualsPinLaw) hisR ?_
  intro p e s m args below meth c s₁ Bd hml0 hP hK
  obtain ⟨rfl, hZq, hh, hC0⟩ := hP
  have hx := Bd.exec
  have hby := Bd.bytes
  have hml : c.maxLocals = 21 := hml0
  have hown : s.vm.findClass "com/example/abox_to_sql/aboxtosql/AddedAssertionEqualsPinLaw" = some m.cls := findClass_of_methodNamed Bd.named
  have hnm := (name_of_methodNamed Bd.named Bd.method).1
  have X0 : Stand p l e room_1 (s.setVm s.vm) m #[(.int cc), (.int ra), (.int sa), (.int rb), (.int sb), (.int md)] below meth c s₁ [] 0 0 := Stand.of_body Bd
  have e0 : s₁.heap = h0 := by rw [← hh, Bd.state]; rfl
  have N0 := Fr.nil n0
  have Z0 : n0 ≤ h0.size := own_z0 X00
  have pre0 : ∀ t, Steps p.tables e below (s₁.setTop (mkF m 0 #[.val (.int cc), .val (.int ra), .val (.int sa), .val (.int rb), .val (.int sb), .val (.int md), .unset, .unset, .unset, .unset, .unset, .unset, .unset, .unset, .unset, .unset, .unset, .unset, .unset, .unset, .unset] [])) t → Steps p.tables e below (s₁.setTop (entryFrame m #[(.int cc), (.int ra), (.int sa), (.int rb), (.int sb), (.int md)] maxLocals)) t := fun t k => castTop (ef_rm0Str m cc ra sa rb sb md) k
  have hZ_0 : Z.Warmed39 (s.setVm s.vm).vm := hZq
  have hown_0 : (s.setVm s.vm).vm.findClass "com/example/abox_to_sql/aboxtosql/AddedAssertionEqualsPinLaw" = some m.cls := hown
  have hS_0 : s.Since s.vm 0 := (State.WarmedH.refl s).since 0
  have hk_0 : 0 ≤ h0.size := Nat.zero_le _
  have R_0 : CHr Z ELs s.vm h0 s.vm h0 := CHr.refl hC0
  obtain ⟨_, _, ⟨T1, L1, k1, n1⟩, -, X1, ⟨Lc1, hQ1, l1, y1, z1⟩, st1⟩ := Jvm.LawKit.callS X0 hx (y := (⟨"com/example/abox_to_sql/aboxtosql/AddedAssertionEqualsPinLaw", "len", "(I)I"⟩ : MethodName)) hown_0 (mvT hZ_0 (hw _ (List.mem_of_getElem? (i := 0) rfl))) (mvT hZ_0 (hw _ (List.mem_of_getElem? (i := 1) rfl))) (mvT hZ_0 (hw _ (List.mem_of_getElem? (i := 2) rfl))) (mvT hZ_0 (hw _ (List.mem_of_getElem? (i := 3) rfl))) (by decide) (backOf (W := 0) (rmLen l Z a0 hw [] (md &&& (3 : Int32)) h0 n0 (own_z0 X00)) hZ_0 (hw _ (List.mem_of_getElem? (i := 3) rfl)) (hw _ (List.mem_of_getElem? (i := 2) rfl)) (by decide) (by decide)) (g := (mkF m 4 #[.val (.int cc), .val (.int ra), .val (.int sa), .val (.int rb), .val (.int sb), .val (.int md), .unset, .unset, .unset, .unset, .unset, .unset, .unset, .unset, .unset, .unset, .unset, .unset, .unset, .unset, .unset] [(.int (md &&& (3 : Int32)))])) rfl (by rw [hml]; rfl) (argsL := [(.int (md &&& (3 : Int32)))]) (rest := []) (lenOf pd__I_I rfl) rfl (by show 2 * 0 + _ ≤ _; exact Nat.le_of_eq rfl) (hb hby at_4) (fun _ _ => ⟨rfl, e0, (by decide : 0 + 0 ≤ _), (by decide : 0 + 0 ≤ _)⟩)
  dsimp only [Pt.U, Pt.locs, Pt.cells, Pt.slots] at X1 l1 y1 z1 st1 hQ1
  subst l1 y1 z1
  obtain ⟨rfl, N1q, e1⟩ := hQ1
  have N1 := Fr.app N0 N1q
  obtain ⟨_, _, ⟨T2, L2, k2, n2⟩, -, X2, ⟨Lc2, hQ2, l2, y2, z2⟩, st2⟩ := Jvm.LawKit.callS X1 hx (y := (⟨"com/example/abox_to_sql/aboxtosql/AddedAssertionEqualsPinLaw", "len", "(I)I"⟩ : MethodName)) hown_0 (mvT hZ_0 (hw _ (List.mem_of_getElem? (i := 0) rfl))) (mvT hZ_0 (hw _ (List.mem_of_getElem? (i := 1) rfl))) (mvT hZ_0 (hw _ (List.mem_of_getElem? (i := 2) rfl))) (mvT hZ_0 (hw _ (List.mem_of_getElem? (i := 3) rfl))) (by decide) (backOf (W := 0) (rmLen l Z a0 hw [] (((md.toUInt32 >>> ((2 : Int32) &&& 31).toUInt32).toInt32) &&& (3 : Int32)) h0 n0 (own_z0 X00)) hZ_0 (hw _ (List.mem_of_getElem? (i := 3) rfl)) (hw _ (List.mem_of_getElem? (i := 2) rfl)) (by decide) (by decide)) (g := (mkF m 15 #[.val (.int cc), .val (.int ra), .val (.int sa), .val (.int rb), .val (.int sb), .val (.int md), .val (.int na), .unset, .unset, .unset, .unset, .unset, .unset, .unset, .unset, .unset, .unset, .unset, .unset, .unset, .unset] [(.int (((md.toUInt32 >>> ((2 : Int32) &&& 31).toUInt32).toInt32) &&& (3 : Int32)))])) rfl (by rw [hml]; rfl) (argsL := [(.int (((md.toUInt32 >>> ((2 : Int32) &&& 31).toUInt32).toInt32) &&& (3 : Int32)))]) (rest := []) (lenOf pd__I_I rfl) rfl (by show 2 * 0 + _ ≤ _; exact Nat.le_of_eq rfl) (hb hby at_15) (fun _ _ => ⟨rfl, e1, (by decide : 0 + 0 ≤ _), (by decide : 0 + 0 ≤ _)⟩)
  dsimp only [Pt.U, Pt.locs, Pt.cells, Pt.slots] at X2 l2 y2 z2 st2 hQ2
  subst l2 y2 z2
  obtain ⟨rfl, N2q, e2⟩ := hQ2
  have N2 := Fr.app N1 N2q
  obtain ⟨_, _, ⟨T3, L3, k3, n3⟩, -, Xq3, hSq3, hgq3, ⟨Lc3, hQ3, l3, y3, z3, Rs3⟩, st3⟩ := callSS X2 hx (y := (⟨"com/example/abox_to_sql/aboxtosql/AddedAssertionEqualsPinLaw", "str", "(ICC)Ljava/lang/String;"⟩ : MethodName)) hown_0 (mvT hZ_0 (hw _ (List.mem_of_getElem? (i := 4) rfl))) (mvT hZ_0 (hw _ (List.mem_of_getElem? (i := 5) rfl))) (mvT hZ_0 (hw _ (List.mem_of_getElem? (i := 2) rfl))) (mvT hZ_0 (hw _ (List.mem_of_getElem? (i := 6) rfl))) (by decide) (backOfSH (W := 0) (rmStr l Z a0 hw [] na u0 u1 cz h0 n0 X00 S_COMPACT_STRINGS hna hu0 hu1 hcz) hZ_0 (hw _ (List.mem_of_getElem? (i := 6) rfl)) (hw _ (List.mem_of_getElem? (i := 2) rfl)) (by decide) (by decide) (own_EL hw) R_0.1) (g := (mkF m 118 #[.val (.int cc), .val (.int ra), .val (.int sa), .val (.int rb), .val (.int sb), .val (.int md), .val (.int na), .val (.int nc), .val (.int u0), .val (.int u1), .val (.int w0), .val (.int w1), .val (.int rr), .val (.int ss), .unset, .unset, .unset, .unset, .unset, .unset, .unset] [(.int u1), (.int u0), (.int na)])) rfl (by rw [hml]; rfl) (argsL := [(.int na), (.int u0), (.int u1)]) (rest := []) (lenOf pd__ICC_Ljava_lang_String_ rfl) rfl (by show 2 * 0 + _ ≤ _; exact Nat.le_of_eq rfl) (hb hby at_118) (fun _ _ => ⟨rfl, e2, (by decide : 0 + 6 ≤ _), (by decide : 0 + 16 ≤ _)⟩)
  dsimp only [Pt.U, Pt.locs, Pt.cells, Pt.slots] at hSq3 hgq3 Rs3 Xq3 l3 y3 z3 st3 hQ3
  subst l3 y3 z3
  obtain ⟨X3, hS_3, hZ_3, hown_3⟩ := rebS hS_0 (own_hk e2 hk_0) Xq3 hSq3 hgq3 hZ_0 hown_0
  obtain ⟨t_3, tb_3, tk_3, rfl, N3q, K3, hsz_t_3, Q3_0, Q3_1, Q3_2, Q3_3⟩ := hQ3
  have g_t_3 : n0 ≤ t_3 := Nat.le_trans (own_z0 X00) hsz_t_3
  have sz_t_3 : h0.size ≤ t_3 := Nat.le_trans (Nat.le_refl _) hsz_t_3
  have R_3 : CHr Z ELs s.vm h0 T3.vm T3.heap := R_0.trans Rs3
  have hk_3 : T3.heap.size ≤ T3.heap.size := Nat.le_refl _
  have X00__3 := X00.keep K3 all0
  have K0_3 : Keep h0 T3.heap [] := (Keep.refl h0 []).trans K3 all0
  have N3 := Fr.app N2 N3q
  obtain ⟨_, _, ⟨T4, L4, k4, n4⟩, -, Xq4, hSq4, hgq4, ⟨Lc4, hQ4, l4, y4, z4, Rs4⟩, st4⟩ := callSS X3 hx (y := (⟨"com/example/abox_to_sql/aboxtosql/AddedAssertionEqualsPinLaw", "str", "(ICC)Ljava/lang/String;"⟩ : MethodName)) hown_3 (mvT hZ_3 (hw _ (List.mem_of_getElem? (i := 4) rfl))) (mvT hZ_3 (hw _ (List.mem_of_getElem? (i := 5) rfl))) (mvT hZ_3 (hw _ (List.mem_of_getElem? (i := 2) rfl))) (mvT hZ_3 (hw _ (List.mem_of_getElem? (i := 6) rfl))) (by decide) (backOfSH (W := 0) (rmStr l Z a0 hw [] nc w0 w1 cz T3.heap n0 X00__3 S_COMPACT_STRINGS hnc hw0 hw1 hcz) hZ_3 (hw _ (List.mem_of_getElem? (i := 6) rfl)) (hw _ (List.mem_of_getElem? (i := 2) rfl)) (by decide) (by decide) (own_EL hw) R_3.1) (g := (mkF m 129 #[.val (.int cc), .val (.int ra), .val (.int sa), .val (.int rb), .val (.int sb), .val (.int md), .val (.int na), .val (.int nc), .val (.int u0), .val (.int u1), .val (.int w0), .val (.int w1), .val (.int rr), .val (.int ss), .val (.ref t_3), .unset, .unset, .unset, .unset, .unset, .unset] [(.int w1), (.int w0), (.int nc)])) rfl (by rw [hml]; rfl) (argsL := [(.int nc), (.int w0), (.int w1)]) (rest := []) (lenOf pd__ICC_Ljava_lang_String_ rfl) rfl (by show 2 * 0 + _ ≤ _; exact Nat.le_of_eq rfl) (hb hby at_129) (fun _ _ => ⟨rfl, rfl, (by decide : 6 + 6 ≤ _), (by decide : 16 + 16 ≤ _)⟩)
  dsimp only [Pt.U, Pt.locs, Pt.cells, Pt.slots] at hSq4 hgq4 Rs4 Xq4 l4 y4 z4 st4 hQ4
  subst l4 y4 z4
  obtain ⟨X4, hS_4, hZ_4, hown_4⟩ := rebS hS_3 (own_hk rfl hk_3) Xq4 hSq4 hgq4 hZ_3 hown_3
  obtain ⟨t_4, tb_4, tk_4, rfl, N4q, K4, hsz_t_4, Q4_0, Q4_1, Q4_2, Q4_3⟩ := hQ4
  have ne_t_3_t_4 : t_3 ≠ t_4 := Nat.ne_of_lt (Nat.lt_of_lt_of_le Q3_0.lt hsz_t_4)
  have ne_tb_3_t_4 : tb_3 ≠ t_4 := Nat.ne_of_lt (Nat.lt_of_lt_of_le Q3_3.lt hsz_t_4)
  have g_t_4 : n0 ≤ t_4 := Nat.le_trans (own_z0 X00__3) hsz_t_4
  have sz_t_4 : h0.size ≤ t_4 := Nat.le_trans K0_3.1 hsz_t_4
  have R_4 : CHr Z ELs s.vm h0 T4.vm T4.heap := R_3.trans Rs4
  have hk_4 : T4.heap.size ≤ T4.heap.size := Nat.le_refl _
  have Q3_0__4 := Q3_0.keep K4
  have Q3_1__4 := Q3_1.keep K4 nin0
  have Q3_2__4 := Q3_2.keep K4 nin0
  have Q3_3__4 := Q3_3.keep K4 nin0
  have X00__4 := X00__3.keep K4 all0
  have K0_4 : Keep h0 T4.heap [] := K0_3.trans K4 all0
  have N4 := Fr.app N3 N4q
  obtain ⟨T5, h5, X5, e5, E5, A5, D5, -, st5⟩ := newO X4 hx hZ_4 hown_4 (hw _ (List.mem_of_getElem? (i := 40) rfl)) (hw _ (List.mem_of_getElem? (i := 41) rfl)) (hw _ (List.mem_of_getElem? (i := 42) rfl)) rfl (g := (mkF m 134 #[.val (.int cc), .val (.int ra), .val (.int sa), .val (.int rb), .val (.int sb), .val (.int md), .val (.int na), .val (.int nc), .val (.int u0), .val (.int u1), .val (.int w0), .val (.int w1), .val (.int rr), .val (.int ss), .val (.ref t_3), .val (.ref t_4), .unset, .unset, .unset, .unset, .unset] [])) rfl (hb hby at_134) (by decide) (by decide)
  obtain ⟨b5, gb5⟩ : ∃ z, z = T4.heap.size := ⟨_, rfl⟩
  rw [← gb5] at A5 D5 st5
  have ne_t_3_b5 : t_3 ≠ b5 := Nat.ne_of_lt (Nat.lt_of_lt_of_le Q3_0__4.lt (Nat.le_of_eq gb5.symm))
  have ne_tb_3_b5 : tb_3 ≠ b5 := Nat.ne_of_lt (Nat.lt_of_lt_of_le Q3_3__4.lt (Nat.le_of_eq gb5.symm))
  have ne_t_4_b5 : t_4 ≠ b5 := Nat.ne_of_lt (Nat.lt_of_lt_of_le Q4_0.lt (Nat.le_of_eq gb5.symm))
  have ne_tb_4_b5 : tb_4 ≠ b5 := Nat.ne_of_lt (Nat.lt_of_lt_of_le Q4_3.lt (Nat.le_of_eq gb5.symm))
  have g_b5 : n0 ≤ b5 := Nat.le_trans (own_z0 X00__4) (Nat.le_of_eq gb5.symm)
  have sz_b5 : h0.size ≤ b5 := Nat.le_trans K0_4.1 (Nat.le_of_eq gb5.symm)
  have Rs5 : CHr Z ELs T4.vm T4.heap T4.vm h5 := CHr.ext E5 R_4.1
  have R_5 : CHr Z ELs s.vm h0 T4.vm h5 := R_4.trans Rs5
  have hk_5 := Nat.le_trans hk_4 Rs5.2.1
  have Q3_0__5 := Q3_0__4.ext E5
  have Q3_1__5 := Q3_1__4.ext E5
  have Q3_2__5 := Q3_2__4.ext E5
  have Q3_3__5 := Q3_3__4.ext E5
  have Q4_0__5 := Q4_0.ext E5
  have Q4_1__5 := Q4_1.ext E5
  have Q4_2__5 := Q4_2.ext E5
  have Q4_3__5 := Q4_3.ext E5
  have X00__5 := X00__4.ext E5
  have K0_5 : Keep h0 h5 [] := K0_4.ext E5
  have F_b5_assertion : Fld Z h5 b5 "com/example/abox_to_sql/aboxtosql/AddedAssertion" "assertion" "Ljava/lang/String;" .null := D5 (Or.inr (hw _ (List.mem_of_getElem? (i := 54) rfl))) (ty := (.object "java/lang/String")) (by decide)
  have F_b5_factsRead : Fld Z h5 b5 "com/example/abox_to_sql/aboxtosql/AddedAssertion" "factsRead" "I" (.int (0 : Int32)) := D5 (Or.inr (hw _ (List.mem_of_getElem? (i := 56) rfl))) (ty := .int) (by decide)
  have F_b5_factsStored : Fld Z h5 b5 "com/example/abox_to_sql/aboxtosql/AddedAssertion" "factsStored" "I" (.int (0 : Int32)) := D5 (Or.inr (hw _ (List.mem_of_getElem? (i := 58) rfl))) (ty := .int) (by decide)
  obtain ⟨_, _, ⟨T6, L6, k6, n6⟩, -, Xq6, hSq6, hgq6, ⟨Lc6, hQ6, l6, y6, z6, Rs6⟩, st6⟩ := X5.specialBackS hx (y := (⟨"com/example/abox_to_sql/aboxtosql/AddedAssertion", "<init>", "(Ljava/lang/String;II)V"⟩ : MethodName)) rfl hown_4 (mvT hZ_4 (hw _ (List.mem_of_getElem? (i := 43) rfl))) (mvT hZ_4 (hw _ (List.mem_of_getElem? (i := 44) rfl))) (mvT hZ_4 (hw _ (List.mem_of_getElem? (i := 45) rfl))) (by decide) (backOfSH (W := 1) (rmA l Z a0 hw [] b5 t_3 ra sa h5 n0 X00__5 A5 F_b5_assertion F_b5_factsRead F_b5_factsStored Q3_0__5 g_b5) hZ_4 (hw _ (List.mem_of_getElem? (i := 45) rfl)) (hw _ (List.mem_of_getElem? (i := 42) rfl)) (by decide) (by decide) (own_EL hw) R_5.1) (g := (mkF m 142 #[.val (.int cc), .val (.int ra), .val (.int sa), .val (.int rb), .val (.int sb), .val (.int md), .val (.int na), .val (.int nc), .val (.int u0), .val (.int u1), .val (.int w0), .val (.int w1), .val (.int rr), .val (.int ss), .val (.ref t_3), .val (.ref t_4), .unset, .unset, .unset, .unset, .unset] [(.int sa), (.int ra), (.ref t_3), (.ref b5), (.ref b5)])) rfl (by rw [hml]; rfl) (Steps.refl _) (a := b5) (argsL := [(.ref t_3), (.int ra), (.int sa)]) (rest := [(.ref b5)]) (lenOf pd__Ljava_lang_String_II_V rfl) rfl (by show 2 * 0 + _ ≤ _; exact Nat.le_of_eq rfl) (hb hby at_142) (fun _ _ => ⟨rfl, e5, (by decide : 13 + 2 ≤ _), (by decide : 35 + 40 ≤ _)⟩)
  dsimp only [Pt.U, Pt.locs, Pt.cells, Pt.slots] at hSq6 hgq6 Rs6 Xq6 l6 y6 z6 st6 hQ6
  subst l6 y6 z6
  obtain ⟨X6, hS_6, hZ_6, hown_6⟩ := rebS hS_4 (own_hk e5 hk_5) Xq6 hSq6 hgq6 hZ_4 hown_4
  obtain ⟨rfl, N6q, K6, Q6_0, Q6_1, Q6_2, Q6_3⟩ := hQ6
  have R_6 : CHr Z ELs s.vm h0 T6.vm T6.heap := R_5.trans Rs6
  have hk_6 : T6.heap.size ≤ T6.heap.size := Nat.le_refl _
  have Q3_0__6 := Q3_0__5.keep K6
  have Q3_1__6 := Q3_1__5.keep K6 (ninS ne_t_3_b5 nin0)
  have Q3_2__6 := Q3_2__5.keep K6 (ninS ne_t_3_b5 nin0)
  have Q3_3__6 := Q3_3__5.keep K6 (ninS ne_tb_3_b5 nin0)
  have Q4_0__6 := Q4_0__5.keep K6
  have Q4_1__6 := Q4_1__5.keep K6 (ninS ne_t_4_b5 nin0)
  have Q4_2__6 := Q4_2__5.keep K6 (ninS ne_t_4_b5 nin0)
  have Q4_3__6 := Q4_3__5.keep K6 (ninS ne_tb_4_b5 nin0)
  have A5__6 := A5.keep K6
  have X00__6 := X00__5.keep K6 (allS (P := fun x => n0 ≤ x) g_b5 all0)
  have K0_6 : Keep h0 T6.heap [] := K0_5.trans K6 (allS (P := fun x => x ∈ [] ∨ h0.size ≤ x) (Or.inr sz_b5) all0)
  have N6 := Fr.app N4 N6q
  obtain ⟨cq7, kq7, q7a, q7b, q7c⟩ := isOf hZ_6 rfl Q6_0
  obtain ⟨_, _, ⟨T7, L7, k7, n7⟩, -, X7, ⟨Lc7, hQ7, l7, y7, z7⟩, st7⟩ := X6.virtualBack hx (y := (⟨"com/example/abox_to_sql/aboxtosql/AddedAssertion", "equals", "(Ljava/lang/Object;)Z"⟩ : MethodName)) (z := (⟨"com/example/abox_to_sql/aboxtosql/AddedAssertion", "equals", "(Ljava/lang/Object;)Z"⟩ : MethodName)) hown_6 (mvT hZ_6 (hw _ (List.mem_of_getElem? (i := 59) rfl))) (mvT hZ_6 (hw _ (List.mem_of_getElem? (i := 60) rfl))) (notFace_of_selects (args := #[]) (mvT hZ_6 (hw _ (List.mem_of_getElem? (i := 62) rfl)))) (mvT hZ_6 (hw _ (List.mem_of_getElem? (i := 62) rfl))) (mvT hZ_6 (hw _ (List.mem_of_getElem? (i := 61) rfl))) (by decide) (backOf (W := 0) (rmE6 l Z a0 hw [] b5 t_4 T6.heap n0 (own_z0 X00__6) Q4_0__6) hZ_6 (hw _ (List.mem_of_getElem? (i := 63) rfl)) (hw _ (List.mem_of_getElem? (i := 42) rfl)) (by decide) (by decide)) q7a q7c (g := (mkF m 270 #[.val (.int cc), .val (.int ra), .val (.int sa), .val (.int rb), .val (.int sb), .val (.int md), .val (.int na), .val (.int nc), .val (.int u0), .val (.int u1), .val (.int w0), .val (.int w1), .val (.int rr), .val (.int ss), .val (.ref t_3), .val (.ref t_4), .val (.ref b5), .val (.int kd), .val (.ref t_4), .val (.int sm), .val (.int ex)] [(.ref t_4), (.ref b5)])) rfl (by rw [hml]; rfl) (Steps.refl _) (argsL := [(.ref t_4)]) (rest := []) (lenOf pd__Ljava_lang_Object__Z rfl) rfl (by show 2 * 0 + _ ≤ _; exact Nat.le_of_eq rfl) (hb hby at_270) (fun _ _ => ⟨rfl, rfl, (by decide : 15 + 0 ≤ _), (by decide : 75 + 0 ≤ _)⟩)
  dsimp only [Pt.U, Pt.locs, Pt.cells, Pt.slots] at X7 l7 y7 z7 st7 hQ7
  subst l7 y7 z7
  obtain ⟨rfl, N7q, e7⟩ := hQ7
  have N7 := Fr.app N6 N7q
  obtain ⟨fs, hr, hrun, hended, hEnd⟩ := X7.leaveW hS_6 (own_hk e7 hk_6) (v := some (.int (1 : Int32))) (fun h => by rw [Bd.returns] at h; cases h)
  refine ⟨_, _, pre0 _ ?_, hrun, hended, _, _, rfl, ?_, ?_, own_rew_mono hEnd (by decide) (by decide)⟩
  · show Steps p.tables e below (s₁.setTop (mkF m 0 #[.val (.int cc), .val (.int ra), .val (.int sa), .val (.int rb), .val (.int sb), .val (.int md), .unset, .unset, .unset, .unset, .unset, .unset, .unset, .unset, .unset, .unset, .unset, .unset, .unset, .unset, .unset] [])) _
    refine XS.iload X0.here hx rfl (hb hby at_0) rfl ?_
    show Steps p.tables e below (s₁.setTop (mkF m 2 #[.val (.int cc), .val (.int ra), .val (.int sa), .val (.int rb), .val (.int sb), .val (.int md), .unset, .unset, .unset, .unset, .unset, .unset, .unset, .unset, .unset, .unset, .unset, .unset, .unset, .unset, .unset] [(.int md)])) _
    refine XS.iconst X0.here hx rfl (hb hby at_2) ?_
    show Steps p.tables e below (s₁.setTop (mkF m 3 #[.val (.int cc), .val (.int ra), .val (.int sa), .val (.int rb), .val (.int sb), .val (.int md), .unset, .unset, .unset, .unset, .unset, .unset, .unset, .unset, .unset, .unset, .unset, .unset, .unset, .unset, .unset] [(.int (3 : Int32)), (.int md)])) _
    refine XS.iand X0.here hx rfl (hb hby at_3) rfl ?_
    show Steps p.tables e below (s₁.setTop (mkF m 4 #[.val (.int cc), .val (.int ra), .val (.int sa), .val (.int rb), .val (.int sb), .val (.int md), .unset, .unset, .unset, .unset, .unset, .unset, .unset, .unset, .unset, .unset, .unset, .unset, .unset, .unset, .unset] [(.int (md &&& (3 : Int32)))])) _
    refine st1 _ ?_
    show Steps p.tables e below (T1.setTop (mkF m 7 #[.val (.int cc), .val (.int ra), .val (.int sa), .val (.int rb), .val (.int sb), .val (.int md), .unset, .unset, .unset, .unset, .unset, .unset, .unset, .unset, .unset, .unset, .unset, .unset, .unset, .unset, .unset] [(.int (lenv (md &&& (3 : Int32))))])) _
    rw [hva]
    refine XS.istore X1.here hx rfl (hb hby at_7) rfl (l' := #[.val (.int cc), .val (.int ra), .val (.int sa), .val (.int rb), .val (.int sb), .val (.int md), .val (.int na), .unset, .unset, .unset, .unset, .unset, .unset, .unset, .unset, .unset, .unset, .unset, .unset, .unset, .unset]) rfl ?_
    show Steps p.tables e below (T1.setTop (mkF m 9 #[.val (.int cc), .val (.int ra), .val (.int sa), .val (.int rb), .val (.int sb), .val (.int md), .val (.int na), .unset, .unset, .unset, .unset, .unset, .unset, .unset, .unset, .unset, .unset, .unset, .unset, .unset, .unset] [])) _
    refine XS.iload X1.here hx rfl (hb hby at_9) rfl ?_
    show Steps p.tables e below (T1.setTop (mkF m 11 #[.val (.int cc), .val (.int ra), .val (.int sa), .val (.int rb), .val (.int sb), .val (.int md), .val (.int na), .unset, .unset, .unset, .unset, .unset, .unset, .unset, .unset, .unset, .unset, .unset, .unset, .unset, .unset] [(.int md)])) _
    refine XS.iconst X1.here hx rfl (hb hby at_11) ?_
    show Steps p.tables e below (T1.setTop (mkF m 12 #[.val (.int cc), .val (.int ra), .val (.int sa), .val (.int rb), .val (.int sb), .val (.int md), .val (.int na), .unset, .unset, .unset, .unset, .unset, .unset, .unset, .unset, .unset, .unset, .unset, .unset, .unset, .unset] [(.int (2 : Int32)), (.int md)])) _
    refine XS.iushr X1.here hx rfl (hb hby at_12) rfl ?_
    show Steps p.tables e below (T1.setTop (mkF m 13 #[.val (.int cc), .val (.int ra), .val (.int sa), .val (.int rb), .val (.int sb), .val (.int md), .val (.int na), .unset, .unset, .unset, .unset, .unset, .unset, .unset, .unset, .unset, .unset, .unset, .unset, .unset, .unset] [(.int ((md.toUInt32 >>> ((2 : Int32) &&& 31).toUInt32).toInt32))])) _
    refine XS.iconst X1.here hx rfl (hb hby at_13) ?_
    show Steps p.tables e below (T1.setTop (mkF m 14 #[.val (.int cc), .val (.int ra), .val (.int sa), .val (.int rb), .val (.int sb), .val (.int md), .val (.int na), .unset, .unset, .unset, .unset, .unset, .unset, .unset, .unset, .unset, .unset, .unset, .unset, .unset, .unset] [(.int (3 : Int32)), (.int ((md.toUInt32 >>> ((2 : Int32) &&& 31).toUInt32).toInt32))])) _
    refine XS.iand X1.here hx rfl (hb hby at_14) rfl ?_
    show Steps p.tables e below (T1.setTop (mkF m 15 #[.val (.int cc), .val (.int ra), .val (.int sa), .val (.int rb), .val (.int sb), .val (.int md), .val (.int na), .unset, .unset, .unset, .unset, .unset, .unset, .unset, .unset, .unset, .unset, .unset, .unset, .unset, .unset] [(.int (((md.toUInt32 >>> ((2 : Int32) &&& 31).toUInt32).toInt32) &&& (3 : Int32)))])) _
    refine st2 _ ?_
    show Steps p.tables e below (T2.setTop (mkF m 18 #[.val (.int cc), .val (.int ra), .val (.int sa), .val (.int rb), .val (.int sb), .val (.int md), .val (.int na), .unset, .unset, .unset, .unset, .unset, .unset, .unset, .unset, .unset, .unset, .unset, .unset, .unset, .unset] [(.int (lenv (((md.toUInt32 >>> ((2 : Int32) &&& 31).toUInt32).toInt32) &&& (3 : Int32))))])) _
    rw [hvb]
    refine XS.istore X2.here hx rfl (hb hby at_18) rfl (l' := #[.val (.int cc), .val (.int ra), .val (.int sa), .val (.int rb), .val (.int sb), .val (.int md), .val (.int na), .val (.int nb), .unset, .unset, .unset, .unset, .unset, .unset, .unset, .unset, .unset, .unset, .unset, .unset, .unset]) rfl ?_
    show Steps p.tables e below (T2.setTop (mkF m 20 #[.val (.int cc), .val (.int ra), .val (.int sa), .val (.int rb), .val (.int sb), .val (.int md), .val (.int na), .val (.int nb), .unset, .unset, .unset, .unset, .unset, .unset, .unset, .unset, .unset, .unset, .unset, .unset, .unset] [])) _
    refine hA _ _ _ _ _ _ _ _ _ _ _ _ _ X2 hx hby _ ?_
    show Steps p.tables e below (T2.setTop (mkF m 112 #[.val (.int cc), .val (.int ra), .val (.int sa), .val (.int rb), .val (.int sb), .val (.int md), .val (.int na), .val (.int nc), .val (.int u0), .val (.int u1), .val (.int w0), .val (.int w1), .val (.int rr), .val (.int ss), .unset, .unset, .unset, .unset, .unset, .unset, .unset] [])) _
    refine XS.iload X2.here hx rfl (hb hby at_112) rfl ?_
    show Steps p.tables e below (T2.setTop (mkF m 114 #[.val (.int cc), .val (.int ra), .val (.int sa), .val (.int rb), .val (.int sb), .val (.int md), .val (.int na), .val (.int nc), .val (.int u0), .val (.int u1), .val (.int w0), .val (.int w1), .val (.int rr), .val (.int ss), .unset, .unset, .unset, .unset, .unset, .unset, .unset] [(.int na)])) _
    refine XS.iload X2.here hx rfl (hb hby at_114) rfl ?_
    show Steps p.tables e below (T2.setTop (mkF m 116 #[.val (.int cc), .val (.int ra), .val (.int sa), .val (.int rb), .val (.int sb), .val (.int md), .val (.int na), .val (.int nc), .val (.int u0), .val (.int u1), .val (.int w0), .val (.int w1), .val (.int rr), .val (.int ss), .unset, .unset, .unset, .unset, .unset, .unset, .unset] [(.int u0), (.int na)])) _
    refine XS.iload X2.here hx rfl (hb hby at_116) rfl ?_
    show Steps p.tables e below (T2.setTop (mkF m 118 #[.val (.int cc), .val (.int ra), .val (.int sa), .val (.int rb), .val (.int sb), .val (.int md), .val (.int na), .val (.int nc), .val (.int u0), .val (.int u1), .val (.int w0), .val (.int w1), .val (.int rr), .val (.int ss), .unset, .unset, .unset, .unset, .unset, .unset, .unset] [(.int u1), (.int u0), (.int na)])) _
    refine st3.trans ?_
    show Steps p.tables e below (T3.setTop (mkF m 121 #[.val (.int cc), .val (.int ra), .val (.int sa), .val (.int rb), .val (.int sb), .val (.int md), .val (.int na), .val (.int nc), .val (.int u0), .val (.int u1), .val (.int w0), .val (.int w1), .val (.int rr), .val (.int ss), .unset, .unset, .unset, .unset, .unset, .unset, .unset] [(.ref t_3)])) _
    refine XS.astore X3.here hx rfl (hb hby at_121) rfl rfl (l' := #[.val (.int cc), .val (.int ra), .val (.int sa), .val (.int rb), .val (.int sb), .val (.int md), .val (.int na), .val (.int nc), .val (.int u0), .val (.int u1), .val (.int w0), .val (.int w1), .val (.int rr), .val (.int ss), .val (.ref t_3), .unset, .unset, .unset, .unset, .unset, .unset]) rfl ?_
    show Steps p.tables e below (T3.setTop (mkF m 123 #[.val (.int cc), .val (.int ra), .val (.int sa), .val (.int rb), .val (.int sb), .val (.int md), .val (.int na), .val (.int nc), .val (.int u0), .val (.int u1), .val (.int w0), .val (.int w1), .val (.int rr), .val (.int ss), .val (.ref t_3), .unset, .unset, .unset, .unset, .unset, .unset] [])) _
    refine XS.iload X3.here hx rfl (hb hby at_123) rfl ?_
    show Steps p.tables e below (T3.setTop (mkF m 125 #[.val (.int cc), .val (.int ra), .val (.int sa), .val (.int rb), .val (.int sb), .val (.int md), .val (.int na), .val (.int nc), .val (.int u0), .val (.int u1), .val (.int w0), .val (.int w1), .val (.int rr), .val (.int ss), .val (.ref t_3), .unset, .unset, .unset, .unset, .unset, .unset] [(.int nc)])) _
    refine XS.iload X3.here hx rfl (hb hby at_125) rfl ?_
    show Steps p.tables e below (T3.setTop (mkF m 127 #[.val (.int cc), .val (.int ra), .val (.int sa), .val (.int rb), .val (.int sb), .val (.int md), .val (.int na), .val (.int nc), .val (.int u0), .val (.int u1), .val (.int w0), .val (.int w1), .val (.int rr), .val (.int ss), .val (.ref t_3), .unset, .unset, .unset, .unset, .unset, .unset] [(.int w0), (.int nc)])) _
    refine XS.iload X3.here hx rfl (hb hby at_127) rfl ?_
    show Steps p.tables e below (T3.setTop (mkF m 129 #[.val (.int cc), .val (.int ra), .val (.int sa), .val (.int rb), .val (.int sb), .val (.int md), .val (.int na), .val (.int nc), .val (.int u0), .val (.int u1), .val (.int w0), .val (.int w1), .val (.int rr), .val (.int ss), .val (.ref t_3), .unset, .unset, .unset, .unset, .unset, .unset] [(.int w1), (.int w0), (.int nc)])) _
    refine st4.trans ?_
    show Steps p.tables e below (T4.setTop (mkF m 132 #[.val (.int cc), .val (.int ra), .val (.int sa), .val (.int rb), .val (.int sb), .val (.int md), .val (.int na), .val (.int nc), .val (.int u0), .val (.int u1), .val (.int w0), .val (.int w1), .val (.int rr), .val (.int ss), .val (.ref t_3), .unset, .unset, .unset, .unset, .unset, .unset] [(.ref t_4)])) _
    refine XS.astore X4.here hx rfl (hb hby at_132) rfl rfl (l' := #[.val (.int cc), .val (.int ra), .val (.int sa), .val (.int rb), .val (.int sb), .val (.int md), .val (.int na), .val (.int nc), .val (.int u0), .val (.int u1), .val (.int w0), .val (.int w1), .val (.int rr), .val (.int ss), .val (.ref t_3), .val (.ref t_4), .unset, .unset, .unset, .unset, .unset]) rfl ?_
    show Steps p.tables e below (T4.setTop (mkF m 134 #[.val (.int cc), .val (.int ra), .val (.int sa), .val (.int rb), .val (.int sb), .val (.int md), .val (.int na), .val (.int nc), .val (.int u0), .val (.int u1), .val (.int w0), .val (.int w1), .val (.int rr), .val (.int ss), .val (.ref t_3), .val (.ref t_4), .unset, .unset, .unset, .unset, .unset] [])) _
    refine st5 _ ?_
    show Steps p.tables e below (T5.setTop (mkF m 137 #[.val (.int cc), .val (.int ra), .val (.int sa), .val (.int rb), .val (.int sb), .val (.int md), .val (.int na), .val (.int nc), .val (.int u0), .val (.int u1), .val (.int w0), .val (.int w1), .val (.int rr), .val (.int ss), .val (.ref t_3), .val (.ref t_4), .unset, .unset, .unset, .unset, .unset] [(.ref b5)])) _
    refine XS.dup X5.here hx rfl (hb hby at_137) rfl rfl ?_
    show Steps p.tables e below (T5.setTop (mkF m 138 #[.val (.int cc), .val (.int ra), .val (.int sa), .val (.int rb), .val (.int sb), .val (.int md), .val (.int na), .val (.int nc), .val (.int u0), .val (.int u1), .val (.int w0), .val (.int w1), .val (.int rr), .val (.int ss), .val (.ref t_3), .val (.ref t_4), .unset, .unset, .unset, .unset, .unset] [(.ref b5), (.ref b5)])) _
    refine XS.aload X5.here hx rfl (hb hby at_138) rfl rfl ?_
    show Steps p.tables e below (T5.setTop (mkF m 140 #[.val (.int cc), .val (.int ra), .val (.int sa), .val (.int rb), .val (.int sb), .val (.int md), .val (.int na), .val (.int nc), .val (.int u0), .val (.int u1), .val (.int w0), .val (.int w1), .val (.int rr), .val (.int ss), .val (.ref t_3), .val (.ref t_4), .unset, .unset, .unset, .unset, .unset] [(.ref t_3), (.ref b5), (.ref b5)])) _
    refine XS.iloadN X5.here hx rfl (hb hby at_140) rfl ?_
    show Steps p.tables e below (T5.setTop (mkF m 141 #[.val (.int cc), .val (.int ra), .val (.int sa), .val (.int rb), .val (.int sb), .val (.int md), .val (.int na), .val (.int nc), .val (.int u0), .val (.int u1), .val (.int w0), .val (.int w1), .val (.int rr), .val (.int ss), .val (.ref t_3), .val (.ref t_4), .unset, .unset, .unset, .unset, .unset] [(.int ra), (.ref t_3), (.ref b5), (.ref b5)])) _
    refine XS.iloadN X5.here hx rfl (hb hby at_141) rfl ?_
    show Steps p.tables e below (T5.setTop (mkF m 142 #[.val (.int cc), .val (.int ra), .val (.int sa), .val (.int rb), .val (.int sb), .val (.int md), .val (.int na), .val (.int nc), .val (.int u0), .val (.int u1), .val (.int w0), .val (.int w1), .val (.int rr), .val (.int ss), .val (.ref t_3), .val (.ref t_4), .unset, .unset, .unset, .unset, .unset] [(.int sa), (.int ra), (.ref t_3), (.ref b5), (.ref b5)])) _
    refine st6.trans ?_
    show Steps p.tables e below (T6.setTop (mkF m 145 #[.val (.int cc), .val (.int ra), .val (.int sa), .val (.int rb), .val (.int sb), .val (.int md), .val (.int na), .val (.int nc), .val (.int u0), .val (.int u1), .val (.int w0), .val (.int w1), .val (.int rr), .val (.int ss), .val (.ref t_3), .val (.ref t_4), .unset, .unset, .unset, .unset, .unset] [(.ref b5)])) _
    refine XS.astore X6.here hx rfl (hb hby at_145) rfl rfl (l' := #[.val (.int cc), .val (.int ra), .val (.int sa), .val (.int rb), .val (.int sb), .val (.int md), .val (.int na), .val (.int nc), .val (.int u0), .val (.int u1), .val (.int w0), .val (.int w1), .val (.int rr), .val (.int ss), .val (.ref t_3), .val (.ref t_4), .val (.ref b5), .unset, .unset, .unset, .unset]) rfl ?_
    show Steps p.tables e below (T6.setTop (mkF m 147 #[.val (.int cc), .val (.int ra), .val (.int sa), .val (.int rb), .val (.int sb), .val (.int md), .val (.int na), .val (.int nc), .val (.int u0), .val (.int u1), .val (.int w0), .val (.int w1), .val (.int rr), .val (.int ss), .val (.ref t_3), .val (.ref t_4), .val (.ref b5), .unset, .unset, .unset, .unset] [])) _
    refine XS.iload X6.here hx rfl (hb hby at_147) rfl ?_
    show Steps p.tables e below (T6.setTop (mkF m 149 #[.val (.int cc), .val (.int ra), .val (.int sa), .val (.int rb), .val (.int sb), .val (.int md), .val (.int na), .val (.int nc), .val (.int u0), .val (.int u1), .val (.int w0), .val (.int w1), .val (.int rr), .val (.int ss), .val (.ref t_3), .val (.ref t_4), .val (.ref b5), .unset, .unset, .unset, .unset] [(.int md)])) _
    refine XS.bipush X6.here hx rfl (hb hby at_149) ?_
    show Steps p.tables e below (T6.setTop (mkF m 151 #[.val (.int cc), .val (.int ra), .val (.int sa), .val (.int rb), .val (.int sb), .val (.int md), .val (.int na), .val (.int nc), .val (.int u0), .val (.int u1), .val (.int w0), .val (.int w1), .val (.int rr), .val (.int ss), .val (.ref t_3), .val (.ref t_4), .val (.ref b5), .unset, .unset, .unset, .unset] [(.int (7 : Int32)), (.int md)])) _
    refine XS.iushr X6.here hx rfl (hb hby at_151) rfl ?_
    show Steps p.tables e below (T6.setTop (mkF m 152 #[.val (.int cc), .val (.int ra), .val (.int sa), .val (.int rb), .val (.int sb), .val (.int md), .val (.int na), .val (.int nc), .val (.int u0), .val (.int u1), .val (.int w0), .val (.int w1), .val (.int rr), .val (.int ss), .val (.ref t_3), .val (.ref t_4), .val (.ref b5), .unset, .unset, .unset, .unset] [(.int ((md.toUInt32 >>> ((7 : Int32) &&& 31).toUInt32).toInt32))])) _
    refine XS.iconst X6.here hx rfl (hb hby at_152) ?_
    show Steps p.tables e below (T6.setTop (mkF m 153 #[.val (.int cc), .val (.int ra), .val (.int sa), .val (.int rb), .val (.int sb), .val (.int md), .val (.int na), .val (.int nc), .val (.int u0), .val (.int u1), .val (.int w0), .val (.int w1), .val (.int rr), .val (.int ss), .val (.ref t_3), .val (.ref t_4), .val (.ref b5), .unset, .unset, .unset, .unset] [(.int (3 : Int32)), (.int ((md.toUInt32 >>> ((7 : Int32) &&& 31).toUInt32).toInt32))])) _
    refine XS.iand X6.here hx rfl (hb hby at_153) rfl ?_
    show Steps p.tables e below (T6.setTop (mkF m 154 #[.val (.int cc), .val (.int ra), .val (.int sa), .val (.int rb), .val (.int sb), .val (.int md), .val (.int na), .val (.int nc), .val (.int u0), .val (.int u1), .val (.int w0), .val (.int w1), .val (.int rr), .val (.int ss), .val (.ref t_3), .val (.ref t_4), .val (.ref b5), .unset, .unset, .unset, .unset] [(.int (((md.toUInt32 >>> ((7 : Int32) &&& 31).toUInt32).toInt32) &&& (3 : Int32)))])) _
    rw [hvk]
    refine XS.istore X6.here hx rfl (hb hby at_154) rfl (l' := #[.val (.int cc), .val (.int ra), .val (.int sa), .val (.int rb), .val (.int sb), .val (.int md), .val (.int na), .val (.int nc), .val (.int u0), .val (.int u1), .val (.int w0), .val (.int w1), .val (.int rr), .val (.int ss), .val (.ref t_3), .val (.ref t_4), .val (.ref b5), .val (.int kd), .unset, .unset, .unset]) rfl ?_
    show Steps p.tables e below (T6.setTop (mkF m 156 #[.val (.int cc), .val (.int ra), .val (.int sa), .val (.int rb), .val (.int sb), .val (.int md), .val (.int na), .val (.int nc), .val (.int u0), .val (.int u1), .val (.int w0), .val (.int w1), .val (.int rr), .val (.int ss), .val (.ref t_3), .val (.ref t_4), .val (.ref b5), .val (.int kd), .unset, .unset, .unset] [])) _
    refine XS.iload X6.here hx rfl (hb hby at_156) rfl ?_
    show Steps p.tables e below (T6.setTop (mkF m 158 #[.val (.int cc), .val (.int ra), .val (.int sa), .val (.int rb), .val (.int sb), .val (.int md), .val (.int na), .val (.int nc), .val (.int u0), .val (.int u1), .val (.int w0), .val (.int w1), .val (.int rr), .val (.int ss), .val (.ref t_3), .val (.ref t_4), .val (.ref b5), .val (.int kd), .unset, .unset, .unset] [(.int kd)])) _
    refine XS.iconst X6.here hx rfl (hb hby at_158) ?_
    show Steps p.tables e below (T6.setTop (mkF m 159 #[.val (.int cc), .val (.int ra), .val (.int sa), .val (.int rb), .val (.int sb), .val (.int md), .val (.int na), .val (.int nc), .val (.int u0), .val (.int u1), .val (.int w0), .val (.int w1), .val (.int rr), .val (.int ss), .val (.ref t_3), .val (.ref t_4), .val (.ref b5), .val (.int kd), .unset, .unset, .unset] [(.int (2 : Int32)), (.int kd)])) _
    refine XS.icmpYes X6.here hx rfl (pc0 := 159) (pc' := 168) rfl (hb hby at_159) rfl (feq hc159).2 (by decide) (by decide) ?_
    show Steps p.tables e below (T6.setTop (mkF m 168 #[.val (.int cc), .val (.int ra), .val (.int sa), .val (.int rb), .val (.int sb), .val (.int md), .val (.int na), .val (.int nc), .val (.int u0), .val (.int u1), .val (.int w0), .val (.int w1), .val (.int rr), .val (.int ss), .val (.ref t_3), .val (.ref t_4), .val (.ref b5), .val (.int kd), .unset, .unset, .unset] [])) _
    refine XS.iload X6.here hx rfl (hb hby at_168) rfl ?_
    show Steps p.tables e below (T6.setTop (mkF m 170 #[.val (.int cc), .val (.int ra), .val (.int sa), .val (.int rb), .val (.int sb), .val (.int md), .val (.int na), .val (.int nc), .val (.int u0), .val (.int u1), .val (.int w0), .val (.int w1), .val (.int rr), .val (.int ss), .val (.ref t_3), .val (.ref t_4), .val (.ref b5), .val (.int kd), .unset, .unset, .unset] [(.int kd)])) _
    refine XS.iconst X6.here hx rfl (hb hby at_170) ?_
    show Steps p.tables e below (T6.setTop (mkF m 171 #[.val (.int cc), .val (.int ra), .val (.int sa), .val (.int rb), .val (.int sb), .val (.int md), .val (.int na), .val (.int nc), .val (.int u0), .val (.int u1), .val (.int w0), .val (.int w1), .val (.int rr), .val (.int ss), .val (.ref t_3), .val (.ref t_4), .val (.ref b5), .val (.int kd), .unset, .unset, .unset] [(.int (3 : Int32)), (.int kd)])) _
    refine XS.icmpNo X6.here hx rfl (hb hby at_171) rfl (teq hc171).2 ?_
    show Steps p.tables e below (T6.setTop (mkF m 174 #[.val (.int cc), .val (.int ra), .val (.int sa), .val (.int rb), .val (.int sb), .val (.int md), .val (.int na), .val (.int nc), .val (.int u0), .val (.int u1), .val (.int w0), .val (.int w1), .val (.int rr), .val (.int ss), .val (.ref t_3), .val (.ref t_4), .val (.ref b5), .val (.int kd), .unset, .unset, .unset] [])) _
    refine XS.aload X6.here hx rfl (hb hby at_174) rfl rfl ?_
    show Steps p.tables e below (T6.setTop (mkF m 176 #[.val (.int cc), .val (.int ra), .val (.int sa), .val (.int rb), .val (.int sb), .val (.int md), .val (.int na), .val (.int nc), .val (.int u0), .val (.int u1), .val (.int w0), .val (.int w1), .val (.int rr), .val (.int ss), .val (.ref t_3), .val (.ref t_4), .val (.ref b5), .val (.int kd), .unset, .unset, .unset] [(.ref t_4)])) _
    refine XS.astore X6.here hx rfl (hb hby at_176) rfl rfl (l' := #[.val (.int cc), .val (.int ra), .val (.int sa), .val (.int rb), .val (.int sb), .val (.int md), .val (.int na), .val (.int nc), .val (.int u0), .val (.int u1), .val (.int w0), .val (.int w1), .val (.int rr), .val (.int ss), .val (.ref t_3), .val (.ref t_4), .val (.ref b5), .val (.int kd), .val (.ref t_4), .unset, .unset]) rfl ?_
    show Steps p.tables e below (T6.setTop (mkF m 178 #[.val (.int cc), .val (.int ra), .val (.int sa), .val (.int rb), .val (.int sb), .val (.int md), .val (.int na), .val (.int nc), .val (.int u0), .val (.int u1), .val (.int w0), .val (.int w1), .val (.int rr), .val (.int ss), .val (.ref t_3), .val (.ref t_4), .val (.ref b5), .val (.int kd), .val (.ref t_4), .unset, .unset] [])) _
    refine XS.goto X6.here hx rfl (pc0 := 178) (pc' := 196) rfl (hb hby at_178) (by decide) (by decide) ?_
    show Steps p.tables e below (T6.setTop (mkF m 196 #[.val (.int cc), .val (.int ra), .val (.int sa), .val (.int rb), .val (.int sb), .val (.int md), .val (.int na), .val (.int nc), .val (.int u0), .val (.int u1), .val (.int w0), .val (.int w1), .val (.int rr), .val (.int ss), .val (.ref t_3), .val (.ref t_4), .val (.ref b5), .val (.int kd), .val (.ref t_4), .unset, .unset] [])) _
    refine hE _ _ _ _ _ _ _ _ _ _ _ _ _ _ _ _ _ X6 hx hby _ ?_
    show Steps p.tables e below (T6.setTop (mkF m 266 #[.val (.int cc), .val (.int ra), .val (.int sa), .val (.int rb), .val (.int sb), .val (.int md), .val (.int na), .val (.int nc), .val (.int u0), .val (.int u1), .val (.int w0), .val (.int w1), .val (.int rr), .val (.int ss), .val (.ref t_3), .val (.ref t_4), .val (.ref b5), .val (.int kd), .val (.ref t_4), .val (.int sm), .val (.int ex)] [])) _
    refine XS.aload X6.here hx rfl (hb hby at_266) rfl rfl ?_
    show Steps p.tables e below (T6.setTop (mkF m 268 #[.val (.int cc), .val (.int ra), .val (.int sa), .val (.int rb), .val (.int sb), .val (.int md), .val (.int na), .val (.int nc), .val (.int u0), .val (.int u1), .val (.int w0), .val (.int w1), .val (.int rr), .val (.int ss), .val (.ref t_3), .val (.ref t_4), .val (.ref b5), .val (.int kd), .val (.ref t_4), .val (.int sm), .val (.int ex)] [(.ref b5)])) _
    refine XS.aload X6.here hx rfl (hb hby at_268) rfl rfl ?_
    show Steps p.tables e below (T6.setTop (mkF m 270 #[.val (.int cc), .val (.int ra), .val (.int sa), .val (.int rb), .val (.int sb), .val (.int md), .val (.int na), .val (.int nc), .val (.int u0), .val (.int u1), .val (.int w0), .val (.int w1), .val (.int rr), .val (.int ss), .val (.ref t_3), .val (.ref t_4), .val (.ref b5), .val (.int kd), .val (.ref t_4), .val (.int sm), .val (.int ex)] [(.ref t_4), (.ref b5)])) _
    refine st7.trans ?_
    show Steps p.tables e below (T7.setTop (mkF m 273 #[.val (.int cc), .val (.int ra), .val (.int sa), .val (.int rb), .val (.int sb), .val (.int md), .val (.int na), .val (.int nc), .val (.int u0), .val (.int u1), .val (.int w0), .val (.int w1), .val (.int rr), .val (.int ss), .val (.ref t_3), .val (.ref t_4), .val (.ref b5), .val (.int kd), .val (.ref t_4), .val (.int sm), .val (.int ex)] [(.int (0 : Int32))])) _
    refine XS.iload X7.here hx rfl (hb hby at_273) rfl ?_
    show Steps p.tables e below (T7.setTop (mkF m 275 #[.val (.int cc), .val (.int ra), .val (.int sa), .val (.int rb), .val (.int sb), .val (.int md), .val (.int na), .val (.int nc), .val (.int u0), .val (.int u1), .val (.int w0), .val (.int w1), .val (.int rr), .val (.int ss), .val (.ref t_3), .val (.ref t_4), .val (.ref b5), .val (.int kd), .val (.ref t_4), .val (.int sm), .val (.int ex)] [(.int ex), (.int (0 : Int32))])) _
    refine XS.icmpNo X7.here hx rfl (hb hby at_275) rfl (teq hc275).2 ?_
    show Steps p.tables e below (T7.setTop (mkF m 278 #[.val (.int cc), .val (.int ra), .val (.int sa), .val (.int rb), .val (.int sb), .val (.int md), .val (.int na), .val (.int nc), .val (.int u0), .val (.int u1), .val (.int w0), .val (.int w1), .val (.int rr), .val (.int ss), .val (.ref t_3), .val (.ref t_4), .val (.ref b5), .val (.int kd), .val (.ref t_4), .val (.int sm), .val (.int ex)] [])) _
    refine XS.iconst X7.here hx rfl (hb hby at_278) ?_
    show Steps p.tables e below (T7.setTop (mkF m 279 #[.val (.int cc), .val (.int ra), .val (.int sa), .val (.int rb), .val (.int sb), .val (.int md), .val (.int na), .val (.int nc), .val (.int u0), .val (.int u1), .val (.int w0), .val (.int w1), .val (.int rr), .val (.int ss), .val (.ref t_3), .val (.ref t_4), .val (.ref b5), .val (.int kd), .val (.ref t_4), .val (.int sm), .val (.int ex)] [(.int (1 : Int32))])) _
    refine XS.goto X7.here hx rfl (pc0 := 279) (pc' := 283) rfl (hb hby at_279) (by decide) (by decide) ?_
    show Steps p.tables e below (T7.setTop (mkF m 283 #[.val (.int cc), .val (.int ra), .val (.int sa), .val (.int rb), .val (.int sb), .val (.int md), .val (.int na), .val (.int nc), .val (.int u0), .val (.int u1), .val (.int w0), .val (.int w1), .val (.int rr), .val (.int ss), .val (.ref t_3), .val (.ref t_4), .val (.ref b5), .val (.int kd), .val (.ref t_4), .val (.int sm), .val (.int ex)] [(.int (1 : Int32))])) _
    exact retN X7 hx (t := .boolean) Bd.returns (by simp) (hb hby at_283) hr
  · show Q_rm0Str Z cc ra sa rb sb md na nc u0 u1 w0 w1 rr ss kd nb sm ex cz h0 n0 _ T7.heap _
    rw [e7]
    exact ⟨rfl, N7⟩
  · show CHr Z ELs s.vm s.heap T7.vm T7.heap
    rw [hh, e7]
    exact R_6.trans (CHv.at X7 hZ_6 (own_EL hw) R_6.1)
def Q_rm0AA (Z : State) (cc : Int32) (ra : Int32) (sa : Int32) (rb : Int32) (sb : Int32) (md : Int32) (na : Int32) (nc : Int32) (u0 : Int32) (u1 : Int32) (w0 : Int32) (w1 : Int32) (rr : Int32) (ss : Int32) (kd : Int32) (nb : Int32) (sm : Int32) (ex : Int32) (cz : Int32) (h0 : Heap) (n0 : Nat) (v : Option Value) (h : Heap) (L : List Loc) : Prop := v = some (.int (1 : Int32)) ∧ Fr n0 L
theorem ef_rm0AA (m : MethodId) (cc : Int32) (ra : Int32) (sa : Int32) (rb : Int32) (sb : Int32) (md : Int32) : entryFrame m #[(.int cc), (.int ra), (.int sa), (.int rb), (.int sb), (.int md)] maxLocals = mkF m 0 #[.val (.int cc), .val (.int ra), .val (.int sa), .val (.int rb), .val (.int sb), .val (.int md), .unset, .unset, .unset, .unset, .unset, .unset, .unset, .unset, .unset, .unset, .unset, .unset, .unset, .unset, .unset] [] := by first | (simp [entryFrame, mkF, argsToLocals, Value.category, maxLocals]; done) | rfl
set_option maxRecDepth 65536 in
set_option maxHeartbeats 40000000 in
theorem rm0AA (l : Launch) (Z : State) (a0 : Array Value) (hw : ∀ d ∈ tables_1, d.before a0 Z = true) (ws : List Jvm.Cond) (cc : Int32) (ra : Int32) (sa : Int32) (rb : Int32) (sb : Int32) (md : Int32) (na : Int32) (nc : Int32) (u0 : Int32) (u1 : Int32) (w0 : Int32) (w1 : Int32) (rr : Int32) (ss : Int32) (kd : Int32) (nb : Int32) (sm : Int32) (ex : Int32) (cz : Int32) (h0 : Heap) (n0 : Nat) (X00 : Old Z n0 h0) (S_COMPACT_STRINGS : Sta Z Z.heap "java/lang/String" "COMPACT_STRINGS" "Z" (.int cz)) (hna : na = 0 ∨ na = 1 ∨ na = 2) (hnc : nc = 0 ∨ nc = 1 ∨ nc = 2) (hu0 : CharOK u0) (hu1 : CharOK u1) (hw0 : CharOK w0) (hw1 : CharOK w1) (hcz : ¬ cz = 0) (hA : Seg l 20 #[.val (.int cc), .val (.int ra), .val (.int sa), .val (.int rb), .val (.int sb), .val (.int md), .val (.int na), .val (.int nb), .unset, .unset, .unset, .unset, .unset, .unset, .unset, .unset, .unset, .unset, .unset, .unset, .unset] 112 #[.val (.int cc), .val (.int ra), .val (.int sa), .val (.int rb), .val (.int sb), .val (.int md), .val (.int na), .val (.int nc), .val (.int u0), .val (.int u1), .val (.int w0), .val (.int w1), .val (.int rr), .val (.int ss), .unset, .unset, .unset, .unset, .unset, .unset, .unset]) (hE : ∀ q14 q15 q16 q18 : Slot, Seg l 196 #[.val (.int cc), .val (.int ra), .val (.int sa), .val (.int rb), .val (.int sb), .val (.int md), .val (.int na), .val (.int nc), .val (.int u0), .val (.int u1), .val (.int w0), .val (.int w1), .val (.int rr), .val (.int ss), q14, q15, q16, .val (.int kd), q18, .unset, .unset] 266 #[.val (.int cc), .val (.int ra), .val (.int sa), .val (.int rb), .val (.int sb), .val (.int md), .val (.int na), .val (.int nc), .val (.int u0), .val (.int u1), .val (.int w0), .val (.int w1), .val (.int rr), .val (.int ss), q14, q15, q16, .val (.int kd), q18, .val (.int sm), .val (.int ex)]) (hva : (lenv (md &&& (3 : Int32))) = na) (hvb : (lenv (((md.toUInt32 >>> ((2 : Int32) &&& 31).toUInt32).toInt32) &&& (3 : Int32))) = nb) (hvk : (((md.toUInt32 >>> ((7 : Int32) &&& 31).toUInt32).toInt32) &&& (3 : Int32)) = kd) (hc159 : ¬ (kd = (2 : Int32))) (hc171 : ¬ (kd = (3 : Int32))) (hc275 : (eqv (chars na u0 u1) (chars nc w0 w1) ra rr sa ss) = ex) :
    MetFree l x (head1 (Jvm.Cond.code x code maxLocals ret :: ws) room_1) (fun aa U => aa = #[(.int cc), (.int ra), (.int sa), (.int rb), (.int sb), (.int md)] ∧ Z.Warmed39 U.vm ∧ U.heap = h0 ∧ CHv Z ELs U.vm h0) (fun _ _ _ _ _ => True) (fun _ U o U' => ∃ v L, o = .returned v ∧ Q_rm0AA Z cc ra sa rb sb md na nc u0 u1 w0 w1 rr ss kd nb sm ex cz h0 n0 v U'.heap L ∧ CHr Z ELs U.vm U.heap U'.vm U'.heap ∧ ReturnedEndW U o U' L room_1.cells room_1.slots) := by
  refine MetFree.of_bodySF (plainFor_of_name pn_com_example_abox_to_sql_aboxtosql_AddedAssertionEqualsPinLaw) hisR ?_
  intro p e s m args below meth c s₁ Bd hml0 hP hK
  obtain ⟨rfl, hZq, hh, hC0⟩ := hP
  have hx := Bd.exec
  have hby := Bd.bytes
  have hml : c.maxLocals = 21 := hml0
  have hown : s.vm.findClass "com/example/abox_to_sql/aboxtosql/AddedAssertionEqualsPinLaw" = some m.cls := findClass_of_methodNamed Bd.named
  have hnm := (name_of_methodNamed Bd.named Bd.method).1
  have X0 : Stand p l e room_1 (s.setVm s.vm) m #[(.int cc), (.int ra), (.int sa), (.int rb), (.int sb), (.int md)] below meth c s₁ [] 0 0 := Stand.of_body Bd
  have e0 : s₁.heap = h0 := by rw [← hh, Bd.state]; rfl
  have N0 := Fr.nil n0
  have Z0 : n0 ≤ h0.size := own_z0 X00
  have pre0 : ∀ t, Steps p.tables e below (s₁.setTop (mkF m 0 #[.val (.int cc), .val (.int ra), .val (.int sa), .val (.int rb), .val (.int sb), .val (.int md), .unset, .unset, .unset, .unset, .unset, .unset, .unset, .unset, .unset, .unset, .unset, .unset, .unset, .unset, .unset] [])) t → Steps p.tables e below (s₁.setTop (entryFrame m #[(.int cc), (.int ra), (.int sa), (.int rb), (.int sb), (.int md)] maxLocals)) t := fun t k => castTop (ef_rm0AA m cc ra sa rb sb md) k
  have hZ_0 : Z.Warmed39 (s.setVm s.vm).vm := hZq
  have hown_0 : (s.setVm s.vm).vm.findClass "com/example/abox_to_sql/aboxtosql/AddedAssertionEqualsPinLaw" = some m.cls := hown
  have hS_0 : s.Since s.vm 0 := (State.WarmedH.refl s).since 0
  have hk_0 : 0 ≤ h0.size := Nat.zero_le _
  have R_0 : CHr Z ELs s.vm h0 s.vm h0 := CHr.refl hC0
  obtain ⟨_, _, ⟨T1, L1, k1, n1⟩, -, X1, ⟨Lc1, hQ1, l1, y1, z1⟩, st1⟩ := Jvm.LawKit.callS X0 hx (y := (⟨"com/example/abox_to_sql/aboxtosql/AddedAssertionEqualsPinLaw", "len", "(I)I"⟩ : MethodName)) hown_0 (mvT hZ_0 (hw _ (List.mem_of_getElem? (i := 0) rfl))) (mvT hZ_0 (hw _ (List.mem_of_getElem? (i := 1) rfl))) (mvT hZ_0 (hw _ (List.mem_of_getElem? (i := 2) rfl))) (mvT hZ_0 (hw _ (List.mem_of_getElem? (i := 3) rfl))) (by decide) (backOf (W := 0) (rmLen l Z a0 hw [] (md &&& (3 : Int32)) h0 n0 (own_z0 X00)) hZ_0 (hw _ (List.mem_of_getElem? (i := 3) rfl)) (hw _ (List.mem_of_getElem? (i := 2) rfl)) (by decide) (by decide)) (g := (mkF m 4 #[.val (.int cc), .val (.int ra), .val (.int sa), .val (.int rb), .val (.int sb), .val (.int md), .unset, .unset, .unset, .unset, .unset, .unset, .unset, .unset, .unset, .unset, .unset, .unset, .unset, .unset, .unset] [(.int (md &&& (3 : Int32)))])) rfl (by rw [hml]; rfl) (argsL := [(.int (md &&& (3 : Int32)))]) (rest := []) (lenOf pd__I_I rfl) rfl (by show 2 * 0 + _ ≤ _; exact Nat.le_of_eq rfl) (hb hby at_4) (fun _ _ => ⟨rfl, e0, (by decide : 0 + 0 ≤ _), (by decide : 0 + 0 ≤ _)⟩)
  dsimp only [Pt.U, Pt.locs, Pt.cells, Pt.slots] at X1 l1 y1 z1 st1 hQ1
  subst l1 y1 z1
  obtain ⟨rfl, N1q, e1⟩ := hQ1
  have N1 := Fr.app N0 N1q
  obtain ⟨_, _, ⟨T2, L2, k2, n2⟩, -, X2, ⟨Lc2, hQ2, l2, y2, z2⟩, st2⟩ := Jvm.LawKit.callS X1 hx (y := (⟨"com/example/abox_to_sql/aboxtosql/AddedAssertionEqualsPinLaw", "len", "(I)I"⟩ : MethodName)) hown_0 (mvT hZ_0 (hw _ (List.mem_of_getElem? (i := 0) rfl))) (mvT hZ_0 (hw _ (List.mem_of_getElem? (i := 1) rfl))) (mvT hZ_0 (hw _ (List.mem_of_getElem? (i := 2) rfl))) (mvT hZ_0 (hw _ (List.mem_of_getElem? (i := 3) rfl))) (by decide) (backOf (W := 0) (rmLen l Z a0 hw [] (((md.toUInt32 >>> ((2 : Int32) &&& 31).toUInt32).toInt32) &&& (3 : Int32)) h0 n0 (own_z0 X00)) hZ_0 (hw _ (List.mem_of_getElem? (i := 3) rfl)) (hw _ (List.mem_of_getElem? (i := 2) rfl)) (by decide) (by decide)) (g := (mkF m 15 #[.val (.int cc), .val (.int ra), .val (.int sa), .val (.int rb), .val (.int sb), .val (.int md), .val (.int na), .unset, .unset, .unset, .unset, .unset, .unset, .unset, .unset, .unset, .unset, .unset, .unset, .unset, .unset] [(.int (((md.toUInt32 >>> ((2 : Int32) &&& 31).toUInt32).toInt32) &&& (3 : Int32)))])) rfl (by rw [hml]; rfl) (argsL := [(.int (((md.toUInt32 >>> ((2 : Int32) &&& 31).toUInt32).toInt32) &&& (3 : Int32)))]) (rest := []) (lenOf pd__I_I rfl) rfl (by show 2 * 0 + _ ≤ _; exact Nat.le_of_eq rfl) (hb hby at_15) (fun _ _ => ⟨rfl, e1, (by decide : 0 + 0 ≤ _), (by decide : 0 + 0 ≤ _)⟩)
  dsimp only [Pt.U, Pt.locs, Pt.cells, Pt.slots] at X2 l2 y2 z2 st2 hQ2
  subst l2 y2 z2
  obtain ⟨rfl, N2q, e2⟩ := hQ2
  have N2 := Fr.app N1 N2q
  obtain ⟨_, _, ⟨T3, L3, k3, n3⟩, -, Xq3, hSq3, hgq3, ⟨Lc3, hQ3, l3, y3, z3, Rs3⟩, st3⟩ := callSS X2 hx (y := (⟨"com/example/abox_to_sql/aboxtosql/AddedAssertionEqualsPinLaw", "str", "(ICC)Ljava/lang/String;"⟩ : MethodName)) hown_0 (mvT hZ_0 (hw _ (List.mem_of_getElem? (i := 4) rfl))) (mvT hZ_0 (hw _ (List.mem_of_getElem? (i := 5) rfl))) (mvT hZ_0 (hw _ (List.mem_of_getElem? (i := 2) rfl))) (mvT hZ_0 (hw _ (List.mem_of_getElem? (i := 6) rfl))) (by decide) (backOfSH (W := 0) (rmStr l Z a0 hw [] na u0 u1 cz h0 n0 X00 S_COMPACT_STRINGS hna hu0 hu1 hcz) hZ_0 (hw _ (List.mem_of_getElem? (i := 6) rfl)) (hw _ (List.mem_of_getElem? (i := 2) rfl)) (by decide) (by decide) (own_EL hw) R_0.1) (g := (mkF m 118 #[.val (.int cc), .val (.int ra), .val (.int sa), .val (.int rb), .val (.int sb), .val (.int md), .val (.int na), .val (.int nc), .val (.int u0), .val (.int u1), .val (.int w0), .val (.int w1), .val (.int rr), .val (.int ss), .unset, .unset, .unset, .unset, .unset, .unset, .unset] [(.int u1), (.int u0), (.int na)])) rfl (by rw [hml]; rfl) (argsL := [(.int na), (.int u0), (.int u1)]) (rest := []) (lenOf pd__ICC_Ljava_lang_String_ rfl) rfl (by show 2 * 0 + _ ≤ _; exact Nat.le_of_eq rfl) (hb hby at_118) (fun _ _ => ⟨rfl, e2, (by decide : 0 + 6 ≤ _), (by decide : 0 + 16 ≤ _)⟩)
  dsimp only [Pt.U, Pt.locs, Pt.cells, Pt.slots] at hSq3 hgq3 Rs3 Xq3 l3 y3 z3 st3 hQ3
  subst l3 y3 z3
  obtain ⟨X3, hS_3, hZ_3, hown_3⟩ := rebS hS_0 (own_hk e2 hk_0) Xq3 hSq3 hgq3 hZ_0 hown_0
  obtain ⟨t_3, tb_3, tk_3, rfl, N3q, K3, hsz_t_3, Q3_0, Q3_1, Q3_2, Q3_3⟩ := hQ3
  have g_t_3 : n0 ≤ t_3 := Nat.le_trans (own_z0 X00) hsz_t_3
  have sz_t_3 : h0.size ≤ t_3 := Nat.le_trans (Nat.le_refl _) hsz_t_3
  have R_3 : CHr Z ELs s.vm h0 T3.vm T3.heap := R_0.trans Rs3
  have hk_3 : T3.heap.size ≤ T3.heap.size := Nat.le_refl _
  have X00__3 := X00.keep K3 all0
  have K0_3 : Keep h0 T3.heap [] := (Keep.refl h0 []).trans K3 all0
  have N3 := Fr.app N2 N3q
  obtain ⟨_, _, ⟨T4, L4, k4, n4⟩, -, Xq4, hSq4, hgq4, ⟨Lc4, hQ4, l4, y4, z4, Rs4⟩, st4⟩ := callSS X3 hx (y := (⟨"com/example/abox_to_sql/aboxtosql/AddedAssertionEqualsPinLaw", "str", "(ICC)Ljava/lang/String;"⟩ : MethodName)) hown_3 (mvT hZ_3 (hw _ (List.mem_of_getElem? (i := 4) rfl))) (mvT hZ_3 (hw _ (List.mem_of_getElem? (i := 5) rfl))) (mvT hZ_3 (hw _ (List.mem_of_getElem? (i := 2) rfl))) (mvT hZ_3 (hw _ (List.mem_of_getElem? (i := 6) rfl))) (by decide) (backOfSH (W := 0) (rmStr l Z a0 hw [] nc w0 w1 cz T3.heap n0 X00__3 S_COMPACT_STRINGS hnc hw0 hw1 hcz) hZ_3 (hw _ (List.mem_of_getElem? (i := 6) rfl)) (hw _ (List.mem_of_getElem? (i := 2) rfl)) (by decide) (by decide) (own_EL hw) R_3.1) (g := (mkF m 129 #[.val (.int cc), .val (.int ra), .val (.int sa), .val (.int rb), .val (.int sb), .val (.int md), .val (.int na), .val (.int nc), .val (.int u0), .val (.int u1), .val (.int w0), .val (.int w1), .val (.int rr), .val (.int ss), .val (.ref t_3), .unset, .unset, .unset, .unset, .unset, .unset] [(.int w1), (.int w0), (.int nc)])) rfl (by rw [hml]; rfl) (argsL := [(.int nc), (.int w0), (.int w1)]) (rest := []) (lenOf pd__ICC_Ljava_lang_String_ rfl) rfl (by show 2 * 0 + _ ≤ _; exact Nat.le_of_eq rfl) (hb hby at_129) (fun _ _ => ⟨rfl, rfl, (by decide : 6 + 6 ≤ _), (by decide : 16 + 16 ≤ _)⟩)
  dsimp only [Pt.U, Pt.locs, Pt.cells, Pt.slots] at hSq4 hgq4 Rs4 Xq4 l4 y4 z4 st4 hQ4
  subst l4 y4 z4
  obtain ⟨X4, hS_4, hZ_4, hown_4⟩ := rebS hS_3 (own_hk rfl hk_3) Xq4 hSq4 hgq4 hZ_3 hown_3
  obtain ⟨t_4, tb_4, tk_4, rfl, N4q, K4, hsz_t_4, Q4_0, Q4_1, Q4_2, Q4_3⟩ := hQ4
  have ne_t_3_t_4 : t_3 ≠ t_4 := Nat.ne_of_lt (Nat.lt_of_lt_of_le Q3_0.lt hsz_t_4)
  have ne_tb_3_t_4 : tb_3 ≠ t_4 := Nat.ne_of_lt (Nat.lt_of_lt_of_le Q3_3.lt hsz_t_4)
  have g_t_4 : n0 ≤ t_4 := Nat.le_trans (own_z0 X00__3) hsz_t_4
  have sz_t_4 : h0.size ≤ t_4 := Nat.le_trans K0_3.1 hsz_t_4
  have R_4 : CHr Z ELs s.vm h0 T4.vm T4.heap := R_3.trans Rs4
  have hk_4 : T4.heap.size ≤ T4.heap.size := Nat.le_refl _
  have Q3_0__4 := Q3_0.keep K4
  have Q3_1__4 := Q3_1.keep K4 nin0
  have Q3_2__4 := Q3_2.keep K4 nin0
  have Q3_3__4 := Q3_3.keep K4 nin0
  have X00__4 := X00__3.keep K4 all0
  have K0_4 : Keep h0 T4.heap [] := K0_3.trans K4 all0
  have N4 := Fr.app N3 N4q
  obtain ⟨T5, h5, X5, e5, E5, A5, D5, -, st5⟩ := newO X4 hx hZ_4 hown_4 (hw _ (List.mem_of_getElem? (i := 40) rfl)) (hw _ (List.mem_of_getElem? (i := 41) rfl)) (hw _ (List.mem_of_getElem? (i := 42) rfl)) rfl (g := (mkF m 134 #[.val (.int cc), .val (.int ra), .val (.int sa), .val (.int rb), .val (.int sb), .val (.int md), .val (.int na), .val (.int nc), .val (.int u0), .val (.int u1), .val (.int w0), .val (.int w1), .val (.int rr), .val (.int ss), .val (.ref t_3), .val (.ref t_4), .unset, .unset, .unset, .unset, .unset] [])) rfl (hb hby at_134) (by decide) (by decide)
  obtain ⟨b5, gb5⟩ : ∃ z, z = T4.heap.size := ⟨_, rfl⟩
  rw [← gb5] at A5 D5 st5
  have ne_t_3_b5 : t_3 ≠ b5 := Nat.ne_of_lt (Nat.lt_of_lt_of_le Q3_0__4.lt (Nat.le_of_eq gb5.symm))
  have ne_tb_3_b5 : tb_3 ≠ b5 := Nat.ne_of_lt (Nat.lt_of_lt_of_le Q3_3__4.lt (Nat.le_of_eq gb5.symm))
  have ne_t_4_b5 : t_4 ≠ b5 := Nat.ne_of_lt (Nat.lt_of_lt_of_le Q4_0.lt (Nat.le_of_eq gb5.symm))
  have ne_tb_4_b5 : tb_4 ≠ b5 := Nat.ne_of_lt (Nat.lt_of_lt_of_le Q4_3.lt (Nat.le_of_eq gb5.symm))
  have g_b5 : n0 ≤ b5 := Nat.le_trans (own_z0 X00__4) (Nat.le_of_eq gb5.symm)
  have sz_b5 : h0.size ≤ b5 := Nat.le_trans K0_4.1 (Nat.le_of_eq gb5.symm)
  have Rs5 : CHr Z ELs T4.vm T4.heap T4.vm h5 := CHr.ext E5 R_4.1
  have R_5 : CHr Z ELs s.vm h0 T4.vm h5 := R_4.trans Rs5
  have hk_5 := Nat.le_trans hk_4 Rs5.2.1
  have Q3_0__5 := Q3_0__4.ext E5
  have Q3_1__5 := Q3_1__4.ext E5
  have Q3_2__5 := Q3_2__4.ext E5
  have Q3_3__5 := Q3_3__4.ext E5
  have Q4_0__5 := Q4_0.ext E5
  have Q4_1__5 := Q4_1.ext E5
  have Q4_2__5 := Q4_2.ext E5
  have Q4_3__5 := Q4_3.ext E5
  have X00__5 := X00__4.ext E5
  have K0_5 : Keep h0 h5 [] := K0_4.ext E5
  have F_b5_assertion : Fld Z h5 b5 "com/example/abox_to_sql/aboxtosql/AddedAssertion" "assertion" "Ljava/lang/String;" .null := D5 (Or.inr (hw _ (List.mem_of_getElem? (i := 54) rfl))) (ty := (.object "java/lang/String")) (by decide)
  have F_b5_factsRead : Fld Z h5 b5 "com/example/abox_to_sql/aboxtosql/AddedAssertion" "factsRead" "I" (.int (0 : Int32)) := D5 (Or.inr (hw _ (List.mem_of_getElem? (i := 56) rfl))) (ty := .int) (by decide)
  have F_b5_factsStored : Fld Z h5 b5 "com/example/abox_to_sql/aboxtosql/AddedAssertion" "factsStored" "I" (.int (0 : Int32)) := D5 (Or.inr (hw _ (List.mem_of_getElem? (i := 58) rfl))) (ty := .int) (by decide)
  obtain ⟨_, _, ⟨T6, L6, k6, n6⟩, -, Xq6, hSq6, hgq6, ⟨Lc6, hQ6, l6, y6, z6, Rs6⟩, st6⟩ := X5.specialBackS hx (y := (⟨"com/example/abox_to_sql/aboxtosql/AddedAssertion", "<init>", "(Ljava/lang/String;II)V"⟩ : MethodName)) rfl hown_4 (mvT hZ_4 (hw _ (List.mem_of_getElem? (i := 43) rfl))) (mvT hZ_4 (hw _ (List.mem_of_getElem? (i := 44) rfl))) (mvT hZ_4 (hw _ (List.mem_of_getElem? (i := 45) rfl))) (by decide) (backOfSH (W := 1) (rmA l Z a0 hw [] b5 t_3 ra sa h5 n0 X00__5 A5 F_b5_assertion F_b5_factsRead F_b5_factsStored Q3_0__5 g_b5) hZ_4 (hw _ (List.mem_of_getElem? (i := 45) rfl)) (hw _ (List.mem_of_getElem? (i := 42) rfl)) (by decide) (by decide) (own_EL hw) R_5.1) (g := (mkF m 142 #[.val (.int cc), .val (.int ra), .val (.int sa), .val (.int rb), .val (.int sb), .val (.int md), .val (.int na), .val (.int nc), .val (.int u0), .val (.int u1), .val (.int w0), .val (.int w1), .val (.int rr), .val (.int ss), .val (.ref t_3), .val (.ref t_4), .unset, .unset, .unset, .unset, .unset] [(.int sa), (.int ra), (.ref t_3), (.ref b5), (.ref b5)])) rfl (by rw [hml]; rfl) (Steps.refl _) (a := b5) (argsL := [(.ref t_3), (.int ra), (.int sa)]) (rest := [(.ref b5)]) (lenOf pd__Ljava_lang_String_II_V rfl) rfl (by show 2 * 0 + _ ≤ _; exact Nat.le_of_eq rfl) (hb hby at_142) (fun _ _ => ⟨rfl, e5, (by decide : 13 + 2 ≤ _), (by decide : 35 + 40 ≤ _)⟩)
  dsimp only [Pt.U, Pt.locs, Pt.cells, Pt.slots] at hSq6 hgq6 Rs6 Xq6 l6 y6 z6 st6 hQ6
  subst l6 y6 z6
  obtain ⟨X6, hS_6, hZ_6, hown_6⟩ := rebS hS_4 (own_hk e5 hk_5) Xq6 hSq6 hgq6 hZ_4 hown_4
  obtain ⟨rfl, N6q, K6, Q6_0, Q6_1, Q6_2, Q6_3⟩ := hQ6
  have R_6 : CHr Z ELs s.vm h0 T6.vm T6.heap := R_5.trans Rs6
  have hk_6 : T6.heap.size ≤ T6.heap.size := Nat.le_refl _
  have Q3_0__6 := Q3_0__5.keep K6
  have Q3_1__6 := Q3_1__5.keep K6 (ninS ne_t_3_b5 nin0)
  have Q3_2__6 := Q3_2__5.keep K6 (ninS ne_t_3_b5 nin0)
  have Q3_3__6 := Q3_3__5.keep K6 (ninS ne_tb_3_b5 nin0)
  have Q4_0__6 := Q4_0__5.keep K6
  have Q4_1__6 := Q4_1__5.keep K6 (ninS ne_t_4_b5 nin0)
  have Q4_2__6 := Q4_2__5.keep K6 (ninS ne_t_4_b5 nin0)
  have Q4_3__6 := Q4_3__5.keep K6 (ninS ne_tb_4_b5 nin0)
  have A5__6 := A5.keep K6
  have X00__6 := X00__5.keep K6 (allS (P := fun x => n0 ≤ x) g_b5 all0)
  have K0_6 : Keep h0 T6.heap [] := K0_5.trans K6 (allS (P := fun x => x ∈ [] ∨ h0.size ≤ x) (Or.inr sz_b5) all0)
  have N6 := Fr.app N4 N6q
  obtain ⟨T7, h7, X7, e7, E7, A7, D7, -, st7⟩ := newO X6 hx hZ_6 hown_6 (hw _ (List.mem_of_getElem? (i := 40) rfl)) (hw _ (List.mem_of_getElem? (i := 41) rfl)) (hw _ (List.mem_of_getElem? (i := 42) rfl)) rfl (g := (mkF m 181 #[.val (.int cc), .val (.int ra), .val (.int sa), .val (.int rb), .val (.int sb), .val (.int md), .val (.int na), .val (.int nc), .val (.int u0), .val (.int u1), .val (.int w0), .val (.int w1), .val (.int rr), .val (.int ss), .val (.ref t_3), .val (.ref t_4), .val (.ref b5), .val (.int kd), .unset, .unset, .unset] [])) rfl (hb hby at_181) (by decide) (by decide)
  obtain ⟨b7, gb7⟩ : ∃ z, z = T6.heap.size := ⟨_, rfl⟩
  rw [← gb7] at A7 D7 st7
  have ne_t_3_b7 : t_3 ≠ b7 := Nat.ne_of_lt (Nat.lt_of_lt_of_le Q3_0__6.lt (Nat.le_of_eq gb7.symm))
  have ne_tb_3_b7 : tb_3 ≠ b7 := Nat.ne_of_lt (Nat.lt_of_lt_of_le Q3_3__6.lt (Nat.le_of_eq gb7.symm))
  have ne_t_4_b7 : t_4 ≠ b7 := Nat.ne_of_lt (Nat.lt_of_lt_of_le Q4_0__6.lt (Nat.le_of_eq gb7.symm))
  have ne_tb_4_b7 : tb_4 ≠ b7 := Nat.ne_of_lt (Nat.lt_of_lt_of_le Q4_3__6.lt (Nat.le_of_eq gb7.symm))
  have ne_b5_b7 : b5 ≠ b7 := Nat.ne_of_lt (Nat.lt_of_lt_of_le Q6_0.lt (Nat.le_of_eq gb7.symm))
  have g_b7 : n0 ≤ b7 := Nat.le_trans (own_z0 X00__6) (Nat.le_of_eq gb7.symm)
  have sz_b7 : h0.size ≤ b7 := Nat.le_trans K0_6.1 (Nat.le_of_eq gb7.symm)
  have Rs7 : CHr Z ELs T6.vm T6.heap T6.vm h7 := CHr.ext E7 R_6.1
  have R_7 : CHr Z ELs s.vm h0 T6.vm h7 := R_6.trans Rs7
  have hk_7 := Nat.le_trans hk_6 Rs7.2.1
  have Q3_0__7 := Q3_0__6.ext E7
  have Q3_1__7 := Q3_1__6.ext E7
  have Q3_2__7 := Q3_2__6.ext E7
  have Q3_3__7 := Q3_3__6.ext E7
  have Q4_0__7 := Q4_0__6.ext E7
  have Q4_1__7 := Q4_1__6.ext E7
  have Q4_2__7 := Q4_2__6.ext E7
  have Q4_3__7 := Q4_3__6.ext E7
  have Q6_0__7 := Q6_0.ext E7
  have Q6_1__7 := Q6_1.ext E7
  have Q6_2__7 := Q6_2.ext E7
  have Q6_3__7 := Q6_3.ext E7
  have X00__7 := X00__6.ext E7
  have K0_7 : Keep h0 h7 [] := K0_6.ext E7
  have F_b7_assertion : Fld Z h7 b7 "com/example/abox_to_sql/aboxtosql/AddedAssertion" "assertion" "Ljava/lang/String;" .null := D7 (Or.inr (hw _ (List.mem_of_getElem? (i := 54) rfl))) (ty := (.object "java/lang/String")) (by decide)
  have F_b7_factsRead : Fld Z h7 b7 "com/example/abox_to_sql/aboxtosql/AddedAssertion" "factsRead" "I" (.int (0 : Int32)) := D7 (Or.inr (hw _ (List.mem_of_getElem? (i := 56) rfl))) (ty := .int) (by decide)
  have F_b7_factsStored : Fld Z h7 b7 "com/example/abox_to_sql/aboxtosql/AddedAssertion" "factsStored" "I" (.int (0 : Int32)) := D7 (Or.inr (hw _ (List.mem_of_getElem? (i := 58) rfl))) (ty := .int) (by decide)
  obtain ⟨_, _, ⟨T8, L8, k8, n8⟩, -, Xq8, hSq8, hgq8, ⟨Lc8, hQ8, l8, y8, z8, Rs8⟩, st8⟩ := X7.specialBackS hx (y := (⟨"com/example/abox_to_sql/aboxtosql/AddedAssertion", "<init>", "(Ljava/lang/String;II)V"⟩ : MethodName)) rfl hown_6 (mvT hZ_6 (hw _ (List.mem_of_getElem? (i := 43) rfl))) (mvT hZ_6 (hw _ (List.mem_of_getElem? (i := 44) rfl))) (mvT hZ_6 (hw _ (List.mem_of_getElem? (i := 45) rfl))) (by decide) (backOfSH (W := 1) (rmA l Z a0 hw [] b7 t_4 rr ss h7 n0 X00__7 A7 F_b7_assertion F_b7_factsRead F_b7_factsStored Q4_0__7 g_b7) hZ_6 (hw _ (List.mem_of_getElem? (i := 45) rfl)) (hw _ (List.mem_of_getElem? (i := 42) rfl)) (by decide) (by decide) (own_EL hw) R_7.1) (g := (mkF m 191 #[.val (.int cc), .val (.int ra), .val (.int sa), .val (.int rb), .val (.int sb), .val (.int md), .val (.int na), .val (.int nc), .val (.int u0), .val (.int u1), .val (.int w0), .val (.int w1), .val (.int rr), .val (.int ss), .val (.ref t_3), .val (.ref t_4), .val (.ref b5), .val (.int kd), .unset, .unset, .unset] [(.int ss), (.int rr), (.ref t_4), (.ref b7), (.ref b7)])) rfl (by rw [hml]; rfl) (Steps.refl _) (a := b7) (argsL := [(.ref t_4), (.int rr), (.int ss)]) (rest := [(.ref b7)]) (lenOf pd__Ljava_lang_String_II_V rfl) rfl (by show 2 * 0 + _ ≤ _; exact Nat.le_of_eq rfl) (hb hby at_191) (fun _ _ => ⟨rfl, e7, (by decide : 16 + 2 ≤ _), (by decide : 78 + 40 ≤ _)⟩)
  dsimp only [Pt.U, Pt.locs, Pt.cells, Pt.slots] at hSq8 hgq8 Rs8 Xq8 l8 y8 z8 st8 hQ8
  subst l8 y8 z8
  obtain ⟨X8, hS_8, hZ_8, hown_8⟩ := rebS hS_6 (own_hk e7 hk_7) Xq8 hSq8 hgq8 hZ_6 hown_6
  obtain ⟨rfl, N8q, K8, Q8_0, Q8_1, Q8_2, Q8_3⟩ := hQ8
  have R_8 : CHr Z ELs s.vm h0 T8.vm T8.heap := R_7.trans Rs8
  have hk_8 : T8.heap.size ≤ T8.heap.size := Nat.le_refl _
  have Q3_0__8 := Q3_0__7.keep K8
  have Q3_1__8 := Q3_1__7.keep K8 (ninS ne_t_3_b7 nin0)
  have Q3_2__8 := Q3_2__7.keep K8 (ninS ne_t_3_b7 nin0)
  have Q3_3__8 := Q3_3__7.keep K8 (ninS ne_tb_3_b7 nin0)
  have Q4_0__8 := Q4_0__7.keep K8
  have Q4_1__8 := Q4_1__7.keep K8 (ninS ne_t_4_b7 nin0)
  have Q4_2__8 := Q4_2__7.keep K8 (ninS ne_t_4_b7 nin0)
  have Q4_3__8 := Q4_3__7.keep K8 (ninS ne_tb_4_b7 nin0)
  have Q6_0__8 := Q6_0__7.keep K8
  have Q6_1__8 := Q6_1__7.keep K8 (ninS ne_b5_b7 nin0)
  have Q6_2__8 := Q6_2__7.keep K8 (ninS ne_b5_b7 nin0)
  have Q6_3__8 := Q6_3__7.keep K8 (ninS ne_b5_b7 nin0)
  have A7__8 := A7.keep K8
  have X00__8 := X00__7.keep K8 (allS (P := fun x => n0 ≤ x) g_b7 all0)
  have K0_8 : Keep h0 T8.heap [] := K0_7.trans K8 (allS (P := fun x => x ∈ [] ∨ h0.size ≤ x) (Or.inr sz_b7) all0)
  have N8 := Fr.app N6 N8q
  obtain ⟨cq9, kq9, q9a, q9b, q9c⟩ := isOf hZ_8 rfl Q6_0__8
  obtain ⟨_, _, ⟨T9, L9, k9, n9⟩, -, X9, ⟨Lc9, hQ9, l9, y9, z9⟩, st9⟩ := X8.virtualBack hx (y := (⟨"com/example/abox_to_sql/aboxtosql/AddedAssertion", "equals", "(Ljava/lang/Object;)Z"⟩ : MethodName)) (z := (⟨"com/example/abox_to_sql/aboxtosql/AddedAssertion", "equals", "(Ljava/lang/Object;)Z"⟩ : MethodName)) hown_8 (mvT hZ_8 (hw _ (List.mem_of_getElem? (i := 59) rfl))) (mvT hZ_8 (hw _ (List.mem_of_getElem? (i := 60) rfl))) (notFace_of_selects (args := #[]) (mvT hZ_8 (hw _ (List.mem_of_getElem? (i := 62) rfl)))) (mvT hZ_8 (hw _ (List.mem_of_getElem? (i := 62) rfl))) (mvT hZ_8 (hw _ (List.mem_of_getElem? (i := 61) rfl))) (by decide) (backOf (W := 0) (rmE l Z a0 hw [] b5 b7 t_3 t_4 tb_3 tb_4 tk_3 tk_4 (chars na u0 u1) (chars nc w0 w1) ra rr sa ss cz T8.heap n0 X00__8 Q6_0__8 Q6_1__8 Q6_2__8 Q6_3__8 Q8_0 Q8_1 Q8_2 Q8_3 Q3_0__8 Q3_1__8 Q3_2__8 Q3_3__8 Q4_0__8 Q4_1__8 Q4_2__8 Q4_3__8 S_COMPACT_STRINGS (own_chars hu0 hu1) (own_clen _ _ _) (own_chars hw0 hw1) (own_clen _ _ _) hcz) hZ_8 (hw _ (List.mem_of_getElem? (i := 63) rfl)) (hw _ (List.mem_of_getElem? (i := 42) rfl)) (by decide) (by decide)) q9a q9c (g := (mkF m 270 #[.val (.int cc), .val (.int ra), .val (.int sa), .val (.int rb), .val (.int sb), .val (.int md), .val (.int na), .val (.int nc), .val (.int u0), .val (.int u1), .val (.int w0), .val (.int w1), .val (.int rr), .val (.int ss), .val (.ref t_3), .val (.ref t_4), .val (.ref b5), .val (.int kd), .val (.ref b7), .val (.int sm), .val (.int ex)] [(.ref b7), (.ref b5)])) rfl (by rw [hml]; rfl) (Steps.refl _) (argsL := [(.ref b7)]) (rest := []) (lenOf pd__Ljava_lang_Object__Z rfl) rfl (by show 2 * 0 + _ ≤ _; exact Nat.le_of_eq rfl) (hb hby at_270) (fun _ _ => ⟨rfl, rfl, (by decide : 18 + 0 ≤ _), (by decide : 118 + 0 ≤ _)⟩)
  dsimp only [Pt.U, Pt.locs, Pt.cells, Pt.slots] at X9 l9 y9 z9 st9 hQ9
  subst l9 y9 z9
  obtain ⟨rfl, N9q, e9⟩ := hQ9
  have N9 := Fr.app N8 N9q
  obtain ⟨fs, hr, hrun, hended, hEnd⟩ := X9.leaveW hS_8 (own_hk e9 hk_8) (v := some (.int (1 : Int32))) (fun h => by rw [Bd.returns] at h; cases h)
  refine ⟨_, _, pre0 _ ?_, hrun, hended, _, _, rfl, ?_, ?_, own_rew_mono hEnd (by decide) (by decide)⟩
  · show Steps p.tables e below (s₁.setTop (mkF m 0 #[.val (.int cc), .val (.int ra), .val (.int sa), .val (.int rb), .val (.int sb), .val (.int md), .unset, .unset, .unset, .unset, .unset, .unset, .unset, .unset, .unset, .unset, .unset, .unset, .unset, .unset, .unset] [])) _
    refine XS.iload X0.here hx rfl (hb hby at_0) rfl ?_
    show Steps p.tables e below (s₁.setTop (mkF m 2 #[.val (.int cc), .val (.int ra), .val (.int sa), .val (.int rb), .val (.int sb), .val (.int md), .unset, .unset, .unset, .unset, .unset, .unset, .unset, .unset, .unset, .unset, .unset, .unset, .unset, .unset, .unset] [(.int md)])) _
    refine XS.iconst X0.here hx rfl (hb hby at_2) ?_
    show Steps p.tables e below (s₁.setTop (mkF m 3 #[.val (.int cc), .val (.int ra), .val (.int sa), .val (.int rb), .val (.int sb), .val (.int md), .unset, .unset, .unset, .unset, .unset, .unset, .unset, .unset, .unset, .unset, .unset, .unset, .unset, .unset, .unset] [(.int (3 : Int32)), (.int md)])) _
    refine XS.iand X0.here hx rfl (hb hby at_3) rfl ?_
    show Steps p.tables e below (s₁.setTop (mkF m 4 #[.val (.int cc), .val (.int ra), .val (.int sa), .val (.int rb), .val (.int sb), .val (.int md), .unset, .unset, .unset, .unset, .unset, .unset, .unset, .unset, .unset, .unset, .unset, .unset, .unset, .unset, .unset] [(.int (md &&& (3 : Int32)))])) _
    refine st1 _ ?_
    show Steps p.tables e below (T1.setTop (mkF m 7 #[.val (.int cc), .val (.int ra), .val (.int sa), .val (.int rb), .val (.int sb), .val (.int md), .unset, .unset, .unset, .unset, .unset, .unset, .unset, .unset, .unset, .unset, .unset, .unset, .unset, .unset, .unset] [(.int (lenv (md &&& (3 : Int32))))])) _
    rw [hva]
    refine XS.istore X1.here hx rfl (hb hby at_7) rfl (l' := #[.val (.int cc), .val (.int ra), .val (.int sa), .val (.int rb), .val (.int sb), .val (.int md), .val (.int na), .unset, .unset, .unset, .unset, .unset, .unset, .unset, .unset, .unset, .unset, .unset, .unset, .unset, .unset]) rfl ?_
    show Steps p.tables e below (T1.setTop (mkF m 9 #[.val (.int cc), .val (.int ra), .val (.int sa), .val (.int rb), .val (.int sb), .val (.int md), .val (.int na), .unset, .unset, .unset, .unset, .unset, .unset, .unset, .unset, .unset, .unset, .unset, .unset, .unset, .unset] [])) _
    refine XS.iload X1.here hx rfl (hb hby at_9) rfl ?_
    show Steps p.tables e below (T1.setTop (mkF m 11 #[.val (.int cc), .val (.int ra), .val (.int sa), .val (.int rb), .val (.int sb), .val (.int md), .val (.int na), .unset, .unset, .unset, .unset, .unset, .unset, .unset, .unset, .unset, .unset, .unset, .unset, .unset, .unset] [(.int md)])) _
    refine XS.iconst X1.here hx rfl (hb hby at_11) ?_
    show Steps p.tables e below (T1.setTop (mkF m 12 #[.val (.int cc), .val (.int ra), .val (.int sa), .val (.int rb), .val (.int sb), .val (.int md), .val (.int na), .unset, .unset, .unset, .unset, .unset, .unset, .unset, .unset, .unset, .unset, .unset, .unset, .unset, .unset] [(.int (2 : Int32)), (.int md)])) _
    refine XS.iushr X1.here hx rfl (hb hby at_12) rfl ?_
    show Steps p.tables e below (T1.setTop (mkF m 13 #[.val (.int cc), .val (.int ra), .val (.int sa), .val (.int rb), .val (.int sb), .val (.int md), .val (.int na), .unset, .unset, .unset, .unset, .unset, .unset, .unset, .unset, .unset, .unset, .unset, .unset, .unset, .unset] [(.int ((md.toUInt32 >>> ((2 : Int32) &&& 31).toUInt32).toInt32))])) _
    refine XS.iconst X1.here hx rfl (hb hby at_13) ?_
    show Steps p.tables e below (T1.setTop (mkF m 14 #[.val (.int cc), .val (.int ra), .val (.int sa), .val (.int rb), .val (.int sb), .val (.int md), .val (.int na), .unset, .unset, .unset, .unset, .unset, .unset, .unset, .unset, .unset, .unset, .unset, .unset, .unset, .unset] [(.int (3 : Int32)), (.int ((md.toUInt32 >>> ((2 : Int32) &&& 31).toUInt32).toInt32))])) _
    refine XS.iand X1.here hx rfl (hb hby at_14) rfl ?_
    show Steps p.tables e below (T1.setTop (mkF m 15 #[.val (.int cc), .val (.int ra), .val (.int sa), .val (.int rb), .val (.int sb), .val (.int md), .val (.int na), .unset, .unset, .unset, .unset, .unset, .unset, .unset, .unset, .unset, .unset, .unset, .unset, .unset, .unset] [(.int (((md.toUInt32 >>> ((2 : Int32) &&& 31).toUInt32).toInt32) &&& (3 : Int32)))])) _
    refine st2 _ ?_
    show Steps p.tables e below (T2.setTop (mkF m 18 #[.val (.int cc), .val (.int ra), .val (.int sa), .val (.int rb), .val (.int sb), .val (.int md), .val (.int na), .unset, .unset, .unset, .unset, .unset, .unset, .unset, .unset, .unset, .unset, .unset, .unset, .unset, .unset] [(.int (lenv (((md.toUInt32 >>> ((2 : Int32) &&& 31).toUInt32).toInt32) &&& (3 : Int32))))])) _
    rw [hvb]
    refine XS.istore X2.here hx rfl (hb hby at_18) rfl (l' := #[.val (.int cc), .val (.int ra), .val (.int sa), .val (.int rb), .val (.int sb), .val (.int md), .val (.int na), .val (.int nb), .unset, .unset, .unset, .unset, .unset, .unset, .unset, .unset, .unset, .unset, .unset, .unset, .unset]) rfl ?_
    show Steps p.tables e below (T2.setTop (mkF m 20 #[.val (.int cc), .val (.int ra), .val (.int sa), .val (.int rb), .val (.int sb), .val (.int md), .val (.int na), .val (.int nb), .unset, .unset, .unset, .unset, .unset, .unset, .unset, .unset, .unset, .unset, .unset, .unset, .unset] [])) _
    refine hA _ _ _ _ _ _ _ _ _ _ _ _ _ X2 hx hby _ ?_
    show Steps p.tables e below (T2.setTop (mkF m 112 #[.val (.int cc), .val (.int ra), .val (.int sa), .val (.int rb), .val (.int sb), .val (.int md), .val (.int na), .val (.int nc), .val (.int u0), .val (.int u1), .val (.int w0), .val (.int w1), .val (.int rr), .val (.int ss), .unset, .unset, .unset, .unset, .unset, .unset, .unset] [])) _
    refine XS.iload X2.here hx rfl (hb hby at_112) rfl ?_
    show Steps p.tables e below (T2.setTop (mkF m 114 #[.val (.int cc), .val (.int ra), .val (.int sa), .val (.int rb), .val (.int sb), .val (.int md), .val (.int na), .val (.int nc), .val (.int u0), .val (.int u1), .val (.int w0), .val (.int w1), .val (.int rr), .val (.int ss), .unset, .unset, .unset, .unset, .unset, .unset, .unset] [(.int na)])) _
    refine XS.iload X2.here hx rfl (hb hby at_114) rfl ?_
    show Steps p.tables e below (T2.setTop (mkF m 116 #[.val (.int cc), .val (.int ra), .val (.int sa), .val (.int rb), .val (.int sb), .val (.int md), .val (.int na), .val (.int nc), .val (.int u0), .val (.int u1), .val (.int w0), .val (.int w1), .val (.int rr), .val (.int ss), .unset, .unset, .unset, .unset, .unset, .unset, .unset] [(.int u0), (.int na)])) _
    refine XS.iload X2.here hx rfl (hb hby at_116) rfl ?_
    show Steps p.tables e below (T2.setTop (mkF m 118 #[.val (.int cc), .val (.int ra), .val (.int sa), .val (.int rb), .val (.int sb), .val (.int md), .val (.int na), .val (.int nc), .val (.int u0), .val (.int u1), .val (.int w0), .val (.int w1), .val (.int rr), .val (.int ss), .unset, .unset, .unset, .unset, .unset, .unset, .unset] [(.int u1), (.int u0), (.int na)])) _
    refine st3.trans ?_
    show Steps p.tables e below (T3.setTop (mkF m 121 #[.val (.int cc), .val (.int ra), .val (.int sa), .val (.int rb), .val (.int sb), .val (.int md), .val (.int na), .val (.int nc), .val (.int u0), .val (.int u1), .val (.int w0), .val (.int w1), .val (.int rr), .val (.int ss), .unset, .unset, .unset, .unset, .unset, .unset, .unset] [(.ref t_3)])) _
    refine XS.astore X3.here hx rfl (hb hby at_121) rfl rfl (l' := #[.val (.int cc), .val (.int ra), .val (.int sa), .val (.int rb), .val (.int sb), .val (.int md), .val (.int na), .val (.int nc), .val (.int u0), .val (.int u1), .val (.int w0), .val (.int w1), .val (.int rr), .val (.int ss), .val (.ref t_3), .unset, .unset, .unset, .unset, .unset, .unset]) rfl ?_
    show Steps p.tables e below (T3.setTop (mkF m 123 #[.val (.int cc), .val (.int ra), .val (.int sa), .val (.int rb), .val (.int sb), .val (.int md), .val (.int na), .val (.int nc), .val (.int u0), .val (.int u1), .val (.int w0), .val (.int w1), .val (.int rr), .val (.int ss), .val (.ref t_3), .unset, .unset, .unset, .unset, .unset, .unset] [])) _
    refine XS.iload X3.here hx rfl (hb hby at_123) rfl ?_
    show Steps p.tables e below (T3.setTop (mkF m 125 #[.val (.int cc), .val (.int ra), .val (.int sa), .val (.int rb), .val (.int sb), .val (.int md), .val (.int na), .val (.int nc), .val (.int u0), .val (.int u1), .val (.int w0), .val (.int w1), .val (.int rr), .val (.int ss), .val (.ref t_3), .unset, .unset, .unset, .unset, .unset, .unset] [(.int nc)])) _
    refine XS.iload X3.here hx rfl (hb hby at_125) rfl ?_
    show Steps p.tables e below (T3.setTop (mkF m 127 #[.val (.int cc), .val (.int ra), .val (.int sa), .val (.int rb), .val (.int sb), .val (.int md), .val (.int na), .val (.int nc), .val (.int u0), .val (.int u1), .val (.int w0), .val (.int w1), .val (.int rr), .val (.int ss), .val (.ref t_3), .unset, .unset, .unset, .unset, .unset, .unset] [(.int w0), (.int nc)])) _
    refine XS.iload X3.here hx rfl (hb hby at_127) rfl ?_
    show Steps p.tables e below (T3.setTop (mkF m 129 #[.val (.int cc), .val (.int ra), .val (.int sa), .val (.int rb), .val (.int sb), .val (.int md), .val (.int na), .val (.int nc), .val (.int u0), .val (.int u1), .val (.int w0), .val (.int w1), .val (.int rr), .val (.int ss), .val (.ref t_3), .unset, .unset, .unset, .unset, .unset, .unset] [(.int w1), (.int w0), (.int nc)])) _
    refine st4.trans ?_
    show Steps p.tables e below (T4.setTop (mkF m 132 #[.val (.int cc), .val (.int ra), .val (.int sa), .val (.int rb), .val (.int sb), .val (.int md), .val (.int na), .val (.int nc), .val (.int u0), .val (.int u1), .val (.int w0), .val (.int w1), .val (.int rr), .val (.int ss), .val (.ref t_3), .unset, .unset, .unset, .unset, .unset, .unset] [(.ref t_4)])) _
    refine XS.astore X4.here hx rfl (hb hby at_132) rfl rfl (l' := #[.val (.int cc), .val (.int ra), .val (.int sa), .val (.int rb), .val (.int sb), .val (.int md), .val (.int na), .val (.int nc), .val (.int u0), .val (.int u1), .val (.int w0), .val (.int w1), .val (.int rr), .val (.int ss), .val (.ref t_3), .val (.ref t_4), .unset, .unset, .unset, .unset, .unset]) rfl ?_
    show Steps p.tables e below (T4.setTop (mkF m 134 #[.val (.int cc), .val (.int ra), .val (.int sa), .val (.int rb), .val (.int sb), .val (.int md), .val (.int na), .val (.int nc), .val (.int u0), .val (.int u1), .val (.int w0), .val (.int w1), .val (.int rr), .val (.int ss), .val (.ref t_3), .val (.ref t_4), .unset, .unset, .unset, .unset, .unset] [])) _
    refine st5 _ ?_
    show Steps p.tables e below (T5.setTop (mkF m 137 #[.val (.int cc), .val (.int ra), .val (.int sa), .val (.int rb), .val (.int sb), .val (.int md), .val (.int na), .val (.int nc), .val (.int u0), .val (.int u1), .val (.int w0), .val (.int w1), .val (.int rr), .val (.int ss), .val (.ref t_3), .val (.ref t_4), .unset, .unset, .unset, .unset, .unset] [(.ref b5)])) _
    refine XS.dup X5.here hx rfl (hb hby at_137) rfl rfl ?_
    show Steps p.tables e below (T5.setTop (mkF m 138 #[.val (.int cc), .val (.int ra), .val (.int sa), .val (.int rb), .val (.int sb), .val (.int md), .val (.int na), .val (.int nc), .val (.int u0), .val (.int u1), .val (.int w0), .val (.int w1), .val (.int rr), .val (.int ss), .val (.ref t_3), .val (.ref t_4), .unset, .unset, .unset, .unset, .unset] [(.ref b5), (.ref b5)])) _
    refine XS.aload X5.here hx rfl (hb hby at_138) rfl rfl ?_
    show Steps p.tables e below (T5.setTop (mkF m 140 #[.val (.int cc), .val (.int ra), .val (.int sa), .val (.int rb), .val (.int sb), .val (.int md), .val (.int na), .val (.int nc), .val (.int u0), .val (.int u1), .val (.int w0), .val (.int w1), .val (.int rr), .val (.int ss), .val (.ref t_3), .val (.ref t_4), .unset, .unset, .unset, .unset, .unset] [(.ref t_3), (.ref b5), (.ref b5)])) _
    refine XS.iloadN X5.here hx rfl (hb hby at_140) rfl ?_
    show Steps p.tables e below (T5.setTop (mkF m 141 #[.val (.int cc), .val (.int ra), .val (.int sa), .val (.int rb), .val (.int sb), .val (.int md), .val (.int na), .val (.int nc), .val (.int u0), .val (.int u1), .val (.int w0), .val (.int w1), .val (.int rr), .val (.int ss), .val (.ref t_3), .val (.ref t_4), .unset, .unset, .unset, .unset, .unset] [(.int ra), (.ref t_3), (.ref b5), (.ref b5)])) _
    refine XS.iloadN X5.here hx rfl (hb hby at_141) rfl ?_
    show Steps p.tables e below (T5.setTop (mkF m 142 #[.val (.int cc), .val (.int ra), .val (.int sa), .val (.int rb), .val (.int sb), .val (.int md), .val (.int na), .val (.int nc), .val (.int u0), .val (.int u1), .val (.int w0), .val (.int w1), .val (.int rr), .val (.int ss), .val (.ref t_3), .val (.ref t_4), .unset, .unset, .unset, .unset, .unset] [(.int sa), (.int ra), (.ref t_3), (.ref b5), (.ref b5)])) _
    refine st6.trans ?_
    show Steps p.tables e below (T6.setTop (mkF m 145 #[.val (.int cc), .val (.int ra), .val (.int sa), .val (.int rb), .val (.int sb), .val (.int md), .val (.int na), .val (.int nc), .val (.int u0), .val (.int u1), .val (.int w0), .val (.int w1), .val (.int rr), .val (.int ss), .val (.ref t_3), .val (.ref t_4), .unset, .unset, .unset, .unset, .unset] [(.ref b5)])) _
    refine XS.astore X6.here hx rfl (hb hby at_145) rfl rfl (l' := #[.val (.int cc), .val (.int ra), .val (.int sa), .val (.int rb), .val (.int sb), .val (.int md), .val (.int na), .val (.int nc), .val (.int u0), .val (.int u1), .val (.int w0), .val (.int w1), .val (.int rr), .val (.int ss), .val (.ref t_3), .val (.ref t_4), .val (.ref b5), .unset, .unset, .unset, .unset]) rfl ?_
    show Steps p.tables e below (T6.setTop (mkF m 147 #[.val (.int cc), .val (.int ra), .val (.int sa), .val (.int rb), .val (.int sb), .val (.int md), .val (.int na), .val (.int nc), .val (.int u0), .val (.int u1), .val (.int w0), .val (.int w1), .val (.int rr), .val (.int ss), .val (.ref t_3), .val (.ref t_4), .val (.ref b5), .unset, .unset, .unset, .unset] [])) _
    refine XS.iload X6.here hx rfl (hb hby at_147) rfl ?_
    show Steps p.tables e below (T6.setTop (mkF m 149 #[.val (.int cc), .val (.int ra), .val (.int sa), .val (.int rb), .val (.int sb), .val (.int md), .val (.int na), .val (.int nc), .val (.int u0), .val (.int u1), .val (.int w0), .val (.int w1), .val (.int rr), .val (.int ss), .val (.ref t_3), .val (.ref t_4), .val (.ref b5), .unset, .unset, .unset, .unset] [(.int md)])) _
    refine XS.bipush X6.here hx rfl (hb hby at_149) ?_
    show Steps p.tables e below (T6.setTop (mkF m 151 #[.val (.int cc), .val (.int ra), .val (.int sa), .val (.int rb), .val (.int sb), .val (.int md), .val (.int na), .val (.int nc), .val (.int u0), .val (.int u1), .val (.int w0), .val (.int w1), .val (.int rr), .val (.int ss), .val (.ref t_3), .val (.ref t_4), .val (.ref b5), .unset, .unset, .unset, .unset] [(.int (7 : Int32)), (.int md)])) _
    refine XS.iushr X6.here hx rfl (hb hby at_151) rfl ?_
    show Steps p.tables e below (T6.setTop (mkF m 152 #[.val (.int cc), .val (.int ra), .val (.int sa), .val (.int rb), .val (.int sb), .val (.int md), .val (.int na), .val (.int nc), .val (.int u0), .val (.int u1), .val (.int w0), .val (.int w1), .val (.int rr), .val (.int ss), .val (.ref t_3), .val (.ref t_4), .val (.ref b5), .unset, .unset, .unset, .unset] [(.int ((md.toUInt32 >>> ((7 : Int32) &&& 31).toUInt32).toInt32))])) _
    refine XS.iconst X6.here hx rfl (hb hby at_152) ?_
    show Steps p.tables e below (T6.setTop (mkF m 153 #[.val (.int cc), .val (.int ra), .val (.int sa), .val (.int rb), .val (.int sb), .val (.int md), .val (.int na), .val (.int nc), .val (.int u0), .val (.int u1), .val (.int w0), .val (.int w1), .val (.int rr), .val (.int ss), .val (.ref t_3), .val (.ref t_4), .val (.ref b5), .unset, .unset, .unset, .unset] [(.int (3 : Int32)), (.int ((md.toUInt32 >>> ((7 : Int32) &&& 31).toUInt32).toInt32))])) _
    refine XS.iand X6.here hx rfl (hb hby at_153) rfl ?_
    show Steps p.tables e below (T6.setTop (mkF m 154 #[.val (.int cc), .val (.int ra), .val (.int sa), .val (.int rb), .val (.int sb), .val (.int md), .val (.int na), .val (.int nc), .val (.int u0), .val (.int u1), .val (.int w0), .val (.int w1), .val (.int rr), .val (.int ss), .val (.ref t_3), .val (.ref t_4), .val (.ref b5), .unset, .unset, .unset, .unset] [(.int (((md.toUInt32 >>> ((7 : Int32) &&& 31).toUInt32).toInt32) &&& (3 : Int32)))])) _
    rw [hvk]
    refine XS.istore X6.here hx rfl (hb hby at_154) rfl (l' := #[.val (.int cc), .val (.int ra), .val (.int sa), .val (.int rb), .val (.int sb), .val (.int md), .val (.int na), .val (.int nc), .val (.int u0), .val (.int u1), .val (.int w0), .val (.int w1), .val (.int rr), .val (.int ss), .val (.ref t_3), .val (.ref t_4), .val (.ref b5), .val (.int kd), .unset, .unset, .unset]) rfl ?_
    show Steps p.tables e below (T6.setTop (mkF m 156 #[.val (.int cc), .val (.int ra), .val (.int sa), .val (.int rb), .val (.int sb), .val (.int md), .val (.int na), .val (.int nc), .val (.int u0), .val (.int u1), .val (.int w0), .val (.int w1), .val (.int rr), .val (.int ss), .val (.ref t_3), .val (.ref t_4), .val (.ref b5), .val (.int kd), .unset, .unset, .unset] [])) _
    refine XS.iload X6.here hx rfl (hb hby at_156) rfl ?_
    show Steps p.tables e below (T6.setTop (mkF m 158 #[.val (.int cc), .val (.int ra), .val (.int sa), .val (.int rb), .val (.int sb), .val (.int md), .val (.int na), .val (.int nc), .val (.int u0), .val (.int u1), .val (.int w0), .val (.int w1), .val (.int rr), .val (.int ss), .val (.ref t_3), .val (.ref t_4), .val (.ref b5), .val (.int kd), .unset, .unset, .unset] [(.int kd)])) _
    refine XS.iconst X6.here hx rfl (hb hby at_158) ?_
    show Steps p.tables e below (T6.setTop (mkF m 159 #[.val (.int cc), .val (.int ra), .val (.int sa), .val (.int rb), .val (.int sb), .val (.int md), .val (.int na), .val (.int nc), .val (.int u0), .val (.int u1), .val (.int w0), .val (.int w1), .val (.int rr), .val (.int ss), .val (.ref t_3), .val (.ref t_4), .val (.ref b5), .val (.int kd), .unset, .unset, .unset] [(.int (2 : Int32)), (.int kd)])) _
    refine XS.icmpYes X6.here hx rfl (pc0 := 159) (pc' := 168) rfl (hb hby at_159) rfl (feq hc159).2 (by decide) (by decide) ?_
    show Steps p.tables e below (T6.setTop (mkF m 168 #[.val (.int cc), .val (.int ra), .val (.int sa), .val (.int rb), .val (.int sb), .val (.int md), .val (.int na), .val (.int nc), .val (.int u0), .val (.int u1), .val (.int w0), .val (.int w1), .val (.int rr), .val (.int ss), .val (.ref t_3), .val (.ref t_4), .val (.ref b5), .val (.int kd), .unset, .unset, .unset] [])) _
    refine XS.iload X6.here hx rfl (hb hby at_168) rfl ?_
    show Steps p.tables e below (T6.setTop (mkF m 170 #[.val (.int cc), .val (.int ra), .val (.int sa), .val (.int rb), .val (.int sb), .val (.int md), .val (.int na), .val (.int nc), .val (.int u0), .val (.int u1), .val (.int w0), .val (.int w1), .val (.int rr), .val (.int ss), .val (.ref t_3), .val (.ref t_4), .val (.ref b5), .val (.int kd), .unset, .unset, .unset] [(.int kd)])) _
    refine XS.iconst X6.here hx rfl (hb hby at_170) ?_
    show Steps p.tables e below (T6.setTop (mkF m 171 #[.val (.int cc), .val (.int ra), .val (.int sa), .val (.int rb), .val (.int sb), .val (.int md), .val (.int na), .val (.int nc), .val (.int u0), .val (.int u1), .val (.int w0), .val (.int w1), .val (.int rr), .val (.int ss), .val (.ref t_3), .val (.ref t_4), .val (.ref b5), .val (.int kd), .unset, .unset, .unset] [(.int (3 : Int32)), (.int kd)])) _
    refine XS.icmpYes X6.here hx rfl (pc0 := 171) (pc' := 181) rfl (hb hby at_171) rfl (feq hc171).2 (by decide) (by decide) ?_
    show Steps p.tables e below (T6.setTop (mkF m 181 #[.val (.int cc), .val (.int ra), .val (.int sa), .val (.int rb), .val (.int sb), .val (.int md), .val (.int na), .val (.int nc), .val (.int u0), .val (.int u1), .val (.int w0), .val (.int w1), .val (.int rr), .val (.int ss), .val (.ref t_3), .val (.ref t_4), .val (.ref b5), .val (.int kd), .unset, .unset, .unset] [])) _
    refine st7 _ ?_
    show Steps p.tables e below (T7.setTop (mkF m 184 #[.val (.int cc), .val (.int ra), .val (.int sa), .val (.int rb), .val (.int sb), .val (.int md), .val (.int na), .val (.int nc), .val (.int u0), .val (.int u1), .val (.int w0), .val (.int w1), .val (.int rr), .val (.int ss), .val (.ref t_3), .val (.ref t_4), .val (.ref b5), .val (.int kd), .unset, .unset, .unset] [(.ref b7)])) _
    refine XS.dup X7.here hx rfl (hb hby at_184) rfl rfl ?_
    show Steps p.tables e below (T7.setTop (mkF m 185 #[.val (.int cc), .val (.int ra), .val (.int sa), .val (.int rb), .val (.int sb), .val (.int md), .val (.int na), .val (.int nc), .val (.int u0), .val (.int u1), .val (.int w0), .val (.int w1), .val (.int rr), .val (.int ss), .val (.ref t_3), .val (.ref t_4), .val (.ref b5), .val (.int kd), .unset, .unset, .unset] [(.ref b7), (.ref b7)])) _
    refine XS.aload X7.here hx rfl (hb hby at_185) rfl rfl ?_
    show Steps p.tables e below (T7.setTop (mkF m 187 #[.val (.int cc), .val (.int ra), .val (.int sa), .val (.int rb), .val (.int sb), .val (.int md), .val (.int na), .val (.int nc), .val (.int u0), .val (.int u1), .val (.int w0), .val (.int w1), .val (.int rr), .val (.int ss), .val (.ref t_3), .val (.ref t_4), .val (.ref b5), .val (.int kd), .unset, .unset, .unset] [(.ref t_4), (.ref b7), (.ref b7)])) _
    refine XS.iload X7.here hx rfl (hb hby at_187) rfl ?_
    show Steps p.tables e below (T7.setTop (mkF m 189 #[.val (.int cc), .val (.int ra), .val (.int sa), .val (.int rb), .val (.int sb), .val (.int md), .val (.int na), .val (.int nc), .val (.int u0), .val (.int u1), .val (.int w0), .val (.int w1), .val (.int rr), .val (.int ss), .val (.ref t_3), .val (.ref t_4), .val (.ref b5), .val (.int kd), .unset, .unset, .unset] [(.int rr), (.ref t_4), (.ref b7), (.ref b7)])) _
    refine XS.iload X7.here hx rfl (hb hby at_189) rfl ?_
    show Steps p.tables e below (T7.setTop (mkF m 191 #[.val (.int cc), .val (.int ra), .val (.int sa), .val (.int rb), .val (.int sb), .val (.int md), .val (.int na), .val (.int nc), .val (.int u0), .val (.int u1), .val (.int w0), .val (.int w1), .val (.int rr), .val (.int ss), .val (.ref t_3), .val (.ref t_4), .val (.ref b5), .val (.int kd), .unset, .unset, .unset] [(.int ss), (.int rr), (.ref t_4), (.ref b7), (.ref b7)])) _
    refine st8.trans ?_
    show Steps p.tables e below (T8.setTop (mkF m 194 #[.val (.int cc), .val (.int ra), .val (.int sa), .val (.int rb), .val (.int sb), .val (.int md), .val (.int na), .val (.int nc), .val (.int u0), .val (.int u1), .val (.int w0), .val (.int w1), .val (.int rr), .val (.int ss), .val (.ref t_3), .val (.ref t_4), .val (.ref b5), .val (.int kd), .unset, .unset, .unset] [(.ref b7)])) _
    refine XS.astore X8.here hx rfl (hb hby at_194) rfl rfl (l' := #[.val (.int cc), .val (.int ra), .val (.int sa), .val (.int rb), .val (.int sb), .val (.int md), .val (.int na), .val (.int nc), .val (.int u0), .val (.int u1), .val (.int w0), .val (.int w1), .val (.int rr), .val (.int ss), .val (.ref t_3), .val (.ref t_4), .val (.ref b5), .val (.int kd), .val (.ref b7), .unset, .unset]) rfl ?_
    show Steps p.tables e below (T8.setTop (mkF m 196 #[.val (.int cc), .val (.int ra), .val (.int sa), .val (.int rb), .val (.int sb), .val (.int md), .val (.int na), .val (.int nc), .val (.int u0), .val (.int u1), .val (.int w0), .val (.int w1), .val (.int rr), .val (.int ss), .val (.ref t_3), .val (.ref t_4), .val (.ref b5), .val (.int kd), .val (.ref b7), .unset, .unset] [])) _
    refine hE _ _ _ _ _ _ _ _ _ _ _ _ _ _ _ _ _ X8 hx hby _ ?_
    show Steps p.tables e below (T8.setTop (mkF m 266 #[.val (.int cc), .val (.int ra), .val (.int sa), .val (.int rb), .val (.int sb), .val (.int md), .val (.int na), .val (.int nc), .val (.int u0), .val (.int u1), .val (.int w0), .val (.int w1), .val (.int rr), .val (.int ss), .val (.ref t_3), .val (.ref t_4), .val (.ref b5), .val (.int kd), .val (.ref b7), .val (.int sm), .val (.int ex)] [])) _
    refine XS.aload X8.here hx rfl (hb hby at_266) rfl rfl ?_
    show Steps p.tables e below (T8.setTop (mkF m 268 #[.val (.int cc), .val (.int ra), .val (.int sa), .val (.int rb), .val (.int sb), .val (.int md), .val (.int na), .val (.int nc), .val (.int u0), .val (.int u1), .val (.int w0), .val (.int w1), .val (.int rr), .val (.int ss), .val (.ref t_3), .val (.ref t_4), .val (.ref b5), .val (.int kd), .val (.ref b7), .val (.int sm), .val (.int ex)] [(.ref b5)])) _
    refine XS.aload X8.here hx rfl (hb hby at_268) rfl rfl ?_
    show Steps p.tables e below (T8.setTop (mkF m 270 #[.val (.int cc), .val (.int ra), .val (.int sa), .val (.int rb), .val (.int sb), .val (.int md), .val (.int na), .val (.int nc), .val (.int u0), .val (.int u1), .val (.int w0), .val (.int w1), .val (.int rr), .val (.int ss), .val (.ref t_3), .val (.ref t_4), .val (.ref b5), .val (.int kd), .val (.ref b7), .val (.int sm), .val (.int ex)] [(.ref b7), (.ref b5)])) _
    refine st9.trans ?_
    show Steps p.tables e below (T9.setTop (mkF m 273 #[.val (.int cc), .val (.int ra), .val (.int sa), .val (.int rb), .val (.int sb), .val (.int md), .val (.int na), .val (.int nc), .val (.int u0), .val (.int u1), .val (.int w0), .val (.int w1), .val (.int rr), .val (.int ss), .val (.ref t_3), .val (.ref t_4), .val (.ref b5), .val (.int kd), .val (.ref b7), .val (.int sm), .val (.int ex)] [(.int (eqv (chars na u0 u1) (chars nc w0 w1) ra rr sa ss))])) _
    refine XS.iload X9.here hx rfl (hb hby at_273) rfl ?_
    show Steps p.tables e below (T9.setTop (mkF m 275 #[.val (.int cc), .val (.int ra), .val (.int sa), .val (.int rb), .val (.int sb), .val (.int md), .val (.int na), .val (.int nc), .val (.int u0), .val (.int u1), .val (.int w0), .val (.int w1), .val (.int rr), .val (.int ss), .val (.ref t_3), .val (.ref t_4), .val (.ref b5), .val (.int kd), .val (.ref b7), .val (.int sm), .val (.int ex)] [(.int ex), (.int (eqv (chars na u0 u1) (chars nc w0 w1) ra rr sa ss))])) _
    refine XS.icmpNo X9.here hx rfl (hb hby at_275) rfl (teq hc275).2 ?_
    show Steps p.tables e below (T9.setTop (mkF m 278 #[.val (.int cc), .val (.int ra), .val (.int sa), .val (.int rb), .val (.int sb), .val (.int md), .val (.int na), .val (.int nc), .val (.int u0), .val (.int u1), .val (.int w0), .val (.int w1), .val (.int rr), .val (.int ss), .val (.ref t_3), .val (.ref t_4), .val (.ref b5), .val (.int kd), .val (.ref b7), .val (.int sm), .val (.int ex)] [])) _
    refine XS.iconst X9.here hx rfl (hb hby at_278) ?_
    show Steps p.tables e below (T9.setTop (mkF m 279 #[.val (.int cc), .val (.int ra), .val (.int sa), .val (.int rb), .val (.int sb), .val (.int md), .val (.int na), .val (.int nc), .val (.int u0), .val (.int u1), .val (.int w0), .val (.int w1), .val (.int rr), .val (.int ss), .val (.ref t_3), .val (.ref t_4), .val (.ref b5), .val (.int kd), .val (.ref b7), .val (.int sm), .val (.int ex)] [(.int (1 : Int32))])) _
    refine XS.goto X9.here hx rfl (pc0 := 279) (pc' := 283) rfl (hb hby at_279) (by decide) (by decide) ?_
    show Steps p.tables e below (T9.setTop (mkF m 283 #[.val (.int cc), .val (.int ra), .val (.int sa), .val (.int rb), .val (.int sb), .val (.int md), .val (.int na), .val (.int nc), .val (.int u0), .val (.int u1), .val (.int w0), .val (.int w1), .val (.int rr), .val (.int ss), .val (.ref t_3), .val (.ref t_4), .val (.ref b5), .val (.int kd), .val (.ref b7), .val (.int sm), .val (.int ex)] [(.int (1 : Int32))])) _
    exact retN X9 hx (t := .boolean) Bd.returns (by simp) (hb hby at_283) hr
  · show Q_rm0AA Z cc ra sa rb sb md na nc u0 u1 w0 w1 rr ss kd nb sm ex cz h0 n0 _ T9.heap _
    rw [e9]
    exact ⟨rfl, N9⟩
  · show CHr Z ELs s.vm s.heap T9.vm T9.heap
    rw [hh, e9]
    exact R_8.trans (CHv.at X9 hZ_8 (own_EL hw) R_8.1)
theorem own_seg {l : Launch} {a b c : Nat} {L M N : Array Slot} (h : Seg l a L b M) (g : Seg l b M c N) : Seg l a L c N := fun _ _ _ _ _ _ _ _ _ _ _ _ _ X hx hby t k => h _ _ _ _ _ _ _ _ _ _ _ _ _ X hx hby t (g _ _ _ _ _ _ _ _ _ _ _ _ _ X hx hby t k)
theorem own_four (x : Int32) : (x &&& (3 : Int32)) = 0 ∨ (x &&& (3 : Int32)) = 1 ∨ (x &&& (3 : Int32)) = 2 ∨ (x &&& (3 : Int32)) = 3 := by
  have h := Jvm.Kit.i32_mask x 3 (k := 2) (by decide) (by decide)
  generalize (x &&& (3 : Int32)) = y at h ⊢
  have z : y.toInt = 0 ∨ y.toInt = 1 ∨ y.toInt = 2 ∨ y.toInt = 3 := by omega
  rcases z with z | z | z | z
  · exact Or.inl (Int32.toInt_inj.mp z)
  · exact Or.inr (Or.inl (Int32.toInt_inj.mp z))
  · exact Or.inr (Or.inr (Or.inl (Int32.toInt_inj.mp z)))
  · exact Or.inr (Or.inr (Or.inr (Int32.toInt_inj.mp z)))
theorem own_len (x : Int32) : lenv (x &&& (3 : Int32)) = 0 ∨ lenv (x &&& (3 : Int32)) = 1 ∨ lenv (x &&& (3 : Int32)) = 2 := by
  rcases own_four x with h | h | h | h <;> rw [h] <;> decide
theorem own_A (l : Launch) (cc : Int32) (ra : Int32) (sa : Int32) (rb : Int32) (sb : Int32) (md : Int32) (na : Int32) (nb : Int32) (hna : (na = 0 ∨ na = 1 ∨ na = 2)) (hnb : (nb = 0 ∨ nb = 1 ∨ nb = 2)) : ∃ nc u0 u1 w0 w1 rr ss : Int32, (nc = 0 ∨ nc = 1 ∨ nc = 2) ∧ CharOK u0 ∧ CharOK u1 ∧ CharOK w0 ∧ CharOK w1 ∧ Seg l 20 #[.val (.int cc), .val (.int ra), .val (.int sa), .val (.int rb), .val (.int sb), .val (.int md), .val (.int na), .val (.int nb), .unset, .unset, .unset, .unset, .unset, .unset, .unset, .unset, .unset, .unset, .unset, .unset, .unset] 112 #[.val (.int cc), .val (.int ra), .val (.int sa), .val (.int rb), .val (.int sb), .val (.int md), .val (.int na), .val (.int nc), .val (.int u0), .val (.int u1), .val (.int w0), .val (.int w1), .val (.int rr), .val (.int ss), .unset, .unset, .unset, .unset, .unset, .unset, .unset] := by
  by_cases h1 : (md &&& (16 : Int32)) = (0 : Int32)
  · by_cases h2 : (md &&& (32 : Int32)) = (0 : Int32)
    · by_cases h3 : (md &&& (64 : Int32)) = (0 : Int32)
      · exact ⟨_, _, _, _, _, _, _, hnb, char_ok _, char_ok _, char_ok _, char_ok _, segA_ttt l cc ra sa rb sb md na nb h1 h2 h3⟩
      · exact ⟨_, _, _, _, _, _, _, hnb, char_ok _, char_ok _, char_ok _, char_ok _, segA_ttf l cc ra sa rb sb md na nb h1 h2 h3⟩
    · by_cases h3 : (md &&& (64 : Int32)) = (0 : Int32)
      · exact ⟨_, _, _, _, _, _, _, hnb, char_ok _, char_ok _, char_ok _, char_ok _, segA_tft l cc ra sa rb sb md na nb h1 h2 h3⟩
      · exact ⟨_, _, _, _, _, _, _, hnb, char_ok _, char_ok _, char_ok _, char_ok _, segA_tff l cc ra sa rb sb md na nb h1 h2 h3⟩
  · by_cases h2 : (md &&& (32 : Int32)) = (0 : Int32)
    · by_cases h3 : (md &&& (64 : Int32)) = (0 : Int32)
      · exact ⟨_, _, _, _, _, _, _, hna, char_ok _, char_ok _, char_ok _, char_ok _, segA_ftt l cc ra sa rb sb md na nb h1 h2 h3⟩
      · exact ⟨_, _, _, _, _, _, _, hna, char_ok _, char_ok _, char_ok _, char_ok _, segA_ftf l cc ra sa rb sb md na nb h1 h2 h3⟩
    · by_cases h3 : (md &&& (64 : Int32)) = (0 : Int32)
      · exact ⟨_, _, _, _, _, _, _, hna, char_ok _, char_ok _, char_ok _, char_ok _, segA_fft l cc ra sa rb sb md na nb h1 h2 h3⟩
      · exact ⟨_, _, _, _, _, _, _, hna, char_ok _, char_ok _, char_ok _, char_ok _, segA_fff l cc ra sa rb sb md na nb h1 h2 h3⟩
theorem own_E1 (l : Launch) (cc : Int32) (ra : Int32) (sa : Int32) (rb : Int32) (sb : Int32) (md : Int32) (na : Int32) (nc : Int32) (u0 : Int32) (u1 : Int32) (w0 : Int32) (w1 : Int32) (rr : Int32) (ss : Int32) (kd : Int32) (hna : (na = 0 ∨ na = 1 ∨ na = 2)) (hnc : (nc = 0 ∨ nc = 1 ∨ nc = 2)) : ∃ sm : Int32, sm = (if chars na u0 u1 = chars nc w0 w1 then 1 else 0) ∧ ∀ q14 q15 q16 q18 : Slot, Seg l 196 #[.val (.int cc), .val (.int ra), .val (.int sa), .val (.int rb), .val (.int sb), .val (.int md), .val (.int na), .val (.int nc), .val (.int u0), .val (.int u1), .val (.int w0), .val (.int w1), .val (.int rr), .val (.int ss), q14, q15, q16, .val (.int kd), q18, .unset, .unset] 236 #[.val (.int cc), .val (.int ra), .val (.int sa), .val (.int rb), .val (.int sb), .val (.int md), .val (.int na), .val (.int nc), .val (.int u0), .val (.int u1), .val (.int w0), .val (.int w1), .val (.int rr), .val (.int ss), q14, q15, q16, .val (.int kd), q18, .val (.int sm), .unset] := by
  rcases hna with rfl | rfl | rfl
  · rcases hnc with rfl | rfl | rfl
    · skip
      exact ⟨1, by simp [chars], fun q14 q15 q16 q18 => segE_2 l cc ra sa rb sb md 0 0 u0 u1 w0 w1 rr ss kd q14 q15 q16 q18 rfl (by decide) (by decide)⟩
    · skip
      exact ⟨0, by simp [chars], fun q14 q15 q16 q18 => segE_1 l cc ra sa rb sb md 0 1 u0 u1 w0 w1 rr ss kd q14 q15 q16 q18 (by decide)⟩
    · skip
      exact ⟨0, by simp [chars], fun q14 q15 q16 q18 => segE_1 l cc ra sa rb sb md 0 2 u0 u1 w0 w1 rr ss kd q14 q15 q16 q18 (by decide)⟩
  · rcases hnc with rfl | rfl | rfl
    · skip
      exact ⟨0, by simp [chars], fun q14 q15 q16 q18 => segE_1 l cc ra sa rb sb md 1 0 u0 u1 w0 w1 rr ss kd q14 q15 q16 q18 (by decide)⟩
    · skip
      by_cases h1 : u0 = w0
      · skip
        exact ⟨1, by simp [chars, h1], fun q14 q15 q16 q18 => segE_4 l cc ra sa rb sb md 1 1 u0 u1 w0 w1 rr ss kd q14 q15 q16 q18 rfl (by decide) h1 (by decide)⟩
      · skip
        exact ⟨0, by simp [chars, h1], fun q14 q15 q16 q18 => segE_3 l cc ra sa rb sb md 1 1 u0 u1 w0 w1 rr ss kd q14 q15 q16 q18 rfl (by decide) h1⟩
    · skip
      exact ⟨0, by simp [chars], fun q14 q15 q16 q18 => segE_1 l cc ra sa rb sb md 1 2 u0 u1 w0 w1 rr ss kd q14 q15 q16 q18 (by decide)⟩
  · rcases hnc with rfl | rfl | rfl
    · skip
      exact ⟨0, by simp [chars], fun q14 q15 q16 q18 => segE_1 l cc ra sa rb sb md 2 0 u0 u1 w0 w1 rr ss kd q14 q15 q16 q18 (by decide)⟩
    · skip
      exact ⟨0, by simp [chars], fun q14 q15 q16 q18 => segE_1 l cc ra sa rb sb md 2 1 u0 u1 w0 w1 rr ss kd q14 q15 q16 q18 (by decide)⟩
    · skip
      by_cases h1 : u0 = w0
      · by_cases h2 : u1 = w1
        · skip
          exact ⟨1, by simp [chars, h1, h2], fun q14 q15 q16 q18 => segE_6 l cc ra sa rb sb md 2 2 u0 u1 w0 w1 rr ss kd q14 q15 q16 q18 rfl (by decide) h1 (by decide) h2⟩
        · skip
          exact ⟨0, by simp [chars, h1, h2], fun q14 q15 q16 q18 => segE_5 l cc ra sa rb sb md 2 2 u0 u1 w0 w1 rr ss kd q14 q15 q16 q18 rfl (by decide) h1 (by decide) h2⟩
      · skip
        exact ⟨0, by simp [chars, h1], fun q14 q15 q16 q18 => segE_3 l cc ra sa rb sb md 2 2 u0 u1 w0 w1 rr ss kd q14 q15 q16 q18 rfl (by decide) h1⟩
theorem own_E (l : Launch) (cc : Int32) (ra : Int32) (sa : Int32) (rb : Int32) (sb : Int32) (md : Int32) (na : Int32) (nc : Int32) (u0 : Int32) (u1 : Int32) (w0 : Int32) (w1 : Int32) (rr : Int32) (ss : Int32) (kd : Int32) (hna : (na = 0 ∨ na = 1 ∨ na = 2)) (hnc : (nc = 0 ∨ nc = 1 ∨ nc = 2)) : ∃ sm ex : Int32, (kd < 2 → eqv (chars na u0 u1) (chars nc w0 w1) ra rr sa ss = ex) ∧ (¬ kd < 2 → (0 : Int32) = ex) ∧ ∀ q14 q15 q16 q18 : Slot, Seg l 196 #[.val (.int cc), .val (.int ra), .val (.int sa), .val (.int rb), .val (.int sb), .val (.int md), .val (.int na), .val (.int nc), .val (.int u0), .val (.int u1), .val (.int w0), .val (.int w1), .val (.int rr), .val (.int ss), q14, q15, q16, .val (.int kd), q18, .unset, .unset] 266 #[.val (.int cc), .val (.int ra), .val (.int sa), .val (.int rb), .val (.int sb), .val (.int md), .val (.int na), .val (.int nc), .val (.int u0), .val (.int u1), .val (.int w0), .val (.int w1), .val (.int rr), .val (.int ss), q14, q15, q16, .val (.int kd), q18, .val (.int sm), .val (.int ex)] := by
  obtain ⟨sm, hsm, g1⟩ := own_E1 l cc ra sa rb sb md na nc u0 u1 w0 w1 rr ss kd hna hnc
  by_cases hk : kd < 2
  · by_cases he : chars na u0 u1 = chars nc w0 w1
    · have h1 : ¬ sm = (0 : Int32) := by rw [hsm, if_pos he]; decide
      by_cases hr : ra = rr
      · by_cases hs : sa = ss
        · skip
          exact ⟨sm, 1, fun _ => by simp [eqv, he, hr, hs], fun h => absurd hk h, fun q14 q15 q16 q18 => own_seg (g1 q14 q15 q16 q18) (segF_5 l cc ra sa rb sb md na nc u0 u1 w0 w1 rr ss kd sm q14 q15 q16 q18 hk h1 hr hs)⟩
        · skip
          exact ⟨sm, 0, fun _ => by simp [eqv, hs], fun h => absurd hk h, fun q14 q15 q16 q18 => own_seg (g1 q14 q15 q16 q18) (segF_4 l cc ra sa rb sb md na nc u0 u1 w0 w1 rr ss kd sm q14 q15 q16 q18 hk h1 hr hs)⟩
      · skip
        exact ⟨sm, 0, fun _ => by simp [eqv, hr], fun h => absurd hk h, fun q14 q15 q16 q18 => own_seg (g1 q14 q15 q16 q18) (segF_3 l cc ra sa rb sb md na nc u0 u1 w0 w1 rr ss kd sm q14 q15 q16 q18 hk h1 hr)⟩
    · have h1 : sm = (0 : Int32) := by rw [hsm, if_neg he]
      exact ⟨sm, 0, fun _ => by simp [eqv, he], fun h => absurd hk h, fun q14 q15 q16 q18 => own_seg (g1 q14 q15 q16 q18) (segF_2 l cc ra sa rb sb md na nc u0 u1 w0 w1 rr ss kd sm q14 q15 q16 q18 hk h1)⟩
  · skip
    exact ⟨sm, 0, fun h => absurd h hk, fun _ => rfl, fun q14 q15 q16 q18 => own_seg (g1 q14 q15 q16 q18) (segF_1 l cc ra sa rb sb md na nc u0 u1 w0 w1 rr ss kd sm q14 q15 q16 q18 hk)⟩
set_option maxRecDepth 65536 in
set_option maxHeartbeats 40000000 in
theorem comes_1 {Post : Tables → Env → Array Value → State → Outcome → State → Prop} (hpost : ∀ tb e args s v u, (limb_1_1.after args s (.returned v) u = true ∧ limb_1_2.after args s (.returned v) u = true ∧ True) → FramedW s (.returned v) u (Jvm.fieldLocs frame_1_writes args s ++ Jvm.arrayLocs frame_1_arrays args s ++ Jvm.staticLocs frame_1_statics s) 32 2176 → Post tb e args s (.returned v) u) :
    ArmFor flags0 classFile x code maxLocals ret World_1 tables_1 room_1 Calls_1 rest_1 Pre_1 Post := by
  intro l hfl _ _ p e ha hc hk s m args below hf hA hF happ hP
  obtain ⟨hcalls, hrest, hpre⟩ := hP
  obtain ⟨-, -, -, hnamed, -, -, -, hat⟩ := (Spec.applies_iff hf).mp happ
  obtain ⟨hg, hn⟩ := and_e (Cond.before_iff.mp (show (Jvm.Cond.and given_1 narrow_1).before args s = true from hpre))
  obtain ⟨gc, gr0⟩ := and_e hg
  obtain ⟨ga0, gr1⟩ := and_e gr0
  obtain ⟨ga1, gr2⟩ := and_e gr1
  obtain ⟨ga2, gr3⟩ := and_e gr2
  obtain ⟨ga3, gr4⟩ := and_e gr3
  obtain ⟨ga4, gr5⟩ := and_e gr4
  obtain ⟨w0, w1, w2, w3, w4, w5, rfl⟩ : ∃ w0 w1 w2 w3 w4 w5 : Value, args = #[w0, w1, w2, w3, w4, w5] := by
    have hs : args.size = 6 := by simpa [Cond.value, given_1] using gc
    obtain ⟨L⟩ := args
    match L, hs with
    | [w0, w1, w2, w3, w4, w5], _ => exact ⟨w0, w1, w2, w3, w4, w5, rfl⟩
  have hw := fun d (hd : d ∈ tables_1) => atoms_spec (ws := Jvm.Cond.code x code maxLocals ret :: tables_1) hat d (List.mem_cons_of_mem _ hd)
  obtain ⟨i0, ei0⟩ := is_v ga0
  obtain rfl : w0 = (.int i0) := Option.some.inj ei0
  obtain ⟨i1, ei1⟩ := is_v ga1
  obtain rfl : w1 = (.int i1) := Option.some.inj ei1
  obtain ⟨i2, ei2⟩ := is_v ga2
  obtain rfl : w2 = (.int i2) := Option.some.inj ei2
  obtain ⟨i3, ei3⟩ := is_v ga3
  obtain rfl : w3 = (.int i3) := Option.some.inj ei3
  obtain ⟨i4, ei4⟩ := is_v ga4
  obtain rfl : w4 = (.int i4) := Option.some.inj ei4
  obtain ⟨i5, ei5⟩ := is_v gr5
  obtain rfl : w5 = (.int i5) := Option.some.inj ei5
  obtain ⟨hsets, hown0⟩ := atoms_of _ (rest_1_c_eq ▸ (show rest_1_c.before _ s = true from hrest))
  have n3 := not_v (Cond.before_iff.mp (hsets _ (List.mem_of_getElem? (i := 2) rfl)))
  obtain ⟨cz, ecz⟩ := is_v (Cond.before_iff.mp (hsets _ (List.mem_of_getElem? (i := 1) rfl)))
  have hS : Sta s s.heap "java/lang/String" "COMPACT_STRINGS" "Z" (.int cz) := Sta.start ecz (Or.inl (hsets _ (List.mem_of_getElem? (i := 0) rfl)))
  have hcz : ¬ (cz = (0 : Int32)) := gotF (Cond.eq_ints ecz (Term.int_eval (0))) n3
  have hC : CHv s ELs s.vm s.heap := CHv.start (own_EL hw) (fun q hq => hcalls.1 q (List.mem_cons_of_mem _ hq)) (hsets _ (List.mem_of_getElem? (i := 2) rfl)) (own_wS hw _ (by simp [Bundle.stringAtoms])) (own_wS hw _ (by simp [Bundle.stringAtoms, Bundle.sN]))
  have hna := own_len i5
  have hnb := own_len ((i5.toUInt32 >>> ((2 : Int32) &&& 31).toUInt32).toInt32)
  obtain ⟨nc, u0, u1, w0, w1, rr, ss, hnc, hu0, hu1, hw0, hw1, hsA⟩ := own_A l i0 i1 i2 i3 i4 i5 (lenv (i5 &&& (3 : Int32))) (lenv (((i5.toUInt32 >>> ((2 : Int32) &&& 31).toUInt32).toInt32) &&& (3 : Int32))) hna hnb
  obtain ⟨sm, ex, hx1, hx2, hsE⟩ := own_E l i0 i1 i2 i3 i4 i5 (lenv (i5 &&& (3 : Int32))) nc u0 u1 w0 w1 rr ss (((i5.toUInt32 >>> ((7 : Int32) &&& 31).toUInt32).toInt32) &&& (3 : Int32)) hna hnc
  have h4 := own_four ((i5.toUInt32 >>> ((7 : Int32) &&& 31).toUInt32).toInt32)
  by_cases k2 : (((i5.toUInt32 >>> ((7 : Int32) &&& 31).toUInt32).toInt32) &&& (3 : Int32)) = (2 : Int32)
  · obtain ⟨n, o, h1, h2, h3, _, L, rfl, ⟨rfl, N⟩, -, hq⟩ := rm0Nul l s _ hw tables_1 i0 i1 i2 i3 i4 i5 (lenv (i5 &&& (3 : Int32))) nc u0 u1 w0 w1 rr ss (((i5.toUInt32 >>> ((7 : Int32) &&& 31).toUInt32).toInt32) &&& (3 : Int32)) (lenv (((i5.toUInt32 >>> ((2 : Int32) &&& 31).toUInt32).toInt32) &&& (3 : Int32))) sm ex cz s.heap s.heap.size (Old.start s) hS hna hnc hu0 hu1 hw0 hw1 hcz hsA hsE rfl rfl rfl k2 (hx2 (by rw [k2]; decide)) p e ha hc hk s m _ below hf ((Spec.applies_iff_loose hf).mp happ).1 ⟨rfl, State.Warmed39.refl s, rfl, hC⟩ trivial
    exact ⟨n, _, h1, h2, h3, hpost _ _ _ _ _ _ ⟨Cond.after_iff.mpr rfl, Cond.after_iff.mpr (eq_i res_at (Term.int_eval (1)) rfl), trivial⟩ ⟨hq.1, hq.2.1, hq.2.2.1, (hq.2.2.2.sift fun y hy => Or.inr (N y hy)).mono (by decide) (by decide)⟩⟩
  by_cases k3 : (((i5.toUInt32 >>> ((7 : Int32) &&& 31).toUInt32).toInt32) &&& (3 : Int32)) = (3 : Int32)
  · obtain ⟨n, o, h1, h2, h3, _, L, rfl, ⟨rfl, N⟩, -, hq⟩ := rm0Str l s _ hw tables_1 i0 i1 i2 i3 i4 i5 (lenv (i5 &&& (3 : Int32))) nc u0 u1 w0 w1 rr ss (((i5.toUInt32 >>> ((7 : Int32) &&& 31).toUInt32).toInt32) &&& (3 : Int32)) (lenv (((i5.toUInt32 >>> ((2 : Int32) &&& 31).toUInt32).toInt32) &&& (3 : Int32))) sm ex cz s.heap s.heap.size (Old.start s) hS hna hnc hu0 hu1 hw0 hw1 hcz hsA hsE rfl rfl rfl k2 k3 (hx2 (by rw [k3]; decide)) p e ha hc hk s m _ below hf ((Spec.applies_iff_loose hf).mp happ).1 ⟨rfl, State.Warmed39.refl s, rfl, hC⟩ trivial
    exact ⟨n, _, h1, h2, h3, hpost _ _ _ _ _ _ ⟨Cond.after_iff.mpr rfl, Cond.after_iff.mpr (eq_i res_at (Term.int_eval (1)) rfl), trivial⟩ ⟨hq.1, hq.2.1, hq.2.2.1, (hq.2.2.2.sift fun y hy => Or.inr (N y hy)).mono (by decide) (by decide)⟩⟩
  · obtain ⟨n, o, h1, h2, h3, _, L, rfl, ⟨rfl, N⟩, -, hq⟩ := rm0AA l s _ hw tables_1 i0 i1 i2 i3 i4 i5 (lenv (i5 &&& (3 : Int32))) nc u0 u1 w0 w1 rr ss (((i5.toUInt32 >>> ((7 : Int32) &&& 31).toUInt32).toInt32) &&& (3 : Int32)) (lenv (((i5.toUInt32 >>> ((2 : Int32) &&& 31).toUInt32).toInt32) &&& (3 : Int32))) sm ex cz s.heap s.heap.size (Old.start s) hS hna hnc hu0 hu1 hw0 hw1 hcz hsA hsE rfl rfl rfl k2 k3 (hx1 (by rcases h4 with h | h | h | h <;> first | exact absurd h k2 | exact absurd h k3 | (rw [h]; decide))) p e ha hc hk s m _ below hf ((Spec.applies_iff_loose hf).mp happ).1 ⟨rfl, State.Warmed39.refl s, rfl, hC⟩ trivial
    exact ⟨n, _, h1, h2, h3, hpost _ _ _ _ _ _ ⟨Cond.after_iff.mpr rfl, Cond.after_iff.mpr (eq_i res_at (Term.int_eval (1)) rfl), trivial⟩ ⟨hq.1, hq.2.1, hq.2.2.1, (hq.2.2.2.sift fun y hy => Or.inr (N y hy)).mono (by decide) (by decide)⟩⟩
theorem main_1_1 : Claimed_1_1 := comes_1 fun _ _ _ _ _ _ h hF => ⟨h.1, hF⟩
theorem main_1_2 : Claimed_1_2 := comes_1 fun _ _ _ _ _ _ h hF => ⟨h.2.1, hF⟩
end Jvm.Pilot.@@N@@
namespace Jvm.Pilot.@@N@@
open Jvm Jvm.ClassFile Sem Op Lib Jvm.Free Jvm.Stand Jvm.Pilot.@@N@@.Jvm.D
/-! MADE BY PROGRAM (witnessworld.py) out of the Statement's table words and the real class files: 21 classes; the members and pool entries that the words name. The judged class is class 1, her method 3. -/
namespace start1
open Jvm.ClassFile
def u (s : String) : CpInfo := .utf8 (stringToUtf16 s)
/-- a pool by its gaps: so many unusable entries, then the entry; so many at the end -/
def gap : Nat → List CpInfo → List CpInfo
  | 0, r => r
  | n + 1, r => .unusable :: gap n r
def poolList (es : List (Nat × CpInfo)) (last : Nat) : List CpInfo := es.foldr (fun e r => gap e.1 (e.2 :: r)) (gap last [])
def pool (es : List (Nat × CpInfo)) (last : Nat) : Array CpInfo := ⟨poolList es last⟩
def fileOf (pool : Array CpInfo) (this : Nat) (attrs : Array Attribute := #[]) (ms : Array MethodInfo := #[]) (fl : Nat := 33) (sup : Nat := 0) (ifs : Array Nat := #[]) (fds : Array FieldInfo := #[]) : ClassFile where
  minorVersion := 0
  majorVersion := 65
  constantPool := pool
  accessFlags := fl
  thisClass := this
  superClass := sup
  interfaces := ifs
  fields := fds
  methods := ms
  attributes := attrs
def plain (name : String) (sup : Option ClassId) : Class where
  name := name
  kind := .ordinary
  loader := none
  accessFlags := 33
  super := sup
  interfaces := #[]
  cf := none
  fields := #[]
  methods := #[]
  instanceTypes := #[]
  staticTypes := #[]
  resolved := #[]
  callSites := []
  init := .initialized
  statics := none
  mirror := none

def pool0 : Array CpInfo := pool [(5, u "<init>"), (0, u "()V"), (1, .class_ 10), (1, u "java/lang/Object")] 113

def k0c0 : Code := { maxStack := 0, maxLocals := 1, code := object_method_1_code, exceptionTable := #[], attributes := #[] }
def k0m0 : Method := { name := "<init>", desc := "()V", sig := { parameters := [], returnType := none }, accessFlags := 1, code := some k0c0 }
/-- java/lang/Object -/
def k0 : Class := { plain "java/lang/Object" none with
  accessFlags := 33
  interfaces := #[]
  cf := some (fileOf pool0 8 #[] #[{ accessFlags := 1, nameIndex := 5, descriptorIndex := 6, attributes := #[] }] 33 0 #[] #[])
  fields := #[]
  methods := #[k0m0]
  instanceTypes := #[]
  staticTypes := #[]
  resolved := Array.replicate 124 none
  statics := none }

def pool1 : Array CpInfo := pool [(2, .class_ 4), (1, u "java/lang/Object"), (0, u "<init>"), (0, u "()V"), (0, .class_ 8), (0, u "java/lang/String"), (0, .methodref 7 10), (0, .nameAndType 5 11), (0, u "([C)V"), (0, .methodref 13 14), (0, .class_ 15), (0, .nameAndType 16 17), (0, u "com/example/abox_to_sql/aboxtosql/AddedAssertionEqualsPinLaw"), (0, u "len"), (0, u "(I)I"), (0, .methodref 13 19), (0, .nameAndType 20 21), (0, u "str"), (0, u "(ICC)Ljava/lang/String;"), (0, .class_ 23), (0, u "com/example/abox_to_sql/aboxtosql/AddedAssertion"), (0, .methodref 22 25), (0, .nameAndType 5 26), (0, u "(Ljava/lang/String;II)V"), (0, .methodref 22 28), (0, .nameAndType 29 30), (0, u "equals"), (0, u "(Ljava/lang/Object;)Z"), (3, u "law"), (0, u "(IIIIII)Z")] 2

def k1m0 : Method := { name := "<init>", desc := "()V", sig := { parameters := [], returnType := none }, accessFlags := 1, code := none }
def k1c1 : Code := { maxStack := 2, maxLocals := 1, code := method_2_code, exceptionTable := #[], attributes := #[] }
def k1m1 : Method := { name := "len", desc := "(I)I", sig := { parameters := [.int], returnType := some .int }, accessFlags := 10, code := some k1c1 }
def k1c2 : Code := { maxStack := 3, maxLocals := 4, code := method_3_code, exceptionTable := #[], attributes := #[] }
def k1m2 : Method := { name := "str", desc := "(ICC)Ljava/lang/String;", sig := { parameters := [.int, .char, .char], returnType := some (.object "java/lang/String") }, accessFlags := 10, code := some k1c2 }
def k1c3 : Code := { maxStack := 5, maxLocals := 21, code := code, exceptionTable := #[], attributes := #[] }
def k1m3 : Method := { name := "law", desc := "(IIIIII)Z", sig := { parameters := [.int, .int, .int, .int, .int, .int], returnType := some .boolean }, accessFlags := 9, code := some k1c3 }
/-- com/example/abox_to_sql/aboxtosql/AddedAssertionEqualsPinLaw -/
def k1 : Class := { plain "com/example/abox_to_sql/aboxtosql/AddedAssertionEqualsPinLaw" (some 0) with
  accessFlags := 49
  interfaces := #[]
  cf := some (fileOf pool1 13 #[] #[{ accessFlags := 1, nameIndex := 5, descriptorIndex := 6, attributes := #[] }, { accessFlags := 10, nameIndex := 16, descriptorIndex := 17, attributes := #[] }, { accessFlags := 10, nameIndex := 20, descriptorIndex := 21, attributes := #[] }, { accessFlags := 9, nameIndex := 34, descriptorIndex := 35, attributes := #[] }] 49 2 #[] #[])
  fields := #[]
  methods := #[k1m0, k1m1, k1m2, k1m3]
  instanceTypes := #[]
  staticTypes := #[]
  resolved := Array.replicate 38 none
  statics := none }

def pool2 : Array CpInfo := pool [(1, .class_ 2), (0, u "java/io/Serializable"), (0, .class_ 4), (0, u "java/lang/Object")] 2

/-- java/io/Serializable -/
def k2 : Class := { plain "java/io/Serializable" (some 0) with
  accessFlags := 1537
  interfaces := #[]
  cf := some (fileOf pool2 1 #[] #[] 1537 3 #[] #[])
  fields := #[]
  methods := #[]
  instanceTypes := #[]
  staticTypes := #[]
  resolved := Array.replicate 7 none
  statics := none }

def pool3 : Array CpInfo := pool [(1, .class_ 2), (0, u "java/lang/Comparable"), (0, .class_ 4), (0, u "java/lang/Object")] 7

/-- java/lang/Comparable -/
def k3 : Class := { plain "java/lang/Comparable" (some 0) with
  accessFlags := 1537
  interfaces := #[]
  cf := some (fileOf pool3 1 #[] #[] 1537 3 #[] #[])
  fields := #[]
  methods := #[]
  instanceTypes := #[]
  staticTypes := #[]
  resolved := Array.replicate 12 none
  statics := none }

def pool4 : Array CpInfo := pool [(2, .class_ 4), (1, u "java/lang/CharSequence"), (42, .class_ 48), (0, u "java/lang/CharSequence$1CodePointIterator"), (10, .class_ 60), (0, u "java/lang/CharSequence$1CharIterator"), (5, .class_ 67), (0, u "java/lang/Object")] 63

/-- java/lang/CharSequence -/
def k4 : Class := { plain "java/lang/CharSequence" (some 0) with
  accessFlags := 1537
  interfaces := #[]
  cf := some (fileOf pool4 2 #[.nestMembers #[47, 59]] #[] 1537 66 #[] #[])
  fields := #[]
  methods := #[]
  instanceTypes := #[]
  staticTypes := #[]
  resolved := Array.replicate 131 none
  statics := none }

def pool5 : Array CpInfo := pool [(1, .class_ 2), (0, u "java/lang/constant/Constable"), (0, .class_ 4), (0, u "java/lang/Object")] 6

/-- java/lang/constant/Constable -/
def k5 : Class := { plain "java/lang/constant/Constable" (some 0) with
  accessFlags := 1537
  interfaces := #[]
  cf := some (fileOf pool5 1 #[] #[] 1537 3 #[] #[])
  fields := #[]
  methods := #[]
  instanceTypes := #[]
  staticTypes := #[]
  resolved := Array.replicate 11 none
  statics := none }

def pool6 : Array CpInfo := pool [(1, .class_ 2), (0, u "java/lang/constant/ConstantDesc"), (0, .class_ 4), (0, u "java/lang/Object")] 32

/-- java/lang/constant/ConstantDesc -/
def k6 : Class := { plain "java/lang/constant/ConstantDesc" (some 0) with
  accessFlags := 1537
  interfaces := #[]
  cf := some (fileOf pool6 1 #[] #[] 1537 3 #[] #[])
  fields := #[]
  methods := #[]
  instanceTypes := #[]
  staticTypes := #[]
  resolved := Array.replicate 37 none
  statics := none }

def pool7 : Array CpInfo := pool [(1, .methodref 2 3), (0, .class_ 4), (0, .nameAndType 5 6), (0, u "java/lang/Object"), (0, u "<init>"), (0, u "()V"), (0, .string 8), (0, u ""), (0, .fieldref 10 11), (0, .class_ 12), (0, .nameAndType 13 14), (0, u "java/lang/String"), (0, u "value"), (0, u "[B"), (0, .fieldref 10 16), (0, .nameAndType 17 18), (0, u "coder"), (0, u "B"), (2, u "hash"), (0, u "I"), (2, u "hashIsZero"), (0, u "Z"), (0, .methodref 10 28), (0, .nameAndType 5 29), (0, u "([CIILjava/lang/Void;)V"), (8, .fieldref 10 39), (0, .nameAndType 40 26), (0, u "COMPACT_STRINGS"), (1, .class_ 44), (1, u "java/lang/StringUTF16"), (0, u "compress"), (1, .methodref 42 48), (0, .nameAndType 49 50), (0, u "coderFromArrayLen"), (0, u "([BI)B"), (56, .class_ 109), (1, u "java/lang/StringLatin1"), (67, .methodref 42 178), (0, .nameAndType 45 179), (0, u "([CII)[B"), (361, .methodref 107 542), (0, .nameAndType 543 544), (0, u "equals"), (0, u "([B[B)Z"), (28, u "(Ljava/lang/Object;)Z"), (1, .class_ 576), (0, u "java/lang/CharSequence"), (22, u "CASE_INSENSITIVE_ORDER"), (0, u "Ljava/util/Comparator;"), (409, u "([C)V"), (90, u "serialPersistentFields"), (0, u "[Ljava/io/ObjectStreamField;"), (0, .class_ 1104), (0, u "java/lang/String$CaseInsensitiveComparator"), (1, .class_ 1107), (0, u "java/io/Serializable"), (0, .class_ 1109), (0, u "java/lang/Comparable"), (0, .class_ 1111), (0, u "java/lang/constant/Constable"), (0, .class_ 1113), (0, u "java/lang/constant/ConstantDesc"), (2, u "serialVersionUID"), (0, u "J"), (3, u "REPL"), (0, u "C"), (2, u "LATIN1"), (1, u "UTF16")] 323

def k7m0 : Method := { name := "<init>", desc := "()V", sig := { parameters := [], returnType := none }, accessFlags := 1, code := none }
def k7c1 : Code := { maxStack := 5, maxLocals := 2, code := jdk_42_method_3_code, exceptionTable := #[], attributes := #[] }
def k7m1 : Method := { name := "<init>", desc := "([C)V", sig := { parameters := [(.array .char)], returnType := none }, accessFlags := 1, code := some k7c1 }
def k7c2 : Code := { maxStack := 2, maxLocals := 3, code := jdk_42_method_66_code, exceptionTable := #[], attributes := #[] }
def k7m2 : Method := { name := "equals", desc := "(Ljava/lang/Object;)Z", sig := { parameters := [(.object "java/lang/Object")], returnType := some .boolean }, accessFlags := 1, code := some k7c2 }
def k7c3 : Code := { maxStack := 4, maxLocals := 6, code := jdk_42_method_149_code, exceptionTable := #[], attributes := #[] }
def k7m3 : Method := { name := "<init>", desc := "([CIILjava/lang/Void;)V", sig := { parameters := [(.array .char), .int, .int, (.object "java/lang/Void")], returnType := none }, accessFlags := 2, code := some k7c3 }
/-- java/lang/String -/
def k7 : Class := { plain "java/lang/String" (some 0) with
  accessFlags := 49
  interfaces := #[2, 3, 4, 5, 6]
  cf := some (fileOf pool7 10 #[.nestMembers #[1103]] #[{ accessFlags := 1, nameIndex := 5, descriptorIndex := 6, attributes := #[] }, { accessFlags := 1, nameIndex := 5, descriptorIndex := 1010, attributes := #[] }, { accessFlags := 1, nameIndex := 543, descriptorIndex := 573, attributes := #[] }, { accessFlags := 2, nameIndex := 5, descriptorIndex := 29, attributes := #[] }] 49 2 #[1106, 1108, 575, 1110, 1112] #[{ accessFlags := 18, nameIndex := 13, descriptorIndex := 14, attributes := #[] }, { accessFlags := 18, nameIndex := 17, descriptorIndex := 18, attributes := #[] }, { accessFlags := 2, nameIndex := 21, descriptorIndex := 22, attributes := #[] }, { accessFlags := 2, nameIndex := 25, descriptorIndex := 26, attributes := #[] }, { accessFlags := 26, nameIndex := 1116, descriptorIndex := 1117, attributes := #[] }, { accessFlags := 24, nameIndex := 40, descriptorIndex := 26, attributes := #[] }, { accessFlags := 26, nameIndex := 1101, descriptorIndex := 1102, attributes := #[] }, { accessFlags := 26, nameIndex := 1121, descriptorIndex := 1122, attributes := #[] }, { accessFlags := 25, nameIndex := 599, descriptorIndex := 600, attributes := #[] }, { accessFlags := 24, nameIndex := 1125, descriptorIndex := 18, attributes := #[] }, { accessFlags := 24, nameIndex := 1127, descriptorIndex := 18, attributes := #[] }])
  fields := #[{ name := "value", type := (.array .byte), accessFlags := 18, slot := 0, constantValue := 0 }, { name := "coder", type := .byte, accessFlags := 18, slot := 1, constantValue := 0 }, { name := "hash", type := .int, accessFlags := 2, slot := 2, constantValue := 0 }, { name := "hashIsZero", type := .boolean, accessFlags := 2, slot := 3, constantValue := 0 }, { name := "serialVersionUID", type := .long, accessFlags := 26, slot := 0, constantValue := 0 }, { name := "COMPACT_STRINGS", type := .boolean, accessFlags := 24, slot := 1, constantValue := 0 }, { name := "serialPersistentFields", type := (.array (.object "java/io/ObjectStreamField")), accessFlags := 26, slot := 2, constantValue := 0 }, { name := "REPL", type := .char, accessFlags := 26, slot := 3, constantValue := 0 }, { name := "CASE_INSENSITIVE_ORDER", type := (.object "java/util/Comparator"), accessFlags := 25, slot := 4, constantValue := 0 }, { name := "LATIN1", type := .byte, accessFlags := 24, slot := 5, constantValue := 0 }, { name := "UTF16", type := .byte, accessFlags := 24, slot := 6, constantValue := 0 }]
  methods := #[k7m0, k7m1, k7m2, k7m3]
  instanceTypes := #[(.array .byte), .byte, .int, .boolean]
  staticTypes := #[.long, .boolean, (.array (.object "java/io/ObjectStreamField")), .char, (.object "java/util/Comparator"), .byte, .byte]
  resolved := Array.replicate 1451 none
  statics := some 0 }

def pool8 : Array CpInfo := pool [(6, .class_ 8), (1, u "java/lang/Object"), (0, u "<init>"), (0, u "()V"), (1, .class_ 14), (1, u "java/lang/StringUTF16"), (31, u "$assertionsDisabled"), (0, u "Z"), (13, u "HI_BYTE_SHIFT"), (0, u "I"), (2, u "LO_BYTE_SHIFT"), (49, .methodref 12 116), (0, .nameAndType 117 118), (0, u "compress"), (0, u "([CI[BII)I"), (3, u "([CII)[B"), (138, u "coderFromArrayLen"), (0, u "([BI)B"), (106, .class_ 371), (1, u "java/lang/StringUTF16$LinesSpliterator"), (58, u "MAX_LENGTH"), (196, .class_ 628), (0, u "java/lang/StringUTF16$CodePointsSpliterator"), (0, .class_ 630), (0, u "java/lang/StringUTF16$CharsSpliterator")] 4

def k8m0 : Method := { name := "<init>", desc := "()V", sig := { parameters := [], returnType := none }, accessFlags := 0, code := none }
def k8c1 : Code := { maxStack := 2, maxLocals := 2, code := jdk_52_method_15_code, exceptionTable := #[], attributes := #[] }
def k8m1 : Method := { name := "coderFromArrayLen", desc := "([BI)B", sig := { parameters := [(.array .byte), .int], returnType := some .byte }, accessFlags := 8, code := some k8c1 }
def k8c2 : Code := { maxStack := 5, maxLocals := 6, code := jdk_52_method_16_code, exceptionTable := #[], attributes := #[] }
def k8m2 : Method := { name := "compress", desc := "([CII)[B", sig := { parameters := [(.array .char), .int, .int], returnType := some (.array .byte) }, accessFlags := 9, code := some k8c2 }
def k8c3 : Code := { maxStack := 3, maxLocals := 7, code := jdk_52_method_21_code, exceptionTable := #[], attributes := #[] }
def k8m3 : Method := { name := "compress", desc := "([CI[BII)I", sig := { parameters := [(.array .char), .int, (.array .byte), .int, .int], returnType := some .int }, accessFlags := 9, code := some k8c3 }
/-- java/lang/StringUTF16 -/
def k8 : Class := { plain "java/lang/StringUTF16" (some 0) with
  accessFlags := 48
  interfaces := #[]
  cf := some (fileOf pool8 12 #[.nestMembers #[627, 629, 369]] #[{ accessFlags := 0, nameIndex := 9, descriptorIndex := 10, attributes := #[] }, { accessFlags := 8, nameIndex := 261, descriptorIndex := 262, attributes := #[] }, { accessFlags := 9, nameIndex := 117, descriptorIndex := 122, attributes := #[] }, { accessFlags := 9, nameIndex := 117, descriptorIndex := 118, attributes := #[] }] 48 6 #[] #[{ accessFlags := 26, nameIndex := 61, descriptorIndex := 62, attributes := #[] }, { accessFlags := 26, nameIndex := 65, descriptorIndex := 62, attributes := #[] }, { accessFlags := 24, nameIndex := 430, descriptorIndex := 62, attributes := #[] }, { accessFlags := 4120, nameIndex := 46, descriptorIndex := 47, attributes := #[] }])
  fields := #[{ name := "HI_BYTE_SHIFT", type := .int, accessFlags := 26, slot := 0, constantValue := 0 }, { name := "LO_BYTE_SHIFT", type := .int, accessFlags := 26, slot := 1, constantValue := 0 }, { name := "MAX_LENGTH", type := .int, accessFlags := 24, slot := 2, constantValue := 0 }, { name := "$assertionsDisabled", type := .boolean, accessFlags := 4120, slot := 3, constantValue := 0 }]
  methods := #[k8m0, k8m1, k8m2, k8m3]
  instanceTypes := #[]
  staticTypes := #[.int, .int, .int, .boolean]
  resolved := Array.replicate 635 none
  statics := none }

def pool9 : Array CpInfo := pool [(1, .methodref 2 3), (0, .class_ 4), (0, .nameAndType 5 6), (0, u "java/lang/Object"), (0, u "<init>"), (0, u "()V"), (0, .string 8), (0, u "assertion"), (0, .methodref 10 11), (0, .class_ 12), (0, .nameAndType 13 14), (0, u "java/util/Objects"), (0, u "requireNonNull"), (0, u "(Ljava/lang/Object;Ljava/lang/String;)Ljava/lang/Object;"), (0, .class_ 16), (0, u "java/lang/String"), (0, .fieldref 18 19), (0, .class_ 20), (0, .nameAndType 8 21), (0, u "com/example/abox_to_sql/aboxtosql/AddedAssertion"), (0, u "Ljava/lang/String;"), (0, .fieldref 18 23), (0, .nameAndType 24 25), (0, u "factsRead"), (0, u "I"), (0, .fieldref 18 27), (0, .nameAndType 28 25), (0, u "factsStored"), (0, .methodref 15 30), (0, .nameAndType 31 32), (0, u "equals"), (0, u "(Ljava/lang/Object;)Z"), (14, u "(Ljava/lang/String;II)V")] 24

def k9c0 : Code := { maxStack := 3, maxLocals := 4, code := prog_2_method_1_code, exceptionTable := #[], attributes := #[] }
def k9m0 : Method := { name := "<init>", desc := "(Ljava/lang/String;II)V", sig := { parameters := [(.object "java/lang/String"), .int, .int], returnType := none }, accessFlags := 0, code := some k9c0 }
def k9c1 : Code := { maxStack := 2, maxLocals := 3, code := prog_2_method_5_code, exceptionTable := #[], attributes := #[] }
def k9m1 : Method := { name := "equals", desc := "(Ljava/lang/Object;)Z", sig := { parameters := [(.object "java/lang/Object")], returnType := some .boolean }, accessFlags := 1, code := some k9c1 }
/-- com/example/abox_to_sql/aboxtosql/AddedAssertion -/
def k9 : Class := { plain "com/example/abox_to_sql/aboxtosql/AddedAssertion" (some 0) with
  accessFlags := 49
  interfaces := #[]
  cf := some (fileOf pool9 18 #[] #[{ accessFlags := 0, nameIndex := 5, descriptorIndex := 47, attributes := #[] }, { accessFlags := 1, nameIndex := 31, descriptorIndex := 32, attributes := #[] }] 49 2 #[] #[{ accessFlags := 18, nameIndex := 8, descriptorIndex := 21, attributes := #[] }, { accessFlags := 18, nameIndex := 24, descriptorIndex := 25, attributes := #[] }, { accessFlags := 18, nameIndex := 28, descriptorIndex := 25, attributes := #[] }])
  fields := #[{ name := "assertion", type := (.object "java/lang/String"), accessFlags := 18, slot := 0, constantValue := 0 }, { name := "factsRead", type := .int, accessFlags := 18, slot := 1, constantValue := 0 }, { name := "factsStored", type := .int, accessFlags := 18, slot := 2, constantValue := 0 }]
  methods := #[k9m0, k9m1]
  instanceTypes := #[(.object "java/lang/String"), .int, .int]
  staticTypes := #[]
  resolved := Array.replicate 72 none
  statics := none }

def pool10 : Array CpInfo := pool [(2, .class_ 4), (1, u "java/lang/Object"), (0, u "<init>"), (0, u "()V"), (35, .class_ 44), (1, u "java/util/Objects"), (0, u "requireNonNull"), (48, u "(Ljava/lang/Object;Ljava/lang/String;)Ljava/lang/Object;")] 89

def k10m0 : Method := { name := "<init>", desc := "()V", sig := { parameters := [], returnType := none }, accessFlags := 2, code := none }
def k10c1 : Code := { maxStack := 3, maxLocals := 2, code := jdk_31_method_11_code, exceptionTable := #[], attributes := #[] }
def k10m1 : Method := { name := "requireNonNull", desc := "(Ljava/lang/Object;Ljava/lang/String;)Ljava/lang/Object;", sig := { parameters := [(.object "java/lang/Object"), (.object "java/lang/String")], returnType := some (.object "java/lang/Object") }, accessFlags := 9, code := some k10c1 }
/-- java/util/Objects -/
def k10 : Class := { plain "java/util/Objects" (some 0) with
  accessFlags := 49
  interfaces := #[]
  cf := some (fileOf pool10 42 #[] #[{ accessFlags := 2, nameIndex := 5, descriptorIndex := 6, attributes := #[] }, { accessFlags := 9, nameIndex := 45, descriptorIndex := 94, attributes := #[] }] 49 2 #[] #[])
  fields := #[]
  methods := #[k10m0, k10m1]
  instanceTypes := #[]
  staticTypes := #[]
  resolved := Array.replicate 184 none
  statics := none }

def pool11 : Array CpInfo := pool [(4, .class_ 6), (1, u "java/lang/Object"), (0, u "<init>"), (0, u "()V"), (5, .class_ 16), (1, u "java/lang/StringLatin1"), (104, u "$assertionsDisabled"), (0, u "Z"), (98, .class_ 223), (1, u "java/lang/StringLatin1$LinesSpliterator"), (57, u "equals"), (0, u "([B[B)Z"), (107, .class_ 391), (0, u "java/lang/StringLatin1$CharsSpliterator")] 3

def k11m0 : Method := { name := "<init>", desc := "()V", sig := { parameters := [], returnType := none }, accessFlags := 0, code := none }
def k11c1 : Code := { maxStack := 3, maxLocals := 3, code := jdk_43_method_13_code, exceptionTable := #[], attributes := #[] }
def k11m1 : Method := { name := "equals", desc := "([B[B)Z", sig := { parameters := [(.array .byte), (.array .byte)], returnType := some .boolean }, accessFlags := 9, code := some k11c1 }
/-- java/lang/StringLatin1 -/
def k11 : Class := { plain "java/lang/StringLatin1" (some 0) with
  accessFlags := 48
  interfaces := #[]
  cf := some (fileOf pool11 14 #[.nestMembers #[390, 221]] #[{ accessFlags := 0, nameIndex := 7, descriptorIndex := 8, attributes := #[] }, { accessFlags := 9, nameIndex := 281, descriptorIndex := 282, attributes := #[] }] 48 4 #[] #[{ accessFlags := 4120, nameIndex := 121, descriptorIndex := 122, attributes := #[] }])
  fields := #[{ name := "$assertionsDisabled", type := .boolean, accessFlags := 4120, slot := 0, constantValue := 0 }]
  methods := #[k11m0, k11m1]
  instanceTypes := #[]
  staticTypes := #[.boolean]
  resolved := Array.replicate 395 none
  statics := none }

def pool12 : Array CpInfo := pool [(2, .class_ 4), (1, u "java/lang/Object"), (0, u "<init>"), (0, u "()V"), (17, .class_ 26), (1, u "jdk/internal/util/Preconditions"), (28, .class_ 56), (0, u "jdk/internal/util/Preconditions$4"), (57, .class_ 115), (0, u "jdk/internal/util/Preconditions$1"), (7, u "SIOOBE_FORMATTER"), (0, u "Ljava/util/function/BiFunction;"), (0, .class_ 126), (0, u "jdk/internal/util/Preconditions$2"), (3, u "AIOOBE_FORMATTER"), (0, .class_ 132), (0, u "jdk/internal/util/Preconditions$3"), (3, u "IOOBE_FORMATTER")] 57

def k12m0 : Method := { name := "<init>", desc := "()V", sig := { parameters := [], returnType := none }, accessFlags := 1, code := none }
/-- jdk/internal/util/Preconditions -/
def k12 : Class := { plain "jdk/internal/util/Preconditions" (some 0) with
  accessFlags := 33
  interfaces := #[]
  cf := some (fileOf pool12 24 #[.nestMembers #[55, 131, 125, 114]] #[{ accessFlags := 1, nameIndex := 5, descriptorIndex := 6, attributes := #[] }] 33 2 #[] #[{ accessFlags := 25, nameIndex := 123, descriptorIndex := 124, attributes := #[] }, { accessFlags := 25, nameIndex := 130, descriptorIndex := 124, attributes := #[] }, { accessFlags := 25, nameIndex := 136, descriptorIndex := 124, attributes := #[] }])
  fields := #[{ name := "SIOOBE_FORMATTER", type := (.object "java/util/function/BiFunction"), accessFlags := 25, slot := 0, constantValue := 0 }, { name := "AIOOBE_FORMATTER", type := (.object "java/util/function/BiFunction"), accessFlags := 25, slot := 1, constantValue := 0 }, { name := "IOOBE_FORMATTER", type := (.object "java/util/function/BiFunction"), accessFlags := 25, slot := 2, constantValue := 0 }]
  methods := #[k12m0]
  instanceTypes := #[]
  staticTypes := #[(.object "java/util/function/BiFunction"), (.object "java/util/function/BiFunction"), (.object "java/util/function/BiFunction")]
  resolved := Array.replicate 194 none
  statics := some 1 }

def pool13 : Array CpInfo := pool [(9, u "<init>"), (6, .class_ 18), (1, u "java/lang/Object"), (0, u "()V"), (1, .class_ 23), (1, u "jdk/internal/util/ArraysSupport"), (0, u "LOG2_ARRAY_LONG_INDEX_SCALE"), (0, u "I"), (2, u "U"), (0, u "Ljdk/internal/misc/Unsafe;"), (8, u "BIG_ENDIAN"), (0, u "Z"), (8, u "LOG2_BYTE_BIT_SIZE"), (4, u "LOG2_ARRAY_INT_INDEX_SCALE"), (54, u "JLA"), (0, u "Ljdk/internal/access/JavaLangAccess;"), (11, u "LOG2_ARRAY_BOOLEAN_INDEX_SCALE"), (9, u "LOG2_ARRAY_BYTE_INDEX_SCALE"), (5, u "LOG2_ARRAY_CHAR_INDEX_SCALE"), (5, u "LOG2_ARRAY_SHORT_INDEX_SCALE"), (18, u "LOG2_ARRAY_FLOAT_INDEX_SCALE"), (24, u "LOG2_ARRAY_DOUBLE_INDEX_SCALE"), (89, u "T_BOOLEAN"), (2, u "T_CHAR"), (1, u "T_FLOAT"), (1, u "T_DOUBLE"), (1, u "T_BYTE"), (1, u "T_SHORT"), (1, u "T_INT"), (1, u "T_LONG"), (1, u "SOFT_MAX_ARRAY_LENGTH")] 83

def k13m0 : Method := { name := "<init>", desc := "()V", sig := { parameters := [], returnType := none }, accessFlags := 2, code := none }
/-- jdk/internal/util/ArraysSupport -/
def k13 : Class := { plain "jdk/internal/util/ArraysSupport" (some 0) with
  accessFlags := 33
  interfaces := #[]
  cf := some (fileOf pool13 21 #[] #[{ accessFlags := 2, nameIndex := 9, descriptorIndex := 19, attributes := #[] }] 33 16 #[] #[{ accessFlags := 24, nameIndex := 28, descriptorIndex := 29, attributes := #[] }, { accessFlags := 26, nameIndex := 38, descriptorIndex := 39, attributes := #[] }, { accessFlags := 25, nameIndex := 121, descriptorIndex := 25, attributes := #[] }, { accessFlags := 25, nameIndex := 131, descriptorIndex := 25, attributes := #[] }, { accessFlags := 25, nameIndex := 137, descriptorIndex := 25, attributes := #[] }, { accessFlags := 25, nameIndex := 143, descriptorIndex := 25, attributes := #[] }, { accessFlags := 25, nameIndex := 53, descriptorIndex := 25, attributes := #[] }, { accessFlags := 25, nameIndex := 24, descriptorIndex := 25, attributes := #[] }, { accessFlags := 25, nameIndex := 162, descriptorIndex := 25, attributes := #[] }, { accessFlags := 25, nameIndex := 187, descriptorIndex := 25, attributes := #[] }, { accessFlags := 26, nameIndex := 48, descriptorIndex := 25, attributes := #[] }, { accessFlags := 25, nameIndex := 277, descriptorIndex := 25, attributes := #[] }, { accessFlags := 25, nameIndex := 280, descriptorIndex := 25, attributes := #[] }, { accessFlags := 25, nameIndex := 282, descriptorIndex := 25, attributes := #[] }, { accessFlags := 25, nameIndex := 284, descriptorIndex := 25, attributes := #[] }, { accessFlags := 25, nameIndex := 286, descriptorIndex := 25, attributes := #[] }, { accessFlags := 25, nameIndex := 288, descriptorIndex := 25, attributes := #[] }, { accessFlags := 25, nameIndex := 290, descriptorIndex := 25, attributes := #[] }, { accessFlags := 25, nameIndex := 292, descriptorIndex := 25, attributes := #[] }, { accessFlags := 26, nameIndex := 108, descriptorIndex := 109, attributes := #[] }, { accessFlags := 25, nameIndex := 294, descriptorIndex := 25, attributes := #[] }])
  fields := #[{ name := "U", type := (.object "jdk/internal/misc/Unsafe"), accessFlags := 24, slot := 0, constantValue := 0 }, { name := "BIG_ENDIAN", type := .boolean, accessFlags := 26, slot := 1, constantValue := 0 }, { name := "LOG2_ARRAY_BOOLEAN_INDEX_SCALE", type := .int, accessFlags := 25, slot := 2, constantValue := 0 }, { name := "LOG2_ARRAY_BYTE_INDEX_SCALE", type := .int, accessFlags := 25, slot := 3, constantValue := 0 }, { name := "LOG2_ARRAY_CHAR_INDEX_SCALE", type := .int, accessFlags := 25, slot := 4, constantValue := 0 }, { name := "LOG2_ARRAY_SHORT_INDEX_SCALE", type := .int, accessFlags := 25, slot := 5, constantValue := 0 }, { name := "LOG2_ARRAY_INT_INDEX_SCALE", type := .int, accessFlags := 25, slot := 6, constantValue := 0 }, { name := "LOG2_ARRAY_LONG_INDEX_SCALE", type := .int, accessFlags := 25, slot := 7, constantValue := 0 }, { name := "LOG2_ARRAY_FLOAT_INDEX_SCALE", type := .int, accessFlags := 25, slot := 8, constantValue := 0 }, { name := "LOG2_ARRAY_DOUBLE_INDEX_SCALE", type := .int, accessFlags := 25, slot := 9, constantValue := 0 }, { name := "LOG2_BYTE_BIT_SIZE", type := .int, accessFlags := 26, slot := 10, constantValue := 0 }, { name := "T_BOOLEAN", type := .int, accessFlags := 25, slot := 11, constantValue := 0 }, { name := "T_CHAR", type := .int, accessFlags := 25, slot := 12, constantValue := 0 }, { name := "T_FLOAT", type := .int, accessFlags := 25, slot := 13, constantValue := 0 }, { name := "T_DOUBLE", type := .int, accessFlags := 25, slot := 14, constantValue := 0 }, { name := "T_BYTE", type := .int, accessFlags := 25, slot := 15, constantValue := 0 }, { name := "T_SHORT", type := .int, accessFlags := 25, slot := 16, constantValue := 0 }, { name := "T_INT", type := .int, accessFlags := 25, slot := 17, constantValue := 0 }, { name := "T_LONG", type := .int, accessFlags := 25, slot := 18, constantValue := 0 }, { name := "JLA", type := (.object "jdk/internal/access/JavaLangAccess"), accessFlags := 26, slot := 19, constantValue := 0 }, { name := "SOFT_MAX_ARRAY_LENGTH", type := .int, accessFlags := 25, slot := 20, constantValue := 0 }]
  methods := #[k13m0]
  instanceTypes := #[]
  staticTypes := #[(.object "jdk/internal/misc/Unsafe"), .boolean, .int, .int, .int, .int, .int, .int, .int, .int, .int, .int, .int, .int, .int, .int, .int, .int, .int, (.object "jdk/internal/access/JavaLangAccess"), .int]
  resolved := Array.replicate 378 none
  statics := none }

def pool14 : Array CpInfo := pool [(1, u "java/lang/Cloneable"), (0, .class_ 1), (0, u "java/lang/Object"), (0, .class_ 3)] 3

/-- java/lang/Cloneable -/
def k14 : Class := { plain "java/lang/Cloneable" (some 0) with
  accessFlags := 1537
  interfaces := #[]
  cf := some (fileOf pool14 2 #[] #[] 1537 4 #[] #[])
  fields := #[]
  methods := #[]
  instanceTypes := #[]
  staticTypes := #[]
  resolved := Array.replicate 8 none
  statics := none }

/-- the primitive byte -/
def k15 : Class := { plain "byte" none with kind := .primitive 'B', accessFlags := 0x411 }
/-- [B -/
def k16 : Class := { plain "[B" (some 0) with kind := .array 15 .byte, interfaces := #[14, 2], accessFlags := 1041 }

/-- the primitive char -/
def k17 : Class := { plain "char" none with kind := .primitive 'C', accessFlags := 0x411 }
/-- [C -/
def k18 : Class := { plain "[C" (some 0) with kind := .array 17 .char, interfaces := #[14, 2], accessFlags := 1041 }

/-- the primitive int -/
def k19 : Class := { plain "int" none with kind := .primitive 'I', accessFlags := 0x411 }
/-- [I -/
def k20 : Class := { plain "[I" (some 0) with kind := .array 19 .int, interfaces := #[14, 2], accessFlags := 1041 }

def heap : Heap := #[{ cls := 7, slots := #[.long 0, .int 1, .null, .int 0, .null, .int 0, .int 0], vm := .statics 7 },
  { cls := 12, slots := #[.null, .null, .null], vm := .statics 12 }]
def classes : Array Class := #[k0, k1, k2, k3, k4, k5, k6, k7, k8, k9, k10, k11, k12, k13, k14, k15, k16, k17, k18, k19, k20]
def interned : List (Array UInt16 × Addr) := []
def slotsUsed : Nat := 10
def theMethod : MethodId := ⟨1, 3⟩
def args0 : Array Value := #[.int 1234567, .int 3, .int 4, .int 3, .int 4, .int 5]
def aboutOver (below : List Frame) : State where
  vm := { classes := classes, interned := interned.toArray }
  heap := heap
  slotsUsed := slotsUsed
  threads := #[{ frames := .invoking theMethod args0 :: below }]
def below0 : List Frame := [.native { method := ⟨0, 0⟩, args := #[] }]
def about1 : State := aboutOver below0
def p0 : Program := .bare "" "" ""
def e0 : Env := launch0.env 0 0 0
theorem w_frames : about1.frames = Frame.invoking theMethod args0 :: below0 := rfl
set_option maxRecDepth 65536 in
theorem w_args : argsFit about1.vm theMethod args0 = true := by decide +kernel
set_option maxRecDepth 65536 in
theorem w_heap : heapFits about1 = true := by decide +kernel
set_option maxRecDepth 65536 in
theorem w_runnable : about1.curStatus? = some .runnable := by decide +kernel
set_option maxRecDepth 65536 in
theorem w_alone : about1.alone = true := by decide +kernel
set_option maxRecDepth 65536 in
theorem w_named : about1.methodNamed? x = some theMethod := by decide +kernel
set_option maxRecDepth 65536 in
theorem w_hears : about1.hears theMethod below0 = true := by decide +kernel
set_option maxRecDepth 65536 in
theorem w_ripe : about1.ripe theMethod args0 below0 = true := by decide +kernel
theorem w_running : about1.status = .running := rfl
set_option maxRecDepth 65536 in
theorem w_room : about1.hasRoom e0.platform room_1 = true :=
  launch0.hasRoom_least _ room_1 (by decide +kernel) (by decide +kernel) (by decide +kernel) (by decide +kernel) (by decide +kernel) (by decide +kernel)
theorem allAtoms_all (ts : List Jvm.Cond) (a : Array Jvm.Value) (st : Jvm.State) : (allAtoms ts).before a st = ts.all (fun c => c.before a st) := by
  induction ts with
  | nil => rfl
  | cons c t ih =>
    show (Jvm.Cond.and c (allAtoms t)).before a st = _
    rw [Jvm.Cond.before_and, ih, List.all_cons]
def words1 : List Jvm.Cond := Jvm.Cond.code x code maxLocals ret :: tables_1
/-- a 'code' word, met by the world's own term for the bytes: nothing is compared byte by byte -/
theorem code_word {y : MethodName} {bytes : ByteArray} {mx : Nat} {rt : Option FieldType} {a : Array Value} {s : State} {m : MethodId} {meth : Method} {c : Code} (h1 : s.methodNamed? y = some m) (h2 : s.vm.method? m = some meth) (h3 : meth.code = some c) (h4 : c.code = bytes)
    (h5 : (c.maxLocals == mx && c.exceptionTable.isEmpty && decide (c.maxStack ≤ mostOperands) && decide (meth.sig.returnType = rt) && !meth.locks && decide (parseMethodDescriptor y.desc = some meth.sig)) = true) : (Jvm.Cond.code y bytes mx rt).before a s = true := by
  simp only [Bool.and_eq_true, beq_iff_eq, Bool.not_eq_true', decide_eq_true_eq] at h5
  obtain ⟨⟨⟨⟨⟨g1, g2⟩, g3⟩, g4⟩, g5⟩, g6⟩ := h5
  simp [Cond.before, Cond.holds, Cond.value, h1, h2, h3, h4, g1, g2, g3, g4, g5, g6]
def isCode : Jvm.Cond → Bool
  | .code _ _ _ _ => true
  | _ => false
theorem all_split {L : List Jvm.Cond} {P : Jvm.Cond → Bool} (h1 : L.all (fun c => isCode c || P c) = true) (h2 : ∀ c ∈ L.filter isCode, P c = true) : L.all P = true := by
  refine List.all_eq_true.mpr fun c hc => ?_
  have h := List.all_eq_true.mp h1 c hc
  rcases Bool.eq_false_or_eq_true (isCode c) with hi | hi
  · exact h2 c (List.mem_filter.mpr ⟨hc, hi⟩)
  · simpa [hi] using h
set_option maxRecDepth 65536 in
theorem w_c0 : (Jvm.Cond.code x code maxLocals ret).before args0 about1 = true := code_word (m := ⟨1, 3⟩) (meth := k1m3) (c := k1c3) (by decide +kernel) rfl rfl rfl (by decide +kernel)
set_option maxRecDepth 65536 in
theorem w_c1 : (Jvm.Cond.code ({ cls := "com/example/abox_to_sql/aboxtosql/AddedAssertionEqualsPinLaw", name := "len", desc := "(I)I" } : Jvm.MethodName) method_2_code (1 : Nat) (Option.some Jvm.ClassFile.FieldType.int)).before args0 about1 = true := code_word (m := ⟨1, 1⟩) (meth := k1m1) (c := k1c1) (by decide +kernel) rfl rfl rfl (by decide +kernel)
set_option maxRecDepth 65536 in
theorem w_c2 : (Jvm.Cond.code ({ cls := "com/example/abox_to_sql/aboxtosql/AddedAssertionEqualsPinLaw", name := "str", desc := "(ICC)Ljava/lang/String;" } : Jvm.MethodName) method_3_code (4 : Nat) (Option.some (Jvm.ClassFile.FieldType.object "java/lang/String"))).before args0 about1 = true := code_word (m := ⟨1, 2⟩) (meth := k1m2) (c := k1c2) (by decide +kernel) rfl rfl rfl (by decide +kernel)
set_option maxRecDepth 65536 in
theorem w_c3 : (Jvm.Cond.code ({ cls := "java/lang/String", name := "<init>", desc := "([C)V" } : Jvm.MethodName) jdk_42_method_3_code (2 : Nat) (Option.none : Option Jvm.ClassFile.FieldType)).before args0 about1 = true := code_word (m := ⟨7, 1⟩) (meth := k7m1) (c := k7c1) (by decide +kernel) rfl rfl rfl (by decide +kernel)
set_option maxRecDepth 65536 in
theorem w_c4 : (Jvm.Cond.code ({ cls := "java/lang/String", name := "<init>", desc := "([CIILjava/lang/Void;)V" } : Jvm.MethodName) jdk_42_method_149_code (6 : Nat) (Option.none : Option Jvm.ClassFile.FieldType)).before args0 about1 = true := code_word (m := ⟨7, 3⟩) (meth := k7m3) (c := k7c3) (by decide +kernel) rfl rfl rfl (by decide +kernel)
set_option maxRecDepth 65536 in
theorem w_c5 : (Jvm.Cond.code ({ cls := "java/lang/Object", name := "<init>", desc := "()V" } : Jvm.MethodName) object_method_1_code (1 : Nat) (Option.none : Option Jvm.ClassFile.FieldType)).before args0 about1 = true := code_word (m := ⟨0, 0⟩) (meth := k0m0) (c := k0c0) (by decide +kernel) rfl rfl rfl (by decide +kernel)
set_option maxRecDepth 65536 in
theorem w_c6 : (Jvm.Cond.code ({ cls := "java/lang/StringUTF16", name := "compress", desc := "([CII)[B" } : Jvm.MethodName) jdk_52_method_16_code (6 : Nat) (Option.some (Jvm.ClassFile.FieldType.array Jvm.ClassFile.FieldType.byte))).before args0 about1 = true := code_word (m := ⟨8, 2⟩) (meth := k8m2) (c := k8c2) (by decide +kernel) rfl rfl rfl (by decide +kernel)
set_option maxRecDepth 65536 in
theorem w_c7 : (Jvm.Cond.code ({ cls := "java/lang/StringUTF16", name := "compress", desc := "([CI[BII)I" } : Jvm.MethodName) jdk_52_method_21_code (7 : Nat) (Option.some Jvm.ClassFile.FieldType.int)).before args0 about1 = true := code_word (m := ⟨8, 3⟩) (meth := k8m3) (c := k8c3) (by decide +kernel) rfl rfl rfl (by decide +kernel)
set_option maxRecDepth 65536 in
theorem w_c8 : (Jvm.Cond.code ({ cls := "java/lang/StringUTF16", name := "coderFromArrayLen", desc := "([BI)B" } : Jvm.MethodName) jdk_52_method_15_code (2 : Nat) (Option.some Jvm.ClassFile.FieldType.byte)).before args0 about1 = true := code_word (m := ⟨8, 1⟩) (meth := k8m1) (c := k8c1) (by decide +kernel) rfl rfl rfl (by decide +kernel)
set_option maxRecDepth 65536 in
theorem w_c9 : (Jvm.Cond.code ({ cls := "com/example/abox_to_sql/aboxtosql/AddedAssertion", name := "<init>", desc := "(Ljava/lang/String;II)V" } : Jvm.MethodName) prog_2_method_1_code (4 : Nat) (Option.none : Option Jvm.ClassFile.FieldType)).before args0 about1 = true := code_word (m := ⟨9, 0⟩) (meth := k9m0) (c := k9c0) (by decide +kernel) rfl rfl rfl (by decide +kernel)
set_option maxRecDepth 65536 in
theorem w_c10 : (Jvm.Cond.code ({ cls := "java/util/Objects", name := "requireNonNull", desc := "(Ljava/lang/Object;Ljava/lang/String;)Ljava/lang/Object;" } : Jvm.MethodName) jdk_31_method_11_code (2 : Nat) (Option.some (Jvm.ClassFile.FieldType.object "java/lang/Object"))).before args0 about1 = true := code_word (m := ⟨10, 1⟩) (meth := k10m1) (c := k10c1) (by decide +kernel) rfl rfl rfl (by decide +kernel)
set_option maxRecDepth 65536 in
theorem w_c11 : (Jvm.Cond.code ({ cls := "com/example/abox_to_sql/aboxtosql/AddedAssertion", name := "equals", desc := "(Ljava/lang/Object;)Z" } : Jvm.MethodName) prog_2_method_5_code (3 : Nat) (Option.some Jvm.ClassFile.FieldType.boolean)).before args0 about1 = true := code_word (m := ⟨9, 1⟩) (meth := k9m1) (c := k9c1) (by decide +kernel) rfl rfl rfl (by decide +kernel)
set_option maxRecDepth 65536 in
theorem w_c12 : (Jvm.Cond.code ({ cls := "java/lang/String", name := "equals", desc := "(Ljava/lang/Object;)Z" } : Jvm.MethodName) jdk_42_method_66_code (3 : Nat) (Option.some Jvm.ClassFile.FieldType.boolean)).before args0 about1 = true := code_word (m := ⟨7, 2⟩) (meth := k7m2) (c := k7c2) (by decide +kernel) rfl rfl rfl (by decide +kernel)
set_option maxRecDepth 65536 in
theorem w_c13 : (Jvm.Cond.code ({ cls := "java/lang/StringLatin1", name := "equals", desc := "([B[B)Z" } : Jvm.MethodName) jdk_43_method_13_code (3 : Nat) (Option.some Jvm.ClassFile.FieldType.boolean)).before args0 about1 = true := code_word (m := ⟨11, 1⟩) (meth := k11m1) (c := k11c1) (by decide +kernel) rfl rfl rfl (by decide +kernel)
def codes1 : List Jvm.Cond := [Jvm.Cond.code x code maxLocals ret, Jvm.Cond.code ({ cls := "com/example/abox_to_sql/aboxtosql/AddedAssertionEqualsPinLaw", name := "len", desc := "(I)I" } : Jvm.MethodName) method_2_code (1 : Nat) (Option.some Jvm.ClassFile.FieldType.int), Jvm.Cond.code ({ cls := "com/example/abox_to_sql/aboxtosql/AddedAssertionEqualsPinLaw", name := "str", desc := "(ICC)Ljava/lang/String;" } : Jvm.MethodName) method_3_code (4 : Nat) (Option.some (Jvm.ClassFile.FieldType.object "java/lang/String")), Jvm.Cond.code ({ cls := "java/lang/String", name := "<init>", desc := "([C)V" } : Jvm.MethodName) jdk_42_method_3_code (2 : Nat) (Option.none : Option Jvm.ClassFile.FieldType), Jvm.Cond.code ({ cls := "java/lang/String", name := "<init>", desc := "([CIILjava/lang/Void;)V" } : Jvm.MethodName) jdk_42_method_149_code (6 : Nat) (Option.none : Option Jvm.ClassFile.FieldType), Jvm.Cond.code ({ cls := "java/lang/Object", name := "<init>", desc := "()V" } : Jvm.MethodName) object_method_1_code (1 : Nat) (Option.none : Option Jvm.ClassFile.FieldType), Jvm.Cond.code ({ cls := "java/lang/StringUTF16", name := "compress", desc := "([CII)[B" } : Jvm.MethodName) jdk_52_method_16_code (6 : Nat) (Option.some (Jvm.ClassFile.FieldType.array Jvm.ClassFile.FieldType.byte)), Jvm.Cond.code ({ cls := "java/lang/StringUTF16", name := "compress", desc := "([CI[BII)I" } : Jvm.MethodName) jdk_52_method_21_code (7 : Nat) (Option.some Jvm.ClassFile.FieldType.int), Jvm.Cond.code ({ cls := "java/lang/StringUTF16", name := "coderFromArrayLen", desc := "([BI)B" } : Jvm.MethodName) jdk_52_method_15_code (2 : Nat) (Option.some Jvm.ClassFile.FieldType.byte), Jvm.Cond.code ({ cls := "com/example/abox_to_sql/aboxtosql/AddedAssertion", name := "<init>", desc := "(Ljava/lang/String;II)V" } : Jvm.MethodName) prog_2_method_1_code (4 : Nat) (Option.none : Option Jvm.ClassFile.FieldType), Jvm.Cond.code ({ cls := "java/util/Objects", name := "requireNonNull", desc := "(Ljava/lang/Object;Ljava/lang/String;)Ljava/lang/Object;" } : Jvm.MethodName) jdk_31_method_11_code (2 : Nat) (Option.some (Jvm.ClassFile.FieldType.object "java/lang/Object")), Jvm.Cond.code ({ cls := "com/example/abox_to_sql/aboxtosql/AddedAssertion", name := "equals", desc := "(Ljava/lang/Object;)Z" } : Jvm.MethodName) prog_2_method_5_code (3 : Nat) (Option.some Jvm.ClassFile.FieldType.boolean), Jvm.Cond.code ({ cls := "java/lang/String", name := "equals", desc := "(Ljava/lang/Object;)Z" } : Jvm.MethodName) jdk_42_method_66_code (3 : Nat) (Option.some Jvm.ClassFile.FieldType.boolean), Jvm.Cond.code ({ cls := "java/lang/StringLatin1", name := "equals", desc := "([B[B)Z" } : Jvm.MethodName) jdk_43_method_13_code (3 : Nat) (Option.some Jvm.ClassFile.FieldType.boolean)]
set_option maxRecDepth 65536 in
theorem codes_eq : words1.filter isCode = codes1 := rfl
theorem w_codes : ∀ c ∈ words1.filter isCode, c.before args0 about1 = true := by
  rw [codes_eq]
  intro c hc
  simp only [codes1, List.mem_cons, List.not_mem_nil, or_false] at hc
  rcases hc with rfl | rfl | rfl | rfl | rfl | rfl | rfl | rfl | rfl | rfl | rfl | rfl | rfl | rfl
  · exact w_c0
  · exact w_c1
  · exact w_c2
  · exact w_c3
  · exact w_c4
  · exact w_c5
  · exact w_c6
  · exact w_c7
  · exact w_c8
  · exact w_c9
  · exact w_c10
  · exact w_c11
  · exact w_c12
  · exact w_c13
set_option maxRecDepth 65536 in
theorem w_t1 : (words1.take 24).all (fun c => isCode c || c.before args0 about1) = true := by decide +kernel
set_option maxRecDepth 65536 in
theorem w_t2 : ((words1.drop 24).take 24).all (fun c => isCode c || c.before args0 about1) = true := by decide +kernel
set_option maxRecDepth 65536 in
theorem w_t3 : (((words1.drop 24).drop 24).take 24).all (fun c => isCode c || c.before args0 about1) = true := by decide +kernel
set_option maxRecDepth 65536 in
theorem w_t4 : (((words1.drop 24).drop 24).drop 24).all (fun c => isCode c || c.before args0 about1) = true := by decide +kernel
theorem w_tables : (allAtoms (Jvm.Cond.code x code maxLocals ret :: tables_1)).before args0 about1 = true := by
  rw [allAtoms_all]
  show words1.all (fun c => c.before args0 about1) = true
  refine all_split ?_ w_codes
  rw [← List.take_append_drop 24 words1, List.all_append, w_t1, ← List.take_append_drop 24 (words1.drop 24), List.all_append, w_t2, ← List.take_append_drop 24 ((words1.drop 24).drop 24), List.all_append, w_t3, w_t4]
  rfl
set_option maxRecDepth 65536 in
theorem w_rest : rest_1_c.before args0 about1 = true := by decide +kernel
set_option maxRecDepth 65536 in
theorem w_case : (Jvm.Cond.and given_1 narrow_1).before args0 about1 = true := by decide +kernel
set_option maxRecDepth 65536 in
theorem w_consts : constsHeld consts_1 about1 := Jvm.Lit.constsHeldB_iff.mp (by decide +kernel)
theorem w_applies : (headSpec (Jvm.Cond.code x code maxLocals ret :: tables_1) room_1).applies x e0.platform about1 = true :=
  (Spec.applies_iff w_frames).mpr ⟨w_running, w_runnable, w_alone, w_named, w_hears, w_ripe, w_room, w_tables⟩
theorem atStart : AtStart classFile x code maxLocals ret World_1 tables_1 room_1 Calls_1 rest_1 Pre_1 launch0 p0 e0 about1 theMethod args0 below0 :=
  ⟨lists_1, trivial, launch0.admits_env _ _ _, launch0.least_env, fairChoices_fair.cas, fairChoices_fair.clock, w_frames, w_args, w_heap, w_applies, ⟨w_consts, trivial⟩, w_rest, w_case⟩
end start1
theorem witness_1 : WitnessClaimed_1 := ⟨start1.p0, start1.e0, start1.about1, start1.theMethod, start1.args0, start1.below0, start1.atStart⟩
end Jvm.Pilot.@@N@@
