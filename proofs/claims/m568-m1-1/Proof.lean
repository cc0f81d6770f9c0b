import JvmDerived
import JvmDerived.Pilot.@@N@@Statement
import JvmDerived.Pilot.@@N@@Code
set_option linter.unusedVariables false
set_option linter.unusedSimpArgs false
namespace Jvm.RoadKit
open Sem ClassFile Op Lib Jvm.Stand Jvm.Free Jvm.LawKit
section New
variable {p : Program} {l : Launch} {e : Env} {R : Room} {s : State} {m : MethodId} {args : Array Value} {below : List Frame} {meth : Method} {c : Code} {T : State} {locs : List Loc} {cells slots : Nat}
theorem retI (X : Stand p l e R s m args below meth c T locs cells slots) (hx : p.tables.exec = Jvm.exec) {pc : Nat} {Ls : Array Slot} {z : Int32} {rest : List Value} (hret : meth.sig.returnType = some .int) (hd : decode c.code pc = .ok (.ireturn, 1)) {fs : List Frame}
    (hl : ∀ (f : JFrame) (acts : List Action), f.method = m → f.locked = none → f.entered = [] → (doReturn e (T.setTop f) acts (some (.int z))).1 = T.setFrames fs) : Steps p.tables e below (T.setTop (mkF m pc Ls (.int z :: rest))) (T.setFrames fs) := by
  have hm' : T.vm.method? m = some meth := X.method'
  have hn : narrow .int (.int z) = .int z := rfl
  show Steps p.tables e below (T.setTop { method := m, pc := pc, locals := Ls, stack := _ :: rest, locked := none }) _
  jvm_step X.here [X.here.top, hx, hd, hm', hret, hn]
  first | (intro acts; rw [hl _ acts rfl rfl rfl]) | rw [hl _ _ rfl rfl rfl]
  exact Steps.refl _
end New
end Jvm.RoadKit
namespace Jvm.Pilot.@@N@@
open Jvm Jvm.ClassFile Sem Op Lib Jvm.Free Jvm.Stand Jvm.LawKit Jvm.RoadKit Bundle Jvm.Pilot.@@N@@.Jvm.D
/-- the run comes from A to some end of which R holds -/
def Goes (tb : Tables) (e : Env) (below : List Frame) (A : State) (R : State → Outcome → Prop) : Prop := ∃ t o, Steps tb e below A t ∧ R t o
theorem Goes.to {tb : Tables} {e : Env} {below : List Frame} {A B : State} {R : State → Outcome → Prop} (k : ∀ t, Steps tb e below A t → Steps tb e below B t) (h : Goes tb e below A R) : Goes tb e below B R := by
  obtain ⟨t, o, h1, h2⟩ := h
  exact ⟨t, o, k t h1, h2⟩
/-- how a body ends: it has returned, of value and heap Q holds, and no more than that many cells and slots are new -/
def own_R (below : List Frame) (s : State) (Q : Option Value → Heap → List Loc → Prop) (k n : Nat) : State → Outcome → Prop := fun s₂ o => s₂.status = .running ∧ Ended s₂ below o ∧ ∃ v L, o = .returned v ∧ Q v s₂.heap L ∧ FrameEnd s o s₂ L k n
theorem Goes.tr {tb : Tables} {e : Env} {below : List Frame} {A B : State} {R : State → Outcome → Prop} (k : Steps tb e below B A) (h : Goes tb e below A R) : Goes tb e below B R := Goes.to (fun _ z => k.trans z) h


abbrev own_alpha (x : Int32) : Prop := (97 ≤ x.toInt ∧ x.toInt ≤ 122) ∨ (65 ≤ x.toInt ∧ x.toInt ≤ 90)
abbrev own_ref (x : Int32) : Prop := 0 ≤ ((x ||| (32 : Int32)) - (97 : Int32)).toInt ∧ ((x ||| (32 : Int32)) - (97 : Int32)).toInt < 26
theorem own_or64 : ∀ b : Fin 64, b.val ||| 32 = if b.val < 32 then b.val + 32 else b.val := by decide
theorem own_or32 (n : Nat) : n ||| 32 = if n % 64 < 32 then n + 32 else n := by
  have e : n = 2 ^ 6 * (n / 64) ||| (n % 64) := by
    rw [← Nat.two_pow_add_eq_or_of_lt (by omega : n % 64 < 2 ^ 6)]; omega
  have h2 := own_or64 ⟨n % 64, by omega⟩
  simp only at h2
  have h3 : (n % 64 ||| 32) < 2 ^ 6 := by rw [h2]; split <;> omega
  have e2 : n ||| 32 = 2 ^ 6 * (n / 64) + (n % 64 ||| 32) := by
    rw [Nat.two_pow_add_eq_or_of_lt h3, ← Nat.or_assoc, ← e]
  rw [e2, h2]; split <;> omega
theorem own_toNat (x : Int32) (h : 0 ≤ x.toInt) : (x.toBitVec.toNat : Int) = x.toInt := by
  have h1 : x.toInt = x.toBitVec.toInt := rfl
  rw [h1] at h ⊢
  rw [BitVec.toInt_eq_toNat_cond] at h ⊢
  have := x.toBitVec.isLt
  split at h <;> rename_i q
  · rw [if_pos q]
  · omega
theorem own_or_toInt (x : Int32) (h0 : 0 ≤ x.toInt) (h1 : x.toInt < 65536) : (x ||| (32 : Int32)).toInt = if x.toInt % 64 < 32 then x.toInt + 32 else x.toInt := by
  have e := own_toNat x h0
  have e1 : (x ||| (32 : Int32)).toBitVec.toNat = x.toBitVec.toNat ||| 32 := by
    show (x.toBitVec ||| (32#32)).toNat = _
    rw [BitVec.toNat_or]; rfl
  have e2 := own_or32 x.toBitVec.toNat
  have e3 : (x ||| (32 : Int32)).toInt = (x ||| (32 : Int32)).toBitVec.toInt := rfl
  rw [e3, BitVec.toInt_eq_toNat_cond, e1, e2]
  split <;> split <;> split at * <;> omega
theorem own_law (x : Int32) (h0 : 0 ≤ x.toInt) (h1 : x.toInt < 65536) : own_alpha x ↔ own_ref x := by
  have e := own_or_toInt x h0 h1
  have k1 := c_isub (x ||| (32 : Int32)) (97 : Int32)
  have k2 : (97 : Int32).toInt = 97 := rfl
  have k3 := rng32 ((x ||| (32 : Int32)) - (97 : Int32))
  unfold own_alpha own_ref
  split at e <;> omega

theorem d1_0 : decode prog_28_method_3_code 0 = .ok (.iload_n 0, 1) := by decide +kernel
theorem d1_1 : decode prog_28_method_3_code 1 = .ok (.bipush 97, 2) := by decide +kernel
theorem d1_3 : decode prog_28_method_3_code 3 = .ok (.if_icmp .lt 9, 3) := by decide +kernel
theorem d1_6 : decode prog_28_method_3_code 6 = .ok (.iload_n 0, 1) := by decide +kernel
theorem d1_7 : decode prog_28_method_3_code 7 = .ok (.bipush 122, 2) := by decide +kernel
theorem d1_9 : decode prog_28_method_3_code 9 = .ok (.if_icmp .le 15, 3) := by decide +kernel
theorem d1_12 : decode prog_28_method_3_code 12 = .ok (.iload_n 0, 1) := by decide +kernel
theorem d1_13 : decode prog_28_method_3_code 13 = .ok (.bipush 65, 2) := by decide +kernel
theorem d1_15 : decode prog_28_method_3_code 15 = .ok (.if_icmp .lt 13, 3) := by decide +kernel
theorem d1_18 : decode prog_28_method_3_code 18 = .ok (.iload_n 0, 1) := by decide +kernel
theorem d1_19 : decode prog_28_method_3_code 19 = .ok (.bipush 90, 2) := by decide +kernel
theorem d1_21 : decode prog_28_method_3_code 21 = .ok (.if_icmp .gt 7, 3) := by decide +kernel
theorem d1_24 : decode prog_28_method_3_code 24 = .ok (.iconst 1, 1) := by decide +kernel
theorem d1_25 : decode prog_28_method_3_code 25 = .ok (.goto 4, 3) := by decide +kernel
theorem d1_28 : decode prog_28_method_3_code 28 = .ok (.iconst 0, 1) := by decide +kernel
theorem d1_29 : decode prog_28_method_3_code 29 = .ok (.ireturn, 1) := by decide +kernel
theorem own_pn_1 : plainName "com/example/flows_over_http/flowsoverhttp/structuredfields/Grammar" = true := by first | (simp [plainName, overriddenIn]; done) | decide +kernel
theorem own_ef_own_rm1 (m : MethodId) (x0 : Int32) : entryFrame m #[(.int x0)] 1 = mkF m 0 #[.val (.int x0)] [] := by first | (simp [entryFrame, mkF, argsToLocals, Value.category]; done) | rfl
def own_Q_own_rm1 (Z : State) (x0 : Int32)  (h0 : Heap) (n0 : Nat) (v : Option Value) (h : Heap) (L : List Loc) : Prop := v = some (.int (if own_alpha x0 then (1 : Int32) else (0 : Int32))) ∧ Fr n0 L ∧ h = h0
set_option maxRecDepth 65536 in
set_option maxHeartbeats 40000000 in
theorem own_rm1 (l : Launch) (Z : State) (a0 : Array Value) (hw : ∀ d ∈ tables_1, d.before a0 Z = true) (ws : List Jvm.Cond) (x0 : Int32)  (h0 : Heap) (n0 : Nat) (Z0 : n0 ≤ h0.size)  :
    MetFree l (⟨"com/example/flows_over_http/flowsoverhttp/structuredfields/Grammar", "isAlpha", "(C)Z"⟩ : MethodName) (head1 (Jvm.Cond.code (⟨"com/example/flows_over_http/flowsoverhttp/structuredfields/Grammar", "isAlpha", "(C)Z"⟩ : MethodName) prog_28_method_3_code 1 (some .boolean) :: ws) ({ frames := 0, cells := 0, slots := 0, locals := 0 } : Room)) (fun a U => a = #[(.int x0)] ∧ Z.Warmed39 U.vm ∧ U.heap = h0) (fun _ _ _ _ _ => True) (fun _ U o U' => ∃ v L, o = .returned v ∧ own_Q_own_rm1 Z x0 h0 n0 v U'.heap L ∧ FrameEnd U o U' L ({ frames := 0, cells := 0, slots := 0, locals := 0 } : Room).cells ({ frames := 0, cells := 0, slots := 0, locals := 0 } : Room).slots) := by
  refine MetFree.of_bodySF (plainFor_of_name own_pn_1) hisR ?_
  intro p e s m args below meth c s₁ Bd hml0 hP hK
  obtain ⟨rfl, hZ, hh⟩ := hP
  have hx := Bd.exec
  have hby := Bd.bytes
  have hml : c.maxLocals = 1 := hml0
  have hown : s.vm.findClass "com/example/flows_over_http/flowsoverhttp/structuredfields/Grammar" = some m.cls := findClass_of_methodNamed Bd.named
  have hnm := (name_of_methodNamed Bd.named Bd.method).1
  have X0 : Stand p l e ({ frames := 0, cells := 0, slots := 0, locals := 0 } : Room) s m #[(.int x0)] below meth c s₁ [] 0 0 := Stand.of_body Bd
  have e0 : s₁.heap = h0 := by rw [← hh, Bd.state]; rfl
  have N0 := Fr.nil n0
  show Goes p.tables e below _ (own_R below s (own_Q_own_rm1 Z x0 h0 n0) ({ frames := 0, cells := 0, slots := 0, locals := 0 } : Room).cells ({ frames := 0, cells := 0, slots := 0, locals := 0 } : Room).slots)
  refine Goes.to (fun t k => castTop (own_ef_own_rm1 m x0) k) ?_
  show Goes p.tables e below (s₁.setTop (mkF m 0 #[.val (.int x0)] [])) _
  refine Goes.to (fun _ k => XS.iloadN X0.here hx rfl (hb hby d1_0) rfl k) ?_
  show Goes p.tables e below (s₁.setTop (mkF m 1 #[.val (.int x0)] [(.int x0)])) _
  refine Goes.to (fun _ k => XS.bipush X0.here hx rfl (hb hby d1_1) k) ?_
  show Goes p.tables e below (s₁.setTop (mkF m 3 #[.val (.int x0)] [(.int (97 : Int32)), (.int x0)])) _
  by_cases hc1 : x0 < (97 : Int32)
  · refine Goes.to (fun _ k => XS.icmpYes X0.here hx rfl (pc0 := 3) (pc' := 12) rfl (hb hby d1_3) rfl (tlt hc1).1 (by decide) (by decide) k) ?_
    show Goes p.tables e below (s₁.setTop (mkF m 12 #[.val (.int x0)] [])) _
    refine Goes.to (fun _ k => XS.iloadN X0.here hx rfl (hb hby d1_12) rfl k) ?_
    show Goes p.tables e below (s₁.setTop (mkF m 13 #[.val (.int x0)] [(.int x0)])) _
    refine Goes.to (fun _ k => XS.bipush X0.here hx rfl (hb hby d1_13) k) ?_
    show Goes p.tables e below (s₁.setTop (mkF m 15 #[.val (.int x0)] [(.int (65 : Int32)), (.int x0)])) _
    by_cases hc2 : x0 < (65 : Int32)
    · refine Goes.to (fun _ k => XS.icmpYes X0.here hx rfl (pc0 := 15) (pc' := 28) rfl (hb hby d1_15) rfl (tlt hc2).1 (by decide) (by decide) k) ?_
      show Goes p.tables e below (s₁.setTop (mkF m 28 #[.val (.int x0)] [])) _
      refine Goes.to (fun _ k => XS.iconst X0.here hx rfl (hb hby d1_28) k) ?_
      show Goes p.tables e below (s₁.setTop (mkF m 29 #[.val (.int x0)] [(.int (0 : Int32))])) _
      obtain ⟨fs, hr, hrun, hended, hW, hsame⟩ := X0.leave (v := some (.int (0 : Int32))) (fun h => by rw [Bd.returns] at h; cases h)
      have hv : (some (.int (0 : Int32)) : Option Value) = some (.int (if own_alpha x0 then (1 : Int32) else (0 : Int32))) := by
        rw [if_neg (show ¬ own_alpha x0 from by
          unfold own_alpha
          have k1 := rng32 x0
          have k2 : (97 : Int32).toInt = 97 := rfl
          have k3 : x0.toInt < (97 : Int32).toInt := Int32.lt_iff_toInt_lt.mp hc1
          have k4 : (65 : Int32).toInt = 65 := rfl
          have k5 : x0.toInt < (65 : Int32).toInt := Int32.lt_iff_toInt_lt.mp hc2
          omega)]
      exact ⟨_, _, retN X0 hx (t := .boolean) Bd.returns (by simp) (hb hby d1_29) hr, hrun, hended, _, _, rfl, ⟨hv, N0, e0⟩, ⟨_, rfl⟩, hW, hsame.mono (by decide) (by decide)⟩
    · refine Goes.to (fun _ k => XS.icmpNo X0.here hx rfl (hb hby d1_15) rfl (flt hc2).1 k) ?_
      show Goes p.tables e below (s₁.setTop (mkF m 18 #[.val (.int x0)] [])) _
      refine Goes.to (fun _ k => XS.iloadN X0.here hx rfl (hb hby d1_18) rfl k) ?_
      show Goes p.tables e below (s₁.setTop (mkF m 19 #[.val (.int x0)] [(.int x0)])) _
      refine Goes.to (fun _ k => XS.bipush X0.here hx rfl (hb hby d1_19) k) ?_
      show Goes p.tables e below (s₁.setTop (mkF m 21 #[.val (.int x0)] [(.int (90 : Int32)), (.int x0)])) _
      by_cases hc3 : (90 : Int32) < x0
      · refine Goes.to (fun _ k => XS.icmpYes X0.here hx rfl (pc0 := 21) (pc' := 28) rfl (hb hby d1_21) rfl (tlt hc3).2.2.1 (by decide) (by decide) k) ?_
        show Goes p.tables e below (s₁.setTop (mkF m 28 #[.val (.int x0)] [])) _
        refine Goes.to (fun _ k => XS.iconst X0.here hx rfl (hb hby d1_28) k) ?_
        show Goes p.tables e below (s₁.setTop (mkF m 29 #[.val (.int x0)] [(.int (0 : Int32))])) _
        obtain ⟨fs, hr, hrun, hended, hW, hsame⟩ := X0.leave (v := some (.int (0 : Int32))) (fun h => by rw [Bd.returns] at h; cases h)
        have hv : (some (.int (0 : Int32)) : Option Value) = some (.int (if own_alpha x0 then (1 : Int32) else (0 : Int32))) := by
          rw [if_neg (show ¬ own_alpha x0 from by
            unfold own_alpha
            have k1 := rng32 x0
            have k2 : (97 : Int32).toInt = 97 := rfl
            have k3 : x0.toInt < (97 : Int32).toInt := Int32.lt_iff_toInt_lt.mp hc1
            have k4 : (65 : Int32).toInt = 65 := rfl
            have k5 : ¬ x0.toInt < (65 : Int32).toInt := fun z => hc2 (Int32.lt_iff_toInt_lt.mpr z)
            have k6 : (90 : Int32).toInt = 90 := rfl
            have k7 : (90 : Int32).toInt < x0.toInt := Int32.lt_iff_toInt_lt.mp hc3
            omega)]
        exact ⟨_, _, retN X0 hx (t := .boolean) Bd.returns (by simp) (hb hby d1_29) hr, hrun, hended, _, _, rfl, ⟨hv, N0, e0⟩, ⟨_, rfl⟩, hW, hsame.mono (by decide) (by decide)⟩
      · refine Goes.to (fun _ k => XS.icmpNo X0.here hx rfl (hb hby d1_21) rfl (flt hc3).2.2.1 k) ?_
        show Goes p.tables e below (s₁.setTop (mkF m 24 #[.val (.int x0)] [])) _
        refine Goes.to (fun _ k => XS.iconst X0.here hx rfl (hb hby d1_24) k) ?_
        show Goes p.tables e below (s₁.setTop (mkF m 25 #[.val (.int x0)] [(.int (1 : Int32))])) _
        refine Goes.to (fun _ k => XS.goto X0.here hx rfl (pc0 := 25) (pc' := 29) rfl (hb hby d1_25) (by decide) (by decide) k) ?_
        show Goes p.tables e below (s₁.setTop (mkF m 29 #[.val (.int x0)] [(.int (1 : Int32))])) _
        obtain ⟨fs, hr, hrun, hended, hW, hsame⟩ := X0.leave (v := some (.int (1 : Int32))) (fun h => by rw [Bd.returns] at h; cases h)
        have hv : (some (.int (1 : Int32)) : Option Value) = some (.int (if own_alpha x0 then (1 : Int32) else (0 : Int32))) := by
          rw [if_pos (show own_alpha x0 from by
            unfold own_alpha
            have k1 := rng32 x0
            have k2 : (97 : Int32).toInt = 97 := rfl
            have k3 : x0.toInt < (97 : Int32).toInt := Int32.lt_iff_toInt_lt.mp hc1
            have k4 : (65 : Int32).toInt = 65 := rfl
            have k5 : ¬ x0.toInt < (65 : Int32).toInt := fun z => hc2 (Int32.lt_iff_toInt_lt.mpr z)
            have k6 : (90 : Int32).toInt = 90 := rfl
            have k7 : ¬ (90 : Int32).toInt < x0.toInt := fun z => hc3 (Int32.lt_iff_toInt_lt.mpr z)
            omega)]
        exact ⟨_, _, retN X0 hx (t := .boolean) Bd.returns (by simp) (hb hby d1_29) hr, hrun, hended, _, _, rfl, ⟨hv, N0, e0⟩, ⟨_, rfl⟩, hW, hsame.mono (by decide) (by decide)⟩
  · refine Goes.to (fun _ k => XS.icmpNo X0.here hx rfl (hb hby d1_3) rfl (flt hc1).1 k) ?_
    show Goes p.tables e below (s₁.setTop (mkF m 6 #[.val (.int x0)] [])) _
    refine Goes.to (fun _ k => XS.iloadN X0.here hx rfl (hb hby d1_6) rfl k) ?_
    show Goes p.tables e below (s₁.setTop (mkF m 7 #[.val (.int x0)] [(.int x0)])) _
    refine Goes.to (fun _ k => XS.bipush X0.here hx rfl (hb hby d1_7) k) ?_
    show Goes p.tables e below (s₁.setTop (mkF m 9 #[.val (.int x0)] [(.int (122 : Int32)), (.int x0)])) _
    by_cases hc4 : (122 : Int32) < x0
    · refine Goes.to (fun _ k => XS.icmpNo X0.here hx rfl (hb hby d1_9) rfl (tlt hc4).2.2.2 k) ?_
      show Goes p.tables e below (s₁.setTop (mkF m 12 #[.val (.int x0)] [])) _
      refine Goes.to (fun _ k => XS.iloadN X0.here hx rfl (hb hby d1_12) rfl k) ?_
      show Goes p.tables e below (s₁.setTop (mkF m 13 #[.val (.int x0)] [(.int x0)])) _
      refine Goes.to (fun _ k => XS.bipush X0.here hx rfl (hb hby d1_13) k) ?_
      show Goes p.tables e below (s₁.setTop (mkF m 15 #[.val (.int x0)] [(.int (65 : Int32)), (.int x0)])) _
      by_cases hc5 : x0 < (65 : Int32)
      · refine Goes.to (fun _ k => XS.icmpYes X0.here hx rfl (pc0 := 15) (pc' := 28) rfl (hb hby d1_15) rfl (tlt hc5).1 (by decide) (by decide) k) ?_
        show Goes p.tables e below (s₁.setTop (mkF m 28 #[.val (.int x0)] [])) _
        refine Goes.to (fun _ k => XS.iconst X0.here hx rfl (hb hby d1_28) k) ?_
        show Goes p.tables e below (s₁.setTop (mkF m 29 #[.val (.int x0)] [(.int (0 : Int32))])) _
        obtain ⟨fs, hr, hrun, hended, hW, hsame⟩ := X0.leave (v := some (.int (0 : Int32))) (fun h => by rw [Bd.returns] at h; cases h)
        have hv : (some (.int (0 : Int32)) : Option Value) = some (.int (if own_alpha x0 then (1 : Int32) else (0 : Int32))) := by
          rw [if_neg (show ¬ own_alpha x0 from by
            unfold own_alpha
            have k1 := rng32 x0
            have k2 : (97 : Int32).toInt = 97 := rfl
            have k3 : ¬ x0.toInt < (97 : Int32).toInt := fun z => hc1 (Int32.lt_iff_toInt_lt.mpr z)
            have k4 : (122 : Int32).toInt = 122 := rfl
            have k5 : (122 : Int32).toInt < x0.toInt := Int32.lt_iff_toInt_lt.mp hc4
            have k6 : (65 : Int32).toInt = 65 := rfl
            have k7 : x0.toInt < (65 : Int32).toInt := Int32.lt_iff_toInt_lt.mp hc5
            omega)]
        exact ⟨_, _, retN X0 hx (t := .boolean) Bd.returns (by simp) (hb hby d1_29) hr, hrun, hended, _, _, rfl, ⟨hv, N0, e0⟩, ⟨_, rfl⟩, hW, hsame.mono (by decide) (by decide)⟩
      · refine Goes.to (fun _ k => XS.icmpNo X0.here hx rfl (hb hby d1_15) rfl (flt hc5).1 k) ?_
        show Goes p.tables e below (s₁.setTop (mkF m 18 #[.val (.int x0)] [])) _
        refine Goes.to (fun _ k => XS.iloadN X0.here hx rfl (hb hby d1_18) rfl k) ?_
        show Goes p.tables e below (s₁.setTop (mkF m 19 #[.val (.int x0)] [(.int x0)])) _
        refine Goes.to (fun _ k => XS.bipush X0.here hx rfl (hb hby d1_19) k) ?_
        show Goes p.tables e below (s₁.setTop (mkF m 21 #[.val (.int x0)] [(.int (90 : Int32)), (.int x0)])) _
        by_cases hc6 : (90 : Int32) < x0
        · refine Goes.to (fun _ k => XS.icmpYes X0.here hx rfl (pc0 := 21) (pc' := 28) rfl (hb hby d1_21) rfl (tlt hc6).2.2.1 (by decide) (by decide) k) ?_
          show Goes p.tables e below (s₁.setTop (mkF m 28 #[.val (.int x0)] [])) _
          refine Goes.to (fun _ k => XS.iconst X0.here hx rfl (hb hby d1_28) k) ?_
          show Goes p.tables e below (s₁.setTop (mkF m 29 #[.val (.int x0)] [(.int (0 : Int32))])) _
          obtain ⟨fs, hr, hrun, hended, hW, hsame⟩ := X0.leave (v := some (.int (0 : Int32))) (fun h => by rw [Bd.returns] at h; cases h)
          have hv : (some (.int (0 : Int32)) : Option Value) = some (.int (if own_alpha x0 then (1 : Int32) else (0 : Int32))) := by
            rw [if_neg (show ¬ own_alpha x0 from by
              unfold own_alpha
              have k1 := rng32 x0
              have k2 : (97 : Int32).toInt = 97 := rfl
              have k3 : ¬ x0.toInt < (97 : Int32).toInt := fun z => hc1 (Int32.lt_iff_toInt_lt.mpr z)
              have k4 : (122 : Int32).toInt = 122 := rfl
              have k5 : (122 : Int32).toInt < x0.toInt := Int32.lt_iff_toInt_lt.mp hc4
              have k6 : (65 : Int32).toInt = 65 := rfl
              have k7 : ¬ x0.toInt < (65 : Int32).toInt := fun z => hc5 (Int32.lt_iff_toInt_lt.mpr z)
              have k8 : (90 : Int32).toInt = 90 := rfl
              have k9 : (90 : Int32).toInt < x0.toInt := Int32.lt_iff_toInt_lt.mp hc6
              omega)]
          exact ⟨_, _, retN X0 hx (t := .boolean) Bd.returns (by simp) (hb hby d1_29) hr, hrun, hended, _, _, rfl, ⟨hv, N0, e0⟩, ⟨_, rfl⟩, hW, hsame.mono (by decide) (by decide)⟩
        · refine Goes.to (fun _ k => XS.icmpNo X0.here hx rfl (hb hby d1_21) rfl (flt hc6).2.2.1 k) ?_
          show Goes p.tables e below (s₁.setTop (mkF m 24 #[.val (.int x0)] [])) _
          refine Goes.to (fun _ k => XS.iconst X0.here hx rfl (hb hby d1_24) k) ?_
          show Goes p.tables e below (s₁.setTop (mkF m 25 #[.val (.int x0)] [(.int (1 : Int32))])) _
          refine Goes.to (fun _ k => XS.goto X0.here hx rfl (pc0 := 25) (pc' := 29) rfl (hb hby d1_25) (by decide) (by decide) k) ?_
          show Goes p.tables e below (s₁.setTop (mkF m 29 #[.val (.int x0)] [(.int (1 : Int32))])) _
          obtain ⟨fs, hr, hrun, hended, hW, hsame⟩ := X0.leave (v := some (.int (1 : Int32))) (fun h => by rw [Bd.returns] at h; cases h)
          have hv : (some (.int (1 : Int32)) : Option Value) = some (.int (if own_alpha x0 then (1 : Int32) else (0 : Int32))) := by
            rw [if_pos (show own_alpha x0 from by
              unfold own_alpha
              have k1 := rng32 x0
              have k2 : (97 : Int32).toInt = 97 := rfl
              have k3 : ¬ x0.toInt < (97 : Int32).toInt := fun z => hc1 (Int32.lt_iff_toInt_lt.mpr z)
              have k4 : (122 : Int32).toInt = 122 := rfl
              have k5 : (122 : Int32).toInt < x0.toInt := Int32.lt_iff_toInt_lt.mp hc4
              have k6 : (65 : Int32).toInt = 65 := rfl
              have k7 : ¬ x0.toInt < (65 : Int32).toInt := fun z => hc5 (Int32.lt_iff_toInt_lt.mpr z)
              have k8 : (90 : Int32).toInt = 90 := rfl
              have k9 : ¬ (90 : Int32).toInt < x0.toInt := fun z => hc6 (Int32.lt_iff_toInt_lt.mpr z)
              omega)]
          exact ⟨_, _, retN X0 hx (t := .boolean) Bd.returns (by simp) (hb hby d1_29) hr, hrun, hended, _, _, rfl, ⟨hv, N0, e0⟩, ⟨_, rfl⟩, hW, hsame.mono (by decide) (by decide)⟩
    · refine Goes.to (fun _ k => XS.icmpYes X0.here hx rfl (pc0 := 9) (pc' := 24) rfl (hb hby d1_9) rfl (flt hc4).2.2.2 (by decide) (by decide) k) ?_
      show Goes p.tables e below (s₁.setTop (mkF m 24 #[.val (.int x0)] [])) _
      refine Goes.to (fun _ k => XS.iconst X0.here hx rfl (hb hby d1_24) k) ?_
      show Goes p.tables e below (s₁.setTop (mkF m 25 #[.val (.int x0)] [(.int (1 : Int32))])) _
      refine Goes.to (fun _ k => XS.goto X0.here hx rfl (pc0 := 25) (pc' := 29) rfl (hb hby d1_25) (by decide) (by decide) k) ?_
      show Goes p.tables e below (s₁.setTop (mkF m 29 #[.val (.int x0)] [(.int (1 : Int32))])) _
      obtain ⟨fs, hr, hrun, hended, hW, hsame⟩ := X0.leave (v := some (.int (1 : Int32))) (fun h => by rw [Bd.returns] at h; cases h)
      have hv : (some (.int (1 : Int32)) : Option Value) = some (.int (if own_alpha x0 then (1 : Int32) else (0 : Int32))) := by
        rw [if_pos (show own_alpha x0 from by
          unfold own_alpha
          have k1 := rng32 x0
          have k2 : (97 : Int32).toInt = 97 := rfl
          have k3 : ¬ x0.toInt < (97 : Int32).toInt := fun z => hc1 (Int32.lt_iff_toInt_lt.mpr z)
          have k4 : (122 : Int32).toInt = 122 := rfl
          have k5 : ¬ (122 : Int32).toInt < x0.toInt := fun z => hc4 (Int32.lt_iff_toInt_lt.mpr z)
          omega)]
      exact ⟨_, _, retN X0 hx (t := .boolean) Bd.returns (by simp) (hb hby d1_29) hr, hrun, hended, _, _, rfl, ⟨hv, N0, e0⟩, ⟨_, rfl⟩, hW, hsame.mono (by decide) (by decide)⟩

theorem d2_0 : decode method_2_code 0 = .ok (.iload_n 0, 1) := by decide +kernel
theorem d2_1 : decode method_2_code 1 = .ok (.bipush 32, 2) := by decide +kernel
theorem d2_3 : decode method_2_code 3 = .ok (.ior, 1) := by decide +kernel
theorem d2_4 : decode method_2_code 4 = .ok (.istore_n 1, 1) := by decide +kernel
theorem d2_5 : decode method_2_code 5 = .ok (.iload_n 1, 1) := by decide +kernel
theorem d2_6 : decode method_2_code 6 = .ok (.bipush 97, 2) := by decide +kernel
theorem d2_8 : decode method_2_code 8 = .ok (.isub, 1) := by decide +kernel
theorem d2_9 : decode method_2_code 9 = .ok (.istore_n 2, 1) := by decide +kernel
theorem d2_10 : decode method_2_code 10 = .ok (.iload_n 2, 1) := by decide +kernel
theorem d2_11 : decode method_2_code 11 = .ok (.ifCond .lt 13, 3) := by decide +kernel
theorem d2_14 : decode method_2_code 14 = .ok (.iload_n 2, 1) := by decide +kernel
theorem d2_15 : decode method_2_code 15 = .ok (.bipush 26, 2) := by decide +kernel
theorem d2_17 : decode method_2_code 17 = .ok (.if_icmp .ge 7, 3) := by decide +kernel
theorem d2_20 : decode method_2_code 20 = .ok (.iconst 1, 1) := by decide +kernel
theorem d2_21 : decode method_2_code 21 = .ok (.goto 4, 3) := by decide +kernel
theorem d2_24 : decode method_2_code 24 = .ok (.iconst 0, 1) := by decide +kernel
theorem d2_25 : decode method_2_code 25 = .ok (.ireturn, 1) := by decide +kernel
theorem own_pn_2 : plainName "com/example/flows_over_http/flowsoverhttp/structuredfields/GrammarIsAlphaPinLaw" = true := by first | (simp [plainName, overriddenIn]; done) | decide +kernel
theorem own_ef_own_rm2 (m : MethodId) (x0 : Int32) : entryFrame m #[(.int x0)] 3 = mkF m 0 #[.val (.int x0), .unset, .unset] [] := by first | (simp [entryFrame, mkF, argsToLocals, Value.category]; done) | rfl
def own_Q_own_rm2 (Z : State) (x0 : Int32)  (h0 : Heap) (n0 : Nat) (v : Option Value) (h : Heap) (L : List Loc) : Prop := v = some (.int (if own_ref x0 then (1 : Int32) else (0 : Int32))) ∧ Fr n0 L ∧ h = h0
set_option maxRecDepth 65536 in
set_option maxHeartbeats 40000000 in
theorem own_rm2 (l : Launch) (Z : State) (a0 : Array Value) (hw : ∀ d ∈ tables_1, d.before a0 Z = true) (ws : List Jvm.Cond) (x0 : Int32)  (h0 : Heap) (n0 : Nat) (Z0 : n0 ≤ h0.size)  :
    MetFree l (⟨"com/example/flows_over_http/flowsoverhttp/structuredfields/GrammarIsAlphaPinLaw", "reference", "(C)Z"⟩ : MethodName) (head1 (Jvm.Cond.code (⟨"com/example/flows_over_http/flowsoverhttp/structuredfields/GrammarIsAlphaPinLaw", "reference", "(C)Z"⟩ : MethodName) method_2_code 3 (some .boolean) :: ws) ({ frames := 0, cells := 0, slots := 0, locals := 0 } : Room)) (fun a U => a = #[(.int x0)] ∧ Z.Warmed39 U.vm ∧ U.heap = h0) (fun _ _ _ _ _ => True) (fun _ U o U' => ∃ v L, o = .returned v ∧ own_Q_own_rm2 Z x0 h0 n0 v U'.heap L ∧ FrameEnd U o U' L ({ frames := 0, cells := 0, slots := 0, locals := 0 } : Room).cells ({ frames := 0, cells := 0, slots := 0, locals := 0 } : Room).slots) := by
  refine MetFree.of_bodySF (plainFor_of_name own_pn_2) hisR ?_
  intro p e s m args below meth c s₁ Bd hml0 hP hK
  obtain ⟨rfl, hZ, hh⟩ := hP
  have hx := Bd.exec
  have hby := Bd.bytes
  have hml : c.maxLocals = 3 := hml0
  have hown : s.vm.findClass "com/example/flows_over_http/flowsoverhttp/structuredfields/GrammarIsAlphaPinLaw" = some m.cls := findClass_of_methodNamed Bd.named
  have hnm := (name_of_methodNamed Bd.named Bd.method).1
  have X0 : Stand p l e ({ frames := 0, cells := 0, slots := 0, locals := 0 } : Room) s m #[(.int x0)] below meth c s₁ [] 0 0 := Stand.of_body Bd
  have e0 : s₁.heap = h0 := by rw [← hh, Bd.state]; rfl
  have N0 := Fr.nil n0
  show Goes p.tables e below _ (own_R below s (own_Q_own_rm2 Z x0 h0 n0) ({ frames := 0, cells := 0, slots := 0, locals := 0 } : Room).cells ({ frames := 0, cells := 0, slots := 0, locals := 0 } : Room).slots)
  refine Goes.to (fun t k => castTop (own_ef_own_rm2 m x0) k) ?_
  show Goes p.tables e below (s₁.setTop (mkF m 0 #[.val (.int x0), .unset, .unset] [])) _
  refine Goes.to (fun _ k => XS.iloadN X0.here hx rfl (hb hby d2_0) rfl k) ?_
  show Goes p.tables e below (s₁.setTop (mkF m 1 #[.val (.int x0), .unset, .unset] [(.int x0)])) _
  refine Goes.to (fun _ k => XS.bipush X0.here hx rfl (hb hby d2_1) k) ?_
  show Goes p.tables e below (s₁.setTop (mkF m 3 #[.val (.int x0), .unset, .unset] [(.int (32 : Int32)), (.int x0)])) _
  refine Goes.to (fun _ k => XS.ior X0.here hx rfl (hb hby d2_3) rfl k) ?_
  show Goes p.tables e below (s₁.setTop (mkF m 4 #[.val (.int x0), .unset, .unset] [(.int (x0 ||| (32 : Int32)))])) _
  refine Goes.to (fun _ k => XS.istoreN X0.here hx rfl (hb hby d2_4) rfl (l' := #[.val (.int x0), .val (.int (x0 ||| (32 : Int32))), .unset]) rfl k) ?_
  show Goes p.tables e below (s₁.setTop (mkF m 5 #[.val (.int x0), .val (.int (x0 ||| (32 : Int32))), .unset] [])) _
  refine Goes.to (fun _ k => XS.iloadN X0.here hx rfl (hb hby d2_5) rfl k) ?_
  show Goes p.tables e below (s₁.setTop (mkF m 6 #[.val (.int x0), .val (.int (x0 ||| (32 : Int32))), .unset] [(.int (x0 ||| (32 : Int32)))])) _
  refine Goes.to (fun _ k => XS.bipush X0.here hx rfl (hb hby d2_6) k) ?_
  show Goes p.tables e below (s₁.setTop (mkF m 8 #[.val (.int x0), .val (.int (x0 ||| (32 : Int32))), .unset] [(.int (97 : Int32)), (.int (x0 ||| (32 : Int32)))])) _
  refine Goes.to (fun _ k => XS.isub X0.here hx rfl (hb hby d2_8) rfl k) ?_
  show Goes p.tables e below (s₁.setTop (mkF m 9 #[.val (.int x0), .val (.int (x0 ||| (32 : Int32))), .unset] [(.int ((x0 ||| (32 : Int32)) - (97 : Int32)))])) _
  refine Goes.to (fun _ k => XS.istoreN X0.here hx rfl (hb hby d2_9) rfl (l' := #[.val (.int x0), .val (.int (x0 ||| (32 : Int32))), .val (.int ((x0 ||| (32 : Int32)) - (97 : Int32)))]) rfl k) ?_
  show Goes p.tables e below (s₁.setTop (mkF m 10 #[.val (.int x0), .val (.int (x0 ||| (32 : Int32))), .val (.int ((x0 ||| (32 : Int32)) - (97 : Int32)))] [])) _
  refine Goes.to (fun _ k => XS.iloadN X0.here hx rfl (hb hby d2_10) rfl k) ?_
  show Goes p.tables e below (s₁.setTop (mkF m 11 #[.val (.int x0), .val (.int (x0 ||| (32 : Int32))), .val (.int ((x0 ||| (32 : Int32)) - (97 : Int32)))] [(.int ((x0 ||| (32 : Int32)) - (97 : Int32)))])) _
  by_cases hc1 : ((x0 ||| (32 : Int32)) - (97 : Int32)) < (0 : Int32)
  · refine Goes.to (fun _ k => XS.ifYes X0.here hx rfl (pc0 := 11) (pc' := 24) rfl (hb hby d2_11) rfl ((if0 _ _).trans (tlt hc1).1) (by decide) (by decide) k) ?_
    show Goes p.tables e below (s₁.setTop (mkF m 24 #[.val (.int x0), .val (.int (x0 ||| (32 : Int32))), .val (.int ((x0 ||| (32 : Int32)) - (97 : Int32)))] [])) _
    refine Goes.to (fun _ k => XS.iconst X0.here hx rfl (hb hby d2_24) k) ?_
    show Goes p.tables e below (s₁.setTop (mkF m 25 #[.val (.int x0), .val (.int (x0 ||| (32 : Int32))), .val (.int ((x0 ||| (32 : Int32)) - (97 : Int32)))] [(.int (0 : Int32))])) _
    obtain ⟨fs, hr, hrun, hended, hW, hsame⟩ := X0.leave (v := some (.int (0 : Int32))) (fun h => by rw [Bd.returns] at h; cases h)
    have hv : (some (.int (0 : Int32)) : Option Value) = some (.int (if own_ref x0 then (1 : Int32) else (0 : Int32))) := by
      rw [if_neg (show ¬ own_ref x0 from by
        unfold own_ref
        have k1 := rng32 x0
        have k2 : (32 : Int32).toInt = 32 := rfl
        have k3 := rng32 (x0 ||| (32 : Int32))
        have k4 : (97 : Int32).toInt = 97 := rfl
        have k5 := c_isub (x0 ||| (32 : Int32)) (97 : Int32)
        have k6 := rng32 ((x0 ||| (32 : Int32)) - (97 : Int32))
        have k7 : (0 : Int32).toInt = 0 := rfl
        have k8 : ((x0 ||| (32 : Int32)) - (97 : Int32)).toInt < (0 : Int32).toInt := Int32.lt_iff_toInt_lt.mp hc1
        omega)]
    exact ⟨_, _, retN X0 hx (t := .boolean) Bd.returns (by simp) (hb hby d2_25) hr, hrun, hended, _, _, rfl, ⟨hv, N0, e0⟩, ⟨_, rfl⟩, hW, hsame.mono (by decide) (by decide)⟩
  · refine Goes.to (fun _ k => XS.ifNo X0.here hx rfl (hb hby d2_11) rfl ((if0 _ _).trans (flt hc1).1) k) ?_
    show Goes p.tables e below (s₁.setTop (mkF m 14 #[.val (.int x0), .val (.int (x0 ||| (32 : Int32))), .val (.int ((x0 ||| (32 : Int32)) - (97 : Int32)))] [])) _
    refine Goes.to (fun _ k => XS.iloadN X0.here hx rfl (hb hby d2_14) rfl k) ?_
    show Goes p.tables e below (s₁.setTop (mkF m 15 #[.val (.int x0), .val (.int (x0 ||| (32 : Int32))), .val (.int ((x0 ||| (32 : Int32)) - (97 : Int32)))] [(.int ((x0 ||| (32 : Int32)) - (97 : Int32)))])) _
    refine Goes.to (fun _ k => XS.bipush X0.here hx rfl (hb hby d2_15) k) ?_
    show Goes p.tables e below (s₁.setTop (mkF m 17 #[.val (.int x0), .val (.int (x0 ||| (32 : Int32))), .val (.int ((x0 ||| (32 : Int32)) - (97 : Int32)))] [(.int (26 : Int32)), (.int ((x0 ||| (32 : Int32)) - (97 : Int32)))])) _
    by_cases hc2 : ((x0 ||| (32 : Int32)) - (97 : Int32)) < (26 : Int32)
    · refine Goes.to (fun _ k => XS.icmpNo X0.here hx rfl (hb hby d2_17) rfl (tlt hc2).2.1 k) ?_
      show Goes p.tables e below (s₁.setTop (mkF m 20 #[.val (.int x0), .val (.int (x0 ||| (32 : Int32))), .val (.int ((x0 ||| (32 : Int32)) - (97 : Int32)))] [])) _
      refine Goes.to (fun _ k => XS.iconst X0.here hx rfl (hb hby d2_20) k) ?_
      show Goes p.tables e below (s₁.setTop (mkF m 21 #[.val (.int x0), .val (.int (x0 ||| (32 : Int32))), .val (.int ((x0 ||| (32 : Int32)) - (97 : Int32)))] [(.int (1 : Int32))])) _
      refine Goes.to (fun _ k => XS.goto X0.here hx rfl (pc0 := 21) (pc' := 25) rfl (hb hby d2_21) (by decide) (by decide) k) ?_
      show Goes p.tables e below (s₁.setTop (mkF m 25 #[.val (.int x0), .val (.int (x0 ||| (32 : Int32))), .val (.int ((x0 ||| (32 : Int32)) - (97 : Int32)))] [(.int (1 : Int32))])) _
      obtain ⟨fs, hr, hrun, hended, hW, hsame⟩ := X0.leave (v := some (.int (1 : Int32))) (fun h => by rw [Bd.returns] at h; cases h)
      have hv : (some (.int (1 : Int32)) : Option Value) = some (.int (if own_ref x0 then (1 : Int32) else (0 : Int32))) := by
        rw [if_pos (show own_ref x0 from by
          unfold own_ref
          have k1 := rng32 x0
          have k2 : (32 : Int32).toInt = 32 := rfl
          have k3 := rng32 (x0 ||| (32 : Int32))
          have k4 : (97 : Int32).toInt = 97 := rfl
          have k5 := c_isub (x0 ||| (32 : Int32)) (97 : Int32)
          have k6 := rng32 ((x0 ||| (32 : Int32)) - (97 : Int32))
          have k7 : (0 : Int32).toInt = 0 := rfl
          have k8 : ¬ ((x0 ||| (32 : Int32)) - (97 : Int32)).toInt < (0 : Int32).toInt := fun z => hc1 (Int32.lt_iff_toInt_lt.mpr z)
          have k9 : (26 : Int32).toInt = 26 := rfl
          have k10 : ((x0 ||| (32 : Int32)) - (97 : Int32)).toInt < (26 : Int32).toInt := Int32.lt_iff_toInt_lt.mp hc2
          omega)]
      exact ⟨_, _, retN X0 hx (t := .boolean) Bd.returns (by simp) (hb hby d2_25) hr, hrun, hended, _, _, rfl, ⟨hv, N0, e0⟩, ⟨_, rfl⟩, hW, hsame.mono (by decide) (by decide)⟩
    · refine Goes.to (fun _ k => XS.icmpYes X0.here hx rfl (pc0 := 17) (pc' := 24) rfl (hb hby d2_17) rfl (flt hc2).2.1 (by decide) (by decide) k) ?_
      show Goes p.tables e below (s₁.setTop (mkF m 24 #[.val (.int x0), .val (.int (x0 ||| (32 : Int32))), .val (.int ((x0 ||| (32 : Int32)) - (97 : Int32)))] [])) _
      refine Goes.to (fun _ k => XS.iconst X0.here hx rfl (hb hby d2_24) k) ?_
      show Goes p.tables e below (s₁.setTop (mkF m 25 #[.val (.int x0), .val (.int (x0 ||| (32 : Int32))), .val (.int ((x0 ||| (32 : Int32)) - (97 : Int32)))] [(.int (0 : Int32))])) _
      obtain ⟨fs, hr, hrun, hended, hW, hsame⟩ := X0.leave (v := some (.int (0 : Int32))) (fun h => by rw [Bd.returns] at h; cases h)
      have hv : (some (.int (0 : Int32)) : Option Value) = some (.int (if own_ref x0 then (1 : Int32) else (0 : Int32))) := by
        rw [if_neg (show ¬ own_ref x0 from by
          unfold own_ref
          have k1 := rng32 x0
          have k2 : (32 : Int32).toInt = 32 := rfl
          have k3 := rng32 (x0 ||| (32 : Int32))
          have k4 : (97 : Int32).toInt = 97 := rfl
          have k5 := c_isub (x0 ||| (32 : Int32)) (97 : Int32)
          have k6 := rng32 ((x0 ||| (32 : Int32)) - (97 : Int32))
          have k7 : (0 : Int32).toInt = 0 := rfl
          have k8 : ¬ ((x0 ||| (32 : Int32)) - (97 : Int32)).toInt < (0 : Int32).toInt := fun z => hc1 (Int32.lt_iff_toInt_lt.mpr z)
          have k9 : (26 : Int32).toInt = 26 := rfl
          have k10 : ¬ ((x0 ||| (32 : Int32)) - (97 : Int32)).toInt < (26 : Int32).toInt := fun z => hc2 (Int32.lt_iff_toInt_lt.mpr z)
          omega)]
      exact ⟨_, _, retN X0 hx (t := .boolean) Bd.returns (by simp) (hb hby d2_25) hr, hrun, hended, _, _, rfl, ⟨hv, N0, e0⟩, ⟨_, rfl⟩, hW, hsame.mono (by decide) (by decide)⟩

theorem own_pd_pCqZ : parseMethodDescriptor "(C)Z" = some ⟨[.char], some .boolean⟩ := by decide +kernel
theorem own_pn_0 : plainName "com/example/flows_over_http/flowsoverhttp/structuredfields/GrammarIsAlphaPinLaw" = true := by first | (simp [plainName, overriddenIn]; done) | decide +kernel
theorem own_ef_own_rm0 (m : MethodId) (x0 : Int32) : entryFrame m #[(.int x0)] maxLocals = mkF m 0 #[.val (.int x0), .unset] [] := by first | (simp [entryFrame, mkF, argsToLocals, Value.category, maxLocals]; done) | rfl
def own_Q_own_rm0 (Z : State) (x0 : Int32)  (h0 : Heap) (n0 : Nat) (v : Option Value) (h : Heap) (L : List Loc) : Prop := v = some (.int (1 : Int32)) ∧ Fr n0 L
set_option maxRecDepth 65536 in
set_option maxHeartbeats 40000000 in
theorem own_rm0 (l : Launch) (Z : State) (a0 : Array Value) (hw : ∀ d ∈ tables_1, d.before a0 Z = true) (ws : List Jvm.Cond) (x0 : Int32)  (h0 : Heap) (n0 : Nat) (Z0 : n0 ≤ h0.size)  :
    MetFree l x (head1 (Jvm.Cond.code x code maxLocals ret :: ws) room_1) (fun a U => a = #[(.int x0)] ∧ Z.Warmed39 U.vm ∧ U.heap = h0) (fun _ _ _ _ _ => True) (fun _ U o U' => ∃ v L, o = .returned v ∧ own_Q_own_rm0 Z x0 h0 n0 v U'.heap L ∧ FrameEnd U o U' L 0 0) := by
  refine MetFree.of_bodySF (plainFor_of_name own_pn_0) hisR ?_
  intro p e s m args below meth c s₁ Bd hml0 hP hK
  obtain ⟨rfl, hZ, hh⟩ := hP
  have hx := Bd.exec
  have hby := Bd.bytes
  have hml : c.maxLocals = 2 := hml0
  have hown : s.vm.findClass "com/example/flows_over_http/flowsoverhttp/structuredfields/GrammarIsAlphaPinLaw" = some m.cls := findClass_of_methodNamed Bd.named
  have hnm := (name_of_methodNamed Bd.named Bd.method).1
  have X0 : Stand p l e room_1 s m #[(.int x0)] below meth c s₁ [] 0 0 := Stand.of_body Bd
  have e0 : s₁.heap = h0 := by rw [← hh, Bd.state]; rfl
  have N0 := Fr.nil n0
  show Goes p.tables e below _ (own_R below s (own_Q_own_rm0 Z x0 h0 n0) 0 0)
  refine Goes.to (fun t k => castTop (own_ef_own_rm0 m x0) k) ?_
  show Goes p.tables e below (s₁.setTop (mkF m 0 #[.val (.int x0), .unset] [])) _
  refine Goes.to (fun _ k => XS.iloadN X0.here hx rfl (hb hby at_0) rfl k) ?_
  show Goes p.tables e below (s₁.setTop (mkF m 1 #[.val (.int x0), .unset] [(.int x0)])) _
  refine Goes.to (fun _ k => X0.ldcInt hx hown (mvT hZ (hw _ (List.mem_of_getElem? (i := 0) rfl))) (g := (mkF m 1 #[.val (.int x0), .unset] [(.int x0)])) rfl (hb hby at_1) _ k) ?_
  show Goes p.tables e below (s₁.setTop (mkF m 3 #[.val (.int x0), .unset] [(.int (65535 : Int32)), (.int x0)])) _
  refine Goes.to (fun _ k => XS.iand X0.here hx rfl (hb hby at_3) rfl k) ?_
  show Goes p.tables e below (s₁.setTop (mkF m 4 #[.val (.int x0), .unset] [(.int (x0 &&& (65535 : Int32)))])) _
  refine Goes.to (fun _ k => XS.i2c X0.here hx rfl (hb hby at_4) rfl k) ?_
  show Goes p.tables e below (s₁.setTop (mkF m 5 #[.val (.int x0), .unset] [(.int ((x0 &&& (65535 : Int32)).toUInt32.toUInt16.toUInt32.toInt32))])) _
  refine Goes.to (fun _ k => XS.istoreN X0.here hx rfl (hb hby at_5) rfl (l' := #[.val (.int x0), .val (.int ((x0 &&& (65535 : Int32)).toUInt32.toUInt16.toUInt32.toInt32))]) rfl k) ?_
  show Goes p.tables e below (s₁.setTop (mkF m 6 #[.val (.int x0), .val (.int ((x0 &&& (65535 : Int32)).toUInt32.toUInt16.toUInt32.toInt32))] [])) _
  refine Goes.to (fun _ k => XS.iloadN X0.here hx rfl (hb hby at_6) rfl k) ?_
  show Goes p.tables e below (s₁.setTop (mkF m 7 #[.val (.int x0), .val (.int ((x0 &&& (65535 : Int32)).toUInt32.toUInt16.toUInt32.toInt32))] [(.int ((x0 &&& (65535 : Int32)).toUInt32.toUInt16.toUInt32.toInt32))])) _
  obtain ⟨_, _, ⟨T1, L1, k1, n1⟩, -, X1, ⟨Lc1, hQ1, l1, y1, z1⟩, st1⟩ := Jvm.LawKit.callS X0 hx (y := (⟨"com/example/flows_over_http/flowsoverhttp/structuredfields/Grammar", "isAlpha", "(C)Z"⟩ : MethodName)) hown (mvT hZ (hw _ (List.mem_of_getElem? (i := 1) rfl))) (mvT hZ (hw _ (List.mem_of_getElem? (i := 2) rfl))) (mvT hZ (hw _ (List.mem_of_getElem? (i := 3) rfl))) (mvT hZ (hw _ (List.mem_of_getElem? (i := 4) rfl))) (by decide) (backOf (W := 0) (own_rm1 l Z a0 hw [] ((x0 &&& (65535 : Int32)).toUInt32.toUInt16.toUInt32.toInt32) h0 n0 Z0 ) hZ (hw _ (List.mem_of_getElem? (i := 4) rfl)) (hw _ (List.mem_of_getElem? (i := 3) rfl)) (by decide) (by decide)) (g := (mkF m 7 #[.val (.int x0), .val (.int ((x0 &&& (65535 : Int32)).toUInt32.toUInt16.toUInt32.toInt32))] [(.int ((x0 &&& (65535 : Int32)).toUInt32.toUInt16.toUInt32.toInt32))])) rfl (by rw [hml]; rfl) (argsL := [(.int ((x0 &&& (65535 : Int32)).toUInt32.toUInt16.toUInt32.toInt32))]) (rest := []) (lenOf own_pd_pCqZ rfl) rfl (by show 2 * 0 + _ ≤ _; exact Nat.le_of_eq rfl) (hb hby at_7) (fun _ _ => ⟨rfl, e0, (by decide : 0 + 0 ≤ _), (by decide : 0 + 0 ≤ _)⟩)
  dsimp only [Pt.U, Pt.locs, Pt.cells, Pt.slots] at X1 l1 y1 z1 st1 hQ1
  subst l1 y1 z1
  obtain ⟨hv1, Nq1, hp1_0⟩ := hQ1
  have N1 := Fr.app N0 Nq1
  by_cases hc2 : own_alpha ((x0 &&& (65535 : Int32)).toUInt32.toUInt16.toUInt32.toInt32)
  · rw [if_pos hc2] at hv1
    subst hv1
    refine Goes.to st1 ?_
    show Goes p.tables e below (T1.setTop (mkF m 10 #[.val (.int x0), .val (.int ((x0 &&& (65535 : Int32)).toUInt32.toUInt16.toUInt32.toInt32))] [(.int (1 : Int32))])) _
    refine Goes.to (fun _ k => XS.iloadN X1.here hx rfl (hb hby at_10) rfl k) ?_
    show Goes p.tables e below (T1.setTop (mkF m 11 #[.val (.int x0), .val (.int ((x0 &&& (65535 : Int32)).toUInt32.toUInt16.toUInt32.toInt32))] [(.int ((x0 &&& (65535 : Int32)).toUInt32.toUInt16.toUInt32.toInt32)), (.int (1 : Int32))])) _
    obtain ⟨_, _, ⟨T3, L3, k3, n3⟩, -, X3, ⟨Lc3, hQ3, l3, y3, z3⟩, st3⟩ := Jvm.LawKit.callS X1 hx (y := (⟨"com/example/flows_over_http/flowsoverhttp/structuredfields/GrammarIsAlphaPinLaw", "reference", "(C)Z"⟩ : MethodName)) hown (mvT hZ (hw _ (List.mem_of_getElem? (i := 5) rfl))) (mvT hZ (hw _ (List.mem_of_getElem? (i := 6) rfl))) (mvT hZ (hw _ (List.mem_of_getElem? (i := 7) rfl))) (mvT hZ (hw _ (List.mem_of_getElem? (i := 8) rfl))) (by decide) (backOf (W := 1) (own_rm2 l Z a0 hw [] ((x0 &&& (65535 : Int32)).toUInt32.toUInt16.toUInt32.toInt32) h0 n0 Z0 ) hZ (hw _ (List.mem_of_getElem? (i := 8) rfl)) (hw _ (List.mem_of_getElem? (i := 7) rfl)) (by decide) (by decide)) (g := (mkF m 11 #[.val (.int x0), .val (.int ((x0 &&& (65535 : Int32)).toUInt32.toUInt16.toUInt32.toInt32))] [(.int ((x0 &&& (65535 : Int32)).toUInt32.toUInt16.toUInt32.toInt32)), (.int (1 : Int32))])) rfl (by rw [hml]; rfl) (argsL := [(.int ((x0 &&& (65535 : Int32)).toUInt32.toUInt16.toUInt32.toInt32))]) (rest := [(.int (1 : Int32))]) (lenOf own_pd_pCqZ rfl) rfl (by show 2 * 0 + _ ≤ _; exact Nat.le_of_eq rfl) (hb hby at_11) (fun _ _ => ⟨rfl, hp1_0, (by decide : 0 + 0 ≤ _), (by decide : 0 + 0 ≤ _)⟩)
    dsimp only [Pt.U, Pt.locs, Pt.cells, Pt.slots] at X3 l3 y3 z3 st3 hQ3
    subst l3 y3 z3
    obtain ⟨hv3, Nq3, hp3_0⟩ := hQ3
    have N3 := Fr.app N1 Nq3
    by_cases hc4 : own_ref ((x0 &&& (65535 : Int32)).toUInt32.toUInt16.toUInt32.toInt32)
    · rw [if_pos hc4] at hv3
      subst hv3
      refine Goes.to st3 ?_
      show Goes p.tables e below (T3.setTop (mkF m 14 #[.val (.int x0), .val (.int ((x0 &&& (65535 : Int32)).toUInt32.toUInt16.toUInt32.toInt32))] [(.int (1 : Int32)), (.int (1 : Int32))])) _
      refine Goes.to (fun _ k => XS.icmpNo X3.here hx rfl (hb hby at_14) rfl (teq (by decide : (1 : Int32) = (1 : Int32))).2 k) ?_
      show Goes p.tables e below (T3.setTop (mkF m 17 #[.val (.int x0), .val (.int ((x0 &&& (65535 : Int32)).toUInt32.toUInt16.toUInt32.toInt32))] [])) _
      refine Goes.to (fun _ k => XS.iconst X3.here hx rfl (hb hby at_17) k) ?_
      show Goes p.tables e below (T3.setTop (mkF m 18 #[.val (.int x0), .val (.int ((x0 &&& (65535 : Int32)).toUInt32.toUInt16.toUInt32.toInt32))] [(.int (1 : Int32))])) _
      refine Goes.to (fun _ k => XS.goto X3.here hx rfl (pc0 := 18) (pc' := 22) rfl (hb hby at_18) (by decide) (by decide) k) ?_
      show Goes p.tables e below (T3.setTop (mkF m 22 #[.val (.int x0), .val (.int ((x0 &&& (65535 : Int32)).toUInt32.toUInt16.toUInt32.toInt32))] [(.int (1 : Int32))])) _
      obtain ⟨fs, hr, hrun, hended, hW, hsame⟩ := X3.leave (v := some (.int (1 : Int32))) (fun h => by rw [Bd.returns] at h; cases h)
      have hv : (some (.int (1 : Int32)) : Option Value) = some (.int (1 : Int32)) := by
        rfl
      exact ⟨_, _, retN X3 hx (t := .boolean) Bd.returns (by simp) (hb hby at_22) hr, hrun, hended, _, _, rfl, ⟨hv, N3⟩, ⟨_, rfl⟩, hW, hsame.mono (by decide) (by decide)⟩
    · rw [if_neg hc4] at hv3
      subst hv3
      refine Goes.to st3 ?_
      show Goes p.tables e below (T3.setTop (mkF m 14 #[.val (.int x0), .val (.int ((x0 &&& (65535 : Int32)).toUInt32.toUInt16.toUInt32.toInt32))] [(.int (0 : Int32)), (.int (1 : Int32))])) _
      refine Goes.to (fun _ k => XS.icmpYes X3.here hx rfl (pc0 := 14) (pc' := 21) rfl (hb hby at_14) rfl (feq (by decide : ¬ ((1 : Int32) = (0 : Int32)))).2 (by decide) (by decide) k) ?_
      show Goes p.tables e below (T3.setTop (mkF m 21 #[.val (.int x0), .val (.int ((x0 &&& (65535 : Int32)).toUInt32.toUInt16.toUInt32.toInt32))] [])) _
      refine Goes.to (fun _ k => XS.iconst X3.here hx rfl (hb hby at_21) k) ?_
      show Goes p.tables e below (T3.setTop (mkF m 22 #[.val (.int x0), .val (.int ((x0 &&& (65535 : Int32)).toUInt32.toUInt16.toUInt32.toInt32))] [(.int (0 : Int32))])) _
      obtain ⟨fs, hr, hrun, hended, hW, hsame⟩ := X3.leave (v := some (.int (0 : Int32))) (fun h => by rw [Bd.returns] at h; cases h)
      have hv : (some (.int (0 : Int32)) : Option Value) = some (.int (1 : Int32)) := by
        have k := own_law ((x0 &&& (65535 : Int32)).toUInt32.toUInt16.toUInt32.toInt32) (c_i2c _).2.1 (c_i2c _).2.2
        exact absurd (k.mp hc2) hc4
      exact ⟨_, _, retN X3 hx (t := .boolean) Bd.returns (by simp) (hb hby at_22) hr, hrun, hended, _, _, rfl, ⟨hv, N3⟩, ⟨_, rfl⟩, hW, hsame.mono (by decide) (by decide)⟩
  · rw [if_neg hc2] at hv1
    subst hv1
    refine Goes.to st1 ?_
    show Goes p.tables e below (T1.setTop (mkF m 10 #[.val (.int x0), .val (.int ((x0 &&& (65535 : Int32)).toUInt32.toUInt16.toUInt32.toInt32))] [(.int (0 : Int32))])) _
    refine Goes.to (fun _ k => XS.iloadN X1.here hx rfl (hb hby at_10) rfl k) ?_
    show Goes p.tables e below (T1.setTop (mkF m 11 #[.val (.int x0), .val (.int ((x0 &&& (65535 : Int32)).toUInt32.toUInt16.toUInt32.toInt32))] [(.int ((x0 &&& (65535 : Int32)).toUInt32.toUInt16.toUInt32.toInt32)), (.int (0 : Int32))])) _
    obtain ⟨_, _, ⟨T5, L5, k5, n5⟩, -, X5, ⟨Lc5, hQ5, l5, y5, z5⟩, st5⟩ := Jvm.LawKit.callS X1 hx (y := (⟨"com/example/flows_over_http/flowsoverhttp/structuredfields/GrammarIsAlphaPinLaw", "reference", "(C)Z"⟩ : MethodName)) hown (mvT hZ (hw _ (List.mem_of_getElem? (i := 5) rfl))) (mvT hZ (hw _ (List.mem_of_getElem? (i := 6) rfl))) (mvT hZ (hw _ (List.mem_of_getElem? (i := 7) rfl))) (mvT hZ (hw _ (List.mem_of_getElem? (i := 8) rfl))) (by decide) (backOf (W := 1) (own_rm2 l Z a0 hw [] ((x0 &&& (65535 : Int32)).toUInt32.toUInt16.toUInt32.toInt32) h0 n0 Z0 ) hZ (hw _ (List.mem_of_getElem? (i := 8) rfl)) (hw _ (List.mem_of_getElem? (i := 7) rfl)) (by decide) (by decide)) (g := (mkF m 11 #[.val (.int x0), .val (.int ((x0 &&& (65535 : Int32)).toUInt32.toUInt16.toUInt32.toInt32))] [(.int ((x0 &&& (65535 : Int32)).toUInt32.toUInt16.toUInt32.toInt32)), (.int (0 : Int32))])) rfl (by rw [hml]; rfl) (argsL := [(.int ((x0 &&& (65535 : Int32)).toUInt32.toUInt16.toUInt32.toInt32))]) (rest := [(.int (0 : Int32))]) (lenOf own_pd_pCqZ rfl) rfl (by show 2 * 0 + _ ≤ _; exact Nat.le_of_eq rfl) (hb hby at_11) (fun _ _ => ⟨rfl, hp1_0, (by decide : 0 + 0 ≤ _), (by decide : 0 + 0 ≤ _)⟩)
    dsimp only [Pt.U, Pt.locs, Pt.cells, Pt.slots] at X5 l5 y5 z5 st5 hQ5
    subst l5 y5 z5
    obtain ⟨hv5, Nq5, hp5_0⟩ := hQ5
    have N5 := Fr.app N1 Nq5
    by_cases hc6 : own_ref ((x0 &&& (65535 : Int32)).toUInt32.toUInt16.toUInt32.toInt32)
    · rw [if_pos hc6] at hv5
      subst hv5
      refine Goes.to st5 ?_
      show Goes p.tables e below (T5.setTop (mkF m 14 #[.val (.int x0), .val (.int ((x0 &&& (65535 : Int32)).toUInt32.toUInt16.toUInt32.toInt32))] [(.int (1 : Int32)), (.int (0 : Int32))])) _
      refine Goes.to (fun _ k => XS.icmpYes X5.here hx rfl (pc0 := 14) (pc' := 21) rfl (hb hby at_14) rfl (feq (by decide : ¬ ((0 : Int32) = (1 : Int32)))).2 (by decide) (by decide) k) ?_
      show Goes p.tables e below (T5.setTop (mkF m 21 #[.val (.int x0), .val (.int ((x0 &&& (65535 : Int32)).toUInt32.toUInt16.toUInt32.toInt32))] [])) _
      refine Goes.to (fun _ k => XS.iconst X5.here hx rfl (hb hby at_21) k) ?_
      show Goes p.tables e below (T5.setTop (mkF m 22 #[.val (.int x0), .val (.int ((x0 &&& (65535 : Int32)).toUInt32.toUInt16.toUInt32.toInt32))] [(.int (0 : Int32))])) _
      obtain ⟨fs, hr, hrun, hended, hW, hsame⟩ := X5.leave (v := some (.int (0 : Int32))) (fun h => by rw [Bd.returns] at h; cases h)
      have hv : (some (.int (0 : Int32)) : Option Value) = some (.int (1 : Int32)) := by
        have k := own_law ((x0 &&& (65535 : Int32)).toUInt32.toUInt16.toUInt32.toInt32) (c_i2c _).2.1 (c_i2c _).2.2
        exact absurd (k.mpr hc6) hc2
      exact ⟨_, _, retN X5 hx (t := .boolean) Bd.returns (by simp) (hb hby at_22) hr, hrun, hended, _, _, rfl, ⟨hv, N5⟩, ⟨_, rfl⟩, hW, hsame.mono (by decide) (by decide)⟩
    · rw [if_neg hc6] at hv5
      subst hv5
      refine Goes.to st5 ?_
      show Goes p.tables e below (T5.setTop (mkF m 14 #[.val (.int x0), .val (.int ((x0 &&& (65535 : Int32)).toUInt32.toUInt16.toUInt32.toInt32))] [(.int (0 : Int32)), (.int (0 : Int32))])) _
      refine Goes.to (fun _ k => XS.icmpNo X5.here hx rfl (hb hby at_14) rfl (teq (by decide : (0 : Int32) = (0 : Int32))).2 k) ?_
      show Goes p.tables e below (T5.setTop (mkF m 17 #[.val (.int x0), .val (.int ((x0 &&& (65535 : Int32)).toUInt32.toUInt16.toUInt32.toInt32))] [])) _
      refine Goes.to (fun _ k => XS.iconst X5.here hx rfl (hb hby at_17) k) ?_
      show Goes p.tables e below (T5.setTop (mkF m 18 #[.val (.int x0), .val (.int ((x0 &&& (65535 : Int32)).toUInt32.toUInt16.toUInt32.toInt32))] [(.int (1 : Int32))])) _
      refine Goes.to (fun _ k => XS.goto X5.here hx rfl (pc0 := 18) (pc' := 22) rfl (hb hby at_18) (by decide) (by decide) k) ?_
      show Goes p.tables e below (T5.setTop (mkF m 22 #[.val (.int x0), .val (.int ((x0 &&& (65535 : Int32)).toUInt32.toUInt16.toUInt32.toInt32))] [(.int (1 : Int32))])) _
      obtain ⟨fs, hr, hrun, hended, hW, hsame⟩ := X5.leave (v := some (.int (1 : Int32))) (fun h => by rw [Bd.returns] at h; cases h)
      have hv : (some (.int (1 : Int32)) : Option Value) = some (.int (1 : Int32)) := by
        rfl
      exact ⟨_, _, retN X5 hx (t := .boolean) Bd.returns (by simp) (hb hby at_22) hr, hrun, hended, _, _, rfl, ⟨hv, N5⟩, ⟨_, rfl⟩, hW, hsame.mono (by decide) (by decide)⟩

set_option maxRecDepth 65536 in
set_option maxHeartbeats 40000000 in
theorem comes_1 {Post : Tables → Env → Array Value → State → Outcome → State → Prop} (hpost : ∀ tb e args s v u, (limb_1_1.after args s (.returned v) u = true ∧ limb_1_2.after args s (.returned v) u = true ∧ True) → FrameEnd s (.returned v) u (Jvm.fieldLocs frame_1_writes args s ++ Jvm.arrayLocs frame_1_arrays args s ++ Jvm.staticLocs frame_1_statics s) 0 0 → Post tb e args s (.returned v) u) :
    ArmFor flags0 classFile x code maxLocals ret World_1 tables_1 room_1 Calls_1 rest_1 Pre_1 Post := by
  intro l hfl _ _ p e ha hc hk s m args below hf hA hF happ hP
  obtain ⟨hcalls, hrest, hpre⟩ := hP
  obtain ⟨-, -, -, hnamed, -, -, -, hat⟩ := (Spec.applies_iff hf).mp happ
  obtain ⟨hg, hn⟩ := and_e (Cond.before_iff.mp (show (Jvm.Cond.and given_1 narrow_1).before args s = true from hpre))
  obtain ⟨hg0, hgr0⟩ := and_e hg
  obtain ⟨w0, rfl⟩ : ∃ w0 : Value, args = #[w0] := by
    have hs : args.size = 1 := by simpa [Cond.value, given_1] using hg0
    obtain ⟨L⟩ := args
    match L, hs with
    | [w0], _ => exact ⟨w0, rfl⟩
  have hw := fun d (hd : d ∈ tables_1) => atoms_spec (ws := Jvm.Cond.code x code maxLocals ret :: tables_1) hat d (List.mem_cons_of_mem _ hd)
  have hfit : Fit s := fun {y c} hc i hi => by
    obtain ⟨ha, rfl⟩ := Array.getElem?_eq_some_iff.mp hc
    have q := List.all_eq_true.mp ((Array.all_eq_true_iff_forall_mem.mp hF) _ (Array.getElem_mem ha)) i (List.mem_range.mpr hi)
    simpa [Array.getElem?_eq_getElem hi] using q
  obtain ⟨i0, ei0⟩ := is_v hgr0
  obtain rfl : w0 = (.int i0) := Option.some.inj ei0
  obtain ⟨n, o, h1, h2, h3, _, L, rfl, ⟨rfl, N⟩, hq⟩ := own_rm0 l s _ hw tables_1 i0  s.heap s.heap.size (Nat.le_refl _)  p e ha hc hk s m _ below hf ((Spec.applies_iff_loose hf).mp happ).1 ⟨rfl, State.Warmed39.refl s, rfl⟩ trivial
  refine ⟨n, _, h1, h2, h3, hpost _ _ _ _ _ _ ⟨Cond.after_iff.mpr rfl, Cond.after_iff.mpr (eq_i res_at (Term.int_eval (1)) rfl), trivial⟩ ⟨hq.1, hq.2.1, (hq.2.2.sift fun y hy => Or.inr (N y hy)).mono (by decide) (by decide)⟩⟩
theorem main_1_1 : Claimed_1_1 := comes_1 fun _ _ _ _ _ _ h hF => ⟨h.1, hF⟩
theorem main_1_2 : Claimed_1_2 := comes_1 fun _ _ _ _ _ _ h hF => ⟨h.2.1, hF⟩
end Jvm.Pilot.@@N@@
namespace Jvm.Pilot.@@N@@
open Jvm Jvm.ClassFile Sem Op Lib Jvm.Free Jvm.Stand Jvm.Pilot.@@N@@.Jvm.D
/-! MADE BY PROGRAM (witnessworld.py) out of the Statement's table words and the real class files: 9 classes; the members and pool entries that the words name. The judged class is class 1, her method 2. -/
namespace start1
open Jvm.ClassFile
def u (s : String) : CpInfo := .utf8 (stringToUtf16 s)
/-- a pool by its gaps: so many unusable entries, then the entry; so many at the end -/
def gap : Nat → List CpInfo → List CpInfo
  | 0, r => r
  | n + 1, r => .unusable :: gap n r
def poolList (es : List (Nat × CpInfo)) (last : Nat) : List CpInfo := es.foldr (fun e r => gap e.1 (e.2 :: r)) (gap last [])
def pool (es : List (Nat × CpInfo)) (last : Nat) : Array CpInfo := ⟨poolList es last⟩
def fileOf (pool : Array CpInfo) (this : Nat) (attrs : Array Attribute := #[]) (ms : Array MethodInfo := #[]) (fl : Nat := 33) (sup : Nat := 0) (ifs : Array Nat := #[]) (fds : Array FieldInfo := #[]) : ClassFile where
  minorVersion := 0
  majorVersion := 65
  constantPool := pool
  accessFlags := fl
  thisClass := this
  superClass := sup
  interfaces := ifs
  fields := fds
  methods := ms
  attributes := attrs
def plain (name : String) (sup : Option ClassId) : Class where
  name := name
  kind := .ordinary
  loader := none
  accessFlags := 33
  super := sup
  interfaces := #[]
  cf := none
  fields := #[]
  methods := #[]
  instanceTypes := #[]
  staticTypes := #[]
  resolved := #[]
  callSites := []
  init := .initialized
  statics := none
  mirror := none

def pool0 : Array CpInfo := pool [(5, u "<init>"), (0, u "()V"), (1, .class_ 10), (1, u "java/lang/Object")] 113

def k0m0 : Method := { name := "<init>", desc := "()V", sig := { parameters := [], returnType := none }, accessFlags := 1, code := none }
/-- java/lang/Object -/
def k0 : Class := { plain "java/lang/Object" none with
  accessFlags := 33
  interfaces := #[]
  cf := some (fileOf pool0 8 #[] #[{ accessFlags := 1, nameIndex := 5, descriptorIndex := 6, attributes := #[] }] 33 0 #[] #[])
  fields := #[]
  methods := #[k0m0]
  instanceTypes := #[]
  staticTypes := #[]
  resolved := Array.replicate 124 none
  statics := none }

def pool1 : Array CpInfo := pool [(2, .class_ 4), (1, u "java/lang/Object"), (0, u "<init>"), (0, u "()V"), (0, .integer 65535), (0, .methodref 9 10), (0, .class_ 11), (0, .nameAndType 12 13), (0, u "com/example/flows_over_http/flowsoverhttp/structuredfields/Grammar"), (0, u "isAlpha"), (0, u "(C)Z"), (0, .methodref 15 16), (0, .class_ 17), (0, .nameAndType 18 13), (0, u "com/example/flows_over_http/flowsoverhttp/structuredfields/GrammarIsAlphaPinLaw"), (0, u "reference"), (3, u "law"), (0, u "(I)Z")] 2

def k1m0 : Method := { name := "<init>", desc := "()V", sig := { parameters := [], returnType := none }, accessFlags := 2, code := none }
def k1c1 : Code := { maxStack := 2, maxLocals := 3, code := method_2_code, exceptionTable := #[], attributes := #[] }
def k1m1 : Method := { name := "reference", desc := "(C)Z", sig := { parameters := [.char], returnType := some .boolean }, accessFlags := 10, code := some k1c1 }
def k1c2 : Code := { maxStack := 2, maxLocals := 2, code := code, exceptionTable := #[], attributes := #[] }
def k1m2 : Method := { name := "law", desc := "(I)Z", sig := { parameters := [.int], returnType := some .boolean }, accessFlags := 9, code := some k1c2 }
/-- com/example/flows_over_http/flowsoverhttp/structuredfields/GrammarIsAlphaPinLaw -/
def k1 : Class := { plain "com/example/flows_over_http/flowsoverhttp/structuredfields/GrammarIsAlphaPinLaw" (some 0) with
  accessFlags := 49
  interfaces := #[]
  cf := some (fileOf pool1 15 #[] #[{ accessFlags := 2, nameIndex := 5, descriptorIndex := 6, attributes := #[] }, { accessFlags := 10, nameIndex := 18, descriptorIndex := 13, attributes := #[] }, { accessFlags := 9, nameIndex := 22, descriptorIndex := 23, attributes := #[] }] 49 2 #[] #[])
  fields := #[]
  methods := #[k1m0, k1m1, k1m2]
  instanceTypes := #[]
  staticTypes := #[]
  resolved := Array.replicate 26 none
  statics := none }

def pool2 : Array CpInfo := pool [(2, .class_ 4), (1, u "java/lang/Object"), (0, u "<init>"), (0, u "()V"), (1, .class_ 10), (1, u "com/example/flows_over_http/flowsoverhttp/structuredfields/Grammar"), (0, u "isAlpha"), (0, u "(C)Z"), (2, u "TOKEN_CHARS"), (0, u "[Z"), (2, u "KEY_CHARS"), (73, u "DIGITS"), (0, u "Ljava/lang/String;"), (3, u "LOWER"), (2, u "UPPER")] 35

def k2m0 : Method := { name := "<init>", desc := "()V", sig := { parameters := [], returnType := none }, accessFlags := 2, code := none }
def k2c1 : Code := { maxStack := 2, maxLocals := 1, code := prog_28_method_3_code, exceptionTable := #[], attributes := #[] }
def k2m1 : Method := { name := "isAlpha", desc := "(C)Z", sig := { parameters := [.char], returnType := some .boolean }, accessFlags := 8, code := some k2c1 }
/-- com/example/flows_over_http/flowsoverhttp/structuredfields/Grammar -/
def k2 : Class := { plain "com/example/flows_over_http/flowsoverhttp/structuredfields/Grammar" (some 0) with
  accessFlags := 48
  interfaces := #[]
  cf := some (fileOf pool2 8 #[] #[{ accessFlags := 2, nameIndex := 5, descriptorIndex := 6, attributes := #[] }, { accessFlags := 8, nameIndex := 11, descriptorIndex := 12, attributes := #[] }] 48 2 #[] #[{ accessFlags := 26, nameIndex := 93, descriptorIndex := 94, attributes := #[] }, { accessFlags := 26, nameIndex := 98, descriptorIndex := 94, attributes := #[] }, { accessFlags := 26, nameIndex := 101, descriptorIndex := 94, attributes := #[] }, { accessFlags := 26, nameIndex := 15, descriptorIndex := 16, attributes := #[] }, { accessFlags := 26, nameIndex := 19, descriptorIndex := 16, attributes := #[] }])
  fields := #[{ name := "DIGITS", type := (.object "java/lang/String"), accessFlags := 26, slot := 0, constantValue := 0 }, { name := "LOWER", type := (.object "java/lang/String"), accessFlags := 26, slot := 1, constantValue := 0 }, { name := "UPPER", type := (.object "java/lang/String"), accessFlags := 26, slot := 2, constantValue := 0 }, { name := "TOKEN_CHARS", type := (.array .boolean), accessFlags := 26, slot := 3, constantValue := 0 }, { name := "KEY_CHARS", type := (.array .boolean), accessFlags := 26, slot := 4, constantValue := 0 }]
  methods := #[k2m0, k2m1]
  instanceTypes := #[]
  staticTypes := #[(.object "java/lang/String"), (.object "java/lang/String"), (.object "java/lang/String"), (.array .boolean), (.array .boolean)]
  resolved := Array.replicate 137 none
  statics := none }

def pool3 : Array CpInfo := pool [(1, u "java/lang/Cloneable"), (0, .class_ 1), (0, u "java/lang/Object"), (0, .class_ 3)] 3

/-- java/lang/Cloneable -/
def k3 : Class := { plain "java/lang/Cloneable" (some 0) with
  accessFlags := 1537
  interfaces := #[]
  cf := some (fileOf pool3 2 #[] #[] 1537 4 #[] #[])
  fields := #[]
  methods := #[]
  instanceTypes := #[]
  staticTypes := #[]
  resolved := Array.replicate 8 none
  statics := none }

def pool4 : Array CpInfo := pool [(1, u "java/io/Serializable"), (0, .class_ 1), (0, u "java/lang/Object"), (0, .class_ 3)] 3

/-- java/io/Serializable -/
def k4 : Class := { plain "java/io/Serializable" (some 0) with
  accessFlags := 1537
  interfaces := #[]
  cf := some (fileOf pool4 2 #[] #[] 1537 4 #[] #[])
  fields := #[]
  methods := #[]
  instanceTypes := #[]
  staticTypes := #[]
  resolved := Array.replicate 8 none
  statics := none }

/-- the primitive byte -/
def k5 : Class := { plain "byte" none with kind := .primitive 'B', accessFlags := 0x411 }
/-- [B -/
def k6 : Class := { plain "[B" (some 0) with kind := .array 5 .byte, interfaces := #[3, 4], accessFlags := 1041 }

/-- the primitive int -/
def k7 : Class := { plain "int" none with kind := .primitive 'I', accessFlags := 0x411 }
/-- [I -/
def k8 : Class := { plain "[I" (some 0) with kind := .array 7 .int, interfaces := #[3, 4], accessFlags := 1041 }

def heap : Heap := #[]
def classes : Array Class := #[k0, k1, k2, k3, k4, k5, k6, k7, k8]
def interned : List (Array UInt16 × Addr) := []
def slotsUsed : Nat := 0
def theMethod : MethodId := ⟨1, 2⟩
def args0 : Array Value := #[.int 65]
def aboutOver (below : List Frame) : State where
  vm := { classes := classes, interned := interned.toArray }
  heap := heap
  slotsUsed := slotsUsed
  threads := #[{ frames := .invoking theMethod args0 :: below }]
def below0 : List Frame := [.native { method := ⟨0, 0⟩, args := #[] }]
def about1 : State := aboutOver below0
def p0 : Program := .bare "" "" ""
def e0 : Env := launch0.env 0 0 0
theorem w_frames : about1.frames = Frame.invoking theMethod args0 :: below0 := rfl
set_option maxRecDepth 65536 in
theorem w_args : argsFit about1.vm theMethod args0 = true := by decide +kernel
set_option maxRecDepth 65536 in
theorem w_heap : heapFits about1 = true := by decide +kernel
set_option maxRecDepth 65536 in
theorem w_runnable : about1.curStatus? = some .runnable := by decide +kernel
set_option maxRecDepth 65536 in
theorem w_alone : about1.alone = true := by decide +kernel
set_option maxRecDepth 65536 in
theorem w_named : about1.methodNamed? x = some theMethod := by decide +kernel
set_option maxRecDepth 65536 in
theorem w_hears : about1.hears theMethod below0 = true := by decide +kernel
set_option maxRecDepth 65536 in
theorem w_ripe : about1.ripe theMethod args0 below0 = true := by decide +kernel
theorem w_running : about1.status = .running := rfl
set_option maxRecDepth 65536 in
theorem w_room : about1.hasRoom e0.platform room_1 = true :=
  launch0.hasRoom_least _ room_1 (by decide +kernel) (by decide +kernel) (by decide +kernel) (by decide +kernel) (by decide +kernel) (by decide +kernel)
theorem allAtoms_all (ts : List Jvm.Cond) (a : Array Jvm.Value) (st : Jvm.State) : (allAtoms ts).before a st = ts.all (fun c => c.before a st) := by
  induction ts with
  | nil => rfl
  | cons c t ih =>
    show (Jvm.Cond.and c (allAtoms t)).before a st = _
    rw [Jvm.Cond.before_and, ih, List.all_cons]
def words1 : List Jvm.Cond := Jvm.Cond.code x code maxLocals ret :: tables_1
/-- a 'code' word, met by the world's own term for the bytes: nothing is compared byte by byte -/
theorem code_word {y : MethodName} {bytes : ByteArray} {mx : Nat} {rt : Option FieldType} {a : Array Value} {s : State} {m : MethodId} {meth : Method} {c : Code} (h1 : s.methodNamed? y = some m) (h2 : s.vm.method? m = some meth) (h3 : meth.code = some c) (h4 : c.code = bytes)
    (h5 : (c.maxLocals == mx && c.exceptionTable.isEmpty && decide (c.maxStack ≤ mostOperands) && decide (meth.sig.returnType = rt) && !meth.locks && decide (parseMethodDescriptor y.desc = some meth.sig)) = true) : (Jvm.Cond.code y bytes mx rt).before a s = true := by
  simp only [Bool.and_eq_true, beq_iff_eq, Bool.not_eq_true', decide_eq_true_eq] at h5
  obtain ⟨⟨⟨⟨⟨g1, g2⟩, g3⟩, g4⟩, g5⟩, g6⟩ := h5
  simp [Cond.before, Cond.holds, Cond.value, h1, h2, h3, h4, g1, g2, g3, g4, g5, g6]
def isCode : Jvm.Cond → Bool
  | .code _ _ _ _ => true
  | _ => false
theorem all_split {L : List Jvm.Cond} {P : Jvm.Cond → Bool} (h1 : L.all (fun c => isCode c || P c) = true) (h2 : ∀ c ∈ L.filter isCode, P c = true) : L.all P = true := by
  refine List.all_eq_true.mpr fun c hc => ?_
  have h := List.all_eq_true.mp h1 c hc
  rcases Bool.eq_false_or_eq_true (isCode c) with hi | hi
  · exact h2 c (List.mem_filter.mpr ⟨hc, hi⟩)
  · simpa [hi] using h
set_option maxRecDepth 65536 in
theorem w_c0 : (Jvm.Cond.code x code maxLocals ret).before args0 about1 = true := code_word (m := ⟨1, 2⟩) (meth := k1m2) (c := k1c2) (by decide +kernel) rfl rfl rfl (by decide +kernel)
set_option maxRecDepth 65536 in
theorem w_c1 : (Jvm.Cond.code ({ cls := "com/example/flows_over_http/flowsoverhttp/structuredfields/Grammar", name := "isAlpha", desc := "(C)Z" } : Jvm.MethodName) prog_28_method_3_code (1 : Nat) (Option.some Jvm.ClassFile.FieldType.boolean)).before args0 about1 = true := code_word (m := ⟨2, 1⟩) (meth := k2m1) (c := k2c1) (by decide +kernel) rfl rfl rfl (by decide +kernel)
set_option maxRecDepth 65536 in
theorem w_c2 : (Jvm.Cond.code ({ cls := "com/example/flows_over_http/flowsoverhttp/structuredfields/GrammarIsAlphaPinLaw", name := "reference", desc := "(C)Z" } : Jvm.MethodName) method_2_code (3 : Nat) (Option.some Jvm.ClassFile.FieldType.boolean)).before args0 about1 = true := code_word (m := ⟨1, 1⟩) (meth := k1m1) (c := k1c1) (by decide +kernel) rfl rfl rfl (by decide +kernel)
def codes1 : List Jvm.Cond := [Jvm.Cond.code x code maxLocals ret, Jvm.Cond.code ({ cls := "com/example/flows_over_http/flowsoverhttp/structuredfields/Grammar", name := "isAlpha", desc := "(C)Z" } : Jvm.MethodName) prog_28_method_3_code (1 : Nat) (Option.some Jvm.ClassFile.FieldType.boolean), Jvm.Cond.code ({ cls := "com/example/flows_over_http/flowsoverhttp/structuredfields/GrammarIsAlphaPinLaw", name := "reference", desc := "(C)Z" } : Jvm.MethodName) method_2_code (3 : Nat) (Option.some Jvm.ClassFile.FieldType.boolean)]
set_option maxRecDepth 65536 in
theorem codes_eq : words1.filter isCode = codes1 := rfl
theorem w_codes : ∀ c ∈ words1.filter isCode, c.before args0 about1 = true := by
  rw [codes_eq]
  intro c hc
  simp only [codes1, List.mem_cons, List.not_mem_nil, or_false] at hc
  rcases hc with rfl | rfl | rfl
  · exact w_c0
  · exact w_c1
  · exact w_c2
set_option maxRecDepth 65536 in
theorem w_t1 : words1.all (fun c => isCode c || c.before args0 about1) = true := by decide +kernel
theorem w_tables : (allAtoms (Jvm.Cond.code x code maxLocals ret :: tables_1)).before args0 about1 = true := by
  rw [allAtoms_all]
  show words1.all (fun c => c.before args0 about1) = true
  refine all_split ?_ w_codes
  rw [w_t1]
set_option maxRecDepth 65536 in
theorem w_case : (Jvm.Cond.and given_1 narrow_1).before args0 about1 = true := by decide +kernel
theorem w_applies : (headSpec (Jvm.Cond.code x code maxLocals ret :: tables_1) room_1).applies x e0.platform about1 = true :=
  (Spec.applies_iff w_frames).mpr ⟨w_running, w_runnable, w_alone, w_named, w_hears, w_ripe, w_room, w_tables⟩
theorem atStart : AtStart classFile x code maxLocals ret World_1 tables_1 room_1 Calls_1 rest_1 Pre_1 launch0 p0 e0 about1 theMethod args0 below0 :=
  ⟨lists_1, trivial, launch0.admits_env _ _ _, launch0.least_env, fairChoices_fair.cas, fairChoices_fair.clock, w_frames, w_args, w_heap, w_applies, trivial, trivial, w_case⟩
end start1
theorem witness_1 : WitnessClaimed_1 := ⟨start1.p0, start1.e0, start1.about1, start1.theMethod, start1.args0, start1.below0, start1.atStart⟩
end Jvm.Pilot.@@N@@
