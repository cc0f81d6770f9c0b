import JvmDerived
import JvmDerived.Pilot.@@N@@Statement
import JvmDerived.Pilot.@@N@@Code
set_option linter.unusedVariables false
set_option linter.unusedSimpArgs false
namespace Jvm.RoadKit
open Sem ClassFile Op Lib Jvm.Stand Jvm.Free Jvm.LawKit
section New
variable {p : Program} {l : Launch} {e : Env} {R : Room} {s : State} {m : MethodId} {args : Array Value} {below : List Frame} {meth : Method} {c : Code} {T : State} {locs : List Loc} {cells slots : Nat}
theorem retI (X : Stand p l e R s m args below meth c T locs cells slots) (hx : p.tables.exec = Jvm.exec) {pc : Nat} {Ls : Array Slot} {z : Int32} {rest : List Value} (hret : meth.sig.returnType = some .int) (hd : decode c.code pc = .ok (.ireturn, 1)) {fs : List Frame}
    (hl : ∀ (f : JFrame) (acts : List Action), f.method = m → f.locked = none → f.entered = [] → (doReturn e (T.setTop f) acts (some (.int z))).1 = T.setFrames fs) : Steps p.tables e below (T.setTop (mkF m pc Ls (.int z :: rest))) (T.setFrames fs) := by
  have hm' : T.vm.method? m = some meth := X.method'
  have hn : narrow .int (.int z) = .int z := rfl
  show Steps p.tables e below (T.setTop { method := m, pc := pc, locals := Ls, stack := _ :: rest, locked := none }) _
  jvm_step X.here [X.here.top, hx, hd, hm', hret, hn]
  first | (intro acts; rw [hl _ acts rfl rfl rfl]) | rw [hl _ _ rfl rfl rfl]
  exact Steps.refl _
end New
end Jvm.RoadKit
namespace Jvm.Pilot.@@N@@
open Jvm Jvm.ClassFile Sem Op Lib Jvm.Free Jvm.Stand Jvm.LawKit Jvm.RoadKit Bundle Jvm.Pilot.@@N@@.Jvm.D
/-- the run comes from A to some end of which R holds -/
def Goes (tb : Tables) (e : Env) (below : List Frame) (A : State) (R : State → Outcome → Prop) : Prop := ∃ t o, Steps tb e below A t ∧ R t o
theorem Goes.to {tb : Tables} {e : Env} {below : List Frame} {A B : State} {R : State → Outcome → Prop} (k : ∀ t, Steps tb e below A t → Steps tb e below B t) (h : Goes tb e below A R) : Goes tb e below B R := by
  obtain ⟨t, o, h1, h2⟩ := h
  exact ⟨t, o, k t h1, h2⟩
/-- how a body ends: it has returned, of value and heap Q holds, and no more than that many cells and slots are new -/
def own_R (below : List Frame) (s : State) (Q : Option Value → Heap → List Loc → Prop) (k n : Nat) : State → Outcome → Prop := fun s₂ o => s₂.status = .running ∧ Ended s₂ below o ∧ ∃ v L, o = .returned v ∧ Q v s₂.heap L ∧ FrameEnd s o s₂ L k n
theorem Goes.tr {tb : Tables} {e : Env} {below : List Frame} {A B : State} {R : State → Outcome → Prop} (k : Steps tb e below B A) (h : Goes tb e below A R) : Goes tb e below B R := Goes.to (fun _ z => k.trans z) h


theorem own_eqv {args : Array Value} {first s : State} {o : Option Outcome} {idx : List Nat} {t : Term} {k : Int32} (h : (Jvm.Cond.eq t (.int k)).value args first o s idx = some true) : t.eval args first o idx s = some (.int k) := by
  obtain ⟨x, y, h1, h2, k1, k2⟩ := cmp_v (Or.inl h)
  cases (Option.some.inj (h2.symm.trans (Term.int_eval k)))
  obtain ⟨z, rfl⟩ := k2
  have e : z = k := by
    have q := h
    simp [Jvm.Cond.value, h1, h2] at q
    exact q
  rw [h1, e]

theorem own_len {args : Array Value} {s : State} {t : Term} {a : Addr} {c : Cell} {k : Int32} (ev : t.eval args s none [] s = some (.ref a)) (ha : s.arrayAt? a = some c) (h : (Jvm.Term.length t).eval args s none [] s = some (.int k)) : c.slots.size = k.toNatClampNeg := by
  have q : c.slots.size < 2 ^ 31 := by
    by_cases q : c.slots.size < 2 ^ 31
    · exact q
    · simp [Jvm.Term.eval, ev, ha, q] at h
  have e5 : c.slots.size.toInt32 = k := Value.int.inj (Option.some.inj ((len_f ev ha q).symm.trans h))
  rw [← e5]
  have e6 := len_toInt q
  simp only [Int32.toNatClampNeg, e6]; rfl


theorem own_or3 {P Q S : Prop} [Decidable P] [Decidable Q] [Decidable S] {args : Array Value} {first s : State} {o : Option Outcome} {idx : List Nat} {c d e : Jvm.Cond} (h1 : c.value args first o s idx = some (decide P)) (h2 : d.value args first o s idx = some (decide Q)) (h3 : e.value args first o s idx = some (decide S)) (h : (Jvm.Cond.or c (.or d e)).value args first o s idx = some true) : P ∨ Q ∨ S := by
  by_cases p : P
  · exact Or.inl p
  · rw [Cond.or_of_right (nay h1 p)] at h
    exact Or.inr (or_e2 h2 h3 h)

theorem d1_0 : decode prog_28_method_7_code 0 = .ok (.iload_n 0, 1) := by decide +kernel
theorem d1_1 : decode prog_28_method_7_code 1 = .ok (.getstatic 17, 3) := by decide +kernel
theorem d1_4 : decode prog_28_method_7_code 4 = .ok (.arraylength, 1) := by decide +kernel
theorem d1_5 : decode prog_28_method_7_code 5 = .ok (.if_icmp .ge 15, 3) := by decide +kernel
theorem d1_8 : decode prog_28_method_7_code 8 = .ok (.getstatic 17, 3) := by decide +kernel
theorem d1_11 : decode prog_28_method_7_code 11 = .ok (.iload_n 0, 1) := by decide +kernel
theorem d1_12 : decode prog_28_method_7_code 12 = .ok (.baload, 1) := by decide +kernel
theorem d1_13 : decode prog_28_method_7_code 13 = .ok (.ifCond .eq 7, 3) := by decide +kernel
theorem d1_16 : decode prog_28_method_7_code 16 = .ok (.iconst 1, 1) := by decide +kernel
theorem d1_17 : decode prog_28_method_7_code 17 = .ok (.goto 4, 3) := by decide +kernel
theorem d1_20 : decode prog_28_method_7_code 20 = .ok (.iconst 0, 1) := by decide +kernel
theorem d1_21 : decode prog_28_method_7_code 21 = .ok (.ireturn, 1) := by decide +kernel
theorem own_pn_1 : plainName "com/example/flows_over_http/flowsoverhttp/structuredfields/Grammar" = true := by first | (simp [plainName, overriddenIn]; done) | decide +kernel
theorem own_ef_own_rm1 (m : MethodId) (x0 : Int32) : entryFrame m #[(.int x0)] 1 = mkF m 0 #[.val (.int x0)] [] := by first | (simp [entryFrame, mkF, argsToLocals, Value.category]; done) | rfl
def own_Q_own_rm1 (Z : State) (x0 : Int32) (aK : Addr) (clK : Cell) (h0 : Heap) (n0 : Nat) (v : Option Value) (h : Heap) (L : List Loc) : Prop := v = some (.int (if ((97 ≤ x0.toInt ∧ x0.toInt ≤ 122) ∨ (48 ≤ x0.toInt ∧ x0.toInt ≤ 57) ∨ x0.toInt = 95 ∨ x0.toInt = 45 ∨ x0.toInt = 46 ∨ x0.toInt = 42) then (1 : Int32) else (0 : Int32))) ∧ Fr n0 L ∧ h = h0
set_option maxRecDepth 65536 in
set_option maxHeartbeats 40000000 in
theorem own_rm1 (l : Launch) (Z : State) (a0 : Array Value) (hw : ∀ d ∈ tables_1, d.before a0 Z = true) (ws : List Jvm.Cond) (x0 : Int32) (aK : Addr) (clK : Cell) (h0 : Heap) (n0 : Nat) (Z0 : n0 ≤ h0.size) (SK : Sta Z h0 "com/example/flows_over_http/flowsoverhttp/structuredfields/Grammar" "KEY_CHARS" "[Z" (.ref aK)) (AK : Arr Z h0 aK clK .boolean) (SZ : clK.slots.size = (128 : Int32).toNatClampNeg) (HK : ∀ j : Int32, 0 ≤ j.toInt → j.toInt < 128 → clK.slots[j.toNatClampNeg]? = some (.int (if ((97 ≤ j.toInt ∧ j.toInt ≤ 122) ∨ (48 ≤ j.toInt ∧ j.toInt ≤ 57) ∨ j.toInt = 95 ∨ j.toInt = 45 ∨ j.toInt = 46 ∨ j.toInt = 42) then (1 : Int32) else (0 : Int32)))) (hx0 : ¬ (x0 < (0 : Int32))) :
    MetFree l (⟨"com/example/flows_over_http/flowsoverhttp/structuredfields/Grammar", "isKeyChar", "(C)Z"⟩ : MethodName) (head1 (Jvm.Cond.code (⟨"com/example/flows_over_http/flowsoverhttp/structuredfields/Grammar", "isKeyChar", "(C)Z"⟩ : MethodName) prog_28_method_7_code 1 (some .boolean) :: ws) ({ frames := 0, cells := 0, slots := 0, locals := 0 } : Room)) (fun a U => a = #[(.int x0)] ∧ Z.Warmed39 U.vm ∧ U.heap = h0) (fun _ _ _ _ _ => True) (fun _ U o U' => ∃ v L, o = .returned v ∧ own_Q_own_rm1 Z x0 aK clK h0 n0 v U'.heap L ∧ FrameEnd U o U' L ({ frames := 0, cells := 0, slots := 0, locals := 0 } : Room).cells ({ frames := 0, cells := 0, slots := 0, locals := 0 } : Room).slots) := by
  refine MetFree.of_bodySF (plainFor_of_name own_pn_1) hisR ?_
  intro p e s m args below meth c s₁ Bd hml0 hP hK
  obtain ⟨rfl, hZ, hh⟩ := hP
  have hx := Bd.exec
  have hby := Bd.bytes
  have hml : c.maxLocals = 1 := hml0
  have hown : s.vm.findClass "com/example/flows_over_http/flowsoverhttp/structuredfields/Grammar" = some m.cls := findClass_of_methodNamed Bd.named
  have hnm := (name_of_methodNamed Bd.named Bd.method).1
  have X0 : Stand p l e ({ frames := 0, cells := 0, slots := 0, locals := 0 } : Room) s m #[(.int x0)] below meth c s₁ [] 0 0 := Stand.of_body Bd
  have e0 : s₁.heap = h0 := by rw [← hh, Bd.state]; rfl
  have N0 := Fr.nil n0
  show Goes p.tables e below _ (own_R below s (own_Q_own_rm1 Z x0 aK clK h0 n0) ({ frames := 0, cells := 0, slots := 0, locals := 0 } : Room).cells ({ frames := 0, cells := 0, slots := 0, locals := 0 } : Room).slots)
  refine Goes.to (fun t k => castTop (own_ef_own_rm1 m x0) k) ?_
  show Goes p.tables e below (s₁.setTop (mkF m 0 #[.val (.int x0)] [])) _
  refine Goes.to (fun _ k => XS.iloadN X0.here hx rfl (hb hby d1_0) rfl k) ?_
  show Goes p.tables e below (s₁.setTop (mkF m 1 #[.val (.int x0)] [(.int x0)])) _
  obtain ⟨T1, X1, e1, st1⟩ := getS2 X0 hx hZ hown (host := "") (Or.inl (hw _ (List.mem_of_getElem? (i := 5) rfl))) Via.refl e0 SK (g := (mkF m 1 #[.val (.int x0)] [(.int x0)])) rfl (hb hby d1_1)
  refine Goes.to st1 ?_
  show Goes p.tables e below (T1.setTop (mkF m 4 #[.val (.int x0)] [(.ref aK), (.int x0)])) _
  refine Goes.to (fun _ k => X1.arraylength hx (by rw [e1]; exact AK.1) (State.isArrayOf_alike hZ.alike AK.2.1) (g := (mkF m 4 #[.val (.int x0)] [(.ref aK), (.int x0)])) rfl rfl (hb hby d1_4) _ k) ?_
  rw [len_of SZ (by decide)]
  show Goes p.tables e below (T1.setTop (mkF m 5 #[.val (.int x0)] [(.int (128 : Int32)), (.int x0)])) _
  by_cases hc2 : x0 < (128 : Int32)
  · refine Goes.to (fun _ k => XS.icmpNo X1.here hx rfl (hb hby d1_5) rfl (tlt hc2).2.1 k) ?_
    show Goes p.tables e below (T1.setTop (mkF m 8 #[.val (.int x0)] [])) _
    obtain ⟨T3, X3, e3, st3⟩ := getS2 X1 hx hZ hown (host := "") (Or.inl (hw _ (List.mem_of_getElem? (i := 5) rfl))) Via.refl e1 SK (g := (mkF m 8 #[.val (.int x0)] [])) rfl (hb hby d1_8)
    refine Goes.to st3 ?_
    show Goes p.tables e below (T3.setTop (mkF m 11 #[.val (.int x0)] [(.ref aK)])) _
    refine Goes.to (fun _ k => XS.iloadN X3.here hx rfl (hb hby d1_11) rfl k) ?_
    show Goes p.tables e below (T3.setTop (mkF m 12 #[.val (.int x0)] [(.int x0), (.ref aK)])) _
    have hin : ¬ (x0 < 0 ∨ clK.slots.size ≤ x0.toNatClampNeg) := inb_of SZ ⟨hx0, hc2⟩
    have hat := HK x0 (by
      have k1 := rng32 x0
      have k2 : (0 : Int32).toInt = 0 := rfl
      have k3 : ¬ x0.toInt < (0 : Int32).toInt := fun z => hx0 (Int32.lt_iff_toInt_lt.mpr z)
      have k4 : (128 : Int32).toInt = 128 := rfl
      have k5 : x0.toInt < (128 : Int32).toInt := Int32.lt_iff_toInt_lt.mp hc2
      omega) (by
      have k1 := rng32 x0
      have k2 : (0 : Int32).toInt = 0 := rfl
      have k3 : ¬ x0.toInt < (0 : Int32).toInt := fun z => hx0 (Int32.lt_iff_toInt_lt.mpr z)
      have k4 : (128 : Int32).toInt = 128 := rfl
      have k5 : x0.toInt < (128 : Int32).toInt := Int32.lt_iff_toInt_lt.mp hc2
      omega)
    by_cases hc4 : ((97 ≤ x0.toInt ∧ x0.toInt ≤ 122) ∨ (48 ≤ x0.toInt ∧ x0.toInt ≤ 57) ∨ x0.toInt = 95 ∨ x0.toInt = 45 ∨ x0.toInt = 46 ∨ x0.toInt = 42)
    · rw [if_pos hc4] at hat
      refine Goes.to (fun _ k => X3.baloadBooleans hx (j := x0) (v := (.int (1 : Int32))) (by rw [e3]; exact AK.1) (State.isArrayOf_alike hZ.alike AK.2.1) AK.2.2 hin hat (g := (mkF m 12 #[.val (.int x0)] [(.int x0), (.ref aK)])) rfl rfl (hb hby d1_12) _ k) ?_
      show Goes p.tables e below (T3.setTop (mkF m 13 #[.val (.int x0)] [(.int (1 : Int32))])) _
      refine Goes.to (fun _ k => XS.ifNo X3.here hx rfl (hb hby d1_13) rfl ((if0 _ _).trans (feq (by decide : ¬ ((1 : Int32) = (0 : Int32)))).1) k) ?_
      show Goes p.tables e below (T3.setTop (mkF m 16 #[.val (.int x0)] [])) _
      refine Goes.to (fun _ k => XS.iconst X3.here hx rfl (hb hby d1_16) k) ?_
      show Goes p.tables e below (T3.setTop (mkF m 17 #[.val (.int x0)] [(.int (1 : Int32))])) _
      refine Goes.to (fun _ k => XS.goto X3.here hx rfl (pc0 := 17) (pc' := 21) rfl (hb hby d1_17) (by decide) (by decide) k) ?_
      show Goes p.tables e below (T3.setTop (mkF m 21 #[.val (.int x0)] [(.int (1 : Int32))])) _
      obtain ⟨fs, hr, hrun, hended, hW, hsame⟩ := X3.leave (v := some (.int (1 : Int32))) (fun h => by rw [Bd.returns] at h; cases h)
      have hv : (some (.int (1 : Int32)) : Option Value) = some (.int (if ((97 ≤ x0.toInt ∧ x0.toInt ≤ 122) ∨ (48 ≤ x0.toInt ∧ x0.toInt ≤ 57) ∨ x0.toInt = 95 ∨ x0.toInt = 45 ∨ x0.toInt = 46 ∨ x0.toInt = 42) then (1 : Int32) else (0 : Int32))) := by
        rw [if_pos (show ((97 ≤ x0.toInt ∧ x0.toInt ≤ 122) ∨ (48 ≤ x0.toInt ∧ x0.toInt ≤ 57) ∨ x0.toInt = 95 ∨ x0.toInt = 45 ∨ x0.toInt = 46 ∨ x0.toInt = 42) from by
          have k1 := rng32 x0
          have k2 : (0 : Int32).toInt = 0 := rfl
          have k3 : ¬ x0.toInt < (0 : Int32).toInt := fun z => hx0 (Int32.lt_iff_toInt_lt.mpr z)
          have k4 : (128 : Int32).toInt = 128 := rfl
          have k5 : x0.toInt < (128 : Int32).toInt := Int32.lt_iff_toInt_lt.mp hc2
          omega)]
      exact ⟨_, _, retN X3 hx (t := .boolean) Bd.returns (by simp) (hb hby d1_21) hr, hrun, hended, _, _, rfl, ⟨hv, N0, e3⟩, ⟨_, rfl⟩, hW, hsame.mono (by decide) (by decide)⟩
    · rw [if_neg hc4] at hat
      refine Goes.to (fun _ k => X3.baloadBooleans hx (j := x0) (v := (.int (0 : Int32))) (by rw [e3]; exact AK.1) (State.isArrayOf_alike hZ.alike AK.2.1) AK.2.2 hin hat (g := (mkF m 12 #[.val (.int x0)] [(.int x0), (.ref aK)])) rfl rfl (hb hby d1_12) _ k) ?_
      show Goes p.tables e below (T3.setTop (mkF m 13 #[.val (.int x0)] [(.int (0 : Int32))])) _
      refine Goes.to (fun _ k => XS.ifYes X3.here hx rfl (pc0 := 13) (pc' := 20) rfl (hb hby d1_13) rfl ((if0 _ _).trans (teq (by decide : (0 : Int32) = (0 : Int32))).1) (by decide) (by decide) k) ?_
      show Goes p.tables e below (T3.setTop (mkF m 20 #[.val (.int x0)] [])) _
      refine Goes.to (fun _ k => XS.iconst X3.here hx rfl (hb hby d1_20) k) ?_
      show Goes p.tables e below (T3.setTop (mkF m 21 #[.val (.int x0)] [(.int (0 : Int32))])) _
      obtain ⟨fs, hr, hrun, hended, hW, hsame⟩ := X3.leave (v := some (.int (0 : Int32))) (fun h => by rw [Bd.returns] at h; cases h)
      have hv : (some (.int (0 : Int32)) : Option Value) = some (.int (if ((97 ≤ x0.toInt ∧ x0.toInt ≤ 122) ∨ (48 ≤ x0.toInt ∧ x0.toInt ≤ 57) ∨ x0.toInt = 95 ∨ x0.toInt = 45 ∨ x0.toInt = 46 ∨ x0.toInt = 42) then (1 : Int32) else (0 : Int32))) := by
        rw [if_neg (show ¬ ((97 ≤ x0.toInt ∧ x0.toInt ≤ 122) ∨ (48 ≤ x0.toInt ∧ x0.toInt ≤ 57) ∨ x0.toInt = 95 ∨ x0.toInt = 45 ∨ x0.toInt = 46 ∨ x0.toInt = 42) from by
          have k1 := rng32 x0
          have k2 : (0 : Int32).toInt = 0 := rfl
          have k3 : ¬ x0.toInt < (0 : Int32).toInt := fun z => hx0 (Int32.lt_iff_toInt_lt.mpr z)
          have k4 : (128 : Int32).toInt = 128 := rfl
          have k5 : x0.toInt < (128 : Int32).toInt := Int32.lt_iff_toInt_lt.mp hc2
          omega)]
      exact ⟨_, _, retN X3 hx (t := .boolean) Bd.returns (by simp) (hb hby d1_21) hr, hrun, hended, _, _, rfl, ⟨hv, N0, e3⟩, ⟨_, rfl⟩, hW, hsame.mono (by decide) (by decide)⟩
  · refine Goes.to (fun _ k => XS.icmpYes X1.here hx rfl (pc0 := 5) (pc' := 20) rfl (hb hby d1_5) rfl (flt hc2).2.1 (by decide) (by decide) k) ?_
    show Goes p.tables e below (T1.setTop (mkF m 20 #[.val (.int x0)] [])) _
    refine Goes.to (fun _ k => XS.iconst X1.here hx rfl (hb hby d1_20) k) ?_
    show Goes p.tables e below (T1.setTop (mkF m 21 #[.val (.int x0)] [(.int (0 : Int32))])) _
    obtain ⟨fs, hr, hrun, hended, hW, hsame⟩ := X1.leave (v := some (.int (0 : Int32))) (fun h => by rw [Bd.returns] at h; cases h)
    have hv : (some (.int (0 : Int32)) : Option Value) = some (.int (if ((97 ≤ x0.toInt ∧ x0.toInt ≤ 122) ∨ (48 ≤ x0.toInt ∧ x0.toInt ≤ 57) ∨ x0.toInt = 95 ∨ x0.toInt = 45 ∨ x0.toInt = 46 ∨ x0.toInt = 42) then (1 : Int32) else (0 : Int32))) := by
      rw [if_neg (show ¬ ((97 ≤ x0.toInt ∧ x0.toInt ≤ 122) ∨ (48 ≤ x0.toInt ∧ x0.toInt ≤ 57) ∨ x0.toInt = 95 ∨ x0.toInt = 45 ∨ x0.toInt = 46 ∨ x0.toInt = 42) from by
        have k1 := rng32 x0
        have k2 : (0 : Int32).toInt = 0 := rfl
        have k3 : ¬ x0.toInt < (0 : Int32).toInt := fun z => hx0 (Int32.lt_iff_toInt_lt.mpr z)
        have k4 : (128 : Int32).toInt = 128 := rfl
        have k5 : ¬ x0.toInt < (128 : Int32).toInt := fun z => hc2 (Int32.lt_iff_toInt_lt.mpr z)
        omega)]
    exact ⟨_, _, retN X1 hx (t := .boolean) Bd.returns (by simp) (hb hby d1_21) hr, hrun, hended, _, _, rfl, ⟨hv, N0, e1⟩, ⟨_, rfl⟩, hW, hsame.mono (by decide) (by decide)⟩

theorem d2_0 : decode method_2_code 0 = .ok (.iload_n 0, 1) := by decide +kernel
theorem d2_1 : decode method_2_code 1 = .ok (.bipush 97, 2) := by decide +kernel
theorem d2_3 : decode method_2_code 3 = .ok (.if_icmp .lt 11, 3) := by decide +kernel
theorem d2_6 : decode method_2_code 6 = .ok (.iload_n 0, 1) := by decide +kernel
theorem d2_7 : decode method_2_code 7 = .ok (.bipush 122, 2) := by decide +kernel
theorem d2_9 : decode method_2_code 9 = .ok (.if_icmp .gt 5, 3) := by decide +kernel
theorem d2_12 : decode method_2_code 12 = .ok (.iconst 1, 1) := by decide +kernel
theorem d2_13 : decode method_2_code 13 = .ok (.ireturn, 1) := by decide +kernel
theorem d2_14 : decode method_2_code 14 = .ok (.iload_n 0, 1) := by decide +kernel
theorem d2_15 : decode method_2_code 15 = .ok (.bipush 48, 2) := by decide +kernel
theorem d2_17 : decode method_2_code 17 = .ok (.if_icmp .lt 11, 3) := by decide +kernel
theorem d2_20 : decode method_2_code 20 = .ok (.iload_n 0, 1) := by decide +kernel
theorem d2_21 : decode method_2_code 21 = .ok (.bipush 57, 2) := by decide +kernel
theorem d2_23 : decode method_2_code 23 = .ok (.if_icmp .gt 5, 3) := by decide +kernel
theorem d2_26 : decode method_2_code 26 = .ok (.iconst 1, 1) := by decide +kernel
theorem d2_27 : decode method_2_code 27 = .ok (.ireturn, 1) := by decide +kernel
theorem d2_28 : decode method_2_code 28 = .ok (.iload_n 0, 1) := by decide +kernel
theorem d2_29 : decode method_2_code 29 = .ok (.bipush 95, 2) := by decide +kernel
theorem d2_31 : decode method_2_code 31 = .ok (.if_icmp .eq 21, 3) := by decide +kernel
theorem d2_34 : decode method_2_code 34 = .ok (.iload_n 0, 1) := by decide +kernel
theorem d2_35 : decode method_2_code 35 = .ok (.bipush 45, 2) := by decide +kernel
theorem d2_37 : decode method_2_code 37 = .ok (.if_icmp .eq 15, 3) := by decide +kernel
theorem d2_40 : decode method_2_code 40 = .ok (.iload_n 0, 1) := by decide +kernel
theorem d2_41 : decode method_2_code 41 = .ok (.bipush 46, 2) := by decide +kernel
theorem d2_43 : decode method_2_code 43 = .ok (.if_icmp .eq 9, 3) := by decide +kernel
theorem d2_46 : decode method_2_code 46 = .ok (.iload_n 0, 1) := by decide +kernel
theorem d2_47 : decode method_2_code 47 = .ok (.bipush 42, 2) := by decide +kernel
theorem d2_49 : decode method_2_code 49 = .ok (.if_icmp .ne 7, 3) := by decide +kernel
theorem d2_52 : decode method_2_code 52 = .ok (.iconst 1, 1) := by decide +kernel
theorem d2_53 : decode method_2_code 53 = .ok (.goto 4, 3) := by decide +kernel
theorem d2_56 : decode method_2_code 56 = .ok (.iconst 0, 1) := by decide +kernel
theorem d2_57 : decode method_2_code 57 = .ok (.ireturn, 1) := by decide +kernel
theorem own_pn_2 : plainName "com/example/flows_over_http/flowsoverhttp/structuredfields/GrammarIsKeyCharPinLaw" = true := by first | (simp [plainName, overriddenIn]; done) | decide +kernel
theorem own_ef_own_rm2 (m : MethodId) (x0 : Int32) : entryFrame m #[(.int x0)] 1 = mkF m 0 #[.val (.int x0)] [] := by first | (simp [entryFrame, mkF, argsToLocals, Value.category]; done) | rfl
def own_Q_own_rm2 (Z : State) (x0 : Int32)  (h0 : Heap) (n0 : Nat) (v : Option Value) (h : Heap) (L : List Loc) : Prop := v = some (.int (if ((97 ≤ x0.toInt ∧ x0.toInt ≤ 122) ∨ (48 ≤ x0.toInt ∧ x0.toInt ≤ 57) ∨ x0.toInt = 95 ∨ x0.toInt = 45 ∨ x0.toInt = 46 ∨ x0.toInt = 42) then (1 : Int32) else (0 : Int32))) ∧ Fr n0 L ∧ h = h0
set_option maxRecDepth 65536 in
set_option maxHeartbeats 40000000 in
theorem own_rm2 (l : Launch) (Z : State) (a0 : Array Value) (hw : ∀ d ∈ tables_1, d.before a0 Z = true) (ws : List Jvm.Cond) (x0 : Int32)  (h0 : Heap) (n0 : Nat) (Z0 : n0 ≤ h0.size)  :
    MetFree l (⟨"com/example/flows_over_http/flowsoverhttp/structuredfields/GrammarIsKeyCharPinLaw", "expected", "(C)Z"⟩ : MethodName) (head1 (Jvm.Cond.code (⟨"com/example/flows_over_http/flowsoverhttp/structuredfields/GrammarIsKeyCharPinLaw", "expected", "(C)Z"⟩ : MethodName) method_2_code 1 (some .boolean) :: ws) ({ frames := 0, cells := 0, slots := 0, locals := 0 } : Room)) (fun a U => a = #[(.int x0)] ∧ Z.Warmed39 U.vm ∧ U.heap = h0) (fun _ _ _ _ _ => True) (fun _ U o U' => ∃ v L, o = .returned v ∧ own_Q_own_rm2 Z x0 h0 n0 v U'.heap L ∧ FrameEnd U o U' L ({ frames := 0, cells := 0, slots := 0, locals := 0 } : Room).cells ({ frames := 0, cells := 0, slots := 0, locals := 0 } : Room).slots) := by
  refine MetFree.of_bodySF (plainFor_of_name own_pn_2) hisR ?_
  intro p e s m args below meth c s₁ Bd hml0 hP hK
  obtain ⟨rfl, hZ, hh⟩ := hP
  have hx := Bd.exec
  have hby := Bd.bytes
  have hml : c.maxLocals = 1 := hml0
  have hown : s.vm.findClass "com/example/flows_over_http/flowsoverhttp/structuredfields/GrammarIsKeyCharPinLaw" = some m.cls := findClass_of_methodNamed Bd.named
  have hnm := (name_of_methodNamed Bd.named Bd.method).1
  have X0 : Stand p l e ({ frames := 0, cells := 0, slots := 0, locals := 0 } : Room) s m #[(.int x0)] below meth c s₁ [] 0 0 := Stand.of_body Bd
  have e0 : s₁.heap = h0 := by rw [← hh, Bd.state]; rfl
  have N0 := Fr.nil n0
  show Goes p.tables e below _ (own_R below s (own_Q_own_rm2 Z x0 h0 n0) ({ frames := 0, cells := 0, slots := 0, locals := 0 } : Room).cells ({ frames := 0, cells := 0, slots := 0, locals := 0 } : Room).slots)
  refine Goes.to (fun t k => castTop (own_ef_own_rm2 m x0) k) ?_
  show Goes p.tables e below (s₁.setTop (mkF m 0 #[.val (.int x0)] [])) _
  refine Goes.to (fun _ k => XS.iloadN X0.here hx rfl (hb hby d2_0) rfl k) ?_
  show Goes p.tables e below (s₁.setTop (mkF m 1 #[.val (.int x0)] [(.int x0)])) _
  refine Goes.to (fun _ k => XS.bipush X0.here hx rfl (hb hby d2_1) k) ?_
  show Goes p.tables e below (s₁.setTop (mkF m 3 #[.val (.int x0)] [(.int (97 : Int32)), (.int x0)])) _
  by_cases hc1 : x0 < (97 : Int32)
  · refine Goes.to (fun _ k => XS.icmpYes X0.here hx rfl (pc0 := 3) (pc' := 14) rfl (hb hby d2_3) rfl (tlt hc1).1 (by decide) (by decide) k) ?_
    show Goes p.tables e below (s₁.setTop (mkF m 14 #[.val (.int x0)] [])) _
    refine Goes.to (fun _ k => XS.iloadN X0.here hx rfl (hb hby d2_14) rfl k) ?_
    show Goes p.tables e below (s₁.setTop (mkF m 15 #[.val (.int x0)] [(.int x0)])) _
    refine Goes.to (fun _ k => XS.bipush X0.here hx rfl (hb hby d2_15) k) ?_
    show Goes p.tables e below (s₁.setTop (mkF m 17 #[.val (.int x0)] [(.int (48 : Int32)), (.int x0)])) _
    by_cases hc2 : x0 < (48 : Int32)
    · refine Goes.to (fun _ k => XS.icmpYes X0.here hx rfl (pc0 := 17) (pc' := 28) rfl (hb hby d2_17) rfl (tlt hc2).1 (by decide) (by decide) k) ?_
      show Goes p.tables e below (s₁.setTop (mkF m 28 #[.val (.int x0)] [])) _
      refine Goes.to (fun _ k => XS.iloadN X0.here hx rfl (hb hby d2_28) rfl k) ?_
      show Goes p.tables e below (s₁.setTop (mkF m 29 #[.val (.int x0)] [(.int x0)])) _
      refine Goes.to (fun _ k => XS.bipush X0.here hx rfl (hb hby d2_29) k) ?_
      show Goes p.tables e below (s₁.setTop (mkF m 31 #[.val (.int x0)] [(.int (95 : Int32)), (.int x0)])) _
      by_cases hc3 : x0 = (95 : Int32)
      · refine Goes.to (fun _ k => XS.icmpYes X0.here hx rfl (pc0 := 31) (pc' := 52) rfl (hb hby d2_31) rfl (teq hc3).1 (by decide) (by decide) k) ?_
        show Goes p.tables e below (s₁.setTop (mkF m 52 #[.val (.int x0)] [])) _
        refine Goes.to (fun _ k => XS.iconst X0.here hx rfl (hb hby d2_52) k) ?_
        show Goes p.tables e below (s₁.setTop (mkF m 53 #[.val (.int x0)] [(.int (1 : Int32))])) _
        refine Goes.to (fun _ k => XS.goto X0.here hx rfl (pc0 := 53) (pc' := 57) rfl (hb hby d2_53) (by decide) (by decide) k) ?_
        show Goes p.tables e below (s₁.setTop (mkF m 57 #[.val (.int x0)] [(.int (1 : Int32))])) _
        obtain ⟨fs, hr, hrun, hended, hW, hsame⟩ := X0.leave (v := some (.int (1 : Int32))) (fun h => by rw [Bd.returns] at h; cases h)
        have hv : (some (.int (1 : Int32)) : Option Value) = some (.int (if ((97 ≤ x0.toInt ∧ x0.toInt ≤ 122) ∨ (48 ≤ x0.toInt ∧ x0.toInt ≤ 57) ∨ x0.toInt = 95 ∨ x0.toInt = 45 ∨ x0.toInt = 46 ∨ x0.toInt = 42) then (1 : Int32) else (0 : Int32))) := by
          rw [if_pos (show ((97 ≤ x0.toInt ∧ x0.toInt ≤ 122) ∨ (48 ≤ x0.toInt ∧ x0.toInt ≤ 57) ∨ x0.toInt = 95 ∨ x0.toInt = 45 ∨ x0.toInt = 46 ∨ x0.toInt = 42) from by
            have k1 := rng32 x0
            have k2 : (97 : Int32).toInt = 97 := rfl
            have k3 : x0.toInt < (97 : Int32).toInt := Int32.lt_iff_toInt_lt.mp hc1
            have k4 : (48 : Int32).toInt = 48 := rfl
            have k5 : x0.toInt < (48 : Int32).toInt := Int32.lt_iff_toInt_lt.mp hc2
            have k6 : (95 : Int32).toInt = 95 := rfl
            have k7 : x0.toInt = (95 : Int32).toInt := congrArg Int32.toInt hc3
            omega)]
        exact ⟨_, _, retN X0 hx (t := .boolean) Bd.returns (by simp) (hb hby d2_57) hr, hrun, hended, _, _, rfl, ⟨hv, N0, e0⟩, ⟨_, rfl⟩, hW, hsame.mono (by decide) (by decide)⟩
      · refine Goes.to (fun _ k => XS.icmpNo X0.here hx rfl (hb hby d2_31) rfl (feq hc3).1 k) ?_
        show Goes p.tables e below (s₁.setTop (mkF m 34 #[.val (.int x0)] [])) _
        refine Goes.to (fun _ k => XS.iloadN X0.here hx rfl (hb hby d2_34) rfl k) ?_
        show Goes p.tables e below (s₁.setTop (mkF m 35 #[.val (.int x0)] [(.int x0)])) _
        refine Goes.to (fun _ k => XS.bipush X0.here hx rfl (hb hby d2_35) k) ?_
        show Goes p.tables e below (s₁.setTop (mkF m 37 #[.val (.int x0)] [(.int (45 : Int32)), (.int x0)])) _
        by_cases hc4 : x0 = (45 : Int32)
        · refine Goes.to (fun _ k => XS.icmpYes X0.here hx rfl (pc0 := 37) (pc' := 52) rfl (hb hby d2_37) rfl (teq hc4).1 (by decide) (by decide) k) ?_
          show Goes p.tables e below (s₁.setTop (mkF m 52 #[.val (.int x0)] [])) _
          refine Goes.to (fun _ k => XS.iconst X0.here hx rfl (hb hby d2_52) k) ?_
          show Goes p.tables e below (s₁.setTop (mkF m 53 #[.val (.int x0)] [(.int (1 : Int32))])) _
          refine Goes.to (fun _ k => XS.goto X0.here hx rfl (pc0 := 53) (pc' := 57) rfl (hb hby d2_53) (by decide) (by decide) k) ?_
          show Goes p.tables e below (s₁.setTop (mkF m 57 #[.val (.int x0)] [(.int (1 : Int32))])) _
          obtain ⟨fs, hr, hrun, hended, hW, hsame⟩ := X0.leave (v := some (.int (1 : Int32))) (fun h => by rw [Bd.returns] at h; cases h)
          have hv : (some (.int (1 : Int32)) : Option Value) = some (.int (if ((97 ≤ x0.toInt ∧ x0.toInt ≤ 122) ∨ (48 ≤ x0.toInt ∧ x0.toInt ≤ 57) ∨ x0.toInt = 95 ∨ x0.toInt = 45 ∨ x0.toInt = 46 ∨ x0.toInt = 42) then (1 : Int32) else (0 : Int32))) := by
            rw [if_pos (show ((97 ≤ x0.toInt ∧ x0.toInt ≤ 122) ∨ (48 ≤ x0.toInt ∧ x0.toInt ≤ 57) ∨ x0.toInt = 95 ∨ x0.toInt = 45 ∨ x0.toInt = 46 ∨ x0.toInt = 42) from by
              have k1 := rng32 x0
              have k2 : (97 : Int32).toInt = 97 := rfl
              have k3 : x0.toInt < (97 : Int32).toInt := Int32.lt_iff_toInt_lt.mp hc1
              have k4 : (48 : Int32).toInt = 48 := rfl
              have k5 : x0.toInt < (48 : Int32).toInt := Int32.lt_iff_toInt_lt.mp hc2
              have k6 : (95 : Int32).toInt = 95 := rfl
              have k7 : ¬ x0.toInt = (95 : Int32).toInt := fun z => hc3 (Int32.toInt_inj.mp z)
              have k8 : (45 : Int32).toInt = 45 := rfl
              have k9 : x0.toInt = (45 : Int32).toInt := congrArg Int32.toInt hc4
              omega)]
          exact ⟨_, _, retN X0 hx (t := .boolean) Bd.returns (by simp) (hb hby d2_57) hr, hrun, hended, _, _, rfl, ⟨hv, N0, e0⟩, ⟨_, rfl⟩, hW, hsame.mono (by decide) (by decide)⟩
        · refine Goes.to (fun _ k => XS.icmpNo X0.here hx rfl (hb hby d2_37) rfl (feq hc4).1 k) ?_
          show Goes p.tables e below (s₁.setTop (mkF m 40 #[.val (.int x0)] [])) _
          refine Goes.to (fun _ k => XS.iloadN X0.here hx rfl (hb hby d2_40) rfl k) ?_
          show Goes p.tables e below (s₁.setTop (mkF m 41 #[.val (.int x0)] [(.int x0)])) _
          refine Goes.to (fun _ k => XS.bipush X0.here hx rfl (hb hby d2_41) k) ?_
          show Goes p.tables e below (s₁.setTop (mkF m 43 #[.val (.int x0)] [(.int (46 : Int32)), (.int x0)])) _
          by_cases hc5 : x0 = (46 : Int32)
          · refine Goes.to (fun _ k => XS.icmpYes X0.here hx rfl (pc0 := 43) (pc' := 52) rfl (hb hby d2_43) rfl (teq hc5).1 (by decide) (by decide) k) ?_
            show Goes p.tables e below (s₁.setTop (mkF m 52 #[.val (.int x0)] [])) _
            refine Goes.to (fun _ k => XS.iconst X0.here hx rfl (hb hby d2_52) k) ?_
            show Goes p.tables e below (s₁.setTop (mkF m 53 #[.val (.int x0)] [(.int (1 : Int32))])) _
            refine Goes.to (fun _ k => XS.goto X0.here hx rfl (pc0 := 53) (pc' := 57) rfl (hb hby d2_53) (by decide) (by decide) k) ?_
            show Goes p.tables e below (s₁.setTop (mkF m 57 #[.val (.int x0)] [(.int (1 : Int32))])) _
            obtain ⟨fs, hr, hrun, hended, hW, hsame⟩ := X0.leave (v := some (.int (1 : Int32))) (fun h => by rw [Bd.returns] at h; cases h)
            have hv : (some (.int (1 : Int32)) : Option Value) = some (.int (if ((97 ≤ x0.toInt ∧ x0.toInt ≤ 122) ∨ (48 ≤ x0.toInt ∧ x0.toInt ≤ 57) ∨ x0.toInt = 95 ∨ x0.toInt = 45 ∨ x0.toInt = 46 ∨ x0.toInt = 42) then (1 : Int32) else (0 : Int32))) := by
              rw [if_pos (show ((97 ≤ x0.toInt ∧ x0.toInt ≤ 122) ∨ (48 ≤ x0.toInt ∧ x0.toInt ≤ 57) ∨ x0.toInt = 95 ∨ x0.toInt = 45 ∨ x0.toInt = 46 ∨ x0.toInt = 42) from by
                have k1 := rng32 x0
                have k2 : (97 : Int32).toInt = 97 := rfl
                have k3 : x0.toInt < (97 : Int32).toInt := Int32.lt_iff_toInt_lt.mp hc1
                have k4 : (48 : Int32).toInt = 48 := rfl
                have k5 : x0.toInt < (48 : Int32).toInt := Int32.lt_iff_toInt_lt.mp hc2
                have k6 : (95 : Int32).toInt = 95 := rfl
                have k7 : ¬ x0.toInt = (95 : Int32).toInt := fun z => hc3 (Int32.toInt_inj.mp z)
                have k8 : (45 : Int32).toInt = 45 := rfl
                have k9 : ¬ x0.toInt = (45 : Int32).toInt := fun z => hc4 (Int32.toInt_inj.mp z)
                have k10 : (46 : Int32).toInt = 46 := rfl
                have k11 : x0.toInt = (46 : Int32).toInt := congrArg Int32.toInt hc5
                omega)]
            exact ⟨_, _, retN X0 hx (t := .boolean) Bd.returns (by simp) (hb hby d2_57) hr, hrun, hended, _, _, rfl, ⟨hv, N0, e0⟩, ⟨_, rfl⟩, hW, hsame.mono (by decide) (by decide)⟩
          · refine Goes.to (fun _ k => XS.icmpNo X0.here hx rfl (hb hby d2_43) rfl (feq hc5).1 k) ?_
            show Goes p.tables e below (s₁.setTop (mkF m 46 #[.val (.int x0)] [])) _
            refine Goes.to (fun _ k => XS.iloadN X0.here hx rfl (hb hby d2_46) rfl k) ?_
            show Goes p.tables e below (s₁.setTop (mkF m 47 #[.val (.int x0)] [(.int x0)])) _
            refine Goes.to (fun _ k => XS.bipush X0.here hx rfl (hb hby d2_47) k) ?_
            show Goes p.tables e below (s₁.setTop (mkF m 49 #[.val (.int x0)] [(.int (42 : Int32)), (.int x0)])) _
            by_cases hc6 : x0 = (42 : Int32)
            · refine Goes.to (fun _ k => XS.icmpNo X0.here hx rfl (hb hby d2_49) rfl (teq hc6).2 k) ?_
              show Goes p.tables e below (s₁.setTop (mkF m 52 #[.val (.int x0)] [])) _
              refine Goes.to (fun _ k => XS.iconst X0.here hx rfl (hb hby d2_52) k) ?_
              show Goes p.tables e below (s₁.setTop (mkF m 53 #[.val (.int x0)] [(.int (1 : Int32))])) _
              refine Goes.to (fun _ k => XS.goto X0.here hx rfl (pc0 := 53) (pc' := 57) rfl (hb hby d2_53) (by decide) (by decide) k) ?_
              show Goes p.tables e below (s₁.setTop (mkF m 57 #[.val (.int x0)] [(.int (1 : Int32))])) _
              obtain ⟨fs, hr, hrun, hended, hW, hsame⟩ := X0.leave (v := some (.int (1 : Int32))) (fun h => by rw [Bd.returns] at h; cases h)
              have hv : (some (.int (1 : Int32)) : Option Value) = some (.int (if ((97 ≤ x0.toInt ∧ x0.toInt ≤ 122) ∨ (48 ≤ x0.toInt ∧ x0.toInt ≤ 57) ∨ x0.toInt = 95 ∨ x0.toInt = 45 ∨ x0.toInt = 46 ∨ x0.toInt = 42) then (1 : Int32) else (0 : Int32))) := by
                rw [if_pos (show ((97 ≤ x0.toInt ∧ x0.toInt ≤ 122) ∨ (48 ≤ x0.toInt ∧ x0.toInt ≤ 57) ∨ x0.toInt = 95 ∨ x0.toInt = 45 ∨ x0.toInt = 46 ∨ x0.toInt = 42) from by
                  have k1 := rng32 x0
                  have k2 : (97 : Int32).toInt = 97 := rfl
                  have k3 : x0.toInt < (97 : Int32).toInt := Int32.lt_iff_toInt_lt.mp hc1
                  have k4 : (48 : Int32).toInt = 48 := rfl
                  have k5 : x0.toInt < (48 : Int32).toInt := Int32.lt_iff_toInt_lt.mp hc2
                  have k6 : (95 : Int32).toInt = 95 := rfl
                  have k7 : ¬ x0.toInt = (95 : Int32).toInt := fun z => hc3 (Int32.toInt_inj.mp z)
                  have k8 : (45 : Int32).toInt = 45 := rfl
                  have k9 : ¬ x0.toInt = (45 : Int32).toInt := fun z => hc4 (Int32.toInt_inj.mp z)
                  have k10 : (46 : Int32).toInt = 46 := rfl
                  have k11 : ¬ x0.toInt = (46 : Int32).toInt := fun z => hc5 (Int32.toInt_inj.mp z)
                  have k12 : (42 : Int32).toInt = 42 := rfl
                  have k13 : x0.toInt = (42 : Int32).toInt := congrArg Int32.toInt hc6
                  omega)]
              exact ⟨_, _, retN X0 hx (t := .boolean) Bd.returns (by simp) (hb hby d2_57) hr, hrun, hended, _, _, rfl, ⟨hv, N0, e0⟩, ⟨_, rfl⟩, hW, hsame.mono (by decide) (by decide)⟩
            · refine Goes.to (fun _ k => XS.icmpYes X0.here hx rfl (pc0 := 49) (pc' := 56) rfl (hb hby d2_49) rfl (feq hc6).2 (by decide) (by decide) k) ?_
              show Goes p.tables e below (s₁.setTop (mkF m 56 #[.val (.int x0)] [])) _
              refine Goes.to (fun _ k => XS.iconst X0.here hx rfl (hb hby d2_56) k) ?_
              show Goes p.tables e below (s₁.setTop (mkF m 57 #[.val (.int x0)] [(.int (0 : Int32))])) _
              obtain ⟨fs, hr, hrun, hended, hW, hsame⟩ := X0.leave (v := some (.int (0 : Int32))) (fun h => by rw [Bd.returns] at h; cases h)
              have hv : (some (.int (0 : Int32)) : Option Value) = some (.int (if ((97 ≤ x0.toInt ∧ x0.toInt ≤ 122) ∨ (48 ≤ x0.toInt ∧ x0.toInt ≤ 57) ∨ x0.toInt = 95 ∨ x0.toInt = 45 ∨ x0.toInt = 46 ∨ x0.toInt = 42) then (1 : Int32) else (0 : Int32))) := by
                rw [if_neg (show ¬ ((97 ≤ x0.toInt ∧ x0.toInt ≤ 122) ∨ (48 ≤ x0.toInt ∧ x0.toInt ≤ 57) ∨ x0.toInt = 95 ∨ x0.toInt = 45 ∨ x0.toInt = 46 ∨ x0.toInt = 42) from by
                  have k1 := rng32 x0
                  have k2 : (97 : Int32).toInt = 97 := rfl
                  have k3 : x0.toInt < (97 : Int32).toInt := Int32.lt_iff_toInt_lt.mp hc1
                  have k4 : (48 : Int32).toInt = 48 := rfl
                  have k5 : x0.toInt < (48 : Int32).toInt := Int32.lt_iff_toInt_lt.mp hc2
                  have k6 : (95 : Int32).toInt = 95 := rfl
                  have k7 : ¬ x0.toInt = (95 : Int32).toInt := fun z => hc3 (Int32.toInt_inj.mp z)
                  have k8 : (45 : Int32).toInt = 45 := rfl
                  have k9 : ¬ x0.toInt = (45 : Int32).toInt := fun z => hc4 (Int32.toInt_inj.mp z)
                  have k10 : (46 : Int32).toInt = 46 := rfl
                  have k11 : ¬ x0.toInt = (46 : Int32).toInt := fun z => hc5 (Int32.toInt_inj.mp z)
                  have k12 : (42 : Int32).toInt = 42 := rfl
                  have k13 : ¬ x0.toInt = (42 : Int32).toInt := fun z => hc6 (Int32.toInt_inj.mp z)
                  omega)]
              exact ⟨_, _, retN X0 hx (t := .boolean) Bd.returns (by simp) (hb hby d2_57) hr, hrun, hended, _, _, rfl, ⟨hv, N0, e0⟩, ⟨_, rfl⟩, hW, hsame.mono (by decide) (by decide)⟩
    · refine Goes.to (fun _ k => XS.icmpNo X0.here hx rfl (hb hby d2_17) rfl (flt hc2).1 k) ?_
      show Goes p.tables e below (s₁.setTop (mkF m 20 #[.val (.int x0)] [])) _
      refine Goes.to (fun _ k => XS.iloadN X0.here hx rfl (hb hby d2_20) rfl k) ?_
      show Goes p.tables e below (s₁.setTop (mkF m 21 #[.val (.int x0)] [(.int x0)])) _
      refine Goes.to (fun _ k => XS.bipush X0.here hx rfl (hb hby d2_21) k) ?_
      show Goes p.tables e below (s₁.setTop (mkF m 23 #[.val (.int x0)] [(.int (57 : Int32)), (.int x0)])) _
      by_cases hc7 : (57 : Int32) < x0
      · refine Goes.to (fun _ k => XS.icmpYes X0.here hx rfl (pc0 := 23) (pc' := 28) rfl (hb hby d2_23) rfl (tlt hc7).2.2.1 (by decide) (by decide) k) ?_
        show Goes p.tables e below (s₁.setTop (mkF m 28 #[.val (.int x0)] [])) _
        refine Goes.to (fun _ k => XS.iloadN X0.here hx rfl (hb hby d2_28) rfl k) ?_
        show Goes p.tables e below (s₁.setTop (mkF m 29 #[.val (.int x0)] [(.int x0)])) _
        refine Goes.to (fun _ k => XS.bipush X0.here hx rfl (hb hby d2_29) k) ?_
        show Goes p.tables e below (s₁.setTop (mkF m 31 #[.val (.int x0)] [(.int (95 : Int32)), (.int x0)])) _
        by_cases hc8 : x0 = (95 : Int32)
        · refine Goes.to (fun _ k => XS.icmpYes X0.here hx rfl (pc0 := 31) (pc' := 52) rfl (hb hby d2_31) rfl (teq hc8).1 (by decide) (by decide) k) ?_
          show Goes p.tables e below (s₁.setTop (mkF m 52 #[.val (.int x0)] [])) _
          refine Goes.to (fun _ k => XS.iconst X0.here hx rfl (hb hby d2_52) k) ?_
          show Goes p.tables e below (s₁.setTop (mkF m 53 #[.val (.int x0)] [(.int (1 : Int32))])) _
          refine Goes.to (fun _ k => XS.goto X0.here hx rfl (pc0 := 53) (pc' := 57) rfl (hb hby d2_53) (by decide) (by decide) k) ?_
          show Goes p.tables e below (s₁.setTop (mkF m 57 #[.val (.int x0)] [(.int (1 : Int32))])) _
          obtain ⟨fs, hr, hrun, hended, hW, hsame⟩ := X0.leave (v := some (.int (1 : Int32))) (fun h => by rw [Bd.returns] at h; cases h)
          have hv : (some (.int (1 : Int32)) : Option Value) = some (.int (if ((97 ≤ x0.toInt ∧ x0.toInt ≤ 122) ∨ (48 ≤ x0.toInt ∧ x0.toInt ≤ 57) ∨ x0.toInt = 95 ∨ x0.toInt = 45 ∨ x0.toInt = 46 ∨ x0.toInt = 42) then (1 : Int32) else (0 : Int32))) := by
            rw [if_pos (show ((97 ≤ x0.toInt ∧ x0.toInt ≤ 122) ∨ (48 ≤ x0.toInt ∧ x0.toInt ≤ 57) ∨ x0.toInt = 95 ∨ x0.toInt = 45 ∨ x0.toInt = 46 ∨ x0.toInt = 42) from by
              have k1 := rng32 x0
              have k2 : (97 : Int32).toInt = 97 := rfl
              have k3 : x0.toInt < (97 : Int32).toInt := Int32.lt_iff_toInt_lt.mp hc1
              have k4 : (48 : Int32).toInt = 48 := rfl
              have k5 : ¬ x0.toInt < (48 : Int32).toInt := fun z => hc2 (Int32.lt_iff_toInt_lt.mpr z)
              have k6 : (57 : Int32).toInt = 57 := rfl
              have k7 : (57 : Int32).toInt < x0.toInt := Int32.lt_iff_toInt_lt.mp hc7
              have k8 : (95 : Int32).toInt = 95 := rfl
              have k9 : x0.toInt = (95 : Int32).toInt := congrArg Int32.toInt hc8
              omega)]
          exact ⟨_, _, retN X0 hx (t := .boolean) Bd.returns (by simp) (hb hby d2_57) hr, hrun, hended, _, _, rfl, ⟨hv, N0, e0⟩, ⟨_, rfl⟩, hW, hsame.mono (by decide) (by decide)⟩
        · refine Goes.to (fun _ k => XS.icmpNo X0.here hx rfl (hb hby d2_31) rfl (feq hc8).1 k) ?_
          show Goes p.tables e below (s₁.setTop (mkF m 34 #[.val (.int x0)] [])) _
          refine Goes.to (fun _ k => XS.iloadN X0.here hx rfl (hb hby d2_34) rfl k) ?_
          show Goes p.tables e below (s₁.setTop (mkF m 35 #[.val (.int x0)] [(.int x0)])) _
          refine Goes.to (fun _ k => XS.bipush X0.here hx rfl (hb hby d2_35) k) ?_
          show Goes p.tables e below (s₁.setTop (mkF m 37 #[.val (.int x0)] [(.int (45 : Int32)), (.int x0)])) _
          by_cases hc9 : x0 = (45 : Int32)
          · refine Goes.to (fun _ k => XS.icmpYes X0.here hx rfl (pc0 := 37) (pc' := 52) rfl (hb hby d2_37) rfl (teq hc9).1 (by decide) (by decide) k) ?_
            show Goes p.tables e below (s₁.setTop (mkF m 52 #[.val (.int x0)] [])) _
            refine Goes.to (fun _ k => XS.iconst X0.here hx rfl (hb hby d2_52) k) ?_
            show Goes p.tables e below (s₁.setTop (mkF m 53 #[.val (.int x0)] [(.int (1 : Int32))])) _
            refine Goes.to (fun _ k => XS.goto X0.here hx rfl (pc0 := 53) (pc' := 57) rfl (hb hby d2_53) (by decide) (by decide) k) ?_
            show Goes p.tables e below (s₁.setTop (mkF m 57 #[.val (.int x0)] [(.int (1 : Int32))])) _
            obtain ⟨fs, hr, hrun, hended, hW, hsame⟩ := X0.leave (v := some (.int (1 : Int32))) (fun h => by rw [Bd.returns] at h; cases h)
            have hv : (some (.int (1 : Int32)) : Option Value) = some (.int (if ((97 ≤ x0.toInt ∧ x0.toInt ≤ 122) ∨ (48 ≤ x0.toInt ∧ x0.toInt ≤ 57) ∨ x0.toInt = 95 ∨ x0.toInt = 45 ∨ x0.toInt = 46 ∨ x0.toInt = 42) then (1 : Int32) else (0 : Int32))) := by
              rw [if_pos (show ((97 ≤ x0.toInt ∧ x0.toInt ≤ 122) ∨ (48 ≤ x0.toInt ∧ x0.toInt ≤ 57) ∨ x0.toInt = 95 ∨ x0.toInt = 45 ∨ x0.toInt = 46 ∨ x0.toInt = 42) from by
                have k1 := rng32 x0
                have k2 : (97 : Int32).toInt = 97 := rfl
                have k3 : x0.toInt < (97 : Int32).toInt := Int32.lt_iff_toInt_lt.mp hc1
                have k4 : (48 : Int32).toInt = 48 := rfl
                have k5 : ¬ x0.toInt < (48 : Int32).toInt := fun z => hc2 (Int32.lt_iff_toInt_lt.mpr z)
                have k6 : (57 : Int32).toInt = 57 := rfl
                have k7 : (57 : Int32).toInt < x0.toInt := Int32.lt_iff_toInt_lt.mp hc7
                have k8 : (95 : Int32).toInt = 95 := rfl
                have k9 : ¬ x0.toInt = (95 : Int32).toInt := fun z => hc8 (Int32.toInt_inj.mp z)
                have k10 : (45 : Int32).toInt = 45 := rfl
                have k11 : x0.toInt = (45 : Int32).toInt := congrArg Int32.toInt hc9
                omega)]
            exact ⟨_, _, retN X0 hx (t := .boolean) Bd.returns (by simp) (hb hby d2_57) hr, hrun, hended, _, _, rfl, ⟨hv, N0, e0⟩, ⟨_, rfl⟩, hW, hsame.mono (by decide) (by decide)⟩
          · refine Goes.to (fun _ k => XS.icmpNo X0.here hx rfl (hb hby d2_37) rfl (feq hc9).1 k) ?_
            show Goes p.tables e below (s₁.setTop (mkF m 40 #[.val (.int x0)] [])) _
            refine Goes.to (fun _ k => XS.iloadN X0.here hx rfl (hb hby d2_40) rfl k) ?_
            show Goes p.tables e below (s₁.setTop (mkF m 41 #[.val (.int x0)] [(.int x0)])) _
            refine Goes.to (fun _ k => XS.bipush X0.here hx rfl (hb hby d2_41) k) ?_
            show Goes p.tables e below (s₁.setTop (mkF m 43 #[.val (.int x0)] [(.int (46 : Int32)), (.int x0)])) _
            by_cases hc10 : x0 = (46 : Int32)
            · refine Goes.to (fun _ k => XS.icmpYes X0.here hx rfl (pc0 := 43) (pc' := 52) rfl (hb hby d2_43) rfl (teq hc10).1 (by decide) (by decide) k) ?_
              show Goes p.tables e below (s₁.setTop (mkF m 52 #[.val (.int x0)] [])) _
              refine Goes.to (fun _ k => XS.iconst X0.here hx rfl (hb hby d2_52) k) ?_
              show Goes p.tables e below (s₁.setTop (mkF m 53 #[.val (.int x0)] [(.int (1 : Int32))])) _
              refine Goes.to (fun _ k => XS.goto X0.here hx rfl (pc0 := 53) (pc' := 57) rfl (hb hby d2_53) (by decide) (by decide) k) ?_
              show Goes p.tables e below (s₁.setTop (mkF m 57 #[.val (.int x0)] [(.int (1 : Int32))])) _
              obtain ⟨fs, hr, hrun, hended, hW, hsame⟩ := X0.leave (v := some (.int (1 : Int32))) (fun h => by rw [Bd.returns] at h; cases h)
              have hv : (some (.int (1 : Int32)) : Option Value) = some (.int (if ((97 ≤ x0.toInt ∧ x0.toInt ≤ 122) ∨ (48 ≤ x0.toInt ∧ x0.toInt ≤ 57) ∨ x0.toInt = 95 ∨ x0.toInt = 45 ∨ x0.toInt = 46 ∨ x0.toInt = 42) then (1 : Int32) else (0 : Int32))) := by
                rw [if_pos (show ((97 ≤ x0.toInt ∧ x0.toInt ≤ 122) ∨ (48 ≤ x0.toInt ∧ x0.toInt ≤ 57) ∨ x0.toInt = 95 ∨ x0.toInt = 45 ∨ x0.toInt = 46 ∨ x0.toInt = 42) from by
                  have k1 := rng32 x0
                  have k2 : (97 : Int32).toInt = 97 := rfl
                  have k3 : x0.toInt < (97 : Int32).toInt := Int32.lt_iff_toInt_lt.mp hc1
                  have k4 : (48 : Int32).toInt = 48 := rfl
                  have k5 : ¬ x0.toInt < (48 : Int32).toInt := fun z => hc2 (Int32.lt_iff_toInt_lt.mpr z)
                  have k6 : (57 : Int32).toInt = 57 := rfl
                  have k7 : (57 : Int32).toInt < x0.toInt := Int32.lt_iff_toInt_lt.mp hc7
                  have k8 : (95 : Int32).toInt = 95 := rfl
                  have k9 : ¬ x0.toInt = (95 : Int32).toInt := fun z => hc8 (Int32.toInt_inj.mp z)
                  have k10 : (45 : Int32).toInt = 45 := rfl
                  have k11 : ¬ x0.toInt = (45 : Int32).toInt := fun z => hc9 (Int32.toInt_inj.mp z)
                  have k12 : (46 : Int32).toInt = 46 := rfl
                  have k13 : x0.toInt = (46 : Int32).toInt := congrArg Int32.toInt hc10
                  omega)]
              exact ⟨_, _, retN X0 hx (t := .boolean) Bd.returns (by simp) (hb hby d2_57) hr, hrun, hended, _, _, rfl, ⟨hv, N0, e0⟩, ⟨_, rfl⟩, hW, hsame.mono (by decide) (by decide)⟩
            · refine Goes.to (fun _ k => XS.icmpNo X0.here hx rfl (hb hby d2_43) rfl (feq hc10).1 k) ?_
              show Goes p.tables e below (s₁.setTop (mkF m 46 #[.val (.int x0)] [])) _
              refine Goes.to (fun _ k => XS.iloadN X0.here hx rfl (hb hby d2_46) rfl k) ?_
              show Goes p.tables e below (s₁.setTop (mkF m 47 #[.val (.int x0)] [(.int x0)])) _
              refine Goes.to (fun _ k => XS.bipush X0.here hx rfl (hb hby d2_47) k) ?_
              show Goes p.tables e below (s₁.setTop (mkF m 49 #[.val (.int x0)] [(.int (42 : Int32)), (.int x0)])) _
              by_cases hc11 : x0 = (42 : Int32)
              · refine Goes.to (fun _ k => XS.icmpNo X0.here hx rfl (hb hby d2_49) rfl (teq hc11).2 k) ?_
                show Goes p.tables e below (s₁.setTop (mkF m 52 #[.val (.int x0)] [])) _
                refine Goes.to (fun _ k => XS.iconst X0.here hx rfl (hb hby d2_52) k) ?_
                show Goes p.tables e below (s₁.setTop (mkF m 53 #[.val (.int x0)] [(.int (1 : Int32))])) _
                refine Goes.to (fun _ k => XS.goto X0.here hx rfl (pc0 := 53) (pc' := 57) rfl (hb hby d2_53) (by decide) (by decide) k) ?_
                show Goes p.tables e below (s₁.setTop (mkF m 57 #[.val (.int x0)] [(.int (1 : Int32))])) _
                obtain ⟨fs, hr, hrun, hended, hW, hsame⟩ := X0.leave (v := some (.int (1 : Int32))) (fun h => by rw [Bd.returns] at h; cases h)
                have hv : (some (.int (1 : Int32)) : Option Value) = some (.int (if ((97 ≤ x0.toInt ∧ x0.toInt ≤ 122) ∨ (48 ≤ x0.toInt ∧ x0.toInt ≤ 57) ∨ x0.toInt = 95 ∨ x0.toInt = 45 ∨ x0.toInt = 46 ∨ x0.toInt = 42) then (1 : Int32) else (0 : Int32))) := by
                  rw [if_pos (show ((97 ≤ x0.toInt ∧ x0.toInt ≤ 122) ∨ (48 ≤ x0.toInt ∧ x0.toInt ≤ 57) ∨ x0.toInt = 95 ∨ x0.toInt = 45 ∨ x0.toInt = 46 ∨ x0.toInt = 42) from by
                    have k1 := rng32 x0
                    have k2 : (97 : Int32).toInt = 97 := rfl
                    have k3 : x0.toInt < (97 : Int32).toInt := Int32.lt_iff_toInt_lt.mp hc1
                    have k4 : (48 : Int32).toInt = 48 := rfl
                    have k5 : ¬ x0.toInt < (48 : Int32).toInt := fun z => hc2 (Int32.lt_iff_toInt_lt.mpr z)
                    have k6 : (57 : Int32).toInt = 57 := rfl
                    have k7 : (57 : Int32).toInt < x0.toInt := Int32.lt_iff_toInt_lt.mp hc7
                    have k8 : (95 : Int32).toInt = 95 := rfl
                    have k9 : ¬ x0.toInt = (95 : Int32).toInt := fun z => hc8 (Int32.toInt_inj.mp z)
                    have k10 : (45 : Int32).toInt = 45 := rfl
                    have k11 : ¬ x0.toInt = (45 : Int32).toInt := fun z => hc9 (Int32.toInt_inj.mp z)
                    have k12 : (46 : Int32).toInt = 46 := rfl
                    have k13 : ¬ x0.toInt = (46 : Int32).toInt := fun z => hc10 (Int32.toInt_inj.mp z)
                    have k14 : (42 : Int32).toInt = 42 := rfl
                    have k15 : x0.toInt = (42 : Int32).toInt := congrArg Int32.toInt hc11
                    omega)]
                exact ⟨_, _, retN X0 hx (t := .boolean) Bd.returns (by simp) (hb hby d2_57) hr, hrun, hended, _, _, rfl, ⟨hv, N0, e0⟩, ⟨_, rfl⟩, hW, hsame.mono (by decide) (by decide)⟩
              · refine Goes.to (fun _ k => XS.icmpYes X0.here hx rfl (pc0 := 49) (pc' := 56) rfl (hb hby d2_49) rfl (feq hc11).2 (by decide) (by decide) k) ?_
                show Goes p.tables e below (s₁.setTop (mkF m 56 #[.val (.int x0)] [])) _
                refine Goes.to (fun _ k => XS.iconst X0.here hx rfl (hb hby d2_56) k) ?_
                show Goes p.tables e below (s₁.setTop (mkF m 57 #[.val (.int x0)] [(.int (0 : Int32))])) _
                obtain ⟨fs, hr, hrun, hended, hW, hsame⟩ := X0.leave (v := some (.int (0 : Int32))) (fun h => by rw [Bd.returns] at h; cases h)
                have hv : (some (.int (0 : Int32)) : Option Value) = some (.int (if ((97 ≤ x0.toInt ∧ x0.toInt ≤ 122) ∨ (48 ≤ x0.toInt ∧ x0.toInt ≤ 57) ∨ x0.toInt = 95 ∨ x0.toInt = 45 ∨ x0.toInt = 46 ∨ x0.toInt = 42) then (1 : Int32) else (0 : Int32))) := by
                  rw [if_neg (show ¬ ((97 ≤ x0.toInt ∧ x0.toInt ≤ 122) ∨ (48 ≤ x0.toInt ∧ x0.toInt ≤ 57) ∨ x0.toInt = 95 ∨ x0.toInt = 45 ∨ x0.toInt = 46 ∨ x0.toInt = 42) from by
                    have k1 := rng32 x0
                    have k2 : (97 : Int32).toInt = 97 := rfl
                    have k3 : x0.toInt < (97 : Int32).toInt := Int32.lt_iff_toInt_lt.mp hc1
                    have k4 : (48 : Int32).toInt = 48 := rfl
                    have k5 : ¬ x0.toInt < (48 : Int32).toInt := fun z => hc2 (Int32.lt_iff_toInt_lt.mpr z)
                    have k6 : (57 : Int32).toInt = 57 := rfl
                    have k7 : (57 : Int32).toInt < x0.toInt := Int32.lt_iff_toInt_lt.mp hc7
                    have k8 : (95 : Int32).toInt = 95 := rfl
                    have k9 : ¬ x0.toInt = (95 : Int32).toInt := fun z => hc8 (Int32.toInt_inj.mp z)
                    have k10 : (45 : Int32).toInt = 45 := rfl
                    have k11 : ¬ x0.toInt = (45 : Int32).toInt := fun z => hc9 (Int32.toInt_inj.mp z)
                    have k12 : (46 : Int32).toInt = 46 := rfl
                    have k13 : ¬ x0.toInt = (46 : Int32).toInt := fun z => hc10 (Int32.toInt_inj.mp z)
                    have k14 : (42 : Int32).toInt = 42 := rfl
                    have k15 : ¬ x0.toInt = (42 : Int32).toInt := fun z => hc11 (Int32.toInt_inj.mp z)
                    omega)]
                exact ⟨_, _, retN X0 hx (t := .boolean) Bd.returns (by simp) (hb hby d2_57) hr, hrun, hended, _, _, rfl, ⟨hv, N0, e0⟩, ⟨_, rfl⟩, hW, hsame.mono (by decide) (by decide)⟩
      · refine Goes.to (fun _ k => XS.icmpNo X0.here hx rfl (hb hby d2_23) rfl (flt hc7).2.2.1 k) ?_
        show Goes p.tables e below (s₁.setTop (mkF m 26 #[.val (.int x0)] [])) _
        refine Goes.to (fun _ k => XS.iconst X0.here hx rfl (hb hby d2_26) k) ?_
        show Goes p.tables e below (s₁.setTop (mkF m 27 #[.val (.int x0)] [(.int (1 : Int32))])) _
        obtain ⟨fs, hr, hrun, hended, hW, hsame⟩ := X0.leave (v := some (.int (1 : Int32))) (fun h => by rw [Bd.returns] at h; cases h)
        have hv : (some (.int (1 : Int32)) : Option Value) = some (.int (if ((97 ≤ x0.toInt ∧ x0.toInt ≤ 122) ∨ (48 ≤ x0.toInt ∧ x0.toInt ≤ 57) ∨ x0.toInt = 95 ∨ x0.toInt = 45 ∨ x0.toInt = 46 ∨ x0.toInt = 42) then (1 : Int32) else (0 : Int32))) := by
          rw [if_pos (show ((97 ≤ x0.toInt ∧ x0.toInt ≤ 122) ∨ (48 ≤ x0.toInt ∧ x0.toInt ≤ 57) ∨ x0.toInt = 95 ∨ x0.toInt = 45 ∨ x0.toInt = 46 ∨ x0.toInt = 42) from by
            have k1 := rng32 x0
            have k2 : (97 : Int32).toInt = 97 := rfl
            have k3 : x0.toInt < (97 : Int32).toInt := Int32.lt_iff_toInt_lt.mp hc1
            have k4 : (48 : Int32).toInt = 48 := rfl
            have k5 : ¬ x0.toInt < (48 : Int32).toInt := fun z => hc2 (Int32.lt_iff_toInt_lt.mpr z)
            have k6 : (57 : Int32).toInt = 57 := rfl
            have k7 : ¬ (57 : Int32).toInt < x0.toInt := fun z => hc7 (Int32.lt_iff_toInt_lt.mpr z)
            omega)]
        exact ⟨_, _, retN X0 hx (t := .boolean) Bd.returns (by simp) (hb hby d2_27) hr, hrun, hended, _, _, rfl, ⟨hv, N0, e0⟩, ⟨_, rfl⟩, hW, hsame.mono (by decide) (by decide)⟩
  · refine Goes.to (fun _ k => XS.icmpNo X0.here hx rfl (hb hby d2_3) rfl (flt hc1).1 k) ?_
    show Goes p.tables e below (s₁.setTop (mkF m 6 #[.val (.int x0)] [])) _
    refine Goes.to (fun _ k => XS.iloadN X0.here hx rfl (hb hby d2_6) rfl k) ?_
    show Goes p.tables e below (s₁.setTop (mkF m 7 #[.val (.int x0)] [(.int x0)])) _
    refine Goes.to (fun _ k => XS.bipush X0.here hx rfl (hb hby d2_7) k) ?_
    show Goes p.tables e below (s₁.setTop (mkF m 9 #[.val (.int x0)] [(.int (122 : Int32)), (.int x0)])) _
    by_cases hc12 : (122 : Int32) < x0
    · refine Goes.to (fun _ k => XS.icmpYes X0.here hx rfl (pc0 := 9) (pc' := 14) rfl (hb hby d2_9) rfl (tlt hc12).2.2.1 (by decide) (by decide) k) ?_
      show Goes p.tables e below (s₁.setTop (mkF m 14 #[.val (.int x0)] [])) _
      refine Goes.to (fun _ k => XS.iloadN X0.here hx rfl (hb hby d2_14) rfl k) ?_
      show Goes p.tables e below (s₁.setTop (mkF m 15 #[.val (.int x0)] [(.int x0)])) _
      refine Goes.to (fun _ k => XS.bipush X0.here hx rfl (hb hby d2_15) k) ?_
      show Goes p.tables e below (s₁.setTop (mkF m 17 #[.val (.int x0)] [(.int (48 : Int32)), (.int x0)])) _
      by_cases hc13 : x0 < (48 : Int32)
      · refine Goes.to (fun _ k => XS.icmpYes X0.here hx rfl (pc0 := 17) (pc' := 28) rfl (hb hby d2_17) rfl (tlt hc13).1 (by decide) (by decide) k) ?_
        show Goes p.tables e below (s₁.setTop (mkF m 28 #[.val (.int x0)] [])) _
        refine Goes.to (fun _ k => XS.iloadN X0.here hx rfl (hb hby d2_28) rfl k) ?_
        show Goes p.tables e below (s₁.setTop (mkF m 29 #[.val (.int x0)] [(.int x0)])) _
        refine Goes.to (fun _ k => XS.bipush X0.here hx rfl (hb hby d2_29) k) ?_
        show Goes p.tables e below (s₁.setTop (mkF m 31 #[.val (.int x0)] [(.int (95 : Int32)), (.int x0)])) _
        by_cases hc14 : x0 = (95 : Int32)
        · refine Goes.to (fun _ k => XS.icmpYes X0.here hx rfl (pc0 := 31) (pc' := 52) rfl (hb hby d2_31) rfl (teq hc14).1 (by decide) (by decide) k) ?_
          show Goes p.tables e below (s₁.setTop (mkF m 52 #[.val (.int x0)] [])) _
          refine Goes.to (fun _ k => XS.iconst X0.here hx rfl (hb hby d2_52) k) ?_
          show Goes p.tables e below (s₁.setTop (mkF m 53 #[.val (.int x0)] [(.int (1 : Int32))])) _
          refine Goes.to (fun _ k => XS.goto X0.here hx rfl (pc0 := 53) (pc' := 57) rfl (hb hby d2_53) (by decide) (by decide) k) ?_
          show Goes p.tables e below (s₁.setTop (mkF m 57 #[.val (.int x0)] [(.int (1 : Int32))])) _
          obtain ⟨fs, hr, hrun, hended, hW, hsame⟩ := X0.leave (v := some (.int (1 : Int32))) (fun h => by rw [Bd.returns] at h; cases h)
          have hv : (some (.int (1 : Int32)) : Option Value) = some (.int (if ((97 ≤ x0.toInt ∧ x0.toInt ≤ 122) ∨ (48 ≤ x0.toInt ∧ x0.toInt ≤ 57) ∨ x0.toInt = 95 ∨ x0.toInt = 45 ∨ x0.toInt = 46 ∨ x0.toInt = 42) then (1 : Int32) else (0 : Int32))) := by
            rw [if_pos (show ((97 ≤ x0.toInt ∧ x0.toInt ≤ 122) ∨ (48 ≤ x0.toInt ∧ x0.toInt ≤ 57) ∨ x0.toInt = 95 ∨ x0.toInt = 45 ∨ x0.toInt = 46 ∨ x0.toInt = 42) from by
              have k1 := rng32 x0
              have k2 : (97 : Int32).toInt = 97 := rfl
              have k3 : ¬ x0.toInt < (97 : Int32).toInt := fun z => hc1 (Int32.lt_iff_toInt_lt.mpr z)
              have k4 : (122 : Int32).toInt = 122 := rfl
              have k5 : (122 : Int32).toInt < x0.toInt := Int32.lt_iff_toInt_lt.mp hc12
              have k6 : (48 : Int32).toInt = 48 := rfl
              have k7 : x0.toInt < (48 : Int32).toInt := Int32.lt_iff_toInt_lt.mp hc13
              have k8 : (95 : Int32).toInt = 95 := rfl
              have k9 : x0.toInt = (95 : Int32).toInt := congrArg Int32.toInt hc14
              omega)]
          exact ⟨_, _, retN X0 hx (t := .boolean) Bd.returns (by simp) (hb hby d2_57) hr, hrun, hended, _, _, rfl, ⟨hv, N0, e0⟩, ⟨_, rfl⟩, hW, hsame.mono (by decide) (by decide)⟩
        · refine Goes.to (fun _ k => XS.icmpNo X0.here hx rfl (hb hby d2_31) rfl (feq hc14).1 k) ?_
          show Goes p.tables e below (s₁.setTop (mkF m 34 #[.val (.int x0)] [])) _
          refine Goes.to (fun _ k => XS.iloadN X0.here hx rfl (hb hby d2_34) rfl k) ?_
          show Goes p.tables e below (s₁.setTop (mkF m 35 #[.val (.int x0)] [(.int x0)])) _
          refine Goes.to (fun _ k => XS.bipush X0.here hx rfl (hb hby d2_35) k) ?_
          show Goes p.tables e below (s₁.setTop (mkF m 37 #[.val (.int x0)] [(.int (45 : Int32)), (.int x0)])) _
          by_cases hc15 : x0 = (45 : Int32)
          · refine Goes.to (fun _ k => XS.icmpYes X0.here hx rfl (pc0 := 37) (pc' := 52) rfl (hb hby d2_37) rfl (teq hc15).1 (by decide) (by decide) k) ?_
            show Goes p.tables e below (s₁.setTop (mkF m 52 #[.val (.int x0)] [])) _
            refine Goes.to (fun _ k => XS.iconst X0.here hx rfl (hb hby d2_52) k) ?_
            show Goes p.tables e below (s₁.setTop (mkF m 53 #[.val (.int x0)] [(.int (1 : Int32))])) _
            refine Goes.to (fun _ k => XS.goto X0.here hx rfl (pc0 := 53) (pc' := 57) rfl (hb hby d2_53) (by decide) (by decide) k) ?_
            show Goes p.tables e below (s₁.setTop (mkF m 57 #[.val (.int x0)] [(.int (1 : Int32))])) _
            obtain ⟨fs, hr, hrun, hended, hW, hsame⟩ := X0.leave (v := some (.int (1 : Int32))) (fun h => by rw [Bd.returns] at h; cases h)
            have hv : (some (.int (1 : Int32)) : Option Value) = some (.int (if ((97 ≤ x0.toInt ∧ x0.toInt ≤ 122) ∨ (48 ≤ x0.toInt ∧ x0.toInt ≤ 57) ∨ x0.toInt = 95 ∨ x0.toInt = 45 ∨ x0.toInt = 46 ∨ x0.toInt = 42) then (1 : Int32) else (0 : Int32))) := by
              rw [if_pos (show ((97 ≤ x0.toInt ∧ x0.toInt ≤ 122) ∨ (48 ≤ x0.toInt ∧ x0.toInt ≤ 57) ∨ x0.toInt = 95 ∨ x0.toInt = 45 ∨ x0.toInt = 46 ∨ x0.toInt = 42) from by
                have k1 := rng32 x0
                have k2 : (97 : Int32).toInt = 97 := rfl
                have k3 : ¬ x0.toInt < (97 : Int32).toInt := fun z => hc1 (Int32.lt_iff_toInt_lt.mpr z)
                have k4 : (122 : Int32).toInt = 122 := rfl
                have k5 : (122 : Int32).toInt < x0.toInt := Int32.lt_iff_toInt_lt.mp hc12
                have k6 : (48 : Int32).toInt = 48 := rfl
                have k7 : x0.toInt < (48 : Int32).toInt := Int32.lt_iff_toInt_lt.mp hc13
                have k8 : (95 : Int32).toInt = 95 := rfl
                have k9 : ¬ x0.toInt = (95 : Int32).toInt := fun z => hc14 (Int32.toInt_inj.mp z)
                have k10 : (45 : Int32).toInt = 45 := rfl
                have k11 : x0.toInt = (45 : Int32).toInt := congrArg Int32.toInt hc15
                omega)]
            exact ⟨_, _, retN X0 hx (t := .boolean) Bd.returns (by simp) (hb hby d2_57) hr, hrun, hended, _, _, rfl, ⟨hv, N0, e0⟩, ⟨_, rfl⟩, hW, hsame.mono (by decide) (by decide)⟩
          · refine Goes.to (fun _ k => XS.icmpNo X0.here hx rfl (hb hby d2_37) rfl (feq hc15).1 k) ?_
            show Goes p.tables e below (s₁.setTop (mkF m 40 #[.val (.int x0)] [])) _
            refine Goes.to (fun _ k => XS.iloadN X0.here hx rfl (hb hby d2_40) rfl k) ?_
            show Goes p.tables e below (s₁.setTop (mkF m 41 #[.val (.int x0)] [(.int x0)])) _
            refine Goes.to (fun _ k => XS.bipush X0.here hx rfl (hb hby d2_41) k) ?_
            show Goes p.tables e below (s₁.setTop (mkF m 43 #[.val (.int x0)] [(.int (46 : Int32)), (.int x0)])) _
            by_cases hc16 : x0 = (46 : Int32)
            · refine Goes.to (fun _ k => XS.icmpYes X0.here hx rfl (pc0 := 43) (pc' := 52) rfl (hb hby d2_43) rfl (teq hc16).1 (by decide) (by decide) k) ?_
              show Goes p.tables e below (s₁.setTop (mkF m 52 #[.val (.int x0)] [])) _
              refine Goes.to (fun _ k => XS.iconst X0.here hx rfl (hb hby d2_52) k) ?_
              show Goes p.tables e below (s₁.setTop (mkF m 53 #[.val (.int x0)] [(.int (1 : Int32))])) _
              refine Goes.to (fun _ k => XS.goto X0.here hx rfl (pc0 := 53) (pc' := 57) rfl (hb hby d2_53) (by decide) (by decide) k) ?_
              show Goes p.tables e below (s₁.setTop (mkF m 57 #[.val (.int x0)] [(.int (1 : Int32))])) _
              obtain ⟨fs, hr, hrun, hended, hW, hsame⟩ := X0.leave (v := some (.int (1 : Int32))) (fun h => by rw [Bd.returns] at h; cases h)
              have hv : (some (.int (1 : Int32)) : Option Value) = some (.int (if ((97 ≤ x0.toInt ∧ x0.toInt ≤ 122) ∨ (48 ≤ x0.toInt ∧ x0.toInt ≤ 57) ∨ x0.toInt = 95 ∨ x0.toInt = 45 ∨ x0.toInt = 46 ∨ x0.toInt = 42) then (1 : Int32) else (0 : Int32))) := by
                rw [if_pos (show ((97 ≤ x0.toInt ∧ x0.toInt ≤ 122) ∨ (48 ≤ x0.toInt ∧ x0.toInt ≤ 57) ∨ x0.toInt = 95 ∨ x0.toInt = 45 ∨ x0.toInt = 46 ∨ x0.toInt = 42) from by
                  have k1 := rng32 x0
                  have k2 : (97 : Int32).toInt = 97 := rfl
                  have k3 : ¬ x0.toInt < (97 : Int32).toInt := fun z => hc1 (Int32.lt_iff_toInt_lt.mpr z)
                  have k4 : (122 : Int32).toInt = 122 := rfl
                  have k5 : (122 : Int32).toInt < x0.toInt := Int32.lt_iff_toInt_lt.mp hc12
                  have k6 : (48 : Int32).toInt = 48 := rfl
                  have k7 : x0.toInt < (48 : Int32).toInt := Int32.lt_iff_toInt_lt.mp hc13
                  have k8 : (95 : Int32).toInt = 95 := rfl
                  have k9 : ¬ x0.toInt = (95 : Int32).toInt := fun z => hc14 (Int32.toInt_inj.mp z)
                  have k10 : (45 : Int32).toInt = 45 := rfl
                  have k11 : ¬ x0.toInt = (45 : Int32).toInt := fun z => hc15 (Int32.toInt_inj.mp z)
                  have k12 : (46 : Int32).toInt = 46 := rfl
                  have k13 : x0.toInt = (46 : Int32).toInt := congrArg Int32.toInt hc16
                  omega)]
              exact ⟨_, _, retN X0 hx (t := .boolean) Bd.returns (by simp) (hb hby d2_57) hr, hrun, hended, _, _, rfl, ⟨hv, N0, e0⟩, ⟨_, rfl⟩, hW, hsame.mono (by decide) (by decide)⟩
            · refine Goes.to (fun _ k => XS.icmpNo X0.here hx rfl (hb hby d2_43) rfl (feq hc16).1 k) ?_
              show Goes p.tables e below (s₁.setTop (mkF m 46 #[.val (.int x0)] [])) _
              refine Goes.to (fun _ k => XS.iloadN X0.here hx rfl (hb hby d2_46) rfl k) ?_
              show Goes p.tables e below (s₁.setTop (mkF m 47 #[.val (.int x0)] [(.int x0)])) _
              refine Goes.to (fun _ k => XS.bipush X0.here hx rfl (hb hby d2_47) k) ?_
              show Goes p.tables e below (s₁.setTop (mkF m 49 #[.val (.int x0)] [(.int (42 : Int32)), (.int x0)])) _
              by_cases hc17 : x0 = (42 : Int32)
              · refine Goes.to (fun _ k => XS.icmpNo X0.here hx rfl (hb hby d2_49) rfl (teq hc17).2 k) ?_
                show Goes p.tables e below (s₁.setTop (mkF m 52 #[.val (.int x0)] [])) _
                refine Goes.to (fun _ k => XS.iconst X0.here hx rfl (hb hby d2_52) k) ?_
                show Goes p.tables e below (s₁.setTop (mkF m 53 #[.val (.int x0)] [(.int (1 : Int32))])) _
                refine Goes.to (fun _ k => XS.goto X0.here hx rfl (pc0 := 53) (pc' := 57) rfl (hb hby d2_53) (by decide) (by decide) k) ?_
                show Goes p.tables e below (s₁.setTop (mkF m 57 #[.val (.int x0)] [(.int (1 : Int32))])) _
                obtain ⟨fs, hr, hrun, hended, hW, hsame⟩ := X0.leave (v := some (.int (1 : Int32))) (fun h => by rw [Bd.returns] at h; cases h)
                have hv : (some (.int (1 : Int32)) : Option Value) = some (.int (if ((97 ≤ x0.toInt ∧ x0.toInt ≤ 122) ∨ (48 ≤ x0.toInt ∧ x0.toInt ≤ 57) ∨ x0.toInt = 95 ∨ x0.toInt = 45 ∨ x0.toInt = 46 ∨ x0.toInt = 42) then (1 : Int32) else (0 : Int32))) := by
                  rw [if_pos (show ((97 ≤ x0.toInt ∧ x0.toInt ≤ 122) ∨ (48 ≤ x0.toInt ∧ x0.toInt ≤ 57) ∨ x0.toInt = 95 ∨ x0.toInt = 45 ∨ x0.toInt = 46 ∨ x0.toInt = 42) from by
                    have k1 := rng32 x0
                    have k2 : (97 : Int32).toInt = 97 := rfl
                    have k3 : ¬ x0.toInt < (97 : Int32).toInt := fun z => hc1 (Int32.lt_iff_toInt_lt.mpr z)
                    have k4 : (122 : Int32).toInt = 122 := rfl
                    have k5 : (122 : Int32).toInt < x0.toInt := Int32.lt_iff_toInt_lt.mp hc12
                    have k6 : (48 : Int32).toInt = 48 := rfl
                    have k7 : x0.toInt < (48 : Int32).toInt := Int32.lt_iff_toInt_lt.mp hc13
                    have k8 : (95 : Int32).toInt = 95 := rfl
                    have k9 : ¬ x0.toInt = (95 : Int32).toInt := fun z => hc14 (Int32.toInt_inj.mp z)
                    have k10 : (45 : Int32).toInt = 45 := rfl
                    have k11 : ¬ x0.toInt = (45 : Int32).toInt := fun z => hc15 (Int32.toInt_inj.mp z)
                    have k12 : (46 : Int32).toInt = 46 := rfl
                    have k13 : ¬ x0.toInt = (46 : Int32).toInt := fun z => hc16 (Int32.toInt_inj.mp z)
                    have k14 : (42 : Int32).toInt = 42 := rfl
                    have k15 : x0.toInt = (42 : Int32).toInt := congrArg Int32.toInt hc17
                    omega)]
                exact ⟨_, _, retN X0 hx (t := .boolean) Bd.returns (by simp) (hb hby d2_57) hr, hrun, hended, _, _, rfl, ⟨hv, N0, e0⟩, ⟨_, rfl⟩, hW, hsame.mono (by decide) (by decide)⟩
              · refine Goes.to (fun _ k => XS.icmpYes X0.here hx rfl (pc0 := 49) (pc' := 56) rfl (hb hby d2_49) rfl (feq hc17).2 (by decide) (by decide) k) ?_
                show Goes p.tables e below (s₁.setTop (mkF m 56 #[.val (.int x0)] [])) _
                refine Goes.to (fun _ k => XS.iconst X0.here hx rfl (hb hby d2_56) k) ?_
                show Goes p.tables e below (s₁.setTop (mkF m 57 #[.val (.int x0)] [(.int (0 : Int32))])) _
                obtain ⟨fs, hr, hrun, hended, hW, hsame⟩ := X0.leave (v := some (.int (0 : Int32))) (fun h => by rw [Bd.returns] at h; cases h)
                have hv : (some (.int (0 : Int32)) : Option Value) = some (.int (if ((97 ≤ x0.toInt ∧ x0.toInt ≤ 122) ∨ (48 ≤ x0.toInt ∧ x0.toInt ≤ 57) ∨ x0.toInt = 95 ∨ x0.toInt = 45 ∨ x0.toInt = 46 ∨ x0.toInt = 42) then (1 : Int32) else (0 : Int32))) := by
                  rw [if_neg (show ¬ ((97 ≤ x0.toInt ∧ x0.toInt ≤ 122) ∨ (48 ≤ x0.toInt ∧ x0.toInt ≤ 57) ∨ x0.toInt = 95 ∨ x0.toInt = 45 ∨ x0.toInt = 46 ∨ x0.toInt = 42) from by
                    have k1 := rng32 x0
                    have k2 : (97 : Int32).toInt = 97 := rfl
                    have k3 : ¬ x0.toInt < (97 : Int32).toInt := fun z => hc1 (Int32.lt_iff_toInt_lt.mpr z)
                    have k4 : (122 : Int32).toInt = 122 := rfl
                    have k5 : (122 : Int32).toInt < x0.toInt := Int32.lt_iff_toInt_lt.mp hc12
                    have k6 : (48 : Int32).toInt = 48 := rfl
                    have k7 : x0.toInt < (48 : Int32).toInt := Int32.lt_iff_toInt_lt.mp hc13
                    have k8 : (95 : Int32).toInt = 95 := rfl
                    have k9 : ¬ x0.toInt = (95 : Int32).toInt := fun z => hc14 (Int32.toInt_inj.mp z)
                    have k10 : (45 : Int32).toInt = 45 := rfl
                    have k11 : ¬ x0.toInt = (45 : Int32).toInt := fun z => hc15 (Int32.toInt_inj.mp z)
                    have k12 : (46 : Int32).toInt = 46 := rfl
                    have k13 : ¬ x0.toInt = (46 : Int32).toInt := fun z => hc16 (Int32.toInt_inj.mp z)
                    have k14 : (42 : Int32).toInt = 42 := rfl
                    have k15 : ¬ x0.toInt = (42 : Int32).toInt := fun z => hc17 (Int32.toInt_inj.mp z)
                    omega)]
                exact ⟨_, _, retN X0 hx (t := .boolean) Bd.returns (by simp) (hb hby d2_57) hr, hrun, hended, _, _, rfl, ⟨hv, N0, e0⟩, ⟨_, rfl⟩, hW, hsame.mono (by decide) (by decide)⟩
      · refine Goes.to (fun _ k => XS.icmpNo X0.here hx rfl (hb hby d2_17) rfl (flt hc13).1 k) ?_
        show Goes p.tables e below (s₁.setTop (mkF m 20 #[.val (.int x0)] [])) _
        refine Goes.to (fun _ k => XS.iloadN X0.here hx rfl (hb hby d2_20) rfl k) ?_
        show Goes p.tables e below (s₁.setTop (mkF m 21 #[.val (.int x0)] [(.int x0)])) _
        refine Goes.to (fun _ k => XS.bipush X0.here hx rfl (hb hby d2_21) k) ?_
        show Goes p.tables e below (s₁.setTop (mkF m 23 #[.val (.int x0)] [(.int (57 : Int32)), (.int x0)])) _
        by_cases hc18 : (57 : Int32) < x0
        · refine Goes.to (fun _ k => XS.icmpYes X0.here hx rfl (pc0 := 23) (pc' := 28) rfl (hb hby d2_23) rfl (tlt hc18).2.2.1 (by decide) (by decide) k) ?_
          show Goes p.tables e below (s₁.setTop (mkF m 28 #[.val (.int x0)] [])) _
          refine Goes.to (fun _ k => XS.iloadN X0.here hx rfl (hb hby d2_28) rfl k) ?_
          show Goes p.tables e below (s₁.setTop (mkF m 29 #[.val (.int x0)] [(.int x0)])) _
          refine Goes.to (fun _ k => XS.bipush X0.here hx rfl (hb hby d2_29) k) ?_
          show Goes p.tables e below (s₁.setTop (mkF m 31 #[.val (.int x0)] [(.int (95 : Int32)), (.int x0)])) _
          by_cases hc19 : x0 = (95 : Int32)
          · refine Goes.to (fun _ k => XS.icmpYes X0.here hx rfl (pc0 := 31) (pc' := 52) rfl (hb hby d2_31) rfl (teq hc19).1 (by decide) (by decide) k) ?_
            show Goes p.tables e below (s₁.setTop (mkF m 52 #[.val (.int x0)] [])) _
            refine Goes.to (fun _ k => XS.iconst X0.here hx rfl (hb hby d2_52) k) ?_
            show Goes p.tables e below (s₁.setTop (mkF m 53 #[.val (.int x0)] [(.int (1 : Int32))])) _
            refine Goes.to (fun _ k => XS.goto X0.here hx rfl (pc0 := 53) (pc' := 57) rfl (hb hby d2_53) (by decide) (by decide) k) ?_
            show Goes p.tables e below (s₁.setTop (mkF m 57 #[.val (.int x0)] [(.int (1 : Int32))])) _
            obtain ⟨fs, hr, hrun, hended, hW, hsame⟩ := X0.leave (v := some (.int (1 : Int32))) (fun h => by rw [Bd.returns] at h; cases h)
            have hv : (some (.int (1 : Int32)) : Option Value) = some (.int (if ((97 ≤ x0.toInt ∧ x0.toInt ≤ 122) ∨ (48 ≤ x0.toInt ∧ x0.toInt ≤ 57) ∨ x0.toInt = 95 ∨ x0.toInt = 45 ∨ x0.toInt = 46 ∨ x0.toInt = 42) then (1 : Int32) else (0 : Int32))) := by
              rw [if_pos (show ((97 ≤ x0.toInt ∧ x0.toInt ≤ 122) ∨ (48 ≤ x0.toInt ∧ x0.toInt ≤ 57) ∨ x0.toInt = 95 ∨ x0.toInt = 45 ∨ x0.toInt = 46 ∨ x0.toInt = 42) from by
                have k1 := rng32 x0
                have k2 : (97 : Int32).toInt = 97 := rfl
                have k3 : ¬ x0.toInt < (97 : Int32).toInt := fun z => hc1 (Int32.lt_iff_toInt_lt.mpr z)
                have k4 : (122 : Int32).toInt = 122 := rfl
                have k5 : (122 : Int32).toInt < x0.toInt := Int32.lt_iff_toInt_lt.mp hc12
                have k6 : (48 : Int32).toInt = 48 := rfl
                have k7 : ¬ x0.toInt < (48 : Int32).toInt := fun z => hc13 (Int32.lt_iff_toInt_lt.mpr z)
                have k8 : (57 : Int32).toInt = 57 := rfl
                have k9 : (57 : Int32).toInt < x0.toInt := Int32.lt_iff_toInt_lt.mp hc18
                have k10 : (95 : Int32).toInt = 95 := rfl
                have k11 : x0.toInt = (95 : Int32).toInt := congrArg Int32.toInt hc19
                omega)]
            exact ⟨_, _, retN X0 hx (t := .boolean) Bd.returns (by simp) (hb hby d2_57) hr, hrun, hended, _, _, rfl, ⟨hv, N0, e0⟩, ⟨_, rfl⟩, hW, hsame.mono (by decide) (by decide)⟩
          · refine Goes.to (fun _ k => XS.icmpNo X0.here hx rfl (hb hby d2_31) rfl (feq hc19).1 k) ?_
            show Goes p.tables e below (s₁.setTop (mkF m 34 #[.val (.int x0)] [])) _
            refine Goes.to (fun _ k => XS.iloadN X0.here hx rfl (hb hby d2_34) rfl k) ?_
            show Goes p.tables e below (s₁.setTop (mkF m 35 #[.val (.int x0)] [(.int x0)])) _
            refine Goes.to (fun _ k => XS.bipush X0.here hx rfl (hb hby d2_35) k) ?_
            show Goes p.tables e below (s₁.setTop (mkF m 37 #[.val (.int x0)] [(.int (45 : Int32)), (.int x0)])) _
            by_cases hc20 : x0 = (45 : Int32)
            · refine Goes.to (fun _ k => XS.icmpYes X0.here hx rfl (pc0 := 37) (pc' := 52) rfl (hb hby d2_37) rfl (teq hc20).1 (by decide) (by decide) k) ?_
              show Goes p.tables e below (s₁.setTop (mkF m 52 #[.val (.int x0)] [])) _
              refine Goes.to (fun _ k => XS.iconst X0.here hx rfl (hb hby d2_52) k) ?_
              show Goes p.tables e below (s₁.setTop (mkF m 53 #[.val (.int x0)] [(.int (1 : Int32))])) _
              refine Goes.to (fun _ k => XS.goto X0.here hx rfl (pc0 := 53) (pc' := 57) rfl (hb hby d2_53) (by decide) (by decide) k) ?_
              show Goes p.tables e below (s₁.setTop (mkF m 57 #[.val (.int x0)] [(.int (1 : Int32))])) _
              obtain ⟨fs, hr, hrun, hended, hW, hsame⟩ := X0.leave (v := some (.int (1 : Int32))) (fun h => by rw [Bd.returns] at h; cases h)
              have hv : (some (.int (1 : Int32)) : Option Value) = some (.int (if ((97 ≤ x0.toInt ∧ x0.toInt ≤ 122) ∨ (48 ≤ x0.toInt ∧ x0.toInt ≤ 57) ∨ x0.toInt = 95 ∨ x0.toInt = 45 ∨ x0.toInt = 46 ∨ x0.toInt = 42) then (1 : Int32) else (0 : Int32))) := by
                rw [if_pos (show ((97 ≤ x0.toInt ∧ x0.toInt ≤ 122) ∨ (48 ≤ x0.toInt ∧ x0.toInt ≤ 57) ∨ x0.toInt = 95 ∨ x0.toInt = 45 ∨ x0.toInt = 46 ∨ x0.toInt = 42) from by
                  have k1 := rng32 x0
                  have k2 : (97 : Int32).toInt = 97 := rfl
                  have k3 : ¬ x0.toInt < (97 : Int32).toInt := fun z => hc1 (Int32.lt_iff_toInt_lt.mpr z)
                  have k4 : (122 : Int32).toInt = 122 := rfl
                  have k5 : (122 : Int32).toInt < x0.toInt := Int32.lt_iff_toInt_lt.mp hc12
                  have k6 : (48 : Int32).toInt = 48 := rfl
                  have k7 : ¬ x0.toInt < (48 : Int32).toInt := fun z => hc13 (Int32.lt_iff_toInt_lt.mpr z)
                  have k8 : (57 : Int32).toInt = 57 := rfl
                  have k9 : (57 : Int32).toInt < x0.toInt := Int32.lt_iff_toInt_lt.mp hc18
                  have k10 : (95 : Int32).toInt = 95 := rfl
                  have k11 : ¬ x0.toInt = (95 : Int32).toInt := fun z => hc19 (Int32.toInt_inj.mp z)
                  have k12 : (45 : Int32).toInt = 45 := rfl
                  have k13 : x0.toInt = (45 : Int32).toInt := congrArg Int32.toInt hc20
                  omega)]
              exact ⟨_, _, retN X0 hx (t := .boolean) Bd.returns (by simp) (hb hby d2_57) hr, hrun, hended, _, _, rfl, ⟨hv, N0, e0⟩, ⟨_, rfl⟩, hW, hsame.mono (by decide) (by decide)⟩
            · refine Goes.to (fun _ k => XS.icmpNo X0.here hx rfl (hb hby d2_37) rfl (feq hc20).1 k) ?_
              show Goes p.tables e below (s₁.setTop (mkF m 40 #[.val (.int x0)] [])) _
              refine Goes.to (fun _ k => XS.iloadN X0.here hx rfl (hb hby d2_40) rfl k) ?_
              show Goes p.tables e below (s₁.setTop (mkF m 41 #[.val (.int x0)] [(.int x0)])) _
              refine Goes.to (fun _ k => XS.bipush X0.here hx rfl (hb hby d2_41) k) ?_
              show Goes p.tables e below (s₁.setTop (mkF m 43 #[.val (.int x0)] [(.int (46 : Int32)), (.int x0)])) _
              by_cases hc21 : x0 = (46 : Int32)
              · refine Goes.to (fun _ k => XS.icmpYes X0.here hx rfl (pc0 := 43) (pc' := 52) rfl (hb hby d2_43) rfl (teq hc21).1 (by decide) (by decide) k) ?_
                show Goes p.tables e below (s₁.setTop (mkF m 52 #[.val (.int x0)] [])) _
                refine Goes.to (fun _ k => XS.iconst X0.here hx rfl (hb hby d2_52) k) ?_
                show Goes p.tables e below (s₁.setTop (mkF m 53 #[.val (.int x0)] [(.int (1 : Int32))])) _
                refine Goes.to (fun _ k => XS.goto X0.here hx rfl (pc0 := 53) (pc' := 57) rfl (hb hby d2_53) (by decide) (by decide) k) ?_
                show Goes p.tables e below (s₁.setTop (mkF m 57 #[.val (.int x0)] [(.int (1 : Int32))])) _
                obtain ⟨fs, hr, hrun, hended, hW, hsame⟩ := X0.leave (v := some (.int (1 : Int32))) (fun h => by rw [Bd.returns] at h; cases h)
                have hv : (some (.int (1 : Int32)) : Option Value) = some (.int (if ((97 ≤ x0.toInt ∧ x0.toInt ≤ 122) ∨ (48 ≤ x0.toInt ∧ x0.toInt ≤ 57) ∨ x0.toInt = 95 ∨ x0.toInt = 45 ∨ x0.toInt = 46 ∨ x0.toInt = 42) then (1 : Int32) else (0 : Int32))) := by
                  rw [if_pos (show ((97 ≤ x0.toInt ∧ x0.toInt ≤ 122) ∨ (48 ≤ x0.toInt ∧ x0.toInt ≤ 57) ∨ x0.toInt = 95 ∨ x0.toInt = 45 ∨ x0.toInt = 46 ∨ x0.toInt = 42) from by
                    have k1 := rng32 x0
                    have k2 : (97 : Int32).toInt = 97 := rfl
                    have k3 : ¬ x0.toInt < (97 : Int32).toInt := fun z => hc1 (Int32.lt_iff_toInt_lt.mpr z)
                    have k4 : (122 : Int32).toInt = 122 := rfl
                    have k5 : (122 : Int32).toInt < x0.toInt := Int32.lt_iff_toInt_lt.mp hc12
                    have k6 : (48 : Int32).toInt = 48 := rfl
                    have k7 : ¬ x0.toInt < (48 : Int32).toInt := fun z => hc13 (Int32.lt_iff_toInt_lt.mpr z)
                    have k8 : (57 : Int32).toInt = 57 := rfl
                    have k9 : (57 : Int32).toInt < x0.toInt := Int32.lt_iff_toInt_lt.mp hc18
                    have k10 : (95 : Int32).toInt = 95 := rfl
                    have k11 : ¬ x0.toInt = (95 : Int32).toInt := fun z => hc19 (Int32.toInt_inj.mp z)
                    have k12 : (45 : Int32).toInt = 45 := rfl
                    have k13 : ¬ x0.toInt = (45 : Int32).toInt := fun z => hc20 (Int32.toInt_inj.mp z)
                    have k14 : (46 : Int32).toInt = 46 := rfl
                    have k15 : x0.toInt = (46 : Int32).toInt := congrArg Int32.toInt hc21
                    omega)]
                exact ⟨_, _, retN X0 hx (t := .boolean) Bd.returns (by simp) (hb hby d2_57) hr, hrun, hended, _, _, rfl, ⟨hv, N0, e0⟩, ⟨_, rfl⟩, hW, hsame.mono (by decide) (by decide)⟩
              · refine Goes.to (fun _ k => XS.icmpNo X0.here hx rfl (hb hby d2_43) rfl (feq hc21).1 k) ?_
                show Goes p.tables e below (s₁.setTop (mkF m 46 #[.val (.int x0)] [])) _
                refine Goes.to (fun _ k => XS.iloadN X0.here hx rfl (hb hby d2_46) rfl k) ?_
                show Goes p.tables e below (s₁.setTop (mkF m 47 #[.val (.int x0)] [(.int x0)])) _
                refine Goes.to (fun _ k => XS.bipush X0.here hx rfl (hb hby d2_47) k) ?_
                show Goes p.tables e below (s₁.setTop (mkF m 49 #[.val (.int x0)] [(.int (42 : Int32)), (.int x0)])) _
                by_cases hc22 : x0 = (42 : Int32)
                · refine Goes.to (fun _ k => XS.icmpNo X0.here hx rfl (hb hby d2_49) rfl (teq hc22).2 k) ?_
                  show Goes p.tables e below (s₁.setTop (mkF m 52 #[.val (.int x0)] [])) _
                  refine Goes.to (fun _ k => XS.iconst X0.here hx rfl (hb hby d2_52) k) ?_
                  show Goes p.tables e below (s₁.setTop (mkF m 53 #[.val (.int x0)] [(.int (1 : Int32))])) _
                  refine Goes.to (fun _ k => XS.goto X0.here hx rfl (pc0 := 53) (pc' := 57) rfl (hb hby d2_53) (by decide) (by decide) k) ?_
                  show Goes p.tables e below (s₁.setTop (mkF m 57 #[.val (.int x0)] [(.int (1 : Int32))])) _
                  obtain ⟨fs, hr, hrun, hended, hW, hsame⟩ := X0.leave (v := some (.int (1 : Int32))) (fun h => by rw [Bd.returns] at h; cases h)
                  have hv : (some (.int (1 : Int32)) : Option Value) = some (.int (if ((97 ≤ x0.toInt ∧ x0.toInt ≤ 122) ∨ (48 ≤ x0.toInt ∧ x0.toInt ≤ 57) ∨ x0.toInt = 95 ∨ x0.toInt = 45 ∨ x0.toInt = 46 ∨ x0.toInt = 42) then (1 : Int32) else (0 : Int32))) := by
                    rw [if_pos (show ((97 ≤ x0.toInt ∧ x0.toInt ≤ 122) ∨ (48 ≤ x0.toInt ∧ x0.toInt ≤ 57) ∨ x0.toInt = 95 ∨ x0.toInt = 45 ∨ x0.toInt = 46 ∨ x0.toInt = 42) from by
                      have k1 := rng32 x0
                      have k2 : (97 : Int32).toInt = 97 := rfl
                      have k3 : ¬ x0.toInt < (97 : Int32).toInt := fun z => hc1 (Int32.lt_iff_toInt_lt.mpr z)
                      have k4 : (122 : Int32).toInt = 122 := rfl
                      have k5 : (122 : Int32).toInt < x0.toInt := Int32.lt_iff_toInt_lt.mp hc12
                      have k6 : (48 : Int32).toInt = 48 := rfl
                      have k7 : ¬ x0.toInt < (48 : Int32).toInt := fun z => hc13 (Int32.lt_iff_toInt_lt.mpr z)
                      have k8 : (57 : Int32).toInt = 57 := rfl
                      have k9 : (57 : Int32).toInt < x0.toInt := Int32.lt_iff_toInt_lt.mp hc18
                      have k10 : (95 : Int32).toInt = 95 := rfl
                      have k11 : ¬ x0.toInt = (95 : Int32).toInt := fun z => hc19 (Int32.toInt_inj.mp z)
                      have k12 : (45 : Int32).toInt = 45 := rfl
                      have k13 : ¬ x0.toInt = (45 : Int32).toInt := fun z => hc20 (Int32.toInt_inj.mp z)
                      have k14 : (46 : Int32).toInt = 46 := rfl
                      have k15 : ¬ x0.toInt = (46 : Int32).toInt := fun z => hc21 (Int32.toInt_inj.mp z)
                      have k16 : (42 : Int32).toInt = 42 := rfl
                      have k17 : x0.toInt = (42 : Int32).toInt := congrArg Int32.toInt hc22
                      omega)]
                  exact ⟨_, _, retN X0 hx (t := .boolean) Bd.returns (by simp) (hb hby d2_57) hr, hrun, hended, _, _, rfl, ⟨hv, N0, e0⟩, ⟨_, rfl⟩, hW, hsame.mono (by decide) (by decide)⟩
                · refine Goes.to (fun _ k => XS.icmpYes X0.here hx rfl (pc0 := 49) (pc' := 56) rfl (hb hby d2_49) rfl (feq hc22).2 (by decide) (by decide) k) ?_
                  show Goes p.tables e below (s₁.setTop (mkF m 56 #[.val (.int x0)] [])) _
                  refine Goes.to (fun _ k => XS.iconst X0.here hx rfl (hb hby d2_56) k) ?_
                  show Goes p.tables e below (s₁.setTop (mkF m 57 #[.val (.int x0)] [(.int (0 : Int32))])) _
                  obtain ⟨fs, hr, hrun, hended, hW, hsame⟩ := X0.leave (v := some (.int (0 : Int32))) (fun h => by rw [Bd.returns] at h; cases h)
                  have hv : (some (.int (0 : Int32)) : Option Value) = some (.int (if ((97 ≤ x0.toInt ∧ x0.toInt ≤ 122) ∨ (48 ≤ x0.toInt ∧ x0.toInt ≤ 57) ∨ x0.toInt = 95 ∨ x0.toInt = 45 ∨ x0.toInt = 46 ∨ x0.toInt = 42) then (1 : Int32) else (0 : Int32))) := by
                    rw [if_neg (show ¬ ((97 ≤ x0.toInt ∧ x0.toInt ≤ 122) ∨ (48 ≤ x0.toInt ∧ x0.toInt ≤ 57) ∨ x0.toInt = 95 ∨ x0.toInt = 45 ∨ x0.toInt = 46 ∨ x0.toInt = 42) from by
                      have k1 := rng32 x0
                      have k2 : (97 : Int32).toInt = 97 := rfl
                      have k3 : ¬ x0.toInt < (97 : Int32).toInt := fun z => hc1 (Int32.lt_iff_toInt_lt.mpr z)
                      have k4 : (122 : Int32).toInt = 122 := rfl
                      have k5 : (122 : Int32).toInt < x0.toInt := Int32.lt_iff_toInt_lt.mp hc12
                      have k6 : (48 : Int32).toInt = 48 := rfl
                      have k7 : ¬ x0.toInt < (48 : Int32).toInt := fun z => hc13 (Int32.lt_iff_toInt_lt.mpr z)
                      have k8 : (57 : Int32).toInt = 57 := rfl
                      have k9 : (57 : Int32).toInt < x0.toInt := Int32.lt_iff_toInt_lt.mp hc18
                      have k10 : (95 : Int32).toInt = 95 := rfl
                      have k11 : ¬ x0.toInt = (95 : Int32).toInt := fun z => hc19 (Int32.toInt_inj.mp z)
                      have k12 : (45 : Int32).toInt = 45 := rfl
                      have k13 : ¬ x0.toInt = (45 : Int32).toInt := fun z => hc20 (Int32.toInt_inj.mp z)
                      have k14 : (46 : Int32).toInt = 46 := rfl
                      have k15 : ¬ x0.toInt = (46 : Int32).toInt := fun z => hc21 (Int32.toInt_inj.mp z)
                      have k16 : (42 : Int32).toInt = 42 := rfl
                      have k17 : ¬ x0.toInt = (42 : Int32).toInt := fun z => hc22 (Int32.toInt_inj.mp z)
                      omega)]
                  exact ⟨_, _, retN X0 hx (t := .boolean) Bd.returns (by simp) (hb hby d2_57) hr, hrun, hended, _, _, rfl, ⟨hv, N0, e0⟩, ⟨_, rfl⟩, hW, hsame.mono (by decide) (by decide)⟩
        · refine Goes.to (fun _ k => XS.icmpNo X0.here hx rfl (hb hby d2_23) rfl (flt hc18).2.2.1 k) ?_
          show Goes p.tables e below (s₁.setTop (mkF m 26 #[.val (.int x0)] [])) _
          refine Goes.to (fun _ k => XS.iconst X0.here hx rfl (hb hby d2_26) k) ?_
          show Goes p.tables e below (s₁.setTop (mkF m 27 #[.val (.int x0)] [(.int (1 : Int32))])) _
          obtain ⟨fs, hr, hrun, hended, hW, hsame⟩ := X0.leave (v := some (.int (1 : Int32))) (fun h => by rw [Bd.returns] at h; cases h)
          have hv : (some (.int (1 : Int32)) : Option Value) = some (.int (if ((97 ≤ x0.toInt ∧ x0.toInt ≤ 122) ∨ (48 ≤ x0.toInt ∧ x0.toInt ≤ 57) ∨ x0.toInt = 95 ∨ x0.toInt = 45 ∨ x0.toInt = 46 ∨ x0.toInt = 42) then (1 : Int32) else (0 : Int32))) := by
            rw [if_pos (show ((97 ≤ x0.toInt ∧ x0.toInt ≤ 122) ∨ (48 ≤ x0.toInt ∧ x0.toInt ≤ 57) ∨ x0.toInt = 95 ∨ x0.toInt = 45 ∨ x0.toInt = 46 ∨ x0.toInt = 42) from by
              have k1 := rng32 x0
              have k2 : (97 : Int32).toInt = 97 := rfl
              have k3 : ¬ x0.toInt < (97 : Int32).toInt := fun z => hc1 (Int32.lt_iff_toInt_lt.mpr z)
              have k4 : (122 : Int32).toInt = 122 := rfl
              have k5 : (122 : Int32).toInt < x0.toInt := Int32.lt_iff_toInt_lt.mp hc12
              have k6 : (48 : Int32).toInt = 48 := rfl
              have k7 : ¬ x0.toInt < (48 : Int32).toInt := fun z => hc13 (Int32.lt_iff_toInt_lt.mpr z)
              have k8 : (57 : Int32).toInt = 57 := rfl
              have k9 : ¬ (57 : Int32).toInt < x0.toInt := fun z => hc18 (Int32.lt_iff_toInt_lt.mpr z)
              omega)]
          exact ⟨_, _, retN X0 hx (t := .boolean) Bd.returns (by simp) (hb hby d2_27) hr, hrun, hended, _, _, rfl, ⟨hv, N0, e0⟩, ⟨_, rfl⟩, hW, hsame.mono (by decide) (by decide)⟩
    · refine Goes.to (fun _ k => XS.icmpNo X0.here hx rfl (hb hby d2_9) rfl (flt hc12).2.2.1 k) ?_
      show Goes p.tables e below (s₁.setTop (mkF m 12 #[.val (.int x0)] [])) _
      refine Goes.to (fun _ k => XS.iconst X0.here hx rfl (hb hby d2_12) k) ?_
      show Goes p.tables e below (s₁.setTop (mkF m 13 #[.val (.int x0)] [(.int (1 : Int32))])) _
      obtain ⟨fs, hr, hrun, hended, hW, hsame⟩ := X0.leave (v := some (.int (1 : Int32))) (fun h => by rw [Bd.returns] at h; cases h)
      have hv : (some (.int (1 : Int32)) : Option Value) = some (.int (if ((97 ≤ x0.toInt ∧ x0.toInt ≤ 122) ∨ (48 ≤ x0.toInt ∧ x0.toInt ≤ 57) ∨ x0.toInt = 95 ∨ x0.toInt = 45 ∨ x0.toInt = 46 ∨ x0.toInt = 42) then (1 : Int32) else (0 : Int32))) := by
        rw [if_pos (show ((97 ≤ x0.toInt ∧ x0.toInt ≤ 122) ∨ (48 ≤ x0.toInt ∧ x0.toInt ≤ 57) ∨ x0.toInt = 95 ∨ x0.toInt = 45 ∨ x0.toInt = 46 ∨ x0.toInt = 42) from by
          have k1 := rng32 x0
          have k2 : (97 : Int32).toInt = 97 := rfl
          have k3 : ¬ x0.toInt < (97 : Int32).toInt := fun z => hc1 (Int32.lt_iff_toInt_lt.mpr z)
          have k4 : (122 : Int32).toInt = 122 := rfl
          have k5 : ¬ (122 : Int32).toInt < x0.toInt := fun z => hc12 (Int32.lt_iff_toInt_lt.mpr z)
          omega)]
      exact ⟨_, _, retN X0 hx (t := .boolean) Bd.returns (by simp) (hb hby d2_13) hr, hrun, hended, _, _, rfl, ⟨hv, N0, e0⟩, ⟨_, rfl⟩, hW, hsame.mono (by decide) (by decide)⟩

theorem own_pd_pCqZ : parseMethodDescriptor "(C)Z" = some ⟨[.char], some .boolean⟩ := by decide +kernel
theorem own_pn_0 : plainName "com/example/flows_over_http/flowsoverhttp/structuredfields/GrammarIsKeyCharPinLaw" = true := by first | (simp [plainName, overriddenIn]; done) | decide +kernel
theorem own_ef_own_rm0 (m : MethodId) (x0 : Int32) (x1 : Int32) : entryFrame m #[(.int x0), (.int x1)] maxLocals = mkF m 0 #[.val (.int x0), .val (.int x1), .unset, .unset, .unset, .unset] [] := by first | (simp [entryFrame, mkF, argsToLocals, Value.category, maxLocals]; done) | rfl
def own_Q_own_rm0 (Z : State) (x0 : Int32) (x1 : Int32) (aK : Addr) (clK : Cell) (h0 : Heap) (n0 : Nat) (v : Option Value) (h : Heap) (L : List Loc) : Prop := v = some (.int (1 : Int32)) ∧ Fr n0 L
set_option maxRecDepth 65536 in
set_option maxHeartbeats 40000000 in
theorem own_rm0 (l : Launch) (Z : State) (a0 : Array Value) (hw : ∀ d ∈ tables_1, d.before a0 Z = true) (ws : List Jvm.Cond) (x0 : Int32) (x1 : Int32) (aK : Addr) (clK : Cell) (h0 : Heap) (n0 : Nat) (Z0 : n0 ≤ h0.size) (SK : Sta Z h0 "com/example/flows_over_http/flowsoverhttp/structuredfields/Grammar" "KEY_CHARS" "[Z" (.ref aK)) (AK : Arr Z h0 aK clK .boolean) (SZ : clK.slots.size = (128 : Int32).toNatClampNeg) (HK : ∀ j : Int32, 0 ≤ j.toInt → j.toInt < 128 → clK.slots[j.toNatClampNeg]? = some (.int (if ((97 ≤ j.toInt ∧ j.toInt ≤ 122) ∨ (48 ≤ j.toInt ∧ j.toInt ≤ 57) ∨ j.toInt = 95 ∨ j.toInt = 45 ∨ j.toInt = 46 ∨ j.toInt = 42) then (1 : Int32) else (0 : Int32)))) :
    MetFree l x (head1 (Jvm.Cond.code x code maxLocals ret :: ws) room_1) (fun a U => a = #[(.int x0), (.int x1)] ∧ Z.Warmed39 U.vm ∧ U.heap = h0) (fun _ _ _ _ _ => True) (fun _ U o U' => ∃ v L, o = .returned v ∧ own_Q_own_rm0 Z x0 x1 aK clK h0 n0 v U'.heap L ∧ FrameEnd U o U' L 0 0) := by
  refine MetFree.of_bodySF (plainFor_of_name own_pn_0) hisR ?_
  intro p e s m args below meth c s₁ Bd hml0 hP hK
  obtain ⟨rfl, hZ, hh⟩ := hP
  have hx := Bd.exec
  have hby := Bd.bytes
  have hml : c.maxLocals = 6 := hml0
  have hown : s.vm.findClass "com/example/flows_over_http/flowsoverhttp/structuredfields/GrammarIsKeyCharPinLaw" = some m.cls := findClass_of_methodNamed Bd.named
  have hnm := (name_of_methodNamed Bd.named Bd.method).1
  have X0 : Stand p l e room_1 s m #[(.int x0), (.int x1)] below meth c s₁ [] 0 0 := Stand.of_body Bd
  have e0 : s₁.heap = h0 := by rw [← hh, Bd.state]; rfl
  have N0 := Fr.nil n0
  show Goes p.tables e below _ (own_R below s (own_Q_own_rm0 Z x0 x1 aK clK h0 n0) 0 0)
  refine Goes.to (fun t k => castTop (own_ef_own_rm0 m x0 x1) k) ?_
  show Goes p.tables e below (s₁.setTop (mkF m 0 #[.val (.int x0), .val (.int x1), .unset, .unset, .unset, .unset] [])) _
  refine Goes.to (fun _ k => XS.iloadN X0.here hx rfl (hb hby at_0) rfl k) ?_
  show Goes p.tables e below (s₁.setTop (mkF m 1 #[.val (.int x0), .val (.int x1), .unset, .unset, .unset, .unset] [(.int x0)])) _
  refine Goes.to (fun _ k => X0.ldcInt hx hown (mvT hZ (hw _ (List.mem_of_getElem? (i := 0) rfl))) (g := (mkF m 1 #[.val (.int x0), .val (.int x1), .unset, .unset, .unset, .unset] [(.int x0)])) rfl (hb hby at_1) _ k) ?_
  show Goes p.tables e below (s₁.setTop (mkF m 3 #[.val (.int x0), .val (.int x1), .unset, .unset, .unset, .unset] [(.int (65535 : Int32)), (.int x0)])) _
  refine Goes.to (fun _ k => XS.iand X0.here hx rfl (hb hby at_3) rfl k) ?_
  show Goes p.tables e below (s₁.setTop (mkF m 4 #[.val (.int x0), .val (.int x1), .unset, .unset, .unset, .unset] [(.int (x0 &&& (65535 : Int32)))])) _
  refine Goes.to (fun _ k => XS.i2c X0.here hx rfl (hb hby at_4) rfl k) ?_
  show Goes p.tables e below (s₁.setTop (mkF m 5 #[.val (.int x0), .val (.int x1), .unset, .unset, .unset, .unset] [(.int ((x0 &&& (65535 : Int32)).toUInt32.toUInt16.toUInt32.toInt32))])) _
  refine Goes.to (fun _ k => XS.istoreN X0.here hx rfl (hb hby at_5) rfl (l' := #[.val (.int x0), .val (.int x1), .val (.int ((x0 &&& (65535 : Int32)).toUInt32.toUInt16.toUInt32.toInt32)), .unset, .unset, .unset]) rfl k) ?_
  show Goes p.tables e below (s₁.setTop (mkF m 6 #[.val (.int x0), .val (.int x1), .val (.int ((x0 &&& (65535 : Int32)).toUInt32.toUInt16.toUInt32.toInt32)), .unset, .unset, .unset] [])) _
  refine Goes.to (fun _ k => XS.iloadN X0.here hx rfl (hb hby at_6) rfl k) ?_
  show Goes p.tables e below (s₁.setTop (mkF m 7 #[.val (.int x0), .val (.int x1), .val (.int ((x0 &&& (65535 : Int32)).toUInt32.toUInt16.toUInt32.toInt32)), .unset, .unset, .unset] [(.int x1)])) _
  refine Goes.to (fun _ k => XS.bipush X0.here hx rfl (hb hby at_7) k) ?_
  show Goes p.tables e below (s₁.setTop (mkF m 9 #[.val (.int x0), .val (.int x1), .val (.int ((x0 &&& (65535 : Int32)).toUInt32.toUInt16.toUInt32.toInt32)), .unset, .unset, .unset] [(.int (127 : Int32)), (.int x1)])) _
  refine Goes.to (fun _ k => XS.iand X0.here hx rfl (hb hby at_9) rfl k) ?_
  show Goes p.tables e below (s₁.setTop (mkF m 10 #[.val (.int x0), .val (.int x1), .val (.int ((x0 &&& (65535 : Int32)).toUInt32.toUInt16.toUInt32.toInt32)), .unset, .unset, .unset] [(.int (x1 &&& (127 : Int32)))])) _
  refine Goes.to (fun _ k => XS.i2c X0.here hx rfl (hb hby at_10) rfl k) ?_
  show Goes p.tables e below (s₁.setTop (mkF m 11 #[.val (.int x0), .val (.int x1), .val (.int ((x0 &&& (65535 : Int32)).toUInt32.toUInt16.toUInt32.toInt32)), .unset, .unset, .unset] [(.int ((x1 &&& (127 : Int32)).toUInt32.toUInt16.toUInt32.toInt32))])) _
  refine Goes.to (fun _ k => XS.istoreN X0.here hx rfl (hb hby at_11) rfl (l' := #[.val (.int x0), .val (.int x1), .val (.int ((x0 &&& (65535 : Int32)).toUInt32.toUInt16.toUInt32.toInt32)), .val (.int ((x1 &&& (127 : Int32)).toUInt32.toUInt16.toUInt32.toInt32)), .unset, .unset]) rfl k) ?_
  show Goes p.tables e below (s₁.setTop (mkF m 12 #[.val (.int x0), .val (.int x1), .val (.int ((x0 &&& (65535 : Int32)).toUInt32.toUInt16.toUInt32.toInt32)), .val (.int ((x1 &&& (127 : Int32)).toUInt32.toUInt16.toUInt32.toInt32)), .unset, .unset] [])) _
  refine Goes.to (fun _ k => XS.iloadN X0.here hx rfl (hb hby at_12) rfl k) ?_
  show Goes p.tables e below (s₁.setTop (mkF m 13 #[.val (.int x0), .val (.int x1), .val (.int ((x0 &&& (65535 : Int32)).toUInt32.toUInt16.toUInt32.toInt32)), .val (.int ((x1 &&& (127 : Int32)).toUInt32.toUInt16.toUInt32.toInt32)), .unset, .unset] [(.int ((x0 &&& (65535 : Int32)).toUInt32.toUInt16.toUInt32.toInt32))])) _
  have hpr1 : ¬ (((x0 &&& (65535 : Int32)).toUInt32.toUInt16.toUInt32.toInt32) < (0 : Int32)) := by
    intro hq
    have k1 := rng32 x0
    have k2 : (x0 &&& (65535 : Int32)).toInt = x0.toInt % 65536 := c_mask x0 (65535 : Int32) 16 (by decide) (by decide)
    have k3 := c_i2c (x0 &&& (65535 : Int32))
    have k4 : (0 : Int32).toInt = 0 := rfl
    have k5 : ((x0 &&& (65535 : Int32)).toUInt32.toUInt16.toUInt32.toInt32).toInt < (0 : Int32).toInt := Int32.lt_iff_toInt_lt.mp hq
    omega
  obtain ⟨_, _, ⟨T2, L2, k2, n2⟩, -, X2, ⟨Lc2, hQ2, l2, y2, z2⟩, st2⟩ := Jvm.LawKit.callS X0 hx (y := (⟨"com/example/flows_over_http/flowsoverhttp/structuredfields/Grammar", "isKeyChar", "(C)Z"⟩ : MethodName)) hown (mvT hZ (hw _ (List.mem_of_getElem? (i := 1) rfl))) (mvT hZ (hw _ (List.mem_of_getElem? (i := 2) rfl))) (mvT hZ (hw _ (List.mem_of_getElem? (i := 3) rfl))) (mvT hZ (hw _ (List.mem_of_getElem? (i := 4) rfl))) (by decide) (backOf (W := 0) (own_rm1 l Z a0 hw [] ((x0 &&& (65535 : Int32)).toUInt32.toUInt16.toUInt32.toInt32) aK clK h0 n0 Z0 SK AK SZ HK hpr1) hZ (hw _ (List.mem_of_getElem? (i := 4) rfl)) (hw _ (List.mem_of_getElem? (i := 3) rfl)) (by decide) (by decide)) (g := (mkF m 13 #[.val (.int x0), .val (.int x1), .val (.int ((x0 &&& (65535 : Int32)).toUInt32.toUInt16.toUInt32.toInt32)), .val (.int ((x1 &&& (127 : Int32)).toUInt32.toUInt16.toUInt32.toInt32)), .unset, .unset] [(.int ((x0 &&& (65535 : Int32)).toUInt32.toUInt16.toUInt32.toInt32))])) rfl (by rw [hml]; rfl) (argsL := [(.int ((x0 &&& (65535 : Int32)).toUInt32.toUInt16.toUInt32.toInt32))]) (rest := []) (lenOf own_pd_pCqZ rfl) rfl (by show 2 * 0 + _ ≤ _; exact Nat.le_of_eq rfl) (hb hby at_13) (fun _ _ => ⟨rfl, e0, (by decide : 0 + 0 ≤ _), (by decide : 0 + 0 ≤ _)⟩)
  dsimp only [Pt.U, Pt.locs, Pt.cells, Pt.slots] at X2 l2 y2 z2 st2 hQ2
  subst l2 y2 z2
  obtain ⟨hv2, Nq2, hp2_0⟩ := hQ2
  have N2 := Fr.app N0 Nq2
  by_cases hc3 : ((97 ≤ ((x0 &&& (65535 : Int32)).toUInt32.toUInt16.toUInt32.toInt32).toInt ∧ ((x0 &&& (65535 : Int32)).toUInt32.toUInt16.toUInt32.toInt32).toInt ≤ 122) ∨ (48 ≤ ((x0 &&& (65535 : Int32)).toUInt32.toUInt16.toUInt32.toInt32).toInt ∧ ((x0 &&& (65535 : Int32)).toUInt32.toUInt16.toUInt32.toInt32).toInt ≤ 57) ∨ ((x0 &&& (65535 : Int32)).toUInt32.toUInt16.toUInt32.toInt32).toInt = 95 ∨ ((x0 &&& (65535 : Int32)).toUInt32.toUInt16.toUInt32.toInt32).toInt = 45 ∨ ((x0 &&& (65535 : Int32)).toUInt32.toUInt16.toUInt32.toInt32).toInt = 46 ∨ ((x0 &&& (65535 : Int32)).toUInt32.toUInt16.toUInt32.toInt32).toInt = 42)
  · rw [if_pos hc3] at hv2
    subst hv2
    refine Goes.to st2 ?_
    show Goes p.tables e below (T2.setTop (mkF m 16 #[.val (.int x0), .val (.int x1), .val (.int ((x0 &&& (65535 : Int32)).toUInt32.toUInt16.toUInt32.toInt32)), .val (.int ((x1 &&& (127 : Int32)).toUInt32.toUInt16.toUInt32.toInt32)), .unset, .unset] [(.int (1 : Int32))])) _
    refine Goes.to (fun _ k => XS.iloadN X2.here hx rfl (hb hby at_16) rfl k) ?_
    show Goes p.tables e below (T2.setTop (mkF m 17 #[.val (.int x0), .val (.int x1), .val (.int ((x0 &&& (65535 : Int32)).toUInt32.toUInt16.toUInt32.toInt32)), .val (.int ((x1 &&& (127 : Int32)).toUInt32.toUInt16.toUInt32.toInt32)), .unset, .unset] [(.int ((x0 &&& (65535 : Int32)).toUInt32.toUInt16.toUInt32.toInt32)), (.int (1 : Int32))])) _
    obtain ⟨_, _, ⟨T4, L4, k4, n4⟩, -, X4, ⟨Lc4, hQ4, l4, y4, z4⟩, st4⟩ := Jvm.LawKit.callS X2 hx (y := (⟨"com/example/flows_over_http/flowsoverhttp/structuredfields/GrammarIsKeyCharPinLaw", "expected", "(C)Z"⟩ : MethodName)) hown (mvT hZ (hw _ (List.mem_of_getElem? (i := 7) rfl))) (mvT hZ (hw _ (List.mem_of_getElem? (i := 8) rfl))) (mvT hZ (hw _ (List.mem_of_getElem? (i := 9) rfl))) (mvT hZ (hw _ (List.mem_of_getElem? (i := 10) rfl))) (by decide) (backOf (W := 1) (own_rm2 l Z a0 hw [] ((x0 &&& (65535 : Int32)).toUInt32.toUInt16.toUInt32.toInt32) h0 n0 Z0 ) hZ (hw _ (List.mem_of_getElem? (i := 10) rfl)) (hw _ (List.mem_of_getElem? (i := 9) rfl)) (by decide) (by decide)) (g := (mkF m 17 #[.val (.int x0), .val (.int x1), .val (.int ((x0 &&& (65535 : Int32)).toUInt32.toUInt16.toUInt32.toInt32)), .val (.int ((x1 &&& (127 : Int32)).toUInt32.toUInt16.toUInt32.toInt32)), .unset, .unset] [(.int ((x0 &&& (65535 : Int32)).toUInt32.toUInt16.toUInt32.toInt32)), (.int (1 : Int32))])) rfl (by rw [hml]; rfl) (argsL := [(.int ((x0 &&& (65535 : Int32)).toUInt32.toUInt16.toUInt32.toInt32))]) (rest := [(.int (1 : Int32))]) (lenOf own_pd_pCqZ rfl) rfl (by show 2 * 0 + _ ≤ _; exact Nat.le_of_eq rfl) (hb hby at_17) (fun _ _ => ⟨rfl, hp2_0, (by decide : 0 + 0 ≤ _), (by decide : 0 + 0 ≤ _)⟩)
    dsimp only [Pt.U, Pt.locs, Pt.cells, Pt.slots] at X4 l4 y4 z4 st4 hQ4
    subst l4 y4 z4
    obtain ⟨hv4, Nq4, hp4_0⟩ := hQ4
    have N4 := Fr.app N2 Nq4
    rw [if_pos hc3] at hv4
    subst hv4
    refine Goes.to st4 ?_
    show Goes p.tables e below (T4.setTop (mkF m 20 #[.val (.int x0), .val (.int x1), .val (.int ((x0 &&& (65535 : Int32)).toUInt32.toUInt16.toUInt32.toInt32)), .val (.int ((x1 &&& (127 : Int32)).toUInt32.toUInt16.toUInt32.toInt32)), .unset, .unset] [(.int (1 : Int32)), (.int (1 : Int32))])) _
    refine Goes.to (fun _ k => XS.icmpNo X4.here hx rfl (hb hby at_20) rfl (teq (by decide : (1 : Int32) = (1 : Int32))).2 k) ?_
    show Goes p.tables e below (T4.setTop (mkF m 23 #[.val (.int x0), .val (.int x1), .val (.int ((x0 &&& (65535 : Int32)).toUInt32.toUInt16.toUInt32.toInt32)), .val (.int ((x1 &&& (127 : Int32)).toUInt32.toUInt16.toUInt32.toInt32)), .unset, .unset] [])) _
    refine Goes.to (fun _ k => XS.iconst X4.here hx rfl (hb hby at_23) k) ?_
    show Goes p.tables e below (T4.setTop (mkF m 24 #[.val (.int x0), .val (.int x1), .val (.int ((x0 &&& (65535 : Int32)).toUInt32.toUInt16.toUInt32.toInt32)), .val (.int ((x1 &&& (127 : Int32)).toUInt32.toUInt16.toUInt32.toInt32)), .unset, .unset] [(.int (1 : Int32))])) _
    refine Goes.to (fun _ k => XS.goto X4.here hx rfl (pc0 := 24) (pc' := 28) rfl (hb hby at_24) (by decide) (by decide) k) ?_
    show Goes p.tables e below (T4.setTop (mkF m 28 #[.val (.int x0), .val (.int x1), .val (.int ((x0 &&& (65535 : Int32)).toUInt32.toUInt16.toUInt32.toInt32)), .val (.int ((x1 &&& (127 : Int32)).toUInt32.toUInt16.toUInt32.toInt32)), .unset, .unset] [(.int (1 : Int32))])) _
    refine Goes.to (fun _ k => XS.istore X4.here hx rfl (hb hby at_28) rfl (l' := #[.val (.int x0), .val (.int x1), .val (.int ((x0 &&& (65535 : Int32)).toUInt32.toUInt16.toUInt32.toInt32)), .val (.int ((x1 &&& (127 : Int32)).toUInt32.toUInt16.toUInt32.toInt32)), .val (.int (1 : Int32)), .unset]) rfl k) ?_
    show Goes p.tables e below (T4.setTop (mkF m 30 #[.val (.int x0), .val (.int x1), .val (.int ((x0 &&& (65535 : Int32)).toUInt32.toUInt16.toUInt32.toInt32)), .val (.int ((x1 &&& (127 : Int32)).toUInt32.toUInt16.toUInt32.toInt32)), .val (.int (1 : Int32)), .unset] [])) _
    refine Goes.to (fun _ k => XS.iloadN X4.here hx rfl (hb hby at_30) rfl k) ?_
    show Goes p.tables e below (T4.setTop (mkF m 31 #[.val (.int x0), .val (.int x1), .val (.int ((x0 &&& (65535 : Int32)).toUInt32.toUInt16.toUInt32.toInt32)), .val (.int ((x1 &&& (127 : Int32)).toUInt32.toUInt16.toUInt32.toInt32)), .val (.int (1 : Int32)), .unset] [(.int ((x1 &&& (127 : Int32)).toUInt32.toUInt16.toUInt32.toInt32))])) _
    have hpr5 : ¬ (((x1 &&& (127 : Int32)).toUInt32.toUInt16.toUInt32.toInt32) < (0 : Int32)) := by
      intro hq
      have k1 := rng32 x1
      have k2 : (x1 &&& (127 : Int32)).toInt = x1.toInt % 128 := c_mask x1 (127 : Int32) 7 (by decide) (by decide)
      have k3 := c_i2c (x1 &&& (127 : Int32))
      have k4 : (0 : Int32).toInt = 0 := rfl
      have k5 : ((x1 &&& (127 : Int32)).toUInt32.toUInt16.toUInt32.toInt32).toInt < (0 : Int32).toInt := Int32.lt_iff_toInt_lt.mp hq
      omega
    obtain ⟨_, _, ⟨T6, L6, k6, n6⟩, -, X6, ⟨Lc6, hQ6, l6, y6, z6⟩, st6⟩ := Jvm.LawKit.callS X4 hx (y := (⟨"com/example/flows_over_http/flowsoverhttp/structuredfields/Grammar", "isKeyChar", "(C)Z"⟩ : MethodName)) hown (mvT hZ (hw _ (List.mem_of_getElem? (i := 1) rfl))) (mvT hZ (hw _ (List.mem_of_getElem? (i := 2) rfl))) (mvT hZ (hw _ (List.mem_of_getElem? (i := 3) rfl))) (mvT hZ (hw _ (List.mem_of_getElem? (i := 4) rfl))) (by decide) (backOf (W := 0) (own_rm1 l Z a0 hw [] ((x1 &&& (127 : Int32)).toUInt32.toUInt16.toUInt32.toInt32) aK clK h0 n0 Z0 SK AK SZ HK hpr5) hZ (hw _ (List.mem_of_getElem? (i := 4) rfl)) (hw _ (List.mem_of_getElem? (i := 3) rfl)) (by decide) (by decide)) (g := (mkF m 31 #[.val (.int x0), .val (.int x1), .val (.int ((x0 &&& (65535 : Int32)).toUInt32.toUInt16.toUInt32.toInt32)), .val (.int ((x1 &&& (127 : Int32)).toUInt32.toUInt16.toUInt32.toInt32)), .val (.int (1 : Int32)), .unset] [(.int ((x1 &&& (127 : Int32)).toUInt32.toUInt16.toUInt32.toInt32))])) rfl (by rw [hml]; rfl) (argsL := [(.int ((x1 &&& (127 : Int32)).toUInt32.toUInt16.toUInt32.toInt32))]) (rest := []) (lenOf own_pd_pCqZ rfl) rfl (by show 2 * 0 + _ ≤ _; exact Nat.le_of_eq rfl) (hb hby at_31) (fun _ _ => ⟨rfl, hp4_0, (by decide : 0 + 0 ≤ _), (by decide : 0 + 0 ≤ _)⟩)
    dsimp only [Pt.U, Pt.locs, Pt.cells, Pt.slots] at X6 l6 y6 z6 st6 hQ6
    subst l6 y6 z6
    obtain ⟨hv6, Nq6, hp6_0⟩ := hQ6
    have N6 := Fr.app N4 Nq6
    by_cases hc7 : ((97 ≤ ((x1 &&& (127 : Int32)).toUInt32.toUInt16.toUInt32.toInt32).toInt ∧ ((x1 &&& (127 : Int32)).toUInt32.toUInt16.toUInt32.toInt32).toInt ≤ 122) ∨ (48 ≤ ((x1 &&& (127 : Int32)).toUInt32.toUInt16.toUInt32.toInt32).toInt ∧ ((x1 &&& (127 : Int32)).toUInt32.toUInt16.toUInt32.toInt32).toInt ≤ 57) ∨ ((x1 &&& (127 : Int32)).toUInt32.toUInt16.toUInt32.toInt32).toInt = 95 ∨ ((x1 &&& (127 : Int32)).toUInt32.toUInt16.toUInt32.toInt32).toInt = 45 ∨ ((x1 &&& (127 : Int32)).toUInt32.toUInt16.toUInt32.toInt32).toInt = 46 ∨ ((x1 &&& (127 : Int32)).toUInt32.toUInt16.toUInt32.toInt32).toInt = 42)
    · rw [if_pos hc7] at hv6
      subst hv6
      refine Goes.to st6 ?_
      show Goes p.tables e below (T6.setTop (mkF m 34 #[.val (.int x0), .val (.int x1), .val (.int ((x0 &&& (65535 : Int32)).toUInt32.toUInt16.toUInt32.toInt32)), .val (.int ((x1 &&& (127 : Int32)).toUInt32.toUInt16.toUInt32.toInt32)), .val (.int (1 : Int32)), .unset] [(.int (1 : Int32))])) _
      refine Goes.to (fun _ k => XS.iloadN X6.here hx rfl (hb hby at_34) rfl k) ?_
      show Goes p.tables e below (T6.setTop (mkF m 35 #[.val (.int x0), .val (.int x1), .val (.int ((x0 &&& (65535 : Int32)).toUInt32.toUInt16.toUInt32.toInt32)), .val (.int ((x1 &&& (127 : Int32)).toUInt32.toUInt16.toUInt32.toInt32)), .val (.int (1 : Int32)), .unset] [(.int ((x1 &&& (127 : Int32)).toUInt32.toUInt16.toUInt32.toInt32)), (.int (1 : Int32))])) _
      obtain ⟨_, _, ⟨T8, L8, k8, n8⟩, -, X8, ⟨Lc8, hQ8, l8, y8, z8⟩, st8⟩ := Jvm.LawKit.callS X6 hx (y := (⟨"com/example/flows_over_http/flowsoverhttp/structuredfields/GrammarIsKeyCharPinLaw", "expected", "(C)Z"⟩ : MethodName)) hown (mvT hZ (hw _ (List.mem_of_getElem? (i := 7) rfl))) (mvT hZ (hw _ (List.mem_of_getElem? (i := 8) rfl))) (mvT hZ (hw _ (List.mem_of_getElem? (i := 9) rfl))) (mvT hZ (hw _ (List.mem_of_getElem? (i := 10) rfl))) (by decide) (backOf (W := 1) (own_rm2 l Z a0 hw [] ((x1 &&& (127 : Int32)).toUInt32.toUInt16.toUInt32.toInt32) h0 n0 Z0 ) hZ (hw _ (List.mem_of_getElem? (i := 10) rfl)) (hw _ (List.mem_of_getElem? (i := 9) rfl)) (by decide) (by decide)) (g := (mkF m 35 #[.val (.int x0), .val (.int x1), .val (.int ((x0 &&& (65535 : Int32)).toUInt32.toUInt16.toUInt32.toInt32)), .val (.int ((x1 &&& (127 : Int32)).toUInt32.toUInt16.toUInt32.toInt32)), .val (.int (1 : Int32)), .unset] [(.int ((x1 &&& (127 : Int32)).toUInt32.toUInt16.toUInt32.toInt32)), (.int (1 : Int32))])) rfl (by rw [hml]; rfl) (argsL := [(.int ((x1 &&& (127 : Int32)).toUInt32.toUInt16.toUInt32.toInt32))]) (rest := [(.int (1 : Int32))]) (lenOf own_pd_pCqZ rfl) rfl (by show 2 * 0 + _ ≤ _; exact Nat.le_of_eq rfl) (hb hby at_35) (fun _ _ => ⟨rfl, hp6_0, (by decide : 0 + 0 ≤ _), (by decide : 0 + 0 ≤ _)⟩)
      dsimp only [Pt.U, Pt.locs, Pt.cells, Pt.slots] at X8 l8 y8 z8 st8 hQ8
      subst l8 y8 z8
      obtain ⟨hv8, Nq8, hp8_0⟩ := hQ8
      have N8 := Fr.app N6 Nq8
      rw [if_pos hc7] at hv8
      subst hv8
      refine Goes.to st8 ?_
      show Goes p.tables e below (T8.setTop (mkF m 38 #[.val (.int x0), .val (.int x1), .val (.int ((x0 &&& (65535 : Int32)).toUInt32.toUInt16.toUInt32.toInt32)), .val (.int ((x1 &&& (127 : Int32)).toUInt32.toUInt16.toUInt32.toInt32)), .val (.int (1 : Int32)), .unset] [(.int (1 : Int32)), (.int (1 : Int32))])) _
      refine Goes.to (fun _ k => XS.icmpNo X8.here hx rfl (hb hby at_38) rfl (teq (by decide : (1 : Int32) = (1 : Int32))).2 k) ?_
      show Goes p.tables e below (T8.setTop (mkF m 41 #[.val (.int x0), .val (.int x1), .val (.int ((x0 &&& (65535 : Int32)).toUInt32.toUInt16.toUInt32.toInt32)), .val (.int ((x1 &&& (127 : Int32)).toUInt32.toUInt16.toUInt32.toInt32)), .val (.int (1 : Int32)), .unset] [])) _
      refine Goes.to (fun _ k => XS.iconst X8.here hx rfl (hb hby at_41) k) ?_
      show Goes p.tables e below (T8.setTop (mkF m 42 #[.val (.int x0), .val (.int x1), .val (.int ((x0 &&& (65535 : Int32)).toUInt32.toUInt16.toUInt32.toInt32)), .val (.int ((x1 &&& (127 : Int32)).toUInt32.toUInt16.toUInt32.toInt32)), .val (.int (1 : Int32)), .unset] [(.int (1 : Int32))])) _
      refine Goes.to (fun _ k => XS.goto X8.here hx rfl (pc0 := 42) (pc' := 46) rfl (hb hby at_42) (by decide) (by decide) k) ?_
      show Goes p.tables e below (T8.setTop (mkF m 46 #[.val (.int x0), .val (.int x1), .val (.int ((x0 &&& (65535 : Int32)).toUInt32.toUInt16.toUInt32.toInt32)), .val (.int ((x1 &&& (127 : Int32)).toUInt32.toUInt16.toUInt32.toInt32)), .val (.int (1 : Int32)), .unset] [(.int (1 : Int32))])) _
      refine Goes.to (fun _ k => XS.istore X8.here hx rfl (hb hby at_46) rfl (l' := #[.val (.int x0), .val (.int x1), .val (.int ((x0 &&& (65535 : Int32)).toUInt32.toUInt16.toUInt32.toInt32)), .val (.int ((x1 &&& (127 : Int32)).toUInt32.toUInt16.toUInt32.toInt32)), .val (.int (1 : Int32)), .val (.int (1 : Int32))]) rfl k) ?_
      show Goes p.tables e below (T8.setTop (mkF m 48 #[.val (.int x0), .val (.int x1), .val (.int ((x0 &&& (65535 : Int32)).toUInt32.toUInt16.toUInt32.toInt32)), .val (.int ((x1 &&& (127 : Int32)).toUInt32.toUInt16.toUInt32.toInt32)), .val (.int (1 : Int32)), .val (.int (1 : Int32))] [])) _
      refine Goes.to (fun _ k => XS.iload X8.here hx rfl (hb hby at_48) rfl k) ?_
      show Goes p.tables e below (T8.setTop (mkF m 50 #[.val (.int x0), .val (.int x1), .val (.int ((x0 &&& (65535 : Int32)).toUInt32.toUInt16.toUInt32.toInt32)), .val (.int ((x1 &&& (127 : Int32)).toUInt32.toUInt16.toUInt32.toInt32)), .val (.int (1 : Int32)), .val (.int (1 : Int32))] [(.int (1 : Int32))])) _
      refine Goes.to (fun _ k => XS.ifNo X8.here hx rfl (hb hby at_50) rfl ((if0 _ _).trans (feq (by decide : ¬ ((1 : Int32) = (0 : Int32)))).1) k) ?_
      show Goes p.tables e below (T8.setTop (mkF m 53 #[.val (.int x0), .val (.int x1), .val (.int ((x0 &&& (65535 : Int32)).toUInt32.toUInt16.toUInt32.toInt32)), .val (.int ((x1 &&& (127 : Int32)).toUInt32.toUInt16.toUInt32.toInt32)), .val (.int (1 : Int32)), .val (.int (1 : Int32))] [])) _
      refine Goes.to (fun _ k => XS.iload X8.here hx rfl (hb hby at_53) rfl k) ?_
      show Goes p.tables e below (T8.setTop (mkF m 55 #[.val (.int x0), .val (.int x1), .val (.int ((x0 &&& (65535 : Int32)).toUInt32.toUInt16.toUInt32.toInt32)), .val (.int ((x1 &&& (127 : Int32)).toUInt32.toUInt16.toUInt32.toInt32)), .val (.int (1 : Int32)), .val (.int (1 : Int32))] [(.int (1 : Int32))])) _
      refine Goes.to (fun _ k => XS.ifNo X8.here hx rfl (hb hby at_55) rfl ((if0 _ _).trans (feq (by decide : ¬ ((1 : Int32) = (0 : Int32)))).1) k) ?_
      show Goes p.tables e below (T8.setTop (mkF m 58 #[.val (.int x0), .val (.int x1), .val (.int ((x0 &&& (65535 : Int32)).toUInt32.toUInt16.toUInt32.toInt32)), .val (.int ((x1 &&& (127 : Int32)).toUInt32.toUInt16.toUInt32.toInt32)), .val (.int (1 : Int32)), .val (.int (1 : Int32))] [])) _
      refine Goes.to (fun _ k => XS.iconst X8.here hx rfl (hb hby at_58) k) ?_
      show Goes p.tables e below (T8.setTop (mkF m 59 #[.val (.int x0), .val (.int x1), .val (.int ((x0 &&& (65535 : Int32)).toUInt32.toUInt16.toUInt32.toInt32)), .val (.int ((x1 &&& (127 : Int32)).toUInt32.toUInt16.toUInt32.toInt32)), .val (.int (1 : Int32)), .val (.int (1 : Int32))] [(.int (1 : Int32))])) _
      refine Goes.to (fun _ k => XS.goto X8.here hx rfl (pc0 := 59) (pc' := 63) rfl (hb hby at_59) (by decide) (by decide) k) ?_
      show Goes p.tables e below (T8.setTop (mkF m 63 #[.val (.int x0), .val (.int x1), .val (.int ((x0 &&& (65535 : Int32)).toUInt32.toUInt16.toUInt32.toInt32)), .val (.int ((x1 &&& (127 : Int32)).toUInt32.toUInt16.toUInt32.toInt32)), .val (.int (1 : Int32)), .val (.int (1 : Int32))] [(.int (1 : Int32))])) _
      obtain ⟨fs, hr, hrun, hended, hW, hsame⟩ := X8.leave (v := some (.int (1 : Int32))) (fun h => by rw [Bd.returns] at h; cases h)
      have hv : (some (.int (1 : Int32)) : Option Value) = some (.int (1 : Int32)) := by
        rfl
      exact ⟨_, _, retN X8 hx (t := .boolean) Bd.returns (by simp) (hb hby at_63) hr, hrun, hended, _, _, rfl, ⟨hv, N8⟩, ⟨_, rfl⟩, hW, hsame.mono (by decide) (by decide)⟩
    · rw [if_neg hc7] at hv6
      subst hv6
      refine Goes.to st6 ?_
      show Goes p.tables e below (T6.setTop (mkF m 34 #[.val (.int x0), .val (.int x1), .val (.int ((x0 &&& (65535 : Int32)).toUInt32.toUInt16.toUInt32.toInt32)), .val (.int ((x1 &&& (127 : Int32)).toUInt32.toUInt16.toUInt32.toInt32)), .val (.int (1 : Int32)), .unset] [(.int (0 : Int32))])) _
      refine Goes.to (fun _ k => XS.iloadN X6.here hx rfl (hb hby at_34) rfl k) ?_
      show Goes p.tables e below (T6.setTop (mkF m 35 #[.val (.int x0), .val (.int x1), .val (.int ((x0 &&& (65535 : Int32)).toUInt32.toUInt16.toUInt32.toInt32)), .val (.int ((x1 &&& (127 : Int32)).toUInt32.toUInt16.toUInt32.toInt32)), .val (.int (1 : Int32)), .unset] [(.int ((x1 &&& (127 : Int32)).toUInt32.toUInt16.toUInt32.toInt32)), (.int (0 : Int32))])) _
      obtain ⟨_, _, ⟨T9, L9, k9, n9⟩, -, X9, ⟨Lc9, hQ9, l9, y9, z9⟩, st9⟩ := Jvm.LawKit.callS X6 hx (y := (⟨"com/example/flows_over_http/flowsoverhttp/structuredfields/GrammarIsKeyCharPinLaw", "expected", "(C)Z"⟩ : MethodName)) hown (mvT hZ (hw _ (List.mem_of_getElem? (i := 7) rfl))) (mvT hZ (hw _ (List.mem_of_getElem? (i := 8) rfl))) (mvT hZ (hw _ (List.mem_of_getElem? (i := 9) rfl))) (mvT hZ (hw _ (List.mem_of_getElem? (i := 10) rfl))) (by decide) (backOf (W := 1) (own_rm2 l Z a0 hw [] ((x1 &&& (127 : Int32)).toUInt32.toUInt16.toUInt32.toInt32) h0 n0 Z0 ) hZ (hw _ (List.mem_of_getElem? (i := 10) rfl)) (hw _ (List.mem_of_getElem? (i := 9) rfl)) (by decide) (by decide)) (g := (mkF m 35 #[.val (.int x0), .val (.int x1), .val (.int ((x0 &&& (65535 : Int32)).toUInt32.toUInt16.toUInt32.toInt32)), .val (.int ((x1 &&& (127 : Int32)).toUInt32.toUInt16.toUInt32.toInt32)), .val (.int (1 : Int32)), .unset] [(.int ((x1 &&& (127 : Int32)).toUInt32.toUInt16.toUInt32.toInt32)), (.int (0 : Int32))])) rfl (by rw [hml]; rfl) (argsL := [(.int ((x1 &&& (127 : Int32)).toUInt32.toUInt16.toUInt32.toInt32))]) (rest := [(.int (0 : Int32))]) (lenOf own_pd_pCqZ rfl) rfl (by show 2 * 0 + _ ≤ _; exact Nat.le_of_eq rfl) (hb hby at_35) (fun _ _ => ⟨rfl, hp6_0, (by decide : 0 + 0 ≤ _), (by decide : 0 + 0 ≤ _)⟩)
      dsimp only [Pt.U, Pt.locs, Pt.cells, Pt.slots] at X9 l9 y9 z9 st9 hQ9
      subst l9 y9 z9
      obtain ⟨hv9, Nq9, hp9_0⟩ := hQ9
      have N9 := Fr.app N6 Nq9
      rw [if_neg hc7] at hv9
      subst hv9
      refine Goes.to st9 ?_
      show Goes p.tables e below (T9.setTop (mkF m 38 #[.val (.int x0), .val (.int x1), .val (.int ((x0 &&& (65535 : Int32)).toUInt32.toUInt16.toUInt32.toInt32)), .val (.int ((x1 &&& (127 : Int32)).toUInt32.toUInt16.toUInt32.toInt32)), .val (.int (1 : Int32)), .unset] [(.int (0 : Int32)), (.int (0 : Int32))])) _
      refine Goes.to (fun _ k => XS.icmpNo X9.here hx rfl (hb hby at_38) rfl (teq (by decide : (0 : Int32) = (0 : Int32))).2 k) ?_
      show Goes p.tables e below (T9.setTop (mkF m 41 #[.val (.int x0), .val (.int x1), .val (.int ((x0 &&& (65535 : Int32)).toUInt32.toUInt16.toUInt32.toInt32)), .val (.int ((x1 &&& (127 : Int32)).toUInt32.toUInt16.toUInt32.toInt32)), .val (.int (1 : Int32)), .unset] [])) _
      refine Goes.to (fun _ k => XS.iconst X9.here hx rfl (hb hby at_41) k) ?_
      show Goes p.tables e below (T9.setTop (mkF m 42 #[.val (.int x0), .val (.int x1), .val (.int ((x0 &&& (65535 : Int32)).toUInt32.toUInt16.toUInt32.toInt32)), .val (.int ((x1 &&& (127 : Int32)).toUInt32.toUInt16.toUInt32.toInt32)), .val (.int (1 : Int32)), .unset] [(.int (1 : Int32))])) _
      refine Goes.to (fun _ k => XS.goto X9.here hx rfl (pc0 := 42) (pc' := 46) rfl (hb hby at_42) (by decide) (by decide) k) ?_
      show Goes p.tables e below (T9.setTop (mkF m 46 #[.val (.int x0), .val (.int x1), .val (.int ((x0 &&& (65535 : Int32)).toUInt32.toUInt16.toUInt32.toInt32)), .val (.int ((x1 &&& (127 : Int32)).toUInt32.toUInt16.toUInt32.toInt32)), .val (.int (1 : Int32)), .unset] [(.int (1 : Int32))])) _
      refine Goes.to (fun _ k => XS.istore X9.here hx rfl (hb hby at_46) rfl (l' := #[.val (.int x0), .val (.int x1), .val (.int ((x0 &&& (65535 : Int32)).toUInt32.toUInt16.toUInt32.toInt32)), .val (.int ((x1 &&& (127 : Int32)).toUInt32.toUInt16.toUInt32.toInt32)), .val (.int (1 : Int32)), .val (.int (1 : Int32))]) rfl k) ?_
      show Goes p.tables e below (T9.setTop (mkF m 48 #[.val (.int x0), .val (.int x1), .val (.int ((x0 &&& (65535 : Int32)).toUInt32.toUInt16.toUInt32.toInt32)), .val (.int ((x1 &&& (127 : Int32)).toUInt32.toUInt16.toUInt32.toInt32)), .val (.int (1 : Int32)), .val (.int (1 : Int32))] [])) _
      refine Goes.to (fun _ k => XS.iload X9.here hx rfl (hb hby at_48) rfl k) ?_
      show Goes p.tables e below (T9.setTop (mkF m 50 #[.val (.int x0), .val (.int x1), .val (.int ((x0 &&& (65535 : Int32)).toUInt32.toUInt16.toUInt32.toInt32)), .val (.int ((x1 &&& (127 : Int32)).toUInt32.toUInt16.toUInt32.toInt32)), .val (.int (1 : Int32)), .val (.int (1 : Int32))] [(.int (1 : Int32))])) _
      refine Goes.to (fun _ k => XS.ifNo X9.here hx rfl (hb hby at_50) rfl ((if0 _ _).trans (feq (by decide : ¬ ((1 : Int32) = (0 : Int32)))).1) k) ?_
      show Goes p.tables e below (T9.setTop (mkF m 53 #[.val (.int x0), .val (.int x1), .val (.int ((x0 &&& (65535 : Int32)).toUInt32.toUInt16.toUInt32.toInt32)), .val (.int ((x1 &&& (127 : Int32)).toUInt32.toUInt16.toUInt32.toInt32)), .val (.int (1 : Int32)), .val (.int (1 : Int32))] [])) _
      refine Goes.to (fun _ k => XS.iload X9.here hx rfl (hb hby at_53) rfl k) ?_
      show Goes p.tables e below (T9.setTop (mkF m 55 #[.val (.int x0), .val (.int x1), .val (.int ((x0 &&& (65535 : Int32)).toUInt32.toUInt16.toUInt32.toInt32)), .val (.int ((x1 &&& (127 : Int32)).toUInt32.toUInt16.toUInt32.toInt32)), .val (.int (1 : Int32)), .val (.int (1 : Int32))] [(.int (1 : Int32))])) _
      refine Goes.to (fun _ k => XS.ifNo X9.here hx rfl (hb hby at_55) rfl ((if0 _ _).trans (feq (by decide : ¬ ((1 : Int32) = (0 : Int32)))).1) k) ?_
      show Goes p.tables e below (T9.setTop (mkF m 58 #[.val (.int x0), .val (.int x1), .val (.int ((x0 &&& (65535 : Int32)).toUInt32.toUInt16.toUInt32.toInt32)), .val (.int ((x1 &&& (127 : Int32)).toUInt32.toUInt16.toUInt32.toInt32)), .val (.int (1 : Int32)), .val (.int (1 : Int32))] [])) _
      refine Goes.to (fun _ k => XS.iconst X9.here hx rfl (hb hby at_58) k) ?_
      show Goes p.tables e below (T9.setTop (mkF m 59 #[.val (.int x0), .val (.int x1), .val (.int ((x0 &&& (65535 : Int32)).toUInt32.toUInt16.toUInt32.toInt32)), .val (.int ((x1 &&& (127 : Int32)).toUInt32.toUInt16.toUInt32.toInt32)), .val (.int (1 : Int32)), .val (.int (1 : Int32))] [(.int (1 : Int32))])) _
      refine Goes.to (fun _ k => XS.goto X9.here hx rfl (pc0 := 59) (pc' := 63) rfl (hb hby at_59) (by decide) (by decide) k) ?_
      show Goes p.tables e below (T9.setTop (mkF m 63 #[.val (.int x0), .val (.int x1), .val (.int ((x0 &&& (65535 : Int32)).toUInt32.toUInt16.toUInt32.toInt32)), .val (.int ((x1 &&& (127 : Int32)).toUInt32.toUInt16.toUInt32.toInt32)), .val (.int (1 : Int32)), .val (.int (1 : Int32))] [(.int (1 : Int32))])) _
      obtain ⟨fs, hr, hrun, hended, hW, hsame⟩ := X9.leave (v := some (.int (1 : Int32))) (fun h => by rw [Bd.returns] at h; cases h)
      have hv : (some (.int (1 : Int32)) : Option Value) = some (.int (1 : Int32)) := by
        rfl
      exact ⟨_, _, retN X9 hx (t := .boolean) Bd.returns (by simp) (hb hby at_63) hr, hrun, hended, _, _, rfl, ⟨hv, N9⟩, ⟨_, rfl⟩, hW, hsame.mono (by decide) (by decide)⟩
  · rw [if_neg hc3] at hv2
    subst hv2
    refine Goes.to st2 ?_
    show Goes p.tables e below (T2.setTop (mkF m 16 #[.val (.int x0), .val (.int x1), .val (.int ((x0 &&& (65535 : Int32)).toUInt32.toUInt16.toUInt32.toInt32)), .val (.int ((x1 &&& (127 : Int32)).toUInt32.toUInt16.toUInt32.toInt32)), .unset, .unset] [(.int (0 : Int32))])) _
    refine Goes.to (fun _ k => XS.iloadN X2.here hx rfl (hb hby at_16) rfl k) ?_
    show Goes p.tables e below (T2.setTop (mkF m 17 #[.val (.int x0), .val (.int x1), .val (.int ((x0 &&& (65535 : Int32)).toUInt32.toUInt16.toUInt32.toInt32)), .val (.int ((x1 &&& (127 : Int32)).toUInt32.toUInt16.toUInt32.toInt32)), .unset, .unset] [(.int ((x0 &&& (65535 : Int32)).toUInt32.toUInt16.toUInt32.toInt32)), (.int (0 : Int32))])) _
    obtain ⟨_, _, ⟨T10, L10, k10, n10⟩, -, X10, ⟨Lc10, hQ10, l10, y10, z10⟩, st10⟩ := Jvm.LawKit.callS X2 hx (y := (⟨"com/example/flows_over_http/flowsoverhttp/structuredfields/GrammarIsKeyCharPinLaw", "expected", "(C)Z"⟩ : MethodName)) hown (mvT hZ (hw _ (List.mem_of_getElem? (i := 7) rfl))) (mvT hZ (hw _ (List.mem_of_getElem? (i := 8) rfl))) (mvT hZ (hw _ (List.mem_of_getElem? (i := 9) rfl))) (mvT hZ (hw _ (List.mem_of_getElem? (i := 10) rfl))) (by decide) (backOf (W := 1) (own_rm2 l Z a0 hw [] ((x0 &&& (65535 : Int32)).toUInt32.toUInt16.toUInt32.toInt32) h0 n0 Z0 ) hZ (hw _ (List.mem_of_getElem? (i := 10) rfl)) (hw _ (List.mem_of_getElem? (i := 9) rfl)) (by decide) (by decide)) (g := (mkF m 17 #[.val (.int x0), .val (.int x1), .val (.int ((x0 &&& (65535 : Int32)).toUInt32.toUInt16.toUInt32.toInt32)), .val (.int ((x1 &&& (127 : Int32)).toUInt32.toUInt16.toUInt32.toInt32)), .unset, .unset] [(.int ((x0 &&& (65535 : Int32)).toUInt32.toUInt16.toUInt32.toInt32)), (.int (0 : Int32))])) rfl (by rw [hml]; rfl) (argsL := [(.int ((x0 &&& (65535 : Int32)).toUInt32.toUInt16.toUInt32.toInt32))]) (rest := [(.int (0 : Int32))]) (lenOf own_pd_pCqZ rfl) rfl (by show 2 * 0 + _ ≤ _; exact Nat.le_of_eq rfl) (hb hby at_17) (fun _ _ => ⟨rfl, hp2_0, (by decide : 0 + 0 ≤ _), (by decide : 0 + 0 ≤ _)⟩)
    dsimp only [Pt.U, Pt.locs, Pt.cells, Pt.slots] at X10 l10 y10 z10 st10 hQ10
    subst l10 y10 z10
    obtain ⟨hv10, Nq10, hp10_0⟩ := hQ10
    have N10 := Fr.app N2 Nq10
    rw [if_neg hc3] at hv10
    subst hv10
    refine Goes.to st10 ?_
    show Goes p.tables e below (T10.setTop (mkF m 20 #[.val (.int x0), .val (.int x1), .val (.int ((x0 &&& (65535 : Int32)).toUInt32.toUInt16.toUInt32.toInt32)), .val (.int ((x1 &&& (127 : Int32)).toUInt32.toUInt16.toUInt32.toInt32)), .unset, .unset] [(.int (0 : Int32)), (.int (0 : Int32))])) _
    refine Goes.to (fun _ k => XS.icmpNo X10.here hx rfl (hb hby at_20) rfl (teq (by decide : (0 : Int32) = (0 : Int32))).2 k) ?_
    show Goes p.tables e below (T10.setTop (mkF m 23 #[.val (.int x0), .val (.int x1), .val (.int ((x0 &&& (65535 : Int32)).toUInt32.toUInt16.toUInt32.toInt32)), .val (.int ((x1 &&& (127 : Int32)).toUInt32.toUInt16.toUInt32.toInt32)), .unset, .unset] [])) _
    refine Goes.to (fun _ k => XS.iconst X10.here hx rfl (hb hby at_23) k) ?_
    show Goes p.tables e below (T10.setTop (mkF m 24 #[.val (.int x0), .val (.int x1), .val (.int ((x0 &&& (65535 : Int32)).toUInt32.toUInt16.toUInt32.toInt32)), .val (.int ((x1 &&& (127 : Int32)).toUInt32.toUInt16.toUInt32.toInt32)), .unset, .unset] [(.int (1 : Int32))])) _
    refine Goes.to (fun _ k => XS.goto X10.here hx rfl (pc0 := 24) (pc' := 28) rfl (hb hby at_24) (by decide) (by decide) k) ?_
    show Goes p.tables e below (T10.setTop (mkF m 28 #[.val (.int x0), .val (.int x1), .val (.int ((x0 &&& (65535 : Int32)).toUInt32.toUInt16.toUInt32.toInt32)), .val (.int ((x1 &&& (127 : Int32)).toUInt32.toUInt16.toUInt32.toInt32)), .unset, .unset] [(.int (1 : Int32))])) _
    refine Goes.to (fun _ k => XS.istore X10.here hx rfl (hb hby at_28) rfl (l' := #[.val (.int x0), .val (.int x1), .val (.int ((x0 &&& (65535 : Int32)).toUInt32.toUInt16.toUInt32.toInt32)), .val (.int ((x1 &&& (127 : Int32)).toUInt32.toUInt16.toUInt32.toInt32)), .val (.int (1 : Int32)), .unset]) rfl k) ?_
    show Goes p.tables e below (T10.setTop (mkF m 30 #[.val (.int x0), .val (.int x1), .val (.int ((x0 &&& (65535 : Int32)).toUInt32.toUInt16.toUInt32.toInt32)), .val (.int ((x1 &&& (127 : Int32)).toUInt32.toUInt16.toUInt32.toInt32)), .val (.int (1 : Int32)), .unset] [])) _
    refine Goes.to (fun _ k => XS.iloadN X10.here hx rfl (hb hby at_30) rfl k) ?_
    show Goes p.tables e below (T10.setTop (mkF m 31 #[.val (.int x0), .val (.int x1), .val (.int ((x0 &&& (65535 : Int32)).toUInt32.toUInt16.toUInt32.toInt32)), .val (.int ((x1 &&& (127 : Int32)).toUInt32.toUInt16.toUInt32.toInt32)), .val (.int (1 : Int32)), .unset] [(.int ((x1 &&& (127 : Int32)).toUInt32.toUInt16.toUInt32.toInt32))])) _
    have hpr11 : ¬ (((x1 &&& (127 : Int32)).toUInt32.toUInt16.toUInt32.toInt32) < (0 : Int32)) := by
      intro hq
      have k1 := rng32 x1
      have k2 : (x1 &&& (127 : Int32)).toInt = x1.toInt % 128 := c_mask x1 (127 : Int32) 7 (by decide) (by decide)
      have k3 := c_i2c (x1 &&& (127 : Int32))
      have k4 : (0 : Int32).toInt = 0 := rfl
      have k5 : ((x1 &&& (127 : Int32)).toUInt32.toUInt16.toUInt32.toInt32).toInt < (0 : Int32).toInt := Int32.lt_iff_toInt_lt.mp hq
      omega
    obtain ⟨_, _, ⟨T12, L12, k12, n12⟩, -, X12, ⟨Lc12, hQ12, l12, y12, z12⟩, st12⟩ := Jvm.LawKit.callS X10 hx (y := (⟨"com/example/flows_over_http/flowsoverhttp/structuredfields/Grammar", "isKeyChar", "(C)Z"⟩ : MethodName)) hown (mvT hZ (hw _ (List.mem_of_getElem? (i := 1) rfl))) (mvT hZ (hw _ (List.mem_of_getElem? (i := 2) rfl))) (mvT hZ (hw _ (List.mem_of_getElem? (i := 3) rfl))) (mvT hZ (hw _ (List.mem_of_getElem? (i := 4) rfl))) (by decide) (backOf (W := 0) (own_rm1 l Z a0 hw [] ((x1 &&& (127 : Int32)).toUInt32.toUInt16.toUInt32.toInt32) aK clK h0 n0 Z0 SK AK SZ HK hpr11) hZ (hw _ (List.mem_of_getElem? (i := 4) rfl)) (hw _ (List.mem_of_getElem? (i := 3) rfl)) (by decide) (by decide)) (g := (mkF m 31 #[.val (.int x0), .val (.int x1), .val (.int ((x0 &&& (65535 : Int32)).toUInt32.toUInt16.toUInt32.toInt32)), .val (.int ((x1 &&& (127 : Int32)).toUInt32.toUInt16.toUInt32.toInt32)), .val (.int (1 : Int32)), .unset] [(.int ((x1 &&& (127 : Int32)).toUInt32.toUInt16.toUInt32.toInt32))])) rfl (by rw [hml]; rfl) (argsL := [(.int ((x1 &&& (127 : Int32)).toUInt32.toUInt16.toUInt32.toInt32))]) (rest := []) (lenOf own_pd_pCqZ rfl) rfl (by show 2 * 0 + _ ≤ _; exact Nat.le_of_eq rfl) (hb hby at_31) (fun _ _ => ⟨rfl, hp10_0, (by decide : 0 + 0 ≤ _), (by decide : 0 + 0 ≤ _)⟩)
    dsimp only [Pt.U, Pt.locs, Pt.cells, Pt.slots] at X12 l12 y12 z12 st12 hQ12
    subst l12 y12 z12
    obtain ⟨hv12, Nq12, hp12_0⟩ := hQ12
    have N12 := Fr.app N10 Nq12
    by_cases hc13 : ((97 ≤ ((x1 &&& (127 : Int32)).toUInt32.toUInt16.toUInt32.toInt32).toInt ∧ ((x1 &&& (127 : Int32)).toUInt32.toUInt16.toUInt32.toInt32).toInt ≤ 122) ∨ (48 ≤ ((x1 &&& (127 : Int32)).toUInt32.toUInt16.toUInt32.toInt32).toInt ∧ ((x1 &&& (127 : Int32)).toUInt32.toUInt16.toUInt32.toInt32).toInt ≤ 57) ∨ ((x1 &&& (127 : Int32)).toUInt32.toUInt16.toUInt32.toInt32).toInt = 95 ∨ ((x1 &&& (127 : Int32)).toUInt32.toUInt16.toUInt32.toInt32).toInt = 45 ∨ ((x1 &&& (127 : Int32)).toUInt32.toUInt16.toUInt32.toInt32).toInt = 46 ∨ ((x1 &&& (127 : Int32)).toUInt32.toUInt16.toUInt32.toInt32).toInt = 42)
    · rw [if_pos hc13] at hv12
      subst hv12
      refine Goes.to st12 ?_
      show Goes p.tables e below (T12.setTop (mkF m 34 #[.val (.int x0), .val (.int x1), .val (.int ((x0 &&& (65535 : Int32)).toUInt32.toUInt16.toUInt32.toInt32)), .val (.int ((x1 &&& (127 : Int32)).toUInt32.toUInt16.toUInt32.toInt32)), .val (.int (1 : Int32)), .unset] [(.int (1 : Int32))])) _
      refine Goes.to (fun _ k => XS.iloadN X12.here hx rfl (hb hby at_34) rfl k) ?_
      show Goes p.tables e below (T12.setTop (mkF m 35 #[.val (.int x0), .val (.int x1), .val (.int ((x0 &&& (65535 : Int32)).toUInt32.toUInt16.toUInt32.toInt32)), .val (.int ((x1 &&& (127 : Int32)).toUInt32.toUInt16.toUInt32.toInt32)), .val (.int (1 : Int32)), .unset] [(.int ((x1 &&& (127 : Int32)).toUInt32.toUInt16.toUInt32.toInt32)), (.int (1 : Int32))])) _
      obtain ⟨_, _, ⟨T14, L14, k14, n14⟩, -, X14, ⟨Lc14, hQ14, l14, y14, z14⟩, st14⟩ := Jvm.LawKit.callS X12 hx (y := (⟨"com/example/flows_over_http/flowsoverhttp/structuredfields/GrammarIsKeyCharPinLaw", "expected", "(C)Z"⟩ : MethodName)) hown (mvT hZ (hw _ (List.mem_of_getElem? (i := 7) rfl))) (mvT hZ (hw _ (List.mem_of_getElem? (i := 8) rfl))) (mvT hZ (hw _ (List.mem_of_getElem? (i := 9) rfl))) (mvT hZ (hw _ (List.mem_of_getElem? (i := 10) rfl))) (by decide) (backOf (W := 1) (own_rm2 l Z a0 hw [] ((x1 &&& (127 : Int32)).toUInt32.toUInt16.toUInt32.toInt32) h0 n0 Z0 ) hZ (hw _ (List.mem_of_getElem? (i := 10) rfl)) (hw _ (List.mem_of_getElem? (i := 9) rfl)) (by decide) (by decide)) (g := (mkF m 35 #[.val (.int x0), .val (.int x1), .val (.int ((x0 &&& (65535 : Int32)).toUInt32.toUInt16.toUInt32.toInt32)), .val (.int ((x1 &&& (127 : Int32)).toUInt32.toUInt16.toUInt32.toInt32)), .val (.int (1 : Int32)), .unset] [(.int ((x1 &&& (127 : Int32)).toUInt32.toUInt16.toUInt32.toInt32)), (.int (1 : Int32))])) rfl (by rw [hml]; rfl) (argsL := [(.int ((x1 &&& (127 : Int32)).toUInt32.toUInt16.toUInt32.toInt32))]) (rest := [(.int (1 : Int32))]) (lenOf own_pd_pCqZ rfl) rfl (by show 2 * 0 + _ ≤ _; exact Nat.le_of_eq rfl) (hb hby at_35) (fun _ _ => ⟨rfl, hp12_0, (by decide : 0 + 0 ≤ _), (by decide : 0 + 0 ≤ _)⟩)
      dsimp only [Pt.U, Pt.locs, Pt.cells, Pt.slots] at X14 l14 y14 z14 st14 hQ14
      subst l14 y14 z14
      obtain ⟨hv14, Nq14, hp14_0⟩ := hQ14
      have N14 := Fr.app N12 Nq14
      rw [if_pos hc13] at hv14
      subst hv14
      refine Goes.to st14 ?_
      show Goes p.tables e below (T14.setTop (mkF m 38 #[.val (.int x0), .val (.int x1), .val (.int ((x0 &&& (65535 : Int32)).toUInt32.toUInt16.toUInt32.toInt32)), .val (.int ((x1 &&& (127 : Int32)).toUInt32.toUInt16.toUInt32.toInt32)), .val (.int (1 : Int32)), .unset] [(.int (1 : Int32)), (.int (1 : Int32))])) _
      refine Goes.to (fun _ k => XS.icmpNo X14.here hx rfl (hb hby at_38) rfl (teq (by decide : (1 : Int32) = (1 : Int32))).2 k) ?_
      show Goes p.tables e below (T14.setTop (mkF m 41 #[.val (.int x0), .val (.int x1), .val (.int ((x0 &&& (65535 : Int32)).toUInt32.toUInt16.toUInt32.toInt32)), .val (.int ((x1 &&& (127 : Int32)).toUInt32.toUInt16.toUInt32.toInt32)), .val (.int (1 : Int32)), .unset] [])) _
      refine Goes.to (fun _ k => XS.iconst X14.here hx rfl (hb hby at_41) k) ?_
      show Goes p.tables e below (T14.setTop (mkF m 42 #[.val (.int x0), .val (.int x1), .val (.int ((x0 &&& (65535 : Int32)).toUInt32.toUInt16.toUInt32.toInt32)), .val (.int ((x1 &&& (127 : Int32)).toUInt32.toUInt16.toUInt32.toInt32)), .val (.int (1 : Int32)), .unset] [(.int (1 : Int32))])) _
      refine Goes.to (fun _ k => XS.goto X14.here hx rfl (pc0 := 42) (pc' := 46) rfl (hb hby at_42) (by decide) (by decide) k) ?_
      show Goes p.tables e below (T14.setTop (mkF m 46 #[.val (.int x0), .val (.int x1), .val (.int ((x0 &&& (65535 : Int32)).toUInt32.toUInt16.toUInt32.toInt32)), .val (.int ((x1 &&& (127 : Int32)).toUInt32.toUInt16.toUInt32.toInt32)), .val (.int (1 : Int32)), .unset] [(.int (1 : Int32))])) _
      refine Goes.to (fun _ k => XS.istore X14.here hx rfl (hb hby at_46) rfl (l' := #[.val (.int x0), .val (.int x1), .val (.int ((x0 &&& (65535 : Int32)).toUInt32.toUInt16.toUInt32.toInt32)), .val (.int ((x1 &&& (127 : Int32)).toUInt32.toUInt16.toUInt32.toInt32)), .val (.int (1 : Int32)), .val (.int (1 : Int32))]) rfl k) ?_
      show Goes p.tables e below (T14.setTop (mkF m 48 #[.val (.int x0), .val (.int x1), .val (.int ((x0 &&& (65535 : Int32)).toUInt32.toUInt16.toUInt32.toInt32)), .val (.int ((x1 &&& (127 : Int32)).toUInt32.toUInt16.toUInt32.toInt32)), .val (.int (1 : Int32)), .val (.int (1 : Int32))] [])) _
      refine Goes.to (fun _ k => XS.iload X14.here hx rfl (hb hby at_48) rfl k) ?_
      show Goes p.tables e below (T14.setTop (mkF m 50 #[.val (.int x0), .val (.int x1), .val (.int ((x0 &&& (65535 : Int32)).toUInt32.toUInt16.toUInt32.toInt32)), .val (.int ((x1 &&& (127 : Int32)).toUInt32.toUInt16.toUInt32.toInt32)), .val (.int (1 : Int32)), .val (.int (1 : Int32))] [(.int (1 : Int32))])) _
      refine Goes.to (fun _ k => XS.ifNo X14.here hx rfl (hb hby at_50) rfl ((if0 _ _).trans (feq (by decide : ¬ ((1 : Int32) = (0 : Int32)))).1) k) ?_
      show Goes p.tables e below (T14.setTop (mkF m 53 #[.val (.int x0), .val (.int x1), .val (.int ((x0 &&& (65535 : Int32)).toUInt32.toUInt16.toUInt32.toInt32)), .val (.int ((x1 &&& (127 : Int32)).toUInt32.toUInt16.toUInt32.toInt32)), .val (.int (1 : Int32)), .val (.int (1 : Int32))] [])) _
      refine Goes.to (fun _ k => XS.iload X14.here hx rfl (hb hby at_53) rfl k) ?_
      show Goes p.tables e below (T14.setTop (mkF m 55 #[.val (.int x0), .val (.int x1), .val (.int ((x0 &&& (65535 : Int32)).toUInt32.toUInt16.toUInt32.toInt32)), .val (.int ((x1 &&& (127 : Int32)).toUInt32.toUInt16.toUInt32.toInt32)), .val (.int (1 : Int32)), .val (.int (1 : Int32))] [(.int (1 : Int32))])) _
      refine Goes.to (fun _ k => XS.ifNo X14.here hx rfl (hb hby at_55) rfl ((if0 _ _).trans (feq (by decide : ¬ ((1 : Int32) = (0 : Int32)))).1) k) ?_
      show Goes p.tables e below (T14.setTop (mkF m 58 #[.val (.int x0), .val (.int x1), .val (.int ((x0 &&& (65535 : Int32)).toUInt32.toUInt16.toUInt32.toInt32)), .val (.int ((x1 &&& (127 : Int32)).toUInt32.toUInt16.toUInt32.toInt32)), .val (.int (1 : Int32)), .val (.int (1 : Int32))] [])) _
      refine Goes.to (fun _ k => XS.iconst X14.here hx rfl (hb hby at_58) k) ?_
      show Goes p.tables e below (T14.setTop (mkF m 59 #[.val (.int x0), .val (.int x1), .val (.int ((x0 &&& (65535 : Int32)).toUInt32.toUInt16.toUInt32.toInt32)), .val (.int ((x1 &&& (127 : Int32)).toUInt32.toUInt16.toUInt32.toInt32)), .val (.int (1 : Int32)), .val (.int (1 : Int32))] [(.int (1 : Int32))])) _
      refine Goes.to (fun _ k => XS.goto X14.here hx rfl (pc0 := 59) (pc' := 63) rfl (hb hby at_59) (by decide) (by decide) k) ?_
      show Goes p.tables e below (T14.setTop (mkF m 63 #[.val (.int x0), .val (.int x1), .val (.int ((x0 &&& (65535 : Int32)).toUInt32.toUInt16.toUInt32.toInt32)), .val (.int ((x1 &&& (127 : Int32)).toUInt32.toUInt16.toUInt32.toInt32)), .val (.int (1 : Int32)), .val (.int (1 : Int32))] [(.int (1 : Int32))])) _
      obtain ⟨fs, hr, hrun, hended, hW, hsame⟩ := X14.leave (v := some (.int (1 : Int32))) (fun h => by rw [Bd.returns] at h; cases h)
      have hv : (some (.int (1 : Int32)) : Option Value) = some (.int (1 : Int32)) := by
        rfl
      exact ⟨_, _, retN X14 hx (t := .boolean) Bd.returns (by simp) (hb hby at_63) hr, hrun, hended, _, _, rfl, ⟨hv, N14⟩, ⟨_, rfl⟩, hW, hsame.mono (by decide) (by decide)⟩
    · rw [if_neg hc13] at hv12
      subst hv12
      refine Goes.to st12 ?_
      show Goes p.tables e below (T12.setTop (mkF m 34 #[.val (.int x0), .val (.int x1), .val (.int ((x0 &&& (65535 : Int32)).toUInt32.toUInt16.toUInt32.toInt32)), .val (.int ((x1 &&& (127 : Int32)).toUInt32.toUInt16.toUInt32.toInt32)), .val (.int (1 : Int32)), .unset] [(.int (0 : Int32))])) _
      refine Goes.to (fun _ k => XS.iloadN X12.here hx rfl (hb hby at_34) rfl k) ?_
      show Goes p.tables e below (T12.setTop (mkF m 35 #[.val (.int x0), .val (.int x1), .val (.int ((x0 &&& (65535 : Int32)).toUInt32.toUInt16.toUInt32.toInt32)), .val (.int ((x1 &&& (127 : Int32)).toUInt32.toUInt16.toUInt32.toInt32)), .val (.int (1 : Int32)), .unset] [(.int ((x1 &&& (127 : Int32)).toUInt32.toUInt16.toUInt32.toInt32)), (.int (0 : Int32))])) _
      obtain ⟨_, _, ⟨T15, L15, k15, n15⟩, -, X15, ⟨Lc15, hQ15, l15, y15, z15⟩, st15⟩ := Jvm.LawKit.callS X12 hx (y := (⟨"com/example/flows_over_http/flowsoverhttp/structuredfields/GrammarIsKeyCharPinLaw", "expected", "(C)Z"⟩ : MethodName)) hown (mvT hZ (hw _ (List.mem_of_getElem? (i := 7) rfl))) (mvT hZ (hw _ (List.mem_of_getElem? (i := 8) rfl))) (mvT hZ (hw _ (List.mem_of_getElem? (i := 9) rfl))) (mvT hZ (hw _ (List.mem_of_getElem? (i := 10) rfl))) (by decide) (backOf (W := 1) (own_rm2 l Z a0 hw [] ((x1 &&& (127 : Int32)).toUInt32.toUInt16.toUInt32.toInt32) h0 n0 Z0 ) hZ (hw _ (List.mem_of_getElem? (i := 10) rfl)) (hw _ (List.mem_of_getElem? (i := 9) rfl)) (by decide) (by decide)) (g := (mkF m 35 #[.val (.int x0), .val (.int x1), .val (.int ((x0 &&& (65535 : Int32)).toUInt32.toUInt16.toUInt32.toInt32)), .val (.int ((x1 &&& (127 : Int32)).toUInt32.toUInt16.toUInt32.toInt32)), .val (.int (1 : Int32)), .unset] [(.int ((x1 &&& (127 : Int32)).toUInt32.toUInt16.toUInt32.toInt32)), (.int (0 : Int32))])) rfl (by rw [hml]; rfl) (argsL := [(.int ((x1 &&& (127 : Int32)).toUInt32.toUInt16.toUInt32.toInt32))]) (rest := [(.int (0 : Int32))]) (lenOf own_pd_pCqZ rfl) rfl (by show 2 * 0 + _ ≤ _; exact Nat.le_of_eq rfl) (hb hby at_35) (fun _ _ => ⟨rfl, hp12_0, (by decide : 0 + 0 ≤ _), (by decide : 0 + 0 ≤ _)⟩)
      dsimp only [Pt.U, Pt.locs, Pt.cells, Pt.slots] at X15 l15 y15 z15 st15 hQ15
      subst l15 y15 z15
      obtain ⟨hv15, Nq15, hp15_0⟩ := hQ15
      have N15 := Fr.app N12 Nq15
      rw [if_neg hc13] at hv15
      subst hv15
      refine Goes.to st15 ?_
      show Goes p.tables e below (T15.setTop (mkF m 38 #[.val (.int x0), .val (.int x1), .val (.int ((x0 &&& (65535 : Int32)).toUInt32.toUInt16.toUInt32.toInt32)), .val (.int ((x1 &&& (127 : Int32)).toUInt32.toUInt16.toUInt32.toInt32)), .val (.int (1 : Int32)), .unset] [(.int (0 : Int32)), (.int (0 : Int32))])) _
      refine Goes.to (fun _ k => XS.icmpNo X15.here hx rfl (hb hby at_38) rfl (teq (by decide : (0 : Int32) = (0 : Int32))).2 k) ?_
      show Goes p.tables e below (T15.setTop (mkF m 41 #[.val (.int x0), .val (.int x1), .val (.int ((x0 &&& (65535 : Int32)).toUInt32.toUInt16.toUInt32.toInt32)), .val (.int ((x1 &&& (127 : Int32)).toUInt32.toUInt16.toUInt32.toInt32)), .val (.int (1 : Int32)), .unset] [])) _
      refine Goes.to (fun _ k => XS.iconst X15.here hx rfl (hb hby at_41) k) ?_
      show Goes p.tables e below (T15.setTop (mkF m 42 #[.val (.int x0), .val (.int x1), .val (.int ((x0 &&& (65535 : Int32)).toUInt32.toUInt16.toUInt32.toInt32)), .val (.int ((x1 &&& (127 : Int32)).toUInt32.toUInt16.toUInt32.toInt32)), .val (.int (1 : Int32)), .unset] [(.int (1 : Int32))])) _
      refine Goes.to (fun _ k => XS.goto X15.here hx rfl (pc0 := 42) (pc' := 46) rfl (hb hby at_42) (by decide) (by decide) k) ?_
      show Goes p.tables e below (T15.setTop (mkF m 46 #[.val (.int x0), .val (.int x1), .val (.int ((x0 &&& (65535 : Int32)).toUInt32.toUInt16.toUInt32.toInt32)), .val (.int ((x1 &&& (127 : Int32)).toUInt32.toUInt16.toUInt32.toInt32)), .val (.int (1 : Int32)), .unset] [(.int (1 : Int32))])) _
      refine Goes.to (fun _ k => XS.istore X15.here hx rfl (hb hby at_46) rfl (l' := #[.val (.int x0), .val (.int x1), .val (.int ((x0 &&& (65535 : Int32)).toUInt32.toUInt16.toUInt32.toInt32)), .val (.int ((x1 &&& (127 : Int32)).toUInt32.toUInt16.toUInt32.toInt32)), .val (.int (1 : Int32)), .val (.int (1 : Int32))]) rfl k) ?_
      show Goes p.tables e below (T15.setTop (mkF m 48 #[.val (.int x0), .val (.int x1), .val (.int ((x0 &&& (65535 : Int32)).toUInt32.toUInt16.toUInt32.toInt32)), .val (.int ((x1 &&& (127 : Int32)).toUInt32.toUInt16.toUInt32.toInt32)), .val (.int (1 : Int32)), .val (.int (1 : Int32))] [])) _
      refine Goes.to (fun _ k => XS.iload X15.here hx rfl (hb hby at_48) rfl k) ?_
      show Goes p.tables e below (T15.setTop (mkF m 50 #[.val (.int x0), .val (.int x1), .val (.int ((x0 &&& (65535 : Int32)).toUInt32.toUInt16.toUInt32.toInt32)), .val (.int ((x1 &&& (127 : Int32)).toUInt32.toUInt16.toUInt32.toInt32)), .val (.int (1 : Int32)), .val (.int (1 : Int32))] [(.int (1 : Int32))])) _
      refine Goes.to (fun _ k => XS.ifNo X15.here hx rfl (hb hby at_50) rfl ((if0 _ _).trans (feq (by decide : ¬ ((1 : Int32) = (0 : Int32)))).1) k) ?_
      show Goes p.tables e below (T15.setTop (mkF m 53 #[.val (.int x0), .val (.int x1), .val (.int ((x0 &&& (65535 : Int32)).toUInt32.toUInt16.toUInt32.toInt32)), .val (.int ((x1 &&& (127 : Int32)).toUInt32.toUInt16.toUInt32.toInt32)), .val (.int (1 : Int32)), .val (.int (1 : Int32))] [])) _
      refine Goes.to (fun _ k => XS.iload X15.here hx rfl (hb hby at_53) rfl k) ?_
      show Goes p.tables e below (T15.setTop (mkF m 55 #[.val (.int x0), .val (.int x1), .val (.int ((x0 &&& (65535 : Int32)).toUInt32.toUInt16.toUInt32.toInt32)), .val (.int ((x1 &&& (127 : Int32)).toUInt32.toUInt16.toUInt32.toInt32)), .val (.int (1 : Int32)), .val (.int (1 : Int32))] [(.int (1 : Int32))])) _
      refine Goes.to (fun _ k => XS.ifNo X15.here hx rfl (hb hby at_55) rfl ((if0 _ _).trans (feq (by decide : ¬ ((1 : Int32) = (0 : Int32)))).1) k) ?_
      show Goes p.tables e below (T15.setTop (mkF m 58 #[.val (.int x0), .val (.int x1), .val (.int ((x0 &&& (65535 : Int32)).toUInt32.toUInt16.toUInt32.toInt32)), .val (.int ((x1 &&& (127 : Int32)).toUInt32.toUInt16.toUInt32.toInt32)), .val (.int (1 : Int32)), .val (.int (1 : Int32))] [])) _
      refine Goes.to (fun _ k => XS.iconst X15.here hx rfl (hb hby at_58) k) ?_
      show Goes p.tables e below (T15.setTop (mkF m 59 #[.val (.int x0), .val (.int x1), .val (.int ((x0 &&& (65535 : Int32)).toUInt32.toUInt16.toUInt32.toInt32)), .val (.int ((x1 &&& (127 : Int32)).toUInt32.toUInt16.toUInt32.toInt32)), .val (.int (1 : Int32)), .val (.int (1 : Int32))] [(.int (1 : Int32))])) _
      refine Goes.to (fun _ k => XS.goto X15.here hx rfl (pc0 := 59) (pc' := 63) rfl (hb hby at_59) (by decide) (by decide) k) ?_
      show Goes p.tables e below (T15.setTop (mkF m 63 #[.val (.int x0), .val (.int x1), .val (.int ((x0 &&& (65535 : Int32)).toUInt32.toUInt16.toUInt32.toInt32)), .val (.int ((x1 &&& (127 : Int32)).toUInt32.toUInt16.toUInt32.toInt32)), .val (.int (1 : Int32)), .val (.int (1 : Int32))] [(.int (1 : Int32))])) _
      obtain ⟨fs, hr, hrun, hended, hW, hsame⟩ := X15.leave (v := some (.int (1 : Int32))) (fun h => by rw [Bd.returns] at h; cases h)
      have hv : (some (.int (1 : Int32)) : Option Value) = some (.int (1 : Int32)) := by
        rfl
      exact ⟨_, _, retN X15 hx (t := .boolean) Bd.returns (by simp) (hb hby at_63) hr, hrun, hended, _, _, rfl, ⟨hv, N15⟩, ⟨_, rfl⟩, hW, hsame.mono (by decide) (by decide)⟩

set_option maxRecDepth 65536 in
set_option maxHeartbeats 40000000 in
theorem comes_1 {Post : Tables → Env → Array Value → State → Outcome → State → Prop} (hpost : ∀ tb e args s v u, (limb_1_1.after args s (.returned v) u = true ∧ limb_1_2.after args s (.returned v) u = true ∧ True) → FrameEnd s (.returned v) u (Jvm.fieldLocs frame_1_writes args s ++ Jvm.arrayLocs frame_1_arrays args s ++ Jvm.staticLocs frame_1_statics s) 0 0 → Post tb e args s (.returned v) u) :
    ArmFor flags0 classFile x code maxLocals ret World_1 tables_1 room_1 Calls_1 rest_1 Pre_1 Post := by
  intro l hfl _ _ p e ha hc hk s m args below hf hA hF happ hP
  obtain ⟨hcalls, hrest, hpre⟩ := hP
  obtain ⟨-, -, -, hnamed, -, -, -, hat⟩ := (Spec.applies_iff hf).mp happ
  obtain ⟨hg, hn⟩ := and_e (Cond.before_iff.mp (show (Jvm.Cond.and given_1 narrow_1).before args s = true from hpre))
  obtain ⟨hg0, hgr0⟩ := and_e hg
  obtain ⟨hg1, hgr1⟩ := and_e hgr0
  obtain ⟨w0, w1, rfl⟩ : ∃ w0 w1 : Value, args = #[w0, w1] := by
    have hs : args.size = 2 := by simpa [Cond.value, given_1] using hg0
    obtain ⟨L⟩ := args
    match L, hs with
    | [w0, w1], _ => exact ⟨w0, w1, rfl⟩
  have hw := fun d (hd : d ∈ tables_1) => atoms_spec (ws := Jvm.Cond.code x code maxLocals ret :: tables_1) hat d (List.mem_cons_of_mem _ hd)
  have hfit : Fit s := fun {y c} hc i hi => by
    obtain ⟨ha, rfl⟩ := Array.getElem?_eq_some_iff.mp hc
    have q := List.all_eq_true.mp ((Array.all_eq_true_iff_forall_mem.mp hF) _ (Array.getElem_mem ha)) i (List.mem_range.mpr hi)
    simpa [Array.getElem?_eq_getElem hi] using q
  obtain ⟨i0, ei0⟩ := is_v hg1
  obtain rfl : w0 = (.int i0) := Option.some.inj ei0
  obtain ⟨i1, ei1⟩ := is_v hgr1
  obtain rfl : w1 = (.int i1) := Option.some.inj ei1
  obtain ⟨hn0, hnr0⟩ := and_e hn
  obtain ⟨hn1, hnr1⟩ := and_e hnr0
  obtain ⟨hn2, hnr2⟩ := and_e hnr1
  obtain ⟨hn3, hnr3⟩ := and_e hnr2
  obtain ⟨hn4, hnr4⟩ := and_e hnr3
  obtain ⟨hn5, hnr5⟩ := and_e hnr4
  obtain ⟨hn6, hnr6⟩ := and_e hnr5
  obtain ⟨hn7, hnr7⟩ := and_e hnr6
  obtain ⟨hn8, hnr8⟩ := and_e hnr7
  obtain ⟨hn9, hnr9⟩ := and_e hnr8
  obtain ⟨hn10, hnr10⟩ := and_e hnr9
  obtain ⟨hn11, hnr11⟩ := and_e hnr10
  obtain ⟨hn12, hnr12⟩ := and_e hnr11
  obtain ⟨hn13, hnr13⟩ := and_e hnr12
  obtain ⟨aK, evK⟩ := arr_v hn0
  obtain ⟨clK, AK⟩ := Arr.start evK hn0
  have haK := AK.fin (Vm.Alike.refl _)
  have SK : Sta s s.heap "com/example/flows_over_http/flowsoverhttp/structuredfields/Grammar" "KEY_CHARS" "[Z" (.ref aK) := Sta.start evK (Or.inr ⟨(hw _ (List.mem_of_getElem? (i := 3) rfl)), (hw _ (List.mem_of_getElem? (i := 6) rfl))⟩)
  have SZ : clK.slots.size = (128 : Int32).toNatClampNeg := own_len evK haK (own_eqv hn1)
  have HK : ∀ j : Int32, 0 ≤ j.toInt → j.toInt < 128 → clK.slots[j.toNatClampNeg]? = some (.int (if ((97 ≤ j.toInt ∧ j.toInt ≤ 122) ∨ (48 ≤ j.toInt ∧ j.toInt ≤ 57) ∨ j.toInt = 95 ∨ j.toInt = 45 ∨ j.toInt = 46 ∨ j.toInt = 42) then (1 : Int32) else (0 : Int32))) := by
    intro j h0 h1
    have z0 : (0 : Int32).toInt = 0 := rfl
    have z128 : (128 : Int32).toInt = 128 := rfl
    have hj : ¬ j < 0 := fun q => by have := Int32.lt_iff_toInt_lt.mp q; omega
    have hin := inb_of SZ ⟨hj, Int32.lt_iff_toInt_lt.mpr (by omega : j.toInt < (128 : Int32).toInt)⟩
    have hlt : j.toNatClampNeg < clK.slots.size := Nat.lt_of_not_le fun y => hin (Or.inr y)
    obtain ⟨v, hv, hf⟩ := elem_fit hfit AK hin
    obtain ⟨w, rfl⟩ := fit_I hf (Or.inr (Or.inl rfl))
    have evJ : (Jvm.Term.static "com/example/flows_over_http/flowsoverhttp/structuredfields/Grammar" "KEY_CHARS" "[Z").eval #[.int i0, .int i1] s none [j.toNatClampNeg] s = some (.ref aK) := evK
    have el := (elem_f evJ (idx_at hj) haK hj).trans hv
    have a2 := Cond.all_elim evK haK hn2 _ hlt
    have b2 := or_e2 (Cond.le_ints (Term.int_eval _) (idx_at hj)) (Cond.eq_ints el (Term.int_eval _)) a2
    have p2 : 42 ≤ j.toInt ∨ w.toInt = 0 := b2.imp (fun q => (show (42 : Int32).toInt ≤ j.toInt from Int32.le_iff_toInt_le.mp q)) (fun q => congrArg Int32.toInt q)
    have p3 : j.toInt = 42 → w.toInt = 1 := fun q => by
      have ej : j = (42 : Int32) := Int32.toInt_inj.mp q
      have e1 := (elem_f evK (Term.int_eval (42 : Int32)) haK (by decide)).symm.trans (own_eqv hn3)
      rw [← ej] at e1
      have e2 := Value.int.inj (Option.some.inj (hv.symm.trans e1))
      rw [e2]; rfl
    have p4 : j.toInt = 43 → w.toInt = 0 := fun q => by
      have ej : j = (43 : Int32) := Int32.toInt_inj.mp q
      have e1 := (elem_f evK (Term.int_eval (43 : Int32)) haK (by decide)).symm.trans (own_eqv hn4)
      rw [← ej] at e1
      have e2 := Value.int.inj (Option.some.inj (hv.symm.trans e1))
      rw [e2]; rfl
    have p5 : j.toInt = 44 → w.toInt = 0 := fun q => by
      have ej : j = (44 : Int32) := Int32.toInt_inj.mp q
      have e1 := (elem_f evK (Term.int_eval (44 : Int32)) haK (by decide)).symm.trans (own_eqv hn5)
      rw [← ej] at e1
      have e2 := Value.int.inj (Option.some.inj (hv.symm.trans e1))
      rw [e2]; rfl
    have p6 : j.toInt = 45 → w.toInt = 1 := fun q => by
      have ej : j = (45 : Int32) := Int32.toInt_inj.mp q
      have e1 := (elem_f evK (Term.int_eval (45 : Int32)) haK (by decide)).symm.trans (own_eqv hn6)
      rw [← ej] at e1
      have e2 := Value.int.inj (Option.some.inj (hv.symm.trans e1))
      rw [e2]; rfl
    have p7 : j.toInt = 46 → w.toInt = 1 := fun q => by
      have ej : j = (46 : Int32) := Int32.toInt_inj.mp q
      have e1 := (elem_f evK (Term.int_eval (46 : Int32)) haK (by decide)).symm.trans (own_eqv hn7)
      rw [← ej] at e1
      have e2 := Value.int.inj (Option.some.inj (hv.symm.trans e1))
      rw [e2]; rfl
    have p8 : j.toInt = 47 → w.toInt = 0 := fun q => by
      have ej : j = (47 : Int32) := Int32.toInt_inj.mp q
      have e1 := (elem_f evK (Term.int_eval (47 : Int32)) haK (by decide)).symm.trans (own_eqv hn8)
      rw [← ej] at e1
      have e2 := Value.int.inj (Option.some.inj (hv.symm.trans e1))
      rw [e2]; rfl
    have a9 := Cond.all_elim evK haK hn9 _ hlt
    have b9 := own_or3 (Cond.lt_ints (idx_at hj) (Term.int_eval _)) (Cond.le_ints (Term.int_eval _) (idx_at hj)) (Cond.eq_ints el (Term.int_eval _)) a9
    have p9 : j.toInt < 48 ∨ 58 ≤ j.toInt ∨ w.toInt = 1 := b9.imp (fun q => Int32.lt_iff_toInt_lt.mp q) (fun q => q.imp (fun q => (show (58 : Int32).toInt ≤ j.toInt from Int32.le_iff_toInt_le.mp q)) (fun q => congrArg Int32.toInt q))
    have a10 := Cond.all_elim evK haK hn10 _ hlt
    have b10 := own_or3 (Cond.lt_ints (idx_at hj) (Term.int_eval _)) (Cond.le_ints (Term.int_eval _) (idx_at hj)) (Cond.eq_ints el (Term.int_eval _)) a10
    have p10 : j.toInt < 58 ∨ 95 ≤ j.toInt ∨ w.toInt = 0 := b10.imp (fun q => Int32.lt_iff_toInt_lt.mp q) (fun q => q.imp (fun q => (show (95 : Int32).toInt ≤ j.toInt from Int32.le_iff_toInt_le.mp q)) (fun q => congrArg Int32.toInt q))
    have p11 : j.toInt = 95 → w.toInt = 1 := fun q => by
      have ej : j = (95 : Int32) := Int32.toInt_inj.mp q
      have e1 := (elem_f evK (Term.int_eval (95 : Int32)) haK (by decide)).symm.trans (own_eqv hn11)
      rw [← ej] at e1
      have e2 := Value.int.inj (Option.some.inj (hv.symm.trans e1))
      rw [e2]; rfl
    have p12 : j.toInt = 96 → w.toInt = 0 := fun q => by
      have ej : j = (96 : Int32) := Int32.toInt_inj.mp q
      have e1 := (elem_f evK (Term.int_eval (96 : Int32)) haK (by decide)).symm.trans (own_eqv hn12)
      rw [← ej] at e1
      have e2 := Value.int.inj (Option.some.inj (hv.symm.trans e1))
      rw [e2]; rfl
    have a13 := Cond.all_elim evK haK hn13 _ hlt
    have b13 := own_or3 (Cond.lt_ints (idx_at hj) (Term.int_eval _)) (Cond.le_ints (Term.int_eval _) (idx_at hj)) (Cond.eq_ints el (Term.int_eval _)) a13
    have p13 : j.toInt < 97 ∨ 123 ≤ j.toInt ∨ w.toInt = 1 := b13.imp (fun q => Int32.lt_iff_toInt_lt.mp q) (fun q => q.imp (fun q => (show (123 : Int32).toInt ≤ j.toInt from Int32.le_iff_toInt_le.mp q)) (fun q => congrArg Int32.toInt q))
    have a14 := Cond.all_elim evK haK hnr13 _ hlt
    have b14 := or_e2 (Cond.lt_ints (idx_at hj) (Term.int_eval _)) (Cond.eq_ints el (Term.int_eval _)) a14
    have p14 : j.toInt < 123 ∨ w.toInt = 0 := b14.imp (fun q => Int32.lt_iff_toInt_lt.mp q) (fun q => congrArg Int32.toInt q)
    rw [hv]
    by_cases hk : ((97 ≤ j.toInt ∧ j.toInt ≤ 122) ∨ (48 ≤ j.toInt ∧ j.toInt ≤ 57) ∨ j.toInt = 95 ∨ j.toInt = 45 ∨ j.toInt = 46 ∨ j.toInt = 42)
    · rw [if_pos hk]
      have e : w = (1 : Int32) := Int32.toInt_inj.mp (show w.toInt = 1 by omega)
      rw [e]
    · rw [if_neg hk]
      have e : w = (0 : Int32) := Int32.toInt_inj.mp (show w.toInt = 0 by omega)
      rw [e]
  obtain ⟨n, o, h1, h2, h3, _, L, rfl, ⟨rfl, N⟩, hq⟩ := own_rm0 l s _ hw tables_1 i0 i1 aK clK s.heap s.heap.size (Nat.le_refl _) SK AK SZ HK p e ha hc hk s m _ below hf ((Spec.applies_iff_loose hf).mp happ).1 ⟨rfl, State.Warmed39.refl s, rfl⟩ trivial
  refine ⟨n, _, h1, h2, h3, hpost _ _ _ _ _ _ ⟨Cond.after_iff.mpr rfl, Cond.after_iff.mpr (eq_i res_at (Term.int_eval (1)) rfl), trivial⟩ ⟨hq.1, hq.2.1, (hq.2.2.sift fun y hy => Or.inr (N y hy)).mono (by decide) (by decide)⟩⟩
theorem main_1_1 : Claimed_1_1 := comes_1 fun _ _ _ _ _ _ h hF => ⟨h.1, hF⟩
theorem main_1_2 : Claimed_1_2 := comes_1 fun _ _ _ _ _ _ h hF => ⟨h.2.1, hF⟩
end Jvm.Pilot.@@N@@
namespace Jvm.Pilot.@@N@@
open Jvm Jvm.ClassFile Sem Op Lib Jvm.Free Jvm.Stand Jvm.Pilot.@@N@@.Jvm.D
/-! MADE BY PROGRAM (witnessworld.py) out of the Statement's table words and the real class files: 11 classes; the members and pool entries that the words name. The judged class is class 1, her method 2. -/
namespace start1
open Jvm.ClassFile
def u (s : String) : CpInfo := .utf8 (stringToUtf16 s)
/-- a pool by its gaps: so many unusable entries, then the entry; so many at the end -/
def gap : Nat → List CpInfo → List CpInfo
  | 0, r => r
  | n + 1, r => .unusable :: gap n r
def poolList (es : List (Nat × CpInfo)) (last : Nat) : List CpInfo := es.foldr (fun e r => gap e.1 (e.2 :: r)) (gap last [])
def pool (es : List (Nat × CpInfo)) (last : Nat) : Array CpInfo := ⟨poolList es last⟩
def fileOf (pool : Array CpInfo) (this : Nat) (attrs : Array Attribute := #[]) (ms : Array MethodInfo := #[]) (fl : Nat := 33) (sup : Nat := 0) (ifs : Array Nat := #[]) (fds : Array FieldInfo := #[]) : ClassFile where
  minorVersion := 0
  majorVersion := 65
  constantPool := pool
  accessFlags := fl
  thisClass := this
  superClass := sup
  interfaces := ifs
  fields := fds
  methods := ms
  attributes := attrs
def plain (name : String) (sup : Option ClassId) : Class where
  name := name
  kind := .ordinary
  loader := none
  accessFlags := 33
  super := sup
  interfaces := #[]
  cf := none
  fields := #[]
  methods := #[]
  instanceTypes := #[]
  staticTypes := #[]
  resolved := #[]
  callSites := []
  init := .initialized
  statics := none
  mirror := none

def pool0 : Array CpInfo := pool [(5, u "<init>"), (0, u "()V"), (1, .class_ 10), (1, u "java/lang/Object")] 113

def k0m0 : Method := { name := "<init>", desc := "()V", sig := { parameters := [], returnType := none }, accessFlags := 1, code := none }
/-- java/lang/Object -/
def k0 : Class := { plain "java/lang/Object" none with
  accessFlags := 33
  interfaces := #[]
  cf := some (fileOf pool0 8 #[] #[{ accessFlags := 1, nameIndex := 5, descriptorIndex := 6, attributes := #[] }] 33 0 #[] #[])
  fields := #[]
  methods := #[k0m0]
  instanceTypes := #[]
  staticTypes := #[]
  resolved := Array.replicate 124 none
  statics := none }

def pool1 : Array CpInfo := pool [(2, .class_ 4), (1, u "java/lang/Object"), (0, u "<init>"), (0, u "()V"), (0, .integer 65535), (0, .methodref 9 10), (0, .class_ 11), (0, .nameAndType 12 13), (0, u "com/example/flows_over_http/flowsoverhttp/structuredfields/Grammar"), (0, u "isKeyChar"), (0, u "(C)Z"), (0, .methodref 15 16), (0, .class_ 17), (0, .nameAndType 18 13), (0, u "com/example/flows_over_http/flowsoverhttp/structuredfields/GrammarIsKeyCharPinLaw"), (0, u "expected"), (3, u "law"), (0, u "(II)Z")] 2

def k1m0 : Method := { name := "<init>", desc := "()V", sig := { parameters := [], returnType := none }, accessFlags := 2, code := none }
def k1c1 : Code := { maxStack := 2, maxLocals := 1, code := method_2_code, exceptionTable := #[], attributes := #[] }
def k1m1 : Method := { name := "expected", desc := "(C)Z", sig := { parameters := [.char], returnType := some .boolean }, accessFlags := 10, code := some k1c1 }
def k1c2 : Code := { maxStack := 2, maxLocals := 6, code := code, exceptionTable := #[], attributes := #[] }
def k1m2 : Method := { name := "law", desc := "(II)Z", sig := { parameters := [.int, .int], returnType := some .boolean }, accessFlags := 9, code := some k1c2 }
/-- com/example/flows_over_http/flowsoverhttp/structuredfields/GrammarIsKeyCharPinLaw -/
def k1 : Class := { plain "com/example/flows_over_http/flowsoverhttp/structuredfields/GrammarIsKeyCharPinLaw" (some 0) with
  accessFlags := 49
  interfaces := #[]
  cf := some (fileOf pool1 15 #[] #[{ accessFlags := 2, nameIndex := 5, descriptorIndex := 6, attributes := #[] }, { accessFlags := 10, nameIndex := 18, descriptorIndex := 13, attributes := #[] }, { accessFlags := 9, nameIndex := 22, descriptorIndex := 23, attributes := #[] }] 49 2 #[] #[])
  fields := #[]
  methods := #[k1m0, k1m1, k1m2]
  instanceTypes := #[]
  staticTypes := #[]
  resolved := Array.replicate 26 none
  statics := none }

def pool2 : Array CpInfo := pool [(2, .class_ 4), (1, u "java/lang/Object"), (0, u "<init>"), (0, u "()V"), (1, .class_ 10), (1, u "com/example/flows_over_http/flowsoverhttp/structuredfields/Grammar"), (1, u "(C)Z"), (2, u "TOKEN_CHARS"), (0, u "[Z"), (0, .fieldref 8 18), (0, .nameAndType 19 16), (0, u "KEY_CHARS"), (19, u "isKeyChar"), (53, u "DIGITS"), (0, u "Ljava/lang/String;"), (3, u "LOWER"), (2, u "UPPER")] 35

def k2m0 : Method := { name := "<init>", desc := "()V", sig := { parameters := [], returnType := none }, accessFlags := 2, code := none }
def k2c1 : Code := { maxStack := 2, maxLocals := 1, code := prog_28_method_7_code, exceptionTable := #[], attributes := #[] }
def k2m1 : Method := { name := "isKeyChar", desc := "(C)Z", sig := { parameters := [.char], returnType := some .boolean }, accessFlags := 8, code := some k2c1 }
/-- com/example/flows_over_http/flowsoverhttp/structuredfields/Grammar -/
def k2 : Class := { plain "com/example/flows_over_http/flowsoverhttp/structuredfields/Grammar" (some 0) with
  accessFlags := 48
  interfaces := #[]
  cf := some (fileOf pool2 8 #[] #[{ accessFlags := 2, nameIndex := 5, descriptorIndex := 6, attributes := #[] }, { accessFlags := 8, nameIndex := 39, descriptorIndex := 12, attributes := #[] }] 48 2 #[] #[{ accessFlags := 26, nameIndex := 93, descriptorIndex := 94, attributes := #[] }, { accessFlags := 26, nameIndex := 98, descriptorIndex := 94, attributes := #[] }, { accessFlags := 26, nameIndex := 101, descriptorIndex := 94, attributes := #[] }, { accessFlags := 26, nameIndex := 15, descriptorIndex := 16, attributes := #[] }, { accessFlags := 26, nameIndex := 19, descriptorIndex := 16, attributes := #[] }])
  fields := #[{ name := "DIGITS", type := (.object "java/lang/String"), accessFlags := 26, slot := 0, constantValue := 0 }, { name := "LOWER", type := (.object "java/lang/String"), accessFlags := 26, slot := 1, constantValue := 0 }, { name := "UPPER", type := (.object "java/lang/String"), accessFlags := 26, slot := 2, constantValue := 0 }, { name := "TOKEN_CHARS", type := (.array .boolean), accessFlags := 26, slot := 3, constantValue := 0 }, { name := "KEY_CHARS", type := (.array .boolean), accessFlags := 26, slot := 4, constantValue := 0 }]
  methods := #[k2m0, k2m1]
  instanceTypes := #[]
  staticTypes := #[(.object "java/lang/String"), (.object "java/lang/String"), (.object "java/lang/String"), (.array .boolean), (.array .boolean)]
  resolved := Array.replicate 137 none
  statics := some 0 }

def pool3 : Array CpInfo := pool [(1, u "java/lang/Cloneable"), (0, .class_ 1), (0, u "java/lang/Object"), (0, .class_ 3)] 3

/-- java/lang/Cloneable -/
def k3 : Class := { plain "java/lang/Cloneable" (some 0) with
  accessFlags := 1537
  interfaces := #[]
  cf := some (fileOf pool3 2 #[] #[] 1537 4 #[] #[])
  fields := #[]
  methods := #[]
  instanceTypes := #[]
  staticTypes := #[]
  resolved := Array.replicate 8 none
  statics := none }

def pool4 : Array CpInfo := pool [(1, u "java/io/Serializable"), (0, .class_ 1), (0, u "java/lang/Object"), (0, .class_ 3)] 3

/-- java/io/Serializable -/
def k4 : Class := { plain "java/io/Serializable" (some 0) with
  accessFlags := 1537
  interfaces := #[]
  cf := some (fileOf pool4 2 #[] #[] 1537 4 #[] #[])
  fields := #[]
  methods := #[]
  instanceTypes := #[]
  staticTypes := #[]
  resolved := Array.replicate 8 none
  statics := none }

/-- the primitive boolean -/
def k5 : Class := { plain "boolean" none with kind := .primitive 'Z', accessFlags := 0x411 }
/-- [Z -/
def k6 : Class := { plain "[Z" (some 0) with kind := .array 5 .boolean, interfaces := #[3, 4], accessFlags := 1041 }

/-- the primitive byte -/
def k7 : Class := { plain "byte" none with kind := .primitive 'B', accessFlags := 0x411 }
/-- [B -/
def k8 : Class := { plain "[B" (some 0) with kind := .array 7 .byte, interfaces := #[3, 4], accessFlags := 1041 }

/-- the primitive int -/
def k9 : Class := { plain "int" none with kind := .primitive 'I', accessFlags := 0x411 }
/-- [I -/
def k10 : Class := { plain "[I" (some 0) with kind := .array 9 .int, interfaces := #[3, 4], accessFlags := 1041 }

def heap : Heap := #[{ cls := 2, slots := #[.null, .null, .null, .null, .ref 1], vm := .statics 2 },
  { cls := 6, slots := #[.int 0, .int 0, .int 0, .int 0, .int 0, .int 0, .int 0, .int 0, .int 0, .int 0, .int 0, .int 0, .int 0, .int 0, .int 0, .int 0, .int 0, .int 0, .int 0, .int 0, .int 0, .int 0, .int 0, .int 0, .int 0, .int 0, .int 0, .int 0, .int 0, .int 0, .int 0, .int 0, .int 0, .int 0, .int 0, .int 0, .int 0, .int 0, .int 0, .int 0, .int 0, .int 0, .int 1, .int 0, .int 0, .int 1, .int 1, .int 0, .int 1, .int 1, .int 1, .int 1, .int 1, .int 1, .int 1, .int 1, .int 1, .int 1, .int 0, .int 0, .int 0, .int 0, .int 0, .int 0, .int 0, .int 0, .int 0, .int 0, .int 0, .int 0, .int 0, .int 0, .int 0, .int 0, .int 0, .int 0, .int 0, .int 0, .int 0, .int 0, .int 0, .int 0, .int 0, .int 0, .int 0, .int 0, .int 0, .int 0, .int 0, .int 0, .int 0, .int 0, .int 0, .int 0, .int 0, .int 1, .int 0, .int 1, .int 1, .int 1, .int 1, .int 1, .int 1, .int 1, .int 1, .int 1, .int 1, .int 1, .int 1, .int 1, .int 1, .int 1, .int 1, .int 1, .int 1, .int 1, .int 1, .int 1, .int 1, .int 1, .int 1, .int 1, .int 1, .int 0, .int 0, .int 0, .int 0, .int 0], vm := .none }]
def classes : Array Class := #[k0, k1, k2, k3, k4, k5, k6, k7, k8, k9, k10]
def interned : List (Array UInt16 × Addr) := []
def slotsUsed : Nat := 133
def theMethod : MethodId := ⟨1, 2⟩
def args0 : Array Value := #[.int 97, .int 3]
def aboutOver (below : List Frame) : State where
  vm := { classes := classes, interned := interned.toArray }
  heap := heap
  slotsUsed := slotsUsed
  threads := #[{ frames := .invoking theMethod args0 :: below }]
def below0 : List Frame := [.native { method := ⟨0, 0⟩, args := #[] }]
def about1 : State := aboutOver below0
def p0 : Program := .bare "" "" ""
def e0 : Env := launch0.env 0 0 0
theorem w_frames : about1.frames = Frame.invoking theMethod args0 :: below0 := rfl
set_option maxRecDepth 65536 in
theorem w_args : argsFit about1.vm theMethod args0 = true := by decide +kernel
set_option maxRecDepth 65536 in
theorem w_heap : heapFits about1 = true := by decide +kernel
set_option maxRecDepth 65536 in
theorem w_runnable : about1.curStatus? = some .runnable := by decide +kernel
set_option maxRecDepth 65536 in
theorem w_alone : about1.alone = true := by decide +kernel
set_option maxRecDepth 65536 in
theorem w_named : about1.methodNamed? x = some theMethod := by decide +kernel
set_option maxRecDepth 65536 in
theorem w_hears : about1.hears theMethod below0 = true := by decide +kernel
set_option maxRecDepth 65536 in
theorem w_ripe : about1.ripe theMethod args0 below0 = true := by decide +kernel
theorem w_running : about1.status = .running := rfl
set_option maxRecDepth 65536 in
theorem w_room : about1.hasRoom e0.platform room_1 = true :=
  launch0.hasRoom_least _ room_1 (by decide +kernel) (by decide +kernel) (by decide +kernel) (by decide +kernel) (by decide +kernel) (by decide +kernel)
theorem allAtoms_all (ts : List Jvm.Cond) (a : Array Jvm.Value) (st : Jvm.State) : (allAtoms ts).before a st = ts.all (fun c => c.before a st) := by
  induction ts with
  | nil => rfl
  | cons c t ih =>
    show (Jvm.Cond.and c (allAtoms t)).before a st = _
    rw [Jvm.Cond.before_and, ih, List.all_cons]
def words1 : List Jvm.Cond := Jvm.Cond.code x code maxLocals ret :: tables_1
/-- a 'code' word, met by the world's own term for the bytes: nothing is compared byte by byte -/
theorem code_word {y : MethodName} {bytes : ByteArray} {mx : Nat} {rt : Option FieldType} {a : Array Value} {s : State} {m : MethodId} {meth : Method} {c : Code} (h1 : s.methodNamed? y = some m) (h2 : s.vm.method? m = some meth) (h3 : meth.code = some c) (h4 : c.code = bytes)
    (h5 : (c.maxLocals == mx && c.exceptionTable.isEmpty && decide (c.maxStack ≤ mostOperands) && decide (meth.sig.returnType = rt) && !meth.locks && decide (parseMethodDescriptor y.desc = some meth.sig)) = true) : (Jvm.Cond.code y bytes mx rt).before a s = true := by
  simp only [Bool.and_eq_true, beq_iff_eq, Bool.not_eq_true', decide_eq_true_eq] at h5
  obtain ⟨⟨⟨⟨⟨g1, g2⟩, g3⟩, g4⟩, g5⟩, g6⟩ := h5
  simp [Cond.before, Cond.holds, Cond.value, h1, h2, h3, h4, g1, g2, g3, g4, g5, g6]
def isCode : Jvm.Cond → Bool
  | .code _ _ _ _ => true
  | _ => false
theorem all_split {L : List Jvm.Cond} {P : Jvm.Cond → Bool} (h1 : L.all (fun c => isCode c || P c) = true) (h2 : ∀ c ∈ L.filter isCode, P c = true) : L.all P = true := by
  refine List.all_eq_true.mpr fun c hc => ?_
  have h := List.all_eq_true.mp h1 c hc
  rcases Bool.eq_false_or_eq_true (isCode c) with hi | hi
  · exact h2 c (List.mem_filter.mpr ⟨hc, hi⟩)
  · simpa [hi] using h
set_option maxRecDepth 65536 in
theorem w_c0 : (Jvm.Cond.code x code maxLocals ret).before args0 about1 = true := code_word (m := ⟨1, 2⟩) (meth := k1m2) (c := k1c2) (by decide +kernel) rfl rfl rfl (by decide +kernel)
set_option maxRecDepth 65536 in
theorem w_c1 : (Jvm.Cond.code ({ cls := "com/example/flows_over_http/flowsoverhttp/structuredfields/Grammar", name := "isKeyChar", desc := "(C)Z" } : Jvm.MethodName) prog_28_method_7_code (1 : Nat) (Option.some Jvm.ClassFile.FieldType.boolean)).before args0 about1 = true := code_word (m := ⟨2, 1⟩) (meth := k2m1) (c := k2c1) (by decide +kernel) rfl rfl rfl (by decide +kernel)
set_option maxRecDepth 65536 in
theorem w_c2 : (Jvm.Cond.code ({ cls := "com/example/flows_over_http/flowsoverhttp/structuredfields/GrammarIsKeyCharPinLaw", name := "expected", desc := "(C)Z" } : Jvm.MethodName) method_2_code (1 : Nat) (Option.some Jvm.ClassFile.FieldType.boolean)).before args0 about1 = true := code_word (m := ⟨1, 1⟩) (meth := k1m1) (c := k1c1) (by decide +kernel) rfl rfl rfl (by decide +kernel)
def codes1 : List Jvm.Cond := [Jvm.Cond.code x code maxLocals ret, Jvm.Cond.code ({ cls := "com/example/flows_over_http/flowsoverhttp/structuredfields/Grammar", name := "isKeyChar", desc := "(C)Z" } : Jvm.MethodName) prog_28_method_7_code (1 : Nat) (Option.some Jvm.ClassFile.FieldType.boolean), Jvm.Cond.code ({ cls := "com/example/flows_over_http/flowsoverhttp/structuredfields/GrammarIsKeyCharPinLaw", name := "expected", desc := "(C)Z" } : Jvm.MethodName) method_2_code (1 : Nat) (Option.some Jvm.ClassFile.FieldType.boolean)]
set_option maxRecDepth 65536 in
theorem codes_eq : words1.filter isCode = codes1 := rfl
theorem w_codes : ∀ c ∈ words1.filter isCode, c.before args0 about1 = true := by
  rw [codes_eq]
  intro c hc
  simp only [codes1, List.mem_cons, List.not_mem_nil, or_false] at hc
  rcases hc with rfl | rfl | rfl
  · exact w_c0
  · exact w_c1
  · exact w_c2
set_option maxRecDepth 65536 in
theorem w_t1 : words1.all (fun c => isCode c || c.before args0 about1) = true := by decide +kernel
theorem w_tables : (allAtoms (Jvm.Cond.code x code maxLocals ret :: tables_1)).before args0 about1 = true := by
  rw [allAtoms_all]
  show words1.all (fun c => c.before args0 about1) = true
  refine all_split ?_ w_codes
  rw [w_t1]
set_option maxRecDepth 65536 in
theorem w_case : (Jvm.Cond.and given_1 narrow_1).before args0 about1 = true := by decide +kernel
theorem w_applies : (headSpec (Jvm.Cond.code x code maxLocals ret :: tables_1) room_1).applies x e0.platform about1 = true :=
  (Spec.applies_iff w_frames).mpr ⟨w_running, w_runnable, w_alone, w_named, w_hears, w_ripe, w_room, w_tables⟩
theorem atStart : AtStart classFile x code maxLocals ret World_1 tables_1 room_1 Calls_1 rest_1 Pre_1 launch0 p0 e0 about1 theMethod args0 below0 :=
  ⟨lists_1, trivial, launch0.admits_env _ _ _, launch0.least_env, fairChoices_fair.cas, fairChoices_fair.clock, w_frames, w_args, w_heap, w_applies, trivial, trivial, w_case⟩
end start1
theorem witness_1 : WitnessClaimed_1 := ⟨start1.p0, start1.e0, start1.about1, start1.theMethod, start1.args0, start1.below0, start1.atStart⟩
end Jvm.Pilot.@@N@@
