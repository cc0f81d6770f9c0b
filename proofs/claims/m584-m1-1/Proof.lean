import JvmDerived
import JvmDerived.Pilot.@@N@@Statement
import JvmDerived.Pilot.@@N@@Code
set_option linter.unusedVariables false
set_option linter.unusedSimpArgs false
namespace Jvm.RoadKit
open Sem ClassFile Op Lib Jvm.Stand Jvm.Free Jvm.LawKit
section New
variable {p : Program} {l : Launch} {e : Env} {R : Room} {s : State} {m : MethodId} {args : Array Value} {below : List Frame} {meth : Method} {c : Code} {T : State} {locs : List Loc} {cells slots : Nat}
theorem retI (X : Stand p l e R s m args below meth c T locs cells slots) (hx : p.tables.exec = Jvm.exec) {pc : Nat} {Ls : Array Slot} {z : Int32} {rest : List Value} (hret : meth.sig.returnType = some .int) (hd : decode c.code pc = .ok (.ireturn, 1)) {fs : List Frame}
    (hl : ∀ (f : JFrame) (acts : List Action), f.method = m → f.locked = none → f.entered = [] → (doReturn e (T.setTop f) acts (some (.int z))).1 = T.setFrames fs) : Steps p.tables e below (T.setTop (mkF m pc Ls (.int z :: rest))) (T.setFrames fs) := by
  have hm' : T.vm.method? m = some meth := X.method'
  have hn : narrow .int (.int z) = .int z := rfl
  show Steps p.tables e below (T.setTop { method := m, pc := pc, locals := Ls, stack := _ :: rest, locked := none }) _
  jvm_step X.here [X.here.top, hx, hd, hm', hret, hn]
  first | (intro acts; rw [hl _ acts rfl rfl rfl]) | rw [hl _ _ rfl rfl rfl]
  exact Steps.refl _
end New
end Jvm.RoadKit
namespace Jvm.Pilot.@@N@@
open Jvm Jvm.ClassFile Sem Op Lib Jvm.Free Jvm.Stand Jvm.LawKit Jvm.RoadKit Bundle Jvm.Pilot.@@N@@.Jvm.D
/-- the run comes from A to some end of which R holds -/
def Goes (tb : Tables) (e : Env) (below : List Frame) (A : State) (R : State → Outcome → Prop) : Prop := ∃ t o, Steps tb e below A t ∧ R t o
theorem Goes.to {tb : Tables} {e : Env} {below : List Frame} {A B : State} {R : State → Outcome → Prop} (k : ∀ t, Steps tb e below A t → Steps tb e below B t) (h : Goes tb e below A R) : Goes tb e below B R := by
  obtain ⟨t, o, h1, h2⟩ := h
  exact ⟨t, o, k t h1, h2⟩
/-- how a body ends: it has returned, of value and heap Q holds, and no more than that many cells and slots are new -/
def own_R (below : List Frame) (s : State) (Q : Option Value → Heap → List Loc → Prop) (k n : Nat) : State → Outcome → Prop := fun s₂ o => s₂.status = .running ∧ Ended s₂ below o ∧ ∃ v L, o = .returned v ∧ Q v s₂.heap L ∧ FrameEnd s o s₂ L k n
theorem Goes.tr {tb : Tables} {e : Env} {below : List Frame} {A B : State} {R : State → Outcome → Prop} (k : Steps tb e below B A) (h : Goes tb e below A R) : Goes tb e below B R := Goes.to (fun _ z => k.trans z) h


/-- how a law ends that loads literals -/
def own_RW (below : List Frame) (s : State) (Q : Option Value → Heap → List Loc → Prop) (k n : Nat) : State → Outcome → Prop := fun s₂ o => s₂.status = .running ∧ Ended s₂ below o ∧ ∃ v L, o = .returned v ∧ Q v s₂.heap L ∧ ReturnedEndW s o s₂ L k n
theorem own_txt (text : String) (vs : List Value) (h : (text.toList.all fun c => decide (c.toNat < 256)) = true) (e : text.toList.map (fun c => Value.int (Jvm.Lit.byteI c.toNat.toUInt16)) = vs) : (∀ c ∈ text.toList, c.toNat < 256) ∧ text.toList.map (fun c => Value.int (Jvm.Lit.byteI c.toNat.toUInt16)) = vs :=
  ⟨fun c hc => of_decide_eq_true (List.all_eq_true.mp h c hc), e⟩
theorem own_wS {a0 : Array Value} {Z : State} (hw : ∀ d ∈ tables_1, d.before a0 Z = true) : ∀ a ∈ Bundle.stringAtoms, a.before a0 Z = true := by
  intro d hd
  simp only [Bundle.stringAtoms, Bundle.sN, List.mem_cons, List.not_mem_nil, or_false] at hd
  rcases hd with rfl | rfl | rfl | rfl | rfl | rfl | rfl
  · exact (hw _ (List.mem_of_getElem? (i := 1) rfl))
  · exact (hw _ (List.mem_of_getElem? (i := 2) rfl))
  · exact (hw _ (List.mem_of_getElem? (i := 3) rfl))
  · exact (hw _ (List.mem_of_getElem? (i := 4) rfl))
  · exact (hw _ (List.mem_of_getElem? (i := 5) rfl))
  · exact (hw _ (List.mem_of_getElem? (i := 6) rfl))
  · exact (hw _ (List.mem_of_getElem? (i := 7) rfl))


def own_ch1 (w : Int32) : Int32 := nar .char ((w &&& (255 : Int32)).toUInt32.toUInt16.toUInt32.toInt32)
def own_ch (w : Int32) : Int32 := nar .char (own_ch1 w)


def own_hex (c : Int32) : Int32 := if 48 ≤ c.toInt ∧ c.toInt ≤ 57 then (c - (48 : Int32)) else if 65 ≤ c.toInt ∧ c.toInt ≤ 70 then ((c - (65 : Int32)) + (10 : Int32)) else if 97 ≤ c.toInt ∧ c.toInt ≤ 102 then ((c - (97 : Int32)) + (10 : Int32)) else (-1 : Int32)
def own_up (v : Int32) : Int32 := if v.toInt < 10 then v + (48 : Int32) else v + (55 : Int32)
def own_lo (v : Int32) : Int32 := if v.toInt < 10 then v + (48 : Int32) else v + (87 : Int32)
theorem own_16 (v : Int32) (h0 : 0 ≤ v.toInt) (h1 : v.toInt < 16) : v = (0 : Int32) ∨ v = (1 : Int32) ∨ v = (2 : Int32) ∨ v = (3 : Int32) ∨ v = (4 : Int32) ∨ v = (5 : Int32) ∨ v = (6 : Int32) ∨ v = (7 : Int32) ∨ v = (8 : Int32) ∨ v = (9 : Int32) ∨ v = (10 : Int32) ∨ v = (11 : Int32) ∨ v = (12 : Int32) ∨ v = (13 : Int32) ∨ v = (14 : Int32) ∨ v = (15 : Int32) := by
  simp only [← Int32.toInt_inj]
  have e0 : (0 : Int32).toInt = 0 := rfl
  have e1 : (1 : Int32).toInt = 1 := rfl
  have e2 : (2 : Int32).toInt = 2 := rfl
  have e3 : (3 : Int32).toInt = 3 := rfl
  have e4 : (4 : Int32).toInt = 4 := rfl
  have e5 : (5 : Int32).toInt = 5 := rfl
  have e6 : (6 : Int32).toInt = 6 := rfl
  have e7 : (7 : Int32).toInt = 7 := rfl
  have e8 : (8 : Int32).toInt = 8 := rfl
  have e9 : (9 : Int32).toInt = 9 := rfl
  have e10 : (10 : Int32).toInt = 10 := rfl
  have e11 : (11 : Int32).toInt = 11 := rfl
  have e12 : (12 : Int32).toInt = 12 := rfl
  have e13 : (13 : Int32).toInt = 13 := rfl
  have e14 : (14 : Int32).toInt = 14 := rfl
  have e15 : (15 : Int32).toInt = 15 := rfl
  omega
set_option maxRecDepth 20000 in
theorem own_up_at (v : Int32) (h0 : 0 ≤ v.toInt) (h1 : v.toInt < 16) : [(.int (48 : Int32)), (.int (49 : Int32)), (.int (50 : Int32)), (.int (51 : Int32)), (.int (52 : Int32)), (.int (53 : Int32)), (.int (54 : Int32)), (.int (55 : Int32)), (.int (56 : Int32)), (.int (57 : Int32)), (.int (65 : Int32)), (.int (66 : Int32)), (.int (67 : Int32)), (.int (68 : Int32)), (.int (69 : Int32)), (.int (70 : Int32))].getD v.toNatClampNeg (.int (0 : Int32)) = (.int (own_up v) : Value) ∧ own_ch (own_up v) = own_up v := by
  rcases own_16 v h0 h1 with rfl | rfl | rfl | rfl | rfl | rfl | rfl | rfl | rfl | rfl | rfl | rfl | rfl | rfl | rfl | rfl <;> exact ⟨rfl, by decide⟩
set_option maxRecDepth 20000 in
theorem own_lo_at (v : Int32) (h0 : 0 ≤ v.toInt) (h1 : v.toInt < 16) : [(.int (48 : Int32)), (.int (49 : Int32)), (.int (50 : Int32)), (.int (51 : Int32)), (.int (52 : Int32)), (.int (53 : Int32)), (.int (54 : Int32)), (.int (55 : Int32)), (.int (56 : Int32)), (.int (57 : Int32)), (.int (97 : Int32)), (.int (98 : Int32)), (.int (99 : Int32)), (.int (100 : Int32)), (.int (101 : Int32)), (.int (102 : Int32))].getD v.toNatClampNeg (.int (0 : Int32)) = (.int (own_lo v) : Value) ∧ own_ch (own_lo v) = own_lo v := by
  rcases own_16 v h0 h1 with rfl | rfl | rfl | rfl | rfl | rfl | rfl | rfl | rfl | rfl | rfl | rfl | rfl | rfl | rfl | rfl <;> exact ⟨rfl, by decide⟩
theorem own_hex_up (v : Int32) (h0 : 0 ≤ v.toInt) (h1 : v.toInt < 16) : own_hex (own_up v) = v := by
  rcases own_16 v h0 h1 with rfl | rfl | rfl | rfl | rfl | rfl | rfl | rfl | rfl | rfl | rfl | rfl | rfl | rfl | rfl | rfl <;> decide
theorem own_hex_lo (v : Int32) (h0 : 0 ≤ v.toInt) (h1 : v.toInt < 16) : own_hex (own_lo v) = v := by
  rcases own_16 v h0 h1 with rfl | rfl | rfl | rfl | rfl | rfl | rfl | rfl | rfl | rfl | rfl | rfl | rfl | rfl | rfl | rfl <;> decide
theorem own_hex_rng (c : Int32) : own_hex c = (-1 : Int32) ∨ (0 ≤ (own_hex c).toInt ∧ (own_hex c).toInt ≤ 15 ∧ (c = own_up (own_hex c) ∨ c = own_lo (own_hex c))) := by
  have e48 : (48 : Int32).toInt = 48 := rfl
  have e55 : (55 : Int32).toInt = 55 := rfl
  have e65 : (65 : Int32).toInt = 65 := rfl
  have e87 : (87 : Int32).toInt = 87 := rfl
  have e97 : (97 : Int32).toInt = 97 := rfl
  have e10 : (10 : Int32).toInt = 10 := rfl
  by_cases p1 : 48 ≤ c.toInt ∧ c.toInt ≤ 57
  · have e : own_hex c = c - (48 : Int32) := by rw [own_hex, if_pos p1]
    have k1 := c_isub c (48 : Int32)
    have r1 := rng32 (c - (48 : Int32))
    refine Or.inr ?_
    rw [e]
    refine ⟨by omega, by omega, Or.inl ?_⟩
    rw [own_up, if_pos (by omega)]
    apply Int32.toInt_inj.mp
    have k2 := c_iadd (c - (48 : Int32)) (48 : Int32)
    have r2 := rng32 ((c - (48 : Int32)) + (48 : Int32))
    have r3 := rng32 c
    omega
  · by_cases p2 : 65 ≤ c.toInt ∧ c.toInt ≤ 70
    · have e : own_hex c = (c - (65 : Int32)) + (10 : Int32) := by rw [own_hex, if_neg p1, if_pos p2]
      have k1 := c_isub c (65 : Int32)
      have r1 := rng32 (c - (65 : Int32))
      have k3 := c_iadd (c - (65 : Int32)) (10 : Int32)
      have r4 := rng32 ((c - (65 : Int32)) + (10 : Int32))
      refine Or.inr ?_
      rw [e]
      refine ⟨by omega, by omega, Or.inl ?_⟩
      rw [own_up, if_neg (by omega)]
      apply Int32.toInt_inj.mp
      have k2 := c_iadd ((c - (65 : Int32)) + (10 : Int32)) (55 : Int32)
      have r2 := rng32 (((c - (65 : Int32)) + (10 : Int32)) + (55 : Int32))
      have r3 := rng32 c
      omega
    · by_cases p3 : 97 ≤ c.toInt ∧ c.toInt ≤ 102
      · have e : own_hex c = (c - (97 : Int32)) + (10 : Int32) := by rw [own_hex, if_neg p1, if_neg p2, if_pos p3]
        have k1 := c_isub c (97 : Int32)
        have r1 := rng32 (c - (97 : Int32))
        have k3 := c_iadd (c - (97 : Int32)) (10 : Int32)
        have r4 := rng32 ((c - (97 : Int32)) + (10 : Int32))
        refine Or.inr ?_
        rw [e]
        refine ⟨by omega, by omega, Or.inr ?_⟩
        rw [own_lo, if_neg (by omega)]
        apply Int32.toInt_inj.mp
        have k2 := c_iadd ((c - (97 : Int32)) + (10 : Int32)) (87 : Int32)
        have r2 := rng32 (((c - (97 : Int32)) + (10 : Int32)) + (87 : Int32))
        have r3 := rng32 c
        omega
      · exact Or.inl (by rw [own_hex, if_neg p1, if_neg p2, if_neg p3])

theorem d1_0 : decode prog_28_method_14_code 0 = .ok (.iload_n 0, 1) := by decide +kernel
theorem d1_1 : decode prog_28_method_14_code 1 = .ok (.bipush 48, 2) := by decide +kernel
theorem d1_3 : decode prog_28_method_14_code 3 = .ok (.if_icmp .lt 17, 3) := by decide +kernel
theorem d1_6 : decode prog_28_method_14_code 6 = .ok (.iload_n 0, 1) := by decide +kernel
theorem d1_7 : decode prog_28_method_14_code 7 = .ok (.bipush 57, 2) := by decide +kernel
theorem d1_9 : decode prog_28_method_14_code 9 = .ok (.if_icmp .gt 11, 3) := by decide +kernel
theorem d1_12 : decode prog_28_method_14_code 12 = .ok (.iload_n 0, 1) := by decide +kernel
theorem d1_13 : decode prog_28_method_14_code 13 = .ok (.bipush 48, 2) := by decide +kernel
theorem d1_15 : decode prog_28_method_14_code 15 = .ok (.isub, 1) := by decide +kernel
theorem d1_16 : decode prog_28_method_14_code 16 = .ok (.istore_n 1, 1) := by decide +kernel
theorem d1_17 : decode prog_28_method_14_code 17 = .ok (.goto 51, 3) := by decide +kernel
theorem d1_20 : decode prog_28_method_14_code 20 = .ok (.iload_n 0, 1) := by decide +kernel
theorem d1_21 : decode prog_28_method_14_code 21 = .ok (.bipush 65, 2) := by decide +kernel
theorem d1_23 : decode prog_28_method_14_code 23 = .ok (.if_icmp .lt 20, 3) := by decide +kernel
theorem d1_26 : decode prog_28_method_14_code 26 = .ok (.iload_n 0, 1) := by decide +kernel
theorem d1_27 : decode prog_28_method_14_code 27 = .ok (.bipush 70, 2) := by decide +kernel
theorem d1_29 : decode prog_28_method_14_code 29 = .ok (.if_icmp .gt 14, 3) := by decide +kernel
theorem d1_32 : decode prog_28_method_14_code 32 = .ok (.iload_n 0, 1) := by decide +kernel
theorem d1_33 : decode prog_28_method_14_code 33 = .ok (.bipush 65, 2) := by decide +kernel
theorem d1_35 : decode prog_28_method_14_code 35 = .ok (.isub, 1) := by decide +kernel
theorem d1_36 : decode prog_28_method_14_code 36 = .ok (.bipush 10, 2) := by decide +kernel
theorem d1_38 : decode prog_28_method_14_code 38 = .ok (.iadd, 1) := by decide +kernel
theorem d1_39 : decode prog_28_method_14_code 39 = .ok (.istore_n 1, 1) := by decide +kernel
theorem d1_40 : decode prog_28_method_14_code 40 = .ok (.goto 28, 3) := by decide +kernel
theorem d1_43 : decode prog_28_method_14_code 43 = .ok (.iload_n 0, 1) := by decide +kernel
theorem d1_44 : decode prog_28_method_14_code 44 = .ok (.bipush 97, 2) := by decide +kernel
theorem d1_46 : decode prog_28_method_14_code 46 = .ok (.if_icmp .lt 20, 3) := by decide +kernel
theorem d1_49 : decode prog_28_method_14_code 49 = .ok (.iload_n 0, 1) := by decide +kernel
theorem d1_50 : decode prog_28_method_14_code 50 = .ok (.bipush 102, 2) := by decide +kernel
theorem d1_52 : decode prog_28_method_14_code 52 = .ok (.if_icmp .gt 14, 3) := by decide +kernel
theorem d1_55 : decode prog_28_method_14_code 55 = .ok (.iload_n 0, 1) := by decide +kernel
theorem d1_56 : decode prog_28_method_14_code 56 = .ok (.bipush 97, 2) := by decide +kernel
theorem d1_58 : decode prog_28_method_14_code 58 = .ok (.isub, 1) := by decide +kernel
theorem d1_59 : decode prog_28_method_14_code 59 = .ok (.bipush 10, 2) := by decide +kernel
theorem d1_61 : decode prog_28_method_14_code 61 = .ok (.iadd, 1) := by decide +kernel
theorem d1_62 : decode prog_28_method_14_code 62 = .ok (.istore_n 1, 1) := by decide +kernel
theorem d1_63 : decode prog_28_method_14_code 63 = .ok (.goto 5, 3) := by decide +kernel
theorem d1_66 : decode prog_28_method_14_code 66 = .ok (.iconst (-1), 1) := by decide +kernel
theorem d1_67 : decode prog_28_method_14_code 67 = .ok (.istore_n 1, 1) := by decide +kernel
theorem d1_68 : decode prog_28_method_14_code 68 = .ok (.iload_n 1, 1) := by decide +kernel
theorem d1_69 : decode prog_28_method_14_code 69 = .ok (.ireturn, 1) := by decide +kernel
theorem own_pn_1 : plainName "com/example/unipar/unipar/PercentEncoding" = true := by first | (simp [plainName, overriddenIn]; done) | decide +kernel
theorem own_ef_own_rm1 (m : MethodId) (x0 : Int32) : entryFrame m #[(.int x0)] 2 = mkF m 0 #[.val (.int x0), .unset] [] := by first | (simp [entryFrame, mkF, argsToLocals, Value.category]; done) | rfl
def own_Q_own_rm1 (Z : State) (x0 : Int32)  (h0 : Heap) (n0 : Nat) (v : Option Value) (h : Heap) (L : List Loc) : Prop := v = some (.int (own_hex x0)) ∧ Fr n0 L ∧ h = h0
set_option maxRecDepth 65536 in
set_option maxHeartbeats 40000000 in
theorem own_rm1 (l : Launch) (Z : State) (a0 : Array Value) (hw : ∀ d ∈ tables_1, d.before a0 Z = true) (ws : List Jvm.Cond) (x0 : Int32)  (h0 : Heap) (n0 : Nat) (Z0 : n0 ≤ h0.size)  :
    MetFree l (⟨"com/example/unipar/unipar/PercentEncoding", "hexValue", "(C)I"⟩ : MethodName) (head1 (Jvm.Cond.code (⟨"com/example/unipar/unipar/PercentEncoding", "hexValue", "(C)I"⟩ : MethodName) prog_28_method_14_code 2 (some .int) :: ws) ({ frames := 0, cells := 0, slots := 0, locals := 0 } : Room)) (fun a U => a = #[(.int x0)] ∧ Z.Warmed39 U.vm ∧ U.heap = h0) (fun _ _ _ _ _ => True) (fun _ U o U' => ∃ v L, o = .returned v ∧ own_Q_own_rm1 Z x0 h0 n0 v U'.heap L ∧ FrameEnd U o U' L ({ frames := 0, cells := 0, slots := 0, locals := 0 } : Room).cells ({ frames := 0, cells := 0, slots := 0, locals := 0 } : Room).slots) := by
  refine MetFree.of_bodySF (plainFor_of_name own_pn_1) hisR ?_
  intro p e s m args below meth c s₁ Bd hml0 hP hK
  obtain ⟨rfl, hZ, hh⟩ := hP
  have hx := Bd.exec
  have hby := Bd.bytes
  have hml : c.maxLocals = 2 := hml0
  have hown : s.vm.findClass "com/example/unipar/unipar/PercentEncoding" = some m.cls := findClass_of_methodNamed Bd.named
  have hnm := (name_of_methodNamed Bd.named Bd.method).1
  have X0 : Stand p l e ({ frames := 0, cells := 0, slots := 0, locals := 0 } : Room) s m #[(.int x0)] below meth c s₁ [] 0 0 := Stand.of_body Bd
  have e0 : s₁.heap = h0 := by rw [← hh, Bd.state]; rfl
  have N0 := Fr.nil n0
  show Goes p.tables e below _ (own_R below s (own_Q_own_rm1 Z x0 h0 n0) ({ frames := 0, cells := 0, slots := 0, locals := 0 } : Room).cells ({ frames := 0, cells := 0, slots := 0, locals := 0 } : Room).slots)
  refine Goes.to (fun t k => castTop (own_ef_own_rm1 m x0) k) ?_
  show Goes p.tables e below (s₁.setTop (mkF m 0 #[.val (.int x0), .unset] [])) _
  refine Goes.to (fun _ k => XS.iloadN X0.here hx rfl (hb hby d1_0) rfl k) ?_
  show Goes p.tables e below (s₁.setTop (mkF m 1 #[.val (.int x0), .unset] [(.int x0)])) _
  refine Goes.to (fun _ k => XS.bipush X0.here hx rfl (hb hby d1_1) k) ?_
  show Goes p.tables e below (s₁.setTop (mkF m 3 #[.val (.int x0), .unset] [(.int (48 : Int32)), (.int x0)])) _
  by_cases hc1 : x0 < (48 : Int32)
  · refine Goes.to (fun _ k => XS.icmpYes X0.here hx rfl (pc0 := 3) (pc' := 20) rfl (hb hby d1_3) rfl (tlt hc1).1 (by decide) (by decide) k) ?_
    show Goes p.tables e below (s₁.setTop (mkF m 20 #[.val (.int x0), .unset] [])) _
    refine Goes.to (fun _ k => XS.iloadN X0.here hx rfl (hb hby d1_20) rfl k) ?_
    show Goes p.tables e below (s₁.setTop (mkF m 21 #[.val (.int x0), .unset] [(.int x0)])) _
    refine Goes.to (fun _ k => XS.bipush X0.here hx rfl (hb hby d1_21) k) ?_
    show Goes p.tables e below (s₁.setTop (mkF m 23 #[.val (.int x0), .unset] [(.int (65 : Int32)), (.int x0)])) _
    by_cases hc2 : x0 < (65 : Int32)
    · refine Goes.to (fun _ k => XS.icmpYes X0.here hx rfl (pc0 := 23) (pc' := 43) rfl (hb hby d1_23) rfl (tlt hc2).1 (by decide) (by decide) k) ?_
      show Goes p.tables e below (s₁.setTop (mkF m 43 #[.val (.int x0), .unset] [])) _
      refine Goes.to (fun _ k => XS.iloadN X0.here hx rfl (hb hby d1_43) rfl k) ?_
      show Goes p.tables e below (s₁.setTop (mkF m 44 #[.val (.int x0), .unset] [(.int x0)])) _
      refine Goes.to (fun _ k => XS.bipush X0.here hx rfl (hb hby d1_44) k) ?_
      show Goes p.tables e below (s₁.setTop (mkF m 46 #[.val (.int x0), .unset] [(.int (97 : Int32)), (.int x0)])) _
      by_cases hc3 : x0 < (97 : Int32)
      · refine Goes.to (fun _ k => XS.icmpYes X0.here hx rfl (pc0 := 46) (pc' := 66) rfl (hb hby d1_46) rfl (tlt hc3).1 (by decide) (by decide) k) ?_
        show Goes p.tables e below (s₁.setTop (mkF m 66 #[.val (.int x0), .unset] [])) _
        refine Goes.to (fun _ k => XS.iconst X0.here hx rfl (hb hby d1_66) k) ?_
        show Goes p.tables e below (s₁.setTop (mkF m 67 #[.val (.int x0), .unset] [(.int (-1 : Int32))])) _
        refine Goes.to (fun _ k => XS.istoreN X0.here hx rfl (hb hby d1_67) rfl (l' := #[.val (.int x0), .val (.int (-1 : Int32))]) rfl k) ?_
        show Goes p.tables e below (s₁.setTop (mkF m 68 #[.val (.int x0), .val (.int (-1 : Int32))] [])) _
        refine Goes.to (fun _ k => XS.iloadN X0.here hx rfl (hb hby d1_68) rfl k) ?_
        show Goes p.tables e below (s₁.setTop (mkF m 69 #[.val (.int x0), .val (.int (-1 : Int32))] [(.int (-1 : Int32))])) _
        obtain ⟨fs, hr, hrun, hended, hW, hsame⟩ := X0.leave (v := some (.int (-1 : Int32))) (fun h => by rw [Bd.returns] at h; cases h)
        have hv : (some (.int (-1 : Int32)) : Option Value) = some (.int (own_hex x0)) := by
          unfold own_hex
          rw [if_neg (by
            have k1 := rng32 x0
            have k2 : (48 : Int32).toInt = 48 := rfl
            have k3 : x0.toInt < (48 : Int32).toInt := Int32.lt_iff_toInt_lt.mp hc1
            have k4 : (65 : Int32).toInt = 65 := rfl
            have k5 : x0.toInt < (65 : Int32).toInt := Int32.lt_iff_toInt_lt.mp hc2
            have k6 : (97 : Int32).toInt = 97 := rfl
            have k7 : x0.toInt < (97 : Int32).toInt := Int32.lt_iff_toInt_lt.mp hc3
            omega)]
          rw [if_neg (by
            have k1 := rng32 x0
            have k2 : (48 : Int32).toInt = 48 := rfl
            have k3 : x0.toInt < (48 : Int32).toInt := Int32.lt_iff_toInt_lt.mp hc1
            have k4 : (65 : Int32).toInt = 65 := rfl
            have k5 : x0.toInt < (65 : Int32).toInt := Int32.lt_iff_toInt_lt.mp hc2
            have k6 : (97 : Int32).toInt = 97 := rfl
            have k7 : x0.toInt < (97 : Int32).toInt := Int32.lt_iff_toInt_lt.mp hc3
            omega)]
          rw [if_neg (by
            have k1 := rng32 x0
            have k2 : (48 : Int32).toInt = 48 := rfl
            have k3 : x0.toInt < (48 : Int32).toInt := Int32.lt_iff_toInt_lt.mp hc1
            have k4 : (65 : Int32).toInt = 65 := rfl
            have k5 : x0.toInt < (65 : Int32).toInt := Int32.lt_iff_toInt_lt.mp hc2
            have k6 : (97 : Int32).toInt = 97 := rfl
            have k7 : x0.toInt < (97 : Int32).toInt := Int32.lt_iff_toInt_lt.mp hc3
            omega)]
        exact ⟨_, _, retI X0 hx Bd.returns (hb hby d1_69) hr, hrun, hended, _, _, rfl, ⟨hv, N0, e0⟩, ⟨_, rfl⟩, hW, hsame.mono (by decide) (by decide)⟩
      · refine Goes.to (fun _ k => XS.icmpNo X0.here hx rfl (hb hby d1_46) rfl (flt hc3).1 k) ?_
        show Goes p.tables e below (s₁.setTop (mkF m 49 #[.val (.int x0), .unset] [])) _
        refine Goes.to (fun _ k => XS.iloadN X0.here hx rfl (hb hby d1_49) rfl k) ?_
        show Goes p.tables e below (s₁.setTop (mkF m 50 #[.val (.int x0), .unset] [(.int x0)])) _
        refine Goes.to (fun _ k => XS.bipush X0.here hx rfl (hb hby d1_50) k) ?_
        show Goes p.tables e below (s₁.setTop (mkF m 52 #[.val (.int x0), .unset] [(.int (102 : Int32)), (.int x0)])) _
        by_cases hc4 : (102 : Int32) < x0
        · refine Goes.to (fun _ k => XS.icmpYes X0.here hx rfl (pc0 := 52) (pc' := 66) rfl (hb hby d1_52) rfl (tlt hc4).2.2.1 (by decide) (by decide) k) ?_
          show Goes p.tables e below (s₁.setTop (mkF m 66 #[.val (.int x0), .unset] [])) _
          refine Goes.to (fun _ k => XS.iconst X0.here hx rfl (hb hby d1_66) k) ?_
          show Goes p.tables e below (s₁.setTop (mkF m 67 #[.val (.int x0), .unset] [(.int (-1 : Int32))])) _
          refine Goes.to (fun _ k => XS.istoreN X0.here hx rfl (hb hby d1_67) rfl (l' := #[.val (.int x0), .val (.int (-1 : Int32))]) rfl k) ?_
          show Goes p.tables e below (s₁.setTop (mkF m 68 #[.val (.int x0), .val (.int (-1 : Int32))] [])) _
          refine Goes.to (fun _ k => XS.iloadN X0.here hx rfl (hb hby d1_68) rfl k) ?_
          show Goes p.tables e below (s₁.setTop (mkF m 69 #[.val (.int x0), .val (.int (-1 : Int32))] [(.int (-1 : Int32))])) _
          obtain ⟨fs, hr, hrun, hended, hW, hsame⟩ := X0.leave (v := some (.int (-1 : Int32))) (fun h => by rw [Bd.returns] at h; cases h)
          have hv : (some (.int (-1 : Int32)) : Option Value) = some (.int (own_hex x0)) := by
            unfold own_hex
            rw [if_neg (by
              have k1 := rng32 x0
              have k2 : (48 : Int32).toInt = 48 := rfl
              have k3 : x0.toInt < (48 : Int32).toInt := Int32.lt_iff_toInt_lt.mp hc1
              have k4 : (65 : Int32).toInt = 65 := rfl
              have k5 : x0.toInt < (65 : Int32).toInt := Int32.lt_iff_toInt_lt.mp hc2
              have k6 : (97 : Int32).toInt = 97 := rfl
              have k7 : ¬ x0.toInt < (97 : Int32).toInt := fun z => hc3 (Int32.lt_iff_toInt_lt.mpr z)
              have k8 : (102 : Int32).toInt = 102 := rfl
              have k9 : (102 : Int32).toInt < x0.toInt := Int32.lt_iff_toInt_lt.mp hc4
              omega)]
            rw [if_neg (by
              have k1 := rng32 x0
              have k2 : (48 : Int32).toInt = 48 := rfl
              have k3 : x0.toInt < (48 : Int32).toInt := Int32.lt_iff_toInt_lt.mp hc1
              have k4 : (65 : Int32).toInt = 65 := rfl
              have k5 : x0.toInt < (65 : Int32).toInt := Int32.lt_iff_toInt_lt.mp hc2
              have k6 : (97 : Int32).toInt = 97 := rfl
              have k7 : ¬ x0.toInt < (97 : Int32).toInt := fun z => hc3 (Int32.lt_iff_toInt_lt.mpr z)
              have k8 : (102 : Int32).toInt = 102 := rfl
              have k9 : (102 : Int32).toInt < x0.toInt := Int32.lt_iff_toInt_lt.mp hc4
              omega)]
            rw [if_neg (by
              have k1 := rng32 x0
              have k2 : (48 : Int32).toInt = 48 := rfl
              have k3 : x0.toInt < (48 : Int32).toInt := Int32.lt_iff_toInt_lt.mp hc1
              have k4 : (65 : Int32).toInt = 65 := rfl
              have k5 : x0.toInt < (65 : Int32).toInt := Int32.lt_iff_toInt_lt.mp hc2
              have k6 : (97 : Int32).toInt = 97 := rfl
              have k7 : ¬ x0.toInt < (97 : Int32).toInt := fun z => hc3 (Int32.lt_iff_toInt_lt.mpr z)
              have k8 : (102 : Int32).toInt = 102 := rfl
              have k9 : (102 : Int32).toInt < x0.toInt := Int32.lt_iff_toInt_lt.mp hc4
              omega)]
          exact ⟨_, _, retI X0 hx Bd.returns (hb hby d1_69) hr, hrun, hended, _, _, rfl, ⟨hv, N0, e0⟩, ⟨_, rfl⟩, hW, hsame.mono (by decide) (by decide)⟩
        · refine Goes.to (fun _ k => XS.icmpNo X0.here hx rfl (hb hby d1_52) rfl (flt hc4).2.2.1 k) ?_
          show Goes p.tables e below (s₁.setTop (mkF m 55 #[.val (.int x0), .unset] [])) _
          refine Goes.to (fun _ k => XS.iloadN X0.here hx rfl (hb hby d1_55) rfl k) ?_
          show Goes p.tables e below (s₁.setTop (mkF m 56 #[.val (.int x0), .unset] [(.int x0)])) _
          refine Goes.to (fun _ k => XS.bipush X0.here hx rfl (hb hby d1_56) k) ?_
          show Goes p.tables e below (s₁.setTop (mkF m 58 #[.val (.int x0), .unset] [(.int (97 : Int32)), (.int x0)])) _
          refine Goes.to (fun _ k => XS.isub X0.here hx rfl (hb hby d1_58) rfl k) ?_
          show Goes p.tables e below (s₁.setTop (mkF m 59 #[.val (.int x0), .unset] [(.int (x0 - (97 : Int32)))])) _
          refine Goes.to (fun _ k => XS.bipush X0.here hx rfl (hb hby d1_59) k) ?_
          show Goes p.tables e below (s₁.setTop (mkF m 61 #[.val (.int x0), .unset] [(.int (10 : Int32)), (.int (x0 - (97 : Int32)))])) _
          refine Goes.to (fun _ k => XS.iadd X0.here hx rfl (hb hby d1_61) rfl k) ?_
          show Goes p.tables e below (s₁.setTop (mkF m 62 #[.val (.int x0), .unset] [(.int ((x0 - (97 : Int32)) + (10 : Int32)))])) _
          refine Goes.to (fun _ k => XS.istoreN X0.here hx rfl (hb hby d1_62) rfl (l' := #[.val (.int x0), .val (.int ((x0 - (97 : Int32)) + (10 : Int32)))]) rfl k) ?_
          show Goes p.tables e below (s₁.setTop (mkF m 63 #[.val (.int x0), .val (.int ((x0 - (97 : Int32)) + (10 : Int32)))] [])) _
          refine Goes.to (fun _ k => XS.goto X0.here hx rfl (pc0 := 63) (pc' := 68) rfl (hb hby d1_63) (by decide) (by decide) k) ?_
          show Goes p.tables e below (s₁.setTop (mkF m 68 #[.val (.int x0), .val (.int ((x0 - (97 : Int32)) + (10 : Int32)))] [])) _
          refine Goes.to (fun _ k => XS.iloadN X0.here hx rfl (hb hby d1_68) rfl k) ?_
          show Goes p.tables e below (s₁.setTop (mkF m 69 #[.val (.int x0), .val (.int ((x0 - (97 : Int32)) + (10 : Int32)))] [(.int ((x0 - (97 : Int32)) + (10 : Int32)))])) _
          obtain ⟨fs, hr, hrun, hended, hW, hsame⟩ := X0.leave (v := some (.int ((x0 - (97 : Int32)) + (10 : Int32)))) (fun h => by rw [Bd.returns] at h; cases h)
          have hv : (some (.int ((x0 - (97 : Int32)) + (10 : Int32))) : Option Value) = some (.int (own_hex x0)) := by
            unfold own_hex
            rw [if_neg (by
              have k1 := rng32 x0
              have k2 : (48 : Int32).toInt = 48 := rfl
              have k3 : x0.toInt < (48 : Int32).toInt := Int32.lt_iff_toInt_lt.mp hc1
              have k4 : (65 : Int32).toInt = 65 := rfl
              have k5 : x0.toInt < (65 : Int32).toInt := Int32.lt_iff_toInt_lt.mp hc2
              have k6 : (97 : Int32).toInt = 97 := rfl
              have k7 : ¬ x0.toInt < (97 : Int32).toInt := fun z => hc3 (Int32.lt_iff_toInt_lt.mpr z)
              have k8 : (102 : Int32).toInt = 102 := rfl
              have k9 : ¬ (102 : Int32).toInt < x0.toInt := fun z => hc4 (Int32.lt_iff_toInt_lt.mpr z)
              omega)]
            rw [if_neg (by
              have k1 := rng32 x0
              have k2 : (48 : Int32).toInt = 48 := rfl
              have k3 : x0.toInt < (48 : Int32).toInt := Int32.lt_iff_toInt_lt.mp hc1
              have k4 : (65 : Int32).toInt = 65 := rfl
              have k5 : x0.toInt < (65 : Int32).toInt := Int32.lt_iff_toInt_lt.mp hc2
              have k6 : (97 : Int32).toInt = 97 := rfl
              have k7 : ¬ x0.toInt < (97 : Int32).toInt := fun z => hc3 (Int32.lt_iff_toInt_lt.mpr z)
              have k8 : (102 : Int32).toInt = 102 := rfl
              have k9 : ¬ (102 : Int32).toInt < x0.toInt := fun z => hc4 (Int32.lt_iff_toInt_lt.mpr z)
              omega)]
            rw [if_pos (by
              have k1 := rng32 x0
              have k2 : (48 : Int32).toInt = 48 := rfl
              have k3 : x0.toInt < (48 : Int32).toInt := Int32.lt_iff_toInt_lt.mp hc1
              have k4 : (65 : Int32).toInt = 65 := rfl
              have k5 : x0.toInt < (65 : Int32).toInt := Int32.lt_iff_toInt_lt.mp hc2
              have k6 : (97 : Int32).toInt = 97 := rfl
              have k7 : ¬ x0.toInt < (97 : Int32).toInt := fun z => hc3 (Int32.lt_iff_toInt_lt.mpr z)
              have k8 : (102 : Int32).toInt = 102 := rfl
              have k9 : ¬ (102 : Int32).toInt < x0.toInt := fun z => hc4 (Int32.lt_iff_toInt_lt.mpr z)
              omega)]
          exact ⟨_, _, retI X0 hx Bd.returns (hb hby d1_69) hr, hrun, hended, _, _, rfl, ⟨hv, N0, e0⟩, ⟨_, rfl⟩, hW, hsame.mono (by decide) (by decide)⟩
    · refine Goes.to (fun _ k => XS.icmpNo X0.here hx rfl (hb hby d1_23) rfl (flt hc2).1 k) ?_
      show Goes p.tables e below (s₁.setTop (mkF m 26 #[.val (.int x0), .unset] [])) _
      refine Goes.to (fun _ k => XS.iloadN X0.here hx rfl (hb hby d1_26) rfl k) ?_
      show Goes p.tables e below (s₁.setTop (mkF m 27 #[.val (.int x0), .unset] [(.int x0)])) _
      refine Goes.to (fun _ k => XS.bipush X0.here hx rfl (hb hby d1_27) k) ?_
      show Goes p.tables e below (s₁.setTop (mkF m 29 #[.val (.int x0), .unset] [(.int (70 : Int32)), (.int x0)])) _
      by_cases hc5 : (70 : Int32) < x0
      · refine Goes.to (fun _ k => XS.icmpYes X0.here hx rfl (pc0 := 29) (pc' := 43) rfl (hb hby d1_29) rfl (tlt hc5).2.2.1 (by decide) (by decide) k) ?_
        show Goes p.tables e below (s₁.setTop (mkF m 43 #[.val (.int x0), .unset] [])) _
        refine Goes.to (fun _ k => XS.iloadN X0.here hx rfl (hb hby d1_43) rfl k) ?_
        show Goes p.tables e below (s₁.setTop (mkF m 44 #[.val (.int x0), .unset] [(.int x0)])) _
        refine Goes.to (fun _ k => XS.bipush X0.here hx rfl (hb hby d1_44) k) ?_
        show Goes p.tables e below (s₁.setTop (mkF m 46 #[.val (.int x0), .unset] [(.int (97 : Int32)), (.int x0)])) _
        by_cases hc6 : x0 < (97 : Int32)
        · refine Goes.to (fun _ k => XS.icmpYes X0.here hx rfl (pc0 := 46) (pc' := 66) rfl (hb hby d1_46) rfl (tlt hc6).1 (by decide) (by decide) k) ?_
          show Goes p.tables e below (s₁.setTop (mkF m 66 #[.val (.int x0), .unset] [])) _
          refine Goes.to (fun _ k => XS.iconst X0.here hx rfl (hb hby d1_66) k) ?_
          show Goes p.tables e below (s₁.setTop (mkF m 67 #[.val (.int x0), .unset] [(.int (-1 : Int32))])) _
          refine Goes.to (fun _ k => XS.istoreN X0.here hx rfl (hb hby d1_67) rfl (l' := #[.val (.int x0), .val (.int (-1 : Int32))]) rfl k) ?_
          show Goes p.tables e below (s₁.setTop (mkF m 68 #[.val (.int x0), .val (.int (-1 : Int32))] [])) _
          refine Goes.to (fun _ k => XS.iloadN X0.here hx rfl (hb hby d1_68) rfl k) ?_
          show Goes p.tables e below (s₁.setTop (mkF m 69 #[.val (.int x0), .val (.int (-1 : Int32))] [(.int (-1 : Int32))])) _
          obtain ⟨fs, hr, hrun, hended, hW, hsame⟩ := X0.leave (v := some (.int (-1 : Int32))) (fun h => by rw [Bd.returns] at h; cases h)
          have hv : (some (.int (-1 : Int32)) : Option Value) = some (.int (own_hex x0)) := by
            unfold own_hex
            rw [if_neg (by
              have k1 := rng32 x0
              have k2 : (48 : Int32).toInt = 48 := rfl
              have k3 : x0.toInt < (48 : Int32).toInt := Int32.lt_iff_toInt_lt.mp hc1
              have k4 : (65 : Int32).toInt = 65 := rfl
              have k5 : ¬ x0.toInt < (65 : Int32).toInt := fun z => hc2 (Int32.lt_iff_toInt_lt.mpr z)
              have k6 : (70 : Int32).toInt = 70 := rfl
              have k7 : (70 : Int32).toInt < x0.toInt := Int32.lt_iff_toInt_lt.mp hc5
              have k8 : (97 : Int32).toInt = 97 := rfl
              have k9 : x0.toInt < (97 : Int32).toInt := Int32.lt_iff_toInt_lt.mp hc6
              omega)]
            rw [if_neg (by
              have k1 := rng32 x0
              have k2 : (48 : Int32).toInt = 48 := rfl
              have k3 : x0.toInt < (48 : Int32).toInt := Int32.lt_iff_toInt_lt.mp hc1
              have k4 : (65 : Int32).toInt = 65 := rfl
              have k5 : ¬ x0.toInt < (65 : Int32).toInt := fun z => hc2 (Int32.lt_iff_toInt_lt.mpr z)
              have k6 : (70 : Int32).toInt = 70 := rfl
              have k7 : (70 : Int32).toInt < x0.toInt := Int32.lt_iff_toInt_lt.mp hc5
              have k8 : (97 : Int32).toInt = 97 := rfl
              have k9 : x0.toInt < (97 : Int32).toInt := Int32.lt_iff_toInt_lt.mp hc6
              omega)]
            rw [if_neg (by
              have k1 := rng32 x0
              have k2 : (48 : Int32).toInt = 48 := rfl
              have k3 : x0.toInt < (48 : Int32).toInt := Int32.lt_iff_toInt_lt.mp hc1
              have k4 : (65 : Int32).toInt = 65 := rfl
              have k5 : ¬ x0.toInt < (65 : Int32).toInt := fun z => hc2 (Int32.lt_iff_toInt_lt.mpr z)
              have k6 : (70 : Int32).toInt = 70 := rfl
              have k7 : (70 : Int32).toInt < x0.toInt := Int32.lt_iff_toInt_lt.mp hc5
              have k8 : (97 : Int32).toInt = 97 := rfl
              have k9 : x0.toInt < (97 : Int32).toInt := Int32.lt_iff_toInt_lt.mp hc6
              omega)]
          exact ⟨_, _, retI X0 hx Bd.returns (hb hby d1_69) hr, hrun, hended, _, _, rfl, ⟨hv, N0, e0⟩, ⟨_, rfl⟩, hW, hsame.mono (by decide) (by decide)⟩
        · refine Goes.to (fun _ k => XS.icmpNo X0.here hx rfl (hb hby d1_46) rfl (flt hc6).1 k) ?_
          show Goes p.tables e below (s₁.setTop (mkF m 49 #[.val (.int x0), .unset] [])) _
          refine Goes.to (fun _ k => XS.iloadN X0.here hx rfl (hb hby d1_49) rfl k) ?_
          show Goes p.tables e below (s₁.setTop (mkF m 50 #[.val (.int x0), .unset] [(.int x0)])) _
          refine Goes.to (fun _ k => XS.bipush X0.here hx rfl (hb hby d1_50) k) ?_
          show Goes p.tables e below (s₁.setTop (mkF m 52 #[.val (.int x0), .unset] [(.int (102 : Int32)), (.int x0)])) _
          by_cases hc7 : (102 : Int32) < x0
          · refine Goes.to (fun _ k => XS.icmpYes X0.here hx rfl (pc0 := 52) (pc' := 66) rfl (hb hby d1_52) rfl (tlt hc7).2.2.1 (by decide) (by decide) k) ?_
            show Goes p.tables e below (s₁.setTop (mkF m 66 #[.val (.int x0), .unset] [])) _
            refine Goes.to (fun _ k => XS.iconst X0.here hx rfl (hb hby d1_66) k) ?_
            show Goes p.tables e below (s₁.setTop (mkF m 67 #[.val (.int x0), .unset] [(.int (-1 : Int32))])) _
            refine Goes.to (fun _ k => XS.istoreN X0.here hx rfl (hb hby d1_67) rfl (l' := #[.val (.int x0), .val (.int (-1 : Int32))]) rfl k) ?_
            show Goes p.tables e below (s₁.setTop (mkF m 68 #[.val (.int x0), .val (.int (-1 : Int32))] [])) _
            refine Goes.to (fun _ k => XS.iloadN X0.here hx rfl (hb hby d1_68) rfl k) ?_
            show Goes p.tables e below (s₁.setTop (mkF m 69 #[.val (.int x0), .val (.int (-1 : Int32))] [(.int (-1 : Int32))])) _
            obtain ⟨fs, hr, hrun, hended, hW, hsame⟩ := X0.leave (v := some (.int (-1 : Int32))) (fun h => by rw [Bd.returns] at h; cases h)
            have hv : (some (.int (-1 : Int32)) : Option Value) = some (.int (own_hex x0)) := by
              unfold own_hex
              rw [if_neg (by
                have k1 := rng32 x0
                have k2 : (48 : Int32).toInt = 48 := rfl
                have k3 : x0.toInt < (48 : Int32).toInt := Int32.lt_iff_toInt_lt.mp hc1
                have k4 : (65 : Int32).toInt = 65 := rfl
                have k5 : ¬ x0.toInt < (65 : Int32).toInt := fun z => hc2 (Int32.lt_iff_toInt_lt.mpr z)
                have k6 : (70 : Int32).toInt = 70 := rfl
                have k7 : (70 : Int32).toInt < x0.toInt := Int32.lt_iff_toInt_lt.mp hc5
                have k8 : (97 : Int32).toInt = 97 := rfl
                have k9 : ¬ x0.toInt < (97 : Int32).toInt := fun z => hc6 (Int32.lt_iff_toInt_lt.mpr z)
                have k10 : (102 : Int32).toInt = 102 := rfl
                have k11 : (102 : Int32).toInt < x0.toInt := Int32.lt_iff_toInt_lt.mp hc7
                omega)]
              rw [if_neg (by
                have k1 := rng32 x0
                have k2 : (48 : Int32).toInt = 48 := rfl
                have k3 : x0.toInt < (48 : Int32).toInt := Int32.lt_iff_toInt_lt.mp hc1
                have k4 : (65 : Int32).toInt = 65 := rfl
                have k5 : ¬ x0.toInt < (65 : Int32).toInt := fun z => hc2 (Int32.lt_iff_toInt_lt.mpr z)
                have k6 : (70 : Int32).toInt = 70 := rfl
                have k7 : (70 : Int32).toInt < x0.toInt := Int32.lt_iff_toInt_lt.mp hc5
                have k8 : (97 : Int32).toInt = 97 := rfl
                have k9 : ¬ x0.toInt < (97 : Int32).toInt := fun z => hc6 (Int32.lt_iff_toInt_lt.mpr z)
                have k10 : (102 : Int32).toInt = 102 := rfl
                have k11 : (102 : Int32).toInt < x0.toInt := Int32.lt_iff_toInt_lt.mp hc7
                omega)]
              rw [if_neg (by
                have k1 := rng32 x0
                have k2 : (48 : Int32).toInt = 48 := rfl
                have k3 : x0.toInt < (48 : Int32).toInt := Int32.lt_iff_toInt_lt.mp hc1
                have k4 : (65 : Int32).toInt = 65 := rfl
                have k5 : ¬ x0.toInt < (65 : Int32).toInt := fun z => hc2 (Int32.lt_iff_toInt_lt.mpr z)
                have k6 : (70 : Int32).toInt = 70 := rfl
                have k7 : (70 : Int32).toInt < x0.toInt := Int32.lt_iff_toInt_lt.mp hc5
                have k8 : (97 : Int32).toInt = 97 := rfl
                have k9 : ¬ x0.toInt < (97 : Int32).toInt := fun z => hc6 (Int32.lt_iff_toInt_lt.mpr z)
                have k10 : (102 : Int32).toInt = 102 := rfl
                have k11 : (102 : Int32).toInt < x0.toInt := Int32.lt_iff_toInt_lt.mp hc7
                omega)]
            exact ⟨_, _, retI X0 hx Bd.returns (hb hby d1_69) hr, hrun, hended, _, _, rfl, ⟨hv, N0, e0⟩, ⟨_, rfl⟩, hW, hsame.mono (by decide) (by decide)⟩
          · refine Goes.to (fun _ k => XS.icmpNo X0.here hx rfl (hb hby d1_52) rfl (flt hc7).2.2.1 k) ?_
            show Goes p.tables e below (s₁.setTop (mkF m 55 #[.val (.int x0), .unset] [])) _
            refine Goes.to (fun _ k => XS.iloadN X0.here hx rfl (hb hby d1_55) rfl k) ?_
            show Goes p.tables e below (s₁.setTop (mkF m 56 #[.val (.int x0), .unset] [(.int x0)])) _
            refine Goes.to (fun _ k => XS.bipush X0.here hx rfl (hb hby d1_56) k) ?_
            show Goes p.tables e below (s₁.setTop (mkF m 58 #[.val (.int x0), .unset] [(.int (97 : Int32)), (.int x0)])) _
            refine Goes.to (fun _ k => XS.isub X0.here hx rfl (hb hby d1_58) rfl k) ?_
            show Goes p.tables e below (s₁.setTop (mkF m 59 #[.val (.int x0), .unset] [(.int (x0 - (97 : Int32)))])) _
            refine Goes.to (fun _ k => XS.bipush X0.here hx rfl (hb hby d1_59) k) ?_
            show Goes p.tables e below (s₁.setTop (mkF m 61 #[.val (.int x0), .unset] [(.int (10 : Int32)), (.int (x0 - (97 : Int32)))])) _
            refine Goes.to (fun _ k => XS.iadd X0.here hx rfl (hb hby d1_61) rfl k) ?_
            show Goes p.tables e below (s₁.setTop (mkF m 62 #[.val (.int x0), .unset] [(.int ((x0 - (97 : Int32)) + (10 : Int32)))])) _
            refine Goes.to (fun _ k => XS.istoreN X0.here hx rfl (hb hby d1_62) rfl (l' := #[.val (.int x0), .val (.int ((x0 - (97 : Int32)) + (10 : Int32)))]) rfl k) ?_
            show Goes p.tables e below (s₁.setTop (mkF m 63 #[.val (.int x0), .val (.int ((x0 - (97 : Int32)) + (10 : Int32)))] [])) _
            refine Goes.to (fun _ k => XS.goto X0.here hx rfl (pc0 := 63) (pc' := 68) rfl (hb hby d1_63) (by decide) (by decide) k) ?_
            show Goes p.tables e below (s₁.setTop (mkF m 68 #[.val (.int x0), .val (.int ((x0 - (97 : Int32)) + (10 : Int32)))] [])) _
            refine Goes.to (fun _ k => XS.iloadN X0.here hx rfl (hb hby d1_68) rfl k) ?_
            show Goes p.tables e below (s₁.setTop (mkF m 69 #[.val (.int x0), .val (.int ((x0 - (97 : Int32)) + (10 : Int32)))] [(.int ((x0 - (97 : Int32)) + (10 : Int32)))])) _
            obtain ⟨fs, hr, hrun, hended, hW, hsame⟩ := X0.leave (v := some (.int ((x0 - (97 : Int32)) + (10 : Int32)))) (fun h => by rw [Bd.returns] at h; cases h)
            have hv : (some (.int ((x0 - (97 : Int32)) + (10 : Int32))) : Option Value) = some (.int (own_hex x0)) := by
              unfold own_hex
              rw [if_neg (by
                have k1 := rng32 x0
                have k2 : (48 : Int32).toInt = 48 := rfl
                have k3 : x0.toInt < (48 : Int32).toInt := Int32.lt_iff_toInt_lt.mp hc1
                have k4 : (65 : Int32).toInt = 65 := rfl
                have k5 : ¬ x0.toInt < (65 : Int32).toInt := fun z => hc2 (Int32.lt_iff_toInt_lt.mpr z)
                have k6 : (70 : Int32).toInt = 70 := rfl
                have k7 : (70 : Int32).toInt < x0.toInt := Int32.lt_iff_toInt_lt.mp hc5
                have k8 : (97 : Int32).toInt = 97 := rfl
                have k9 : ¬ x0.toInt < (97 : Int32).toInt := fun z => hc6 (Int32.lt_iff_toInt_lt.mpr z)
                have k10 : (102 : Int32).toInt = 102 := rfl
                have k11 : ¬ (102 : Int32).toInt < x0.toInt := fun z => hc7 (Int32.lt_iff_toInt_lt.mpr z)
                omega)]
              rw [if_neg (by
                have k1 := rng32 x0
                have k2 : (48 : Int32).toInt = 48 := rfl
                have k3 : x0.toInt < (48 : Int32).toInt := Int32.lt_iff_toInt_lt.mp hc1
                have k4 : (65 : Int32).toInt = 65 := rfl
                have k5 : ¬ x0.toInt < (65 : Int32).toInt := fun z => hc2 (Int32.lt_iff_toInt_lt.mpr z)
                have k6 : (70 : Int32).toInt = 70 := rfl
                have k7 : (70 : Int32).toInt < x0.toInt := Int32.lt_iff_toInt_lt.mp hc5
                have k8 : (97 : Int32).toInt = 97 := rfl
                have k9 : ¬ x0.toInt < (97 : Int32).toInt := fun z => hc6 (Int32.lt_iff_toInt_lt.mpr z)
                have k10 : (102 : Int32).toInt = 102 := rfl
                have k11 : ¬ (102 : Int32).toInt < x0.toInt := fun z => hc7 (Int32.lt_iff_toInt_lt.mpr z)
                omega)]
              rw [if_pos (by
                have k1 := rng32 x0
                have k2 : (48 : Int32).toInt = 48 := rfl
                have k3 : x0.toInt < (48 : Int32).toInt := Int32.lt_iff_toInt_lt.mp hc1
                have k4 : (65 : Int32).toInt = 65 := rfl
                have k5 : ¬ x0.toInt < (65 : Int32).toInt := fun z => hc2 (Int32.lt_iff_toInt_lt.mpr z)
                have k6 : (70 : Int32).toInt = 70 := rfl
                have k7 : (70 : Int32).toInt < x0.toInt := Int32.lt_iff_toInt_lt.mp hc5
                have k8 : (97 : Int32).toInt = 97 := rfl
                have k9 : ¬ x0.toInt < (97 : Int32).toInt := fun z => hc6 (Int32.lt_iff_toInt_lt.mpr z)
                have k10 : (102 : Int32).toInt = 102 := rfl
                have k11 : ¬ (102 : Int32).toInt < x0.toInt := fun z => hc7 (Int32.lt_iff_toInt_lt.mpr z)
                omega)]
            exact ⟨_, _, retI X0 hx Bd.returns (hb hby d1_69) hr, hrun, hended, _, _, rfl, ⟨hv, N0, e0⟩, ⟨_, rfl⟩, hW, hsame.mono (by decide) (by decide)⟩
      · refine Goes.to (fun _ k => XS.icmpNo X0.here hx rfl (hb hby d1_29) rfl (flt hc5).2.2.1 k) ?_
        show Goes p.tables e below (s₁.setTop (mkF m 32 #[.val (.int x0), .unset] [])) _
        refine Goes.to (fun _ k => XS.iloadN X0.here hx rfl (hb hby d1_32) rfl k) ?_
        show Goes p.tables e below (s₁.setTop (mkF m 33 #[.val (.int x0), .unset] [(.int x0)])) _
        refine Goes.to (fun _ k => XS.bipush X0.here hx rfl (hb hby d1_33) k) ?_
        show Goes p.tables e below (s₁.setTop (mkF m 35 #[.val (.int x0), .unset] [(.int (65 : Int32)), (.int x0)])) _
        refine Goes.to (fun _ k => XS.isub X0.here hx rfl (hb hby d1_35) rfl k) ?_
        show Goes p.tables e below (s₁.setTop (mkF m 36 #[.val (.int x0), .unset] [(.int (x0 - (65 : Int32)))])) _
        refine Goes.to (fun _ k => XS.bipush X0.here hx rfl (hb hby d1_36) k) ?_
        show Goes p.tables e below (s₁.setTop (mkF m 38 #[.val (.int x0), .unset] [(.int (10 : Int32)), (.int (x0 - (65 : Int32)))])) _
        refine Goes.to (fun _ k => XS.iadd X0.here hx rfl (hb hby d1_38) rfl k) ?_
        show Goes p.tables e below (s₁.setTop (mkF m 39 #[.val (.int x0), .unset] [(.int ((x0 - (65 : Int32)) + (10 : Int32)))])) _
        refine Goes.to (fun _ k => XS.istoreN X0.here hx rfl (hb hby d1_39) rfl (l' := #[.val (.int x0), .val (.int ((x0 - (65 : Int32)) + (10 : Int32)))]) rfl k) ?_
        show Goes p.tables e below (s₁.setTop (mkF m 40 #[.val (.int x0), .val (.int ((x0 - (65 : Int32)) + (10 : Int32)))] [])) _
        refine Goes.to (fun _ k => XS.goto X0.here hx rfl (pc0 := 40) (pc' := 68) rfl (hb hby d1_40) (by decide) (by decide) k) ?_
        show Goes p.tables e below (s₁.setTop (mkF m 68 #[.val (.int x0), .val (.int ((x0 - (65 : Int32)) + (10 : Int32)))] [])) _
        refine Goes.to (fun _ k => XS.iloadN X0.here hx rfl (hb hby d1_68) rfl k) ?_
        show Goes p.tables e below (s₁.setTop (mkF m 69 #[.val (.int x0), .val (.int ((x0 - (65 : Int32)) + (10 : Int32)))] [(.int ((x0 - (65 : Int32)) + (10 : Int32)))])) _
        obtain ⟨fs, hr, hrun, hended, hW, hsame⟩ := X0.leave (v := some (.int ((x0 - (65 : Int32)) + (10 : Int32)))) (fun h => by rw [Bd.returns] at h; cases h)
        have hv : (some (.int ((x0 - (65 : Int32)) + (10 : Int32))) : Option Value) = some (.int (own_hex x0)) := by
          unfold own_hex
          rw [if_neg (by
            have k1 := rng32 x0
            have k2 : (48 : Int32).toInt = 48 := rfl
            have k3 : x0.toInt < (48 : Int32).toInt := Int32.lt_iff_toInt_lt.mp hc1
            have k4 : (65 : Int32).toInt = 65 := rfl
            have k5 : ¬ x0.toInt < (65 : Int32).toInt := fun z => hc2 (Int32.lt_iff_toInt_lt.mpr z)
            have k6 : (70 : Int32).toInt = 70 := rfl
            have k7 : ¬ (70 : Int32).toInt < x0.toInt := fun z => hc5 (Int32.lt_iff_toInt_lt.mpr z)
            omega)]
          rw [if_pos (by
            have k1 := rng32 x0
            have k2 : (48 : Int32).toInt = 48 := rfl
            have k3 : x0.toInt < (48 : Int32).toInt := Int32.lt_iff_toInt_lt.mp hc1
            have k4 : (65 : Int32).toInt = 65 := rfl
            have k5 : ¬ x0.toInt < (65 : Int32).toInt := fun z => hc2 (Int32.lt_iff_toInt_lt.mpr z)
            have k6 : (70 : Int32).toInt = 70 := rfl
            have k7 : ¬ (70 : Int32).toInt < x0.toInt := fun z => hc5 (Int32.lt_iff_toInt_lt.mpr z)
            omega)]
        exact ⟨_, _, retI X0 hx Bd.returns (hb hby d1_69) hr, hrun, hended, _, _, rfl, ⟨hv, N0, e0⟩, ⟨_, rfl⟩, hW, hsame.mono (by decide) (by decide)⟩
  · refine Goes.to (fun _ k => XS.icmpNo X0.here hx rfl (hb hby d1_3) rfl (flt hc1).1 k) ?_
    show Goes p.tables e below (s₁.setTop (mkF m 6 #[.val (.int x0), .unset] [])) _
    refine Goes.to (fun _ k => XS.iloadN X0.here hx rfl (hb hby d1_6) rfl k) ?_
    show Goes p.tables e below (s₁.setTop (mkF m 7 #[.val (.int x0), .unset] [(.int x0)])) _
    refine Goes.to (fun _ k => XS.bipush X0.here hx rfl (hb hby d1_7) k) ?_
    show Goes p.tables e below (s₁.setTop (mkF m 9 #[.val (.int x0), .unset] [(.int (57 : Int32)), (.int x0)])) _
    by_cases hc8 : (57 : Int32) < x0
    · refine Goes.to (fun _ k => XS.icmpYes X0.here hx rfl (pc0 := 9) (pc' := 20) rfl (hb hby d1_9) rfl (tlt hc8).2.2.1 (by decide) (by decide) k) ?_
      show Goes p.tables e below (s₁.setTop (mkF m 20 #[.val (.int x0), .unset] [])) _
      refine Goes.to (fun _ k => XS.iloadN X0.here hx rfl (hb hby d1_20) rfl k) ?_
      show Goes p.tables e below (s₁.setTop (mkF m 21 #[.val (.int x0), .unset] [(.int x0)])) _
      refine Goes.to (fun _ k => XS.bipush X0.here hx rfl (hb hby d1_21) k) ?_
      show Goes p.tables e below (s₁.setTop (mkF m 23 #[.val (.int x0), .unset] [(.int (65 : Int32)), (.int x0)])) _
      by_cases hc9 : x0 < (65 : Int32)
      · refine Goes.to (fun _ k => XS.icmpYes X0.here hx rfl (pc0 := 23) (pc' := 43) rfl (hb hby d1_23) rfl (tlt hc9).1 (by decide) (by decide) k) ?_
        show Goes p.tables e below (s₁.setTop (mkF m 43 #[.val (.int x0), .unset] [])) _
        refine Goes.to (fun _ k => XS.iloadN X0.here hx rfl (hb hby d1_43) rfl k) ?_
        show Goes p.tables e below (s₁.setTop (mkF m 44 #[.val (.int x0), .unset] [(.int x0)])) _
        refine Goes.to (fun _ k => XS.bipush X0.here hx rfl (hb hby d1_44) k) ?_
        show Goes p.tables e below (s₁.setTop (mkF m 46 #[.val (.int x0), .unset] [(.int (97 : Int32)), (.int x0)])) _
        by_cases hc10 : x0 < (97 : Int32)
        · refine Goes.to (fun _ k => XS.icmpYes X0.here hx rfl (pc0 := 46) (pc' := 66) rfl (hb hby d1_46) rfl (tlt hc10).1 (by decide) (by decide) k) ?_
          show Goes p.tables e below (s₁.setTop (mkF m 66 #[.val (.int x0), .unset] [])) _
          refine Goes.to (fun _ k => XS.iconst X0.here hx rfl (hb hby d1_66) k) ?_
          show Goes p.tables e below (s₁.setTop (mkF m 67 #[.val (.int x0), .unset] [(.int (-1 : Int32))])) _
          refine Goes.to (fun _ k => XS.istoreN X0.here hx rfl (hb hby d1_67) rfl (l' := #[.val (.int x0), .val (.int (-1 : Int32))]) rfl k) ?_
          show Goes p.tables e below (s₁.setTop (mkF m 68 #[.val (.int x0), .val (.int (-1 : Int32))] [])) _
          refine Goes.to (fun _ k => XS.iloadN X0.here hx rfl (hb hby d1_68) rfl k) ?_
          show Goes p.tables e below (s₁.setTop (mkF m 69 #[.val (.int x0), .val (.int (-1 : Int32))] [(.int (-1 : Int32))])) _
          obtain ⟨fs, hr, hrun, hended, hW, hsame⟩ := X0.leave (v := some (.int (-1 : Int32))) (fun h => by rw [Bd.returns] at h; cases h)
          have hv : (some (.int (-1 : Int32)) : Option Value) = some (.int (own_hex x0)) := by
            unfold own_hex
            rw [if_neg (by
              have k1 := rng32 x0
              have k2 : (48 : Int32).toInt = 48 := rfl
              have k3 : ¬ x0.toInt < (48 : Int32).toInt := fun z => hc1 (Int32.lt_iff_toInt_lt.mpr z)
              have k4 : (57 : Int32).toInt = 57 := rfl
              have k5 : (57 : Int32).toInt < x0.toInt := Int32.lt_iff_toInt_lt.mp hc8
              have k6 : (65 : Int32).toInt = 65 := rfl
              have k7 : x0.toInt < (65 : Int32).toInt := Int32.lt_iff_toInt_lt.mp hc9
              have k8 : (97 : Int32).toInt = 97 := rfl
              have k9 : x0.toInt < (97 : Int32).toInt := Int32.lt_iff_toInt_lt.mp hc10
              omega)]
            rw [if_neg (by
              have k1 := rng32 x0
              have k2 : (48 : Int32).toInt = 48 := rfl
              have k3 : ¬ x0.toInt < (48 : Int32).toInt := fun z => hc1 (Int32.lt_iff_toInt_lt.mpr z)
              have k4 : (57 : Int32).toInt = 57 := rfl
              have k5 : (57 : Int32).toInt < x0.toInt := Int32.lt_iff_toInt_lt.mp hc8
              have k6 : (65 : Int32).toInt = 65 := rfl
              have k7 : x0.toInt < (65 : Int32).toInt := Int32.lt_iff_toInt_lt.mp hc9
              have k8 : (97 : Int32).toInt = 97 := rfl
              have k9 : x0.toInt < (97 : Int32).toInt := Int32.lt_iff_toInt_lt.mp hc10
              omega)]
            rw [if_neg (by
              have k1 := rng32 x0
              have k2 : (48 : Int32).toInt = 48 := rfl
              have k3 : ¬ x0.toInt < (48 : Int32).toInt := fun z => hc1 (Int32.lt_iff_toInt_lt.mpr z)
              have k4 : (57 : Int32).toInt = 57 := rfl
              have k5 : (57 : Int32).toInt < x0.toInt := Int32.lt_iff_toInt_lt.mp hc8
              have k6 : (65 : Int32).toInt = 65 := rfl
              have k7 : x0.toInt < (65 : Int32).toInt := Int32.lt_iff_toInt_lt.mp hc9
              have k8 : (97 : Int32).toInt = 97 := rfl
              have k9 : x0.toInt < (97 : Int32).toInt := Int32.lt_iff_toInt_lt.mp hc10
              omega)]
          exact ⟨_, _, retI X0 hx Bd.returns (hb hby d1_69) hr, hrun, hended, _, _, rfl, ⟨hv, N0, e0⟩, ⟨_, rfl⟩, hW, hsame.mono (by decide) (by decide)⟩
        · refine Goes.to (fun _ k => XS.icmpNo X0.here hx rfl (hb hby d1_46) rfl (flt hc10).1 k) ?_
          show Goes p.tables e below (s₁.setTop (mkF m 49 #[.val (.int x0), .unset] [])) _
          refine Goes.to (fun _ k => XS.iloadN X0.here hx rfl (hb hby d1_49) rfl k) ?_
          show Goes p.tables e below (s₁.setTop (mkF m 50 #[.val (.int x0), .unset] [(.int x0)])) _
          refine Goes.to (fun _ k => XS.bipush X0.here hx rfl (hb hby d1_50) k) ?_
          show Goes p.tables e below (s₁.setTop (mkF m 52 #[.val (.int x0), .unset] [(.int (102 : Int32)), (.int x0)])) _
          by_cases hc11 : (102 : Int32) < x0
          · refine Goes.to (fun _ k => XS.icmpYes X0.here hx rfl (pc0 := 52) (pc' := 66) rfl (hb hby d1_52) rfl (tlt hc11).2.2.1 (by decide) (by decide) k) ?_
            show Goes p.tables e below (s₁.setTop (mkF m 66 #[.val (.int x0), .unset] [])) _
            refine Goes.to (fun _ k => XS.iconst X0.here hx rfl (hb hby d1_66) k) ?_
            show Goes p.tables e below (s₁.setTop (mkF m 67 #[.val (.int x0), .unset] [(.int (-1 : Int32))])) _
            refine Goes.to (fun _ k => XS.istoreN X0.here hx rfl (hb hby d1_67) rfl (l' := #[.val (.int x0), .val (.int (-1 : Int32))]) rfl k) ?_
            show Goes p.tables e below (s₁.setTop (mkF m 68 #[.val (.int x0), .val (.int (-1 : Int32))] [])) _
            refine Goes.to (fun _ k => XS.iloadN X0.here hx rfl (hb hby d1_68) rfl k) ?_
            show Goes p.tables e below (s₁.setTop (mkF m 69 #[.val (.int x0), .val (.int (-1 : Int32))] [(.int (-1 : Int32))])) _
            obtain ⟨fs, hr, hrun, hended, hW, hsame⟩ := X0.leave (v := some (.int (-1 : Int32))) (fun h => by rw [Bd.returns] at h; cases h)
            have hv : (some (.int (-1 : Int32)) : Option Value) = some (.int (own_hex x0)) := by
              unfold own_hex
              rw [if_neg (by
                have k1 := rng32 x0
                have k2 : (48 : Int32).toInt = 48 := rfl
                have k3 : ¬ x0.toInt < (48 : Int32).toInt := fun z => hc1 (Int32.lt_iff_toInt_lt.mpr z)
                have k4 : (57 : Int32).toInt = 57 := rfl
                have k5 : (57 : Int32).toInt < x0.toInt := Int32.lt_iff_toInt_lt.mp hc8
                have k6 : (65 : Int32).toInt = 65 := rfl
                have k7 : x0.toInt < (65 : Int32).toInt := Int32.lt_iff_toInt_lt.mp hc9
                have k8 : (97 : Int32).toInt = 97 := rfl
                have k9 : ¬ x0.toInt < (97 : Int32).toInt := fun z => hc10 (Int32.lt_iff_toInt_lt.mpr z)
                have k10 : (102 : Int32).toInt = 102 := rfl
                have k11 : (102 : Int32).toInt < x0.toInt := Int32.lt_iff_toInt_lt.mp hc11
                omega)]
              rw [if_neg (by
                have k1 := rng32 x0
                have k2 : (48 : Int32).toInt = 48 := rfl
                have k3 : ¬ x0.toInt < (48 : Int32).toInt := fun z => hc1 (Int32.lt_iff_toInt_lt.mpr z)
                have k4 : (57 : Int32).toInt = 57 := rfl
                have k5 : (57 : Int32).toInt < x0.toInt := Int32.lt_iff_toInt_lt.mp hc8
                have k6 : (65 : Int32).toInt = 65 := rfl
                have k7 : x0.toInt < (65 : Int32).toInt := Int32.lt_iff_toInt_lt.mp hc9
                have k8 : (97 : Int32).toInt = 97 := rfl
                have k9 : ¬ x0.toInt < (97 : Int32).toInt := fun z => hc10 (Int32.lt_iff_toInt_lt.mpr z)
                have k10 : (102 : Int32).toInt = 102 := rfl
                have k11 : (102 : Int32).toInt < x0.toInt := Int32.lt_iff_toInt_lt.mp hc11
                omega)]
              rw [if_neg (by
                have k1 := rng32 x0
                have k2 : (48 : Int32).toInt = 48 := rfl
                have k3 : ¬ x0.toInt < (48 : Int32).toInt := fun z => hc1 (Int32.lt_iff_toInt_lt.mpr z)
                have k4 : (57 : Int32).toInt = 57 := rfl
                have k5 : (57 : Int32).toInt < x0.toInt := Int32.lt_iff_toInt_lt.mp hc8
                have k6 : (65 : Int32).toInt = 65 := rfl
                have k7 : x0.toInt < (65 : Int32).toInt := Int32.lt_iff_toInt_lt.mp hc9
                have k8 : (97 : Int32).toInt = 97 := rfl
                have k9 : ¬ x0.toInt < (97 : Int32).toInt := fun z => hc10 (Int32.lt_iff_toInt_lt.mpr z)
                have k10 : (102 : Int32).toInt = 102 := rfl
                have k11 : (102 : Int32).toInt < x0.toInt := Int32.lt_iff_toInt_lt.mp hc11
                omega)]
            exact ⟨_, _, retI X0 hx Bd.returns (hb hby d1_69) hr, hrun, hended, _, _, rfl, ⟨hv, N0, e0⟩, ⟨_, rfl⟩, hW, hsame.mono (by decide) (by decide)⟩
          · refine Goes.to (fun _ k => XS.icmpNo X0.here hx rfl (hb hby d1_52) rfl (flt hc11).2.2.1 k) ?_
            show Goes p.tables e below (s₁.setTop (mkF m 55 #[.val (.int x0), .unset] [])) _
            refine Goes.to (fun _ k => XS.iloadN X0.here hx rfl (hb hby d1_55) rfl k) ?_
            show Goes p.tables e below (s₁.setTop (mkF m 56 #[.val (.int x0), .unset] [(.int x0)])) _
            refine Goes.to (fun _ k => XS.bipush X0.here hx rfl (hb hby d1_56) k) ?_
            show Goes p.tables e below (s₁.setTop (mkF m 58 #[.val (.int x0), .unset] [(.int (97 : Int32)), (.int x0)])) _
            refine Goes.to (fun _ k => XS.isub X0.here hx rfl (hb hby d1_58) rfl k) ?_
            show Goes p.tables e below (s₁.setTop (mkF m 59 #[.val (.int x0), .unset] [(.int (x0 - (97 : Int32)))])) _
            refine Goes.to (fun _ k => XS.bipush X0.here hx rfl (hb hby d1_59) k) ?_
            show Goes p.tables e below (s₁.setTop (mkF m 61 #[.val (.int x0), .unset] [(.int (10 : Int32)), (.int (x0 - (97 : Int32)))])) _
            refine Goes.to (fun _ k => XS.iadd X0.here hx rfl (hb hby d1_61) rfl k) ?_
            show Goes p.tables e below (s₁.setTop (mkF m 62 #[.val (.int x0), .unset] [(.int ((x0 - (97 : Int32)) + (10 : Int32)))])) _
            refine Goes.to (fun _ k => XS.istoreN X0.here hx rfl (hb hby d1_62) rfl (l' := #[.val (.int x0), .val (.int ((x0 - (97 : Int32)) + (10 : Int32)))]) rfl k) ?_
            show Goes p.tables e below (s₁.setTop (mkF m 63 #[.val (.int x0), .val (.int ((x0 - (97 : Int32)) + (10 : Int32)))] [])) _
            refine Goes.to (fun _ k => XS.goto X0.here hx rfl (pc0 := 63) (pc' := 68) rfl (hb hby d1_63) (by decide) (by decide) k) ?_
            show Goes p.tables e below (s₁.setTop (mkF m 68 #[.val (.int x0), .val (.int ((x0 - (97 : Int32)) + (10 : Int32)))] [])) _
            refine Goes.to (fun _ k => XS.iloadN X0.here hx rfl (hb hby d1_68) rfl k) ?_
            show Goes p.tables e below (s₁.setTop (mkF m 69 #[.val (.int x0), .val (.int ((x0 - (97 : Int32)) + (10 : Int32)))] [(.int ((x0 - (97 : Int32)) + (10 : Int32)))])) _
            obtain ⟨fs, hr, hrun, hended, hW, hsame⟩ := X0.leave (v := some (.int ((x0 - (97 : Int32)) + (10 : Int32)))) (fun h => by rw [Bd.returns] at h; cases h)
            have hv : (some (.int ((x0 - (97 : Int32)) + (10 : Int32))) : Option Value) = some (.int (own_hex x0)) := by
              unfold own_hex
              rw [if_neg (by
                have k1 := rng32 x0
                have k2 : (48 : Int32).toInt = 48 := rfl
                have k3 : ¬ x0.toInt < (48 : Int32).toInt := fun z => hc1 (Int32.lt_iff_toInt_lt.mpr z)
                have k4 : (57 : Int32).toInt = 57 := rfl
                have k5 : (57 : Int32).toInt < x0.toInt := Int32.lt_iff_toInt_lt.mp hc8
                have k6 : (65 : Int32).toInt = 65 := rfl
                have k7 : x0.toInt < (65 : Int32).toInt := Int32.lt_iff_toInt_lt.mp hc9
                have k8 : (97 : Int32).toInt = 97 := rfl
                have k9 : ¬ x0.toInt < (97 : Int32).toInt := fun z => hc10 (Int32.lt_iff_toInt_lt.mpr z)
                have k10 : (102 : Int32).toInt = 102 := rfl
                have k11 : ¬ (102 : Int32).toInt < x0.toInt := fun z => hc11 (Int32.lt_iff_toInt_lt.mpr z)
                omega)]
              rw [if_neg (by
                have k1 := rng32 x0
                have k2 : (48 : Int32).toInt = 48 := rfl
                have k3 : ¬ x0.toInt < (48 : Int32).toInt := fun z => hc1 (Int32.lt_iff_toInt_lt.mpr z)
                have k4 : (57 : Int32).toInt = 57 := rfl
                have k5 : (57 : Int32).toInt < x0.toInt := Int32.lt_iff_toInt_lt.mp hc8
                have k6 : (65 : Int32).toInt = 65 := rfl
                have k7 : x0.toInt < (65 : Int32).toInt := Int32.lt_iff_toInt_lt.mp hc9
                have k8 : (97 : Int32).toInt = 97 := rfl
                have k9 : ¬ x0.toInt < (97 : Int32).toInt := fun z => hc10 (Int32.lt_iff_toInt_lt.mpr z)
                have k10 : (102 : Int32).toInt = 102 := rfl
                have k11 : ¬ (102 : Int32).toInt < x0.toInt := fun z => hc11 (Int32.lt_iff_toInt_lt.mpr z)
                omega)]
              rw [if_pos (by
                have k1 := rng32 x0
                have k2 : (48 : Int32).toInt = 48 := rfl
                have k3 : ¬ x0.toInt < (48 : Int32).toInt := fun z => hc1 (Int32.lt_iff_toInt_lt.mpr z)
                have k4 : (57 : Int32).toInt = 57 := rfl
                have k5 : (57 : Int32).toInt < x0.toInt := Int32.lt_iff_toInt_lt.mp hc8
                have k6 : (65 : Int32).toInt = 65 := rfl
                have k7 : x0.toInt < (65 : Int32).toInt := Int32.lt_iff_toInt_lt.mp hc9
                have k8 : (97 : Int32).toInt = 97 := rfl
                have k9 : ¬ x0.toInt < (97 : Int32).toInt := fun z => hc10 (Int32.lt_iff_toInt_lt.mpr z)
                have k10 : (102 : Int32).toInt = 102 := rfl
                have k11 : ¬ (102 : Int32).toInt < x0.toInt := fun z => hc11 (Int32.lt_iff_toInt_lt.mpr z)
                omega)]
            exact ⟨_, _, retI X0 hx Bd.returns (hb hby d1_69) hr, hrun, hended, _, _, rfl, ⟨hv, N0, e0⟩, ⟨_, rfl⟩, hW, hsame.mono (by decide) (by decide)⟩
      · refine Goes.to (fun _ k => XS.icmpNo X0.here hx rfl (hb hby d1_23) rfl (flt hc9).1 k) ?_
        show Goes p.tables e below (s₁.setTop (mkF m 26 #[.val (.int x0), .unset] [])) _
        refine Goes.to (fun _ k => XS.iloadN X0.here hx rfl (hb hby d1_26) rfl k) ?_
        show Goes p.tables e below (s₁.setTop (mkF m 27 #[.val (.int x0), .unset] [(.int x0)])) _
        refine Goes.to (fun _ k => XS.bipush X0.here hx rfl (hb hby d1_27) k) ?_
        show Goes p.tables e below (s₁.setTop (mkF m 29 #[.val (.int x0), .unset] [(.int (70 : Int32)), (.int x0)])) _
        by_cases hc12 : (70 : Int32) < x0
        · refine Goes.to (fun _ k => XS.icmpYes X0.here hx rfl (pc0 := 29) (pc' := 43) rfl (hb hby d1_29) rfl (tlt hc12).2.2.1 (by decide) (by decide) k) ?_
          show Goes p.tables e below (s₁.setTop (mkF m 43 #[.val (.int x0), .unset] [])) _
          refine Goes.to (fun _ k => XS.iloadN X0.here hx rfl (hb hby d1_43) rfl k) ?_
          show Goes p.tables e below (s₁.setTop (mkF m 44 #[.val (.int x0), .unset] [(.int x0)])) _
          refine Goes.to (fun _ k => XS.bipush X0.here hx rfl (hb hby d1_44) k) ?_
          show Goes p.tables e below (s₁.setTop (mkF m 46 #[.val (.int x0), .unset] [(.int (97 : Int32)), (.int x0)])) _
          by_cases hc13 : x0 < (97 : Int32)
          · refine Goes.to (fun _ k => XS.icmpYes X0.here hx rfl (pc0 := 46) (pc' := 66) rfl (hb hby d1_46) rfl (tlt hc13).1 (by decide) (by decide) k) ?_
            show Goes p.tables e below (s₁.setTop (mkF m 66 #[.val (.int x0), .unset] [])) _
            refine Goes.to (fun _ k => XS.iconst X0.here hx rfl (hb hby d1_66) k) ?_
            show Goes p.tables e below (s₁.setTop (mkF m 67 #[.val (.int x0), .unset] [(.int (-1 : Int32))])) _
            refine Goes.to (fun _ k => XS.istoreN X0.here hx rfl (hb hby d1_67) rfl (l' := #[.val (.int x0), .val (.int (-1 : Int32))]) rfl k) ?_
            show Goes p.tables e below (s₁.setTop (mkF m 68 #[.val (.int x0), .val (.int (-1 : Int32))] [])) _
            refine Goes.to (fun _ k => XS.iloadN X0.here hx rfl (hb hby d1_68) rfl k) ?_
            show Goes p.tables e below (s₁.setTop (mkF m 69 #[.val (.int x0), .val (.int (-1 : Int32))] [(.int (-1 : Int32))])) _
            obtain ⟨fs, hr, hrun, hended, hW, hsame⟩ := X0.leave (v := some (.int (-1 : Int32))) (fun h => by rw [Bd.returns] at h; cases h)
            have hv : (some (.int (-1 : Int32)) : Option Value) = some (.int (own_hex x0)) := by
              unfold own_hex
              rw [if_neg (by
                have k1 := rng32 x0
                have k2 : (48 : Int32).toInt = 48 := rfl
                have k3 : ¬ x0.toInt < (48 : Int32).toInt := fun z => hc1 (Int32.lt_iff_toInt_lt.mpr z)
                have k4 : (57 : Int32).toInt = 57 := rfl
                have k5 : (57 : Int32).toInt < x0.toInt := Int32.lt_iff_toInt_lt.mp hc8
                have k6 : (65 : Int32).toInt = 65 := rfl
                have k7 : ¬ x0.toInt < (65 : Int32).toInt := fun z => hc9 (Int32.lt_iff_toInt_lt.mpr z)
                have k8 : (70 : Int32).toInt = 70 := rfl
                have k9 : (70 : Int32).toInt < x0.toInt := Int32.lt_iff_toInt_lt.mp hc12
                have k10 : (97 : Int32).toInt = 97 := rfl
                have k11 : x0.toInt < (97 : Int32).toInt := Int32.lt_iff_toInt_lt.mp hc13
                omega)]
              rw [if_neg (by
                have k1 := rng32 x0
                have k2 : (48 : Int32).toInt = 48 := rfl
                have k3 : ¬ x0.toInt < (48 : Int32).toInt := fun z => hc1 (Int32.lt_iff_toInt_lt.mpr z)
                have k4 : (57 : Int32).toInt = 57 := rfl
                have k5 : (57 : Int32).toInt < x0.toInt := Int32.lt_iff_toInt_lt.mp hc8
                have k6 : (65 : Int32).toInt = 65 := rfl
                have k7 : ¬ x0.toInt < (65 : Int32).toInt := fun z => hc9 (Int32.lt_iff_toInt_lt.mpr z)
                have k8 : (70 : Int32).toInt = 70 := rfl
                have k9 : (70 : Int32).toInt < x0.toInt := Int32.lt_iff_toInt_lt.mp hc12
                have k10 : (97 : Int32).toInt = 97 := rfl
                have k11 : x0.toInt < (97 : Int32).toInt := Int32.lt_iff_toInt_lt.mp hc13
                omega)]
              rw [if_neg (by
                have k1 := rng32 x0
                have k2 : (48 : Int32).toInt = 48 := rfl
                have k3 : ¬ x0.toInt < (48 : Int32).toInt := fun z => hc1 (Int32.lt_iff_toInt_lt.mpr z)
                have k4 : (57 : Int32).toInt = 57 := rfl
                have k5 : (57 : Int32).toInt < x0.toInt := Int32.lt_iff_toInt_lt.mp hc8
                have k6 : (65 : Int32).toInt = 65 := rfl
                have k7 : ¬ x0.toInt < (65 : Int32).toInt := fun z => hc9 (Int32.lt_iff_toInt_lt.mpr z)
                have k8 : (70 : Int32).toInt = 70 := rfl
                have k9 : (70 : Int32).toInt < x0.toInt := Int32.lt_iff_toInt_lt.mp hc12
                have k10 : (97 : Int32).toInt = 97 := rfl
                have k11 : x0.toInt < (97 : Int32).toInt := Int32.lt_iff_toInt_lt.mp hc13
                omega)]
            exact ⟨_, _, retI X0 hx Bd.returns (hb hby d1_69) hr, hrun, hended, _, _, rfl, ⟨hv, N0, e0⟩, ⟨_, rfl⟩, hW, hsame.mono (by decide) (by decide)⟩
          · refine Goes.to (fun _ k => XS.icmpNo X0.here hx rfl (hb hby d1_46) rfl (flt hc13).1 k) ?_
            show Goes p.tables e below (s₁.setTop (mkF m 49 #[.val (.int x0), .unset] [])) _
            refine Goes.to (fun _ k => XS.iloadN X0.here hx rfl (hb hby d1_49) rfl k) ?_
            show Goes p.tables e below (s₁.setTop (mkF m 50 #[.val (.int x0), .unset] [(.int x0)])) _
            refine Goes.to (fun _ k => XS.bipush X0.here hx rfl (hb hby d1_50) k) ?_
            show Goes p.tables e below (s₁.setTop (mkF m 52 #[.val (.int x0), .unset] [(.int (102 : Int32)), (.int x0)])) _
            by_cases hc14 : (102 : Int32) < x0
            · refine Goes.to (fun _ k => XS.icmpYes X0.here hx rfl (pc0 := 52) (pc' := 66) rfl (hb hby d1_52) rfl (tlt hc14).2.2.1 (by decide) (by decide) k) ?_
              show Goes p.tables e below (s₁.setTop (mkF m 66 #[.val (.int x0), .unset] [])) _
              refine Goes.to (fun _ k => XS.iconst X0.here hx rfl (hb hby d1_66) k) ?_
              show Goes p.tables e below (s₁.setTop (mkF m 67 #[.val (.int x0), .unset] [(.int (-1 : Int32))])) _
              refine Goes.to (fun _ k => XS.istoreN X0.here hx rfl (hb hby d1_67) rfl (l' := #[.val (.int x0), .val (.int (-1 : Int32))]) rfl k) ?_
              show Goes p.tables e below (s₁.setTop (mkF m 68 #[.val (.int x0), .val (.int (-1 : Int32))] [])) _
              refine Goes.to (fun _ k => XS.iloadN X0.here hx rfl (hb hby d1_68) rfl k) ?_
              show Goes p.tables e below (s₁.setTop (mkF m 69 #[.val (.int x0), .val (.int (-1 : Int32))] [(.int (-1 : Int32))])) _
              obtain ⟨fs, hr, hrun, hended, hW, hsame⟩ := X0.leave (v := some (.int (-1 : Int32))) (fun h => by rw [Bd.returns] at h; cases h)
              have hv : (some (.int (-1 : Int32)) : Option Value) = some (.int (own_hex x0)) := by
                unfold own_hex
                rw [if_neg (by
                  have k1 := rng32 x0
                  have k2 : (48 : Int32).toInt = 48 := rfl
                  have k3 : ¬ x0.toInt < (48 : Int32).toInt := fun z => hc1 (Int32.lt_iff_toInt_lt.mpr z)
                  have k4 : (57 : Int32).toInt = 57 := rfl
                  have k5 : (57 : Int32).toInt < x0.toInt := Int32.lt_iff_toInt_lt.mp hc8
                  have k6 : (65 : Int32).toInt = 65 := rfl
                  have k7 : ¬ x0.toInt < (65 : Int32).toInt := fun z => hc9 (Int32.lt_iff_toInt_lt.mpr z)
                  have k8 : (70 : Int32).toInt = 70 := rfl
                  have k9 : (70 : Int32).toInt < x0.toInt := Int32.lt_iff_toInt_lt.mp hc12
                  have k10 : (97 : Int32).toInt = 97 := rfl
                  have k11 : ¬ x0.toInt < (97 : Int32).toInt := fun z => hc13 (Int32.lt_iff_toInt_lt.mpr z)
                  have k12 : (102 : Int32).toInt = 102 := rfl
                  have k13 : (102 : Int32).toInt < x0.toInt := Int32.lt_iff_toInt_lt.mp hc14
                  omega)]
                rw [if_neg (by
                  have k1 := rng32 x0
                  have k2 : (48 : Int32).toInt = 48 := rfl
                  have k3 : ¬ x0.toInt < (48 : Int32).toInt := fun z => hc1 (Int32.lt_iff_toInt_lt.mpr z)
                  have k4 : (57 : Int32).toInt = 57 := rfl
                  have k5 : (57 : Int32).toInt < x0.toInt := Int32.lt_iff_toInt_lt.mp hc8
                  have k6 : (65 : Int32).toInt = 65 := rfl
                  have k7 : ¬ x0.toInt < (65 : Int32).toInt := fun z => hc9 (Int32.lt_iff_toInt_lt.mpr z)
                  have k8 : (70 : Int32).toInt = 70 := rfl
                  have k9 : (70 : Int32).toInt < x0.toInt := Int32.lt_iff_toInt_lt.mp hc12
                  have k10 : (97 : Int32).toInt = 97 := rfl
                  have k11 : ¬ x0.toInt < (97 : Int32).toInt := fun z => hc13 (Int32.lt_iff_toInt_lt.mpr z)
                  have k12 : (102 : Int32).toInt = 102 := rfl
                  have k13 : (102 : Int32).toInt < x0.toInt := Int32.lt_iff_toInt_lt.mp hc14
                  omega)]
                rw [if_neg (by
                  have k1 := rng32 x0
                  have k2 : (48 : Int32).toInt = 48 := rfl
                  have k3 : ¬ x0.toInt < (48 : Int32).toInt := fun z => hc1 (Int32.lt_iff_toInt_lt.mpr z)
                  have k4 : (57 : Int32).toInt = 57 := rfl
                  have k5 : (57 : Int32).toInt < x0.toInt := Int32.lt_iff_toInt_lt.mp hc8
                  have k6 : (65 : Int32).toInt = 65 := rfl
                  have k7 : ¬ x0.toInt < (65 : Int32).toInt := fun z => hc9 (Int32.lt_iff_toInt_lt.mpr z)
                  have k8 : (70 : Int32).toInt = 70 := rfl
                  have k9 : (70 : Int32).toInt < x0.toInt := Int32.lt_iff_toInt_lt.mp hc12
                  have k10 : (97 : Int32).toInt = 97 := rfl
                  have k11 : ¬ x0.toInt < (97 : Int32).toInt := fun z => hc13 (Int32.lt_iff_toInt_lt.mpr z)
                  have k12 : (102 : Int32).toInt = 102 := rfl
                  have k13 : (102 : Int32).toInt < x0.toInt := Int32.lt_iff_toInt_lt.mp hc14
                  omega)]
              exact ⟨_, _, retI X0 hx Bd.returns (hb hby d1_69) hr, hrun, hended, _, _, rfl, ⟨hv, N0, e0⟩, ⟨_, rfl⟩, hW, hsame.mono (by decide) (by decide)⟩
            · refine Goes.to (fun _ k => XS.icmpNo X0.here hx rfl (hb hby d1_52) rfl (flt hc14).2.2.1 k) ?_
              show Goes p.tables e below (s₁.setTop (mkF m 55 #[.val (.int x0), .unset] [])) _
              refine Goes.to (fun _ k => XS.iloadN X0.here hx rfl (hb hby d1_55) rfl k) ?_
              show Goes p.tables e below (s₁.setTop (mkF m 56 #[.val (.int x0), .unset] [(.int x0)])) _
              refine Goes.to (fun _ k => XS.bipush X0.here hx rfl (hb hby d1_56) k) ?_
              show Goes p.tables e below (s₁.setTop (mkF m 58 #[.val (.int x0), .unset] [(.int (97 : Int32)), (.int x0)])) _
              refine Goes.to (fun _ k => XS.isub X0.here hx rfl (hb hby d1_58) rfl k) ?_
              show Goes p.tables e below (s₁.setTop (mkF m 59 #[.val (.int x0), .unset] [(.int (x0 - (97 : Int32)))])) _
              refine Goes.to (fun _ k => XS.bipush X0.here hx rfl (hb hby d1_59) k) ?_
              show Goes p.tables e below (s₁.setTop (mkF m 61 #[.val (.int x0), .unset] [(.int (10 : Int32)), (.int (x0 - (97 : Int32)))])) _
              refine Goes.to (fun _ k => XS.iadd X0.here hx rfl (hb hby d1_61) rfl k) ?_
              show Goes p.tables e below (s₁.setTop (mkF m 62 #[.val (.int x0), .unset] [(.int ((x0 - (97 : Int32)) + (10 : Int32)))])) _
              refine Goes.to (fun _ k => XS.istoreN X0.here hx rfl (hb hby d1_62) rfl (l' := #[.val (.int x0), .val (.int ((x0 - (97 : Int32)) + (10 : Int32)))]) rfl k) ?_
              show Goes p.tables e below (s₁.setTop (mkF m 63 #[.val (.int x0), .val (.int ((x0 - (97 : Int32)) + (10 : Int32)))] [])) _
              refine Goes.to (fun _ k => XS.goto X0.here hx rfl (pc0 := 63) (pc' := 68) rfl (hb hby d1_63) (by decide) (by decide) k) ?_
              show Goes p.tables e below (s₁.setTop (mkF m 68 #[.val (.int x0), .val (.int ((x0 - (97 : Int32)) + (10 : Int32)))] [])) _
              refine Goes.to (fun _ k => XS.iloadN X0.here hx rfl (hb hby d1_68) rfl k) ?_
              show Goes p.tables e below (s₁.setTop (mkF m 69 #[.val (.int x0), .val (.int ((x0 - (97 : Int32)) + (10 : Int32)))] [(.int ((x0 - (97 : Int32)) + (10 : Int32)))])) _
              obtain ⟨fs, hr, hrun, hended, hW, hsame⟩ := X0.leave (v := some (.int ((x0 - (97 : Int32)) + (10 : Int32)))) (fun h => by rw [Bd.returns] at h; cases h)
              have hv : (some (.int ((x0 - (97 : Int32)) + (10 : Int32))) : Option Value) = some (.int (own_hex x0)) := by
                unfold own_hex
                rw [if_neg (by
                  have k1 := rng32 x0
                  have k2 : (48 : Int32).toInt = 48 := rfl
                  have k3 : ¬ x0.toInt < (48 : Int32).toInt := fun z => hc1 (Int32.lt_iff_toInt_lt.mpr z)
                  have k4 : (57 : Int32).toInt = 57 := rfl
                  have k5 : (57 : Int32).toInt < x0.toInt := Int32.lt_iff_toInt_lt.mp hc8
                  have k6 : (65 : Int32).toInt = 65 := rfl
                  have k7 : ¬ x0.toInt < (65 : Int32).toInt := fun z => hc9 (Int32.lt_iff_toInt_lt.mpr z)
                  have k8 : (70 : Int32).toInt = 70 := rfl
                  have k9 : (70 : Int32).toInt < x0.toInt := Int32.lt_iff_toInt_lt.mp hc12
                  have k10 : (97 : Int32).toInt = 97 := rfl
                  have k11 : ¬ x0.toInt < (97 : Int32).toInt := fun z => hc13 (Int32.lt_iff_toInt_lt.mpr z)
                  have k12 : (102 : Int32).toInt = 102 := rfl
                  have k13 : ¬ (102 : Int32).toInt < x0.toInt := fun z => hc14 (Int32.lt_iff_toInt_lt.mpr z)
                  omega)]
                rw [if_neg (by
                  have k1 := rng32 x0
                  have k2 : (48 : Int32).toInt = 48 := rfl
                  have k3 : ¬ x0.toInt < (48 : Int32).toInt := fun z => hc1 (Int32.lt_iff_toInt_lt.mpr z)
                  have k4 : (57 : Int32).toInt = 57 := rfl
                  have k5 : (57 : Int32).toInt < x0.toInt := Int32.lt_iff_toInt_lt.mp hc8
                  have k6 : (65 : Int32).toInt = 65 := rfl
                  have k7 : ¬ x0.toInt < (65 : Int32).toInt := fun z => hc9 (Int32.lt_iff_toInt_lt.mpr z)
                  have k8 : (70 : Int32).toInt = 70 := rfl
                  have k9 : (70 : Int32).toInt < x0.toInt := Int32.lt_iff_toInt_lt.mp hc12
                  have k10 : (97 : Int32).toInt = 97 := rfl
                  have k11 : ¬ x0.toInt < (97 : Int32).toInt := fun z => hc13 (Int32.lt_iff_toInt_lt.mpr z)
                  have k12 : (102 : Int32).toInt = 102 := rfl
                  have k13 : ¬ (102 : Int32).toInt < x0.toInt := fun z => hc14 (Int32.lt_iff_toInt_lt.mpr z)
                  omega)]
                rw [if_pos (by
                  have k1 := rng32 x0
                  have k2 : (48 : Int32).toInt = 48 := rfl
                  have k3 : ¬ x0.toInt < (48 : Int32).toInt := fun z => hc1 (Int32.lt_iff_toInt_lt.mpr z)
                  have k4 : (57 : Int32).toInt = 57 := rfl
                  have k5 : (57 : Int32).toInt < x0.toInt := Int32.lt_iff_toInt_lt.mp hc8
                  have k6 : (65 : Int32).toInt = 65 := rfl
                  have k7 : ¬ x0.toInt < (65 : Int32).toInt := fun z => hc9 (Int32.lt_iff_toInt_lt.mpr z)
                  have k8 : (70 : Int32).toInt = 70 := rfl
                  have k9 : (70 : Int32).toInt < x0.toInt := Int32.lt_iff_toInt_lt.mp hc12
                  have k10 : (97 : Int32).toInt = 97 := rfl
                  have k11 : ¬ x0.toInt < (97 : Int32).toInt := fun z => hc13 (Int32.lt_iff_toInt_lt.mpr z)
                  have k12 : (102 : Int32).toInt = 102 := rfl
                  have k13 : ¬ (102 : Int32).toInt < x0.toInt := fun z => hc14 (Int32.lt_iff_toInt_lt.mpr z)
                  omega)]
              exact ⟨_, _, retI X0 hx Bd.returns (hb hby d1_69) hr, hrun, hended, _, _, rfl, ⟨hv, N0, e0⟩, ⟨_, rfl⟩, hW, hsame.mono (by decide) (by decide)⟩
        · refine Goes.to (fun _ k => XS.icmpNo X0.here hx rfl (hb hby d1_29) rfl (flt hc12).2.2.1 k) ?_
          show Goes p.tables e below (s₁.setTop (mkF m 32 #[.val (.int x0), .unset] [])) _
          refine Goes.to (fun _ k => XS.iloadN X0.here hx rfl (hb hby d1_32) rfl k) ?_
          show Goes p.tables e below (s₁.setTop (mkF m 33 #[.val (.int x0), .unset] [(.int x0)])) _
          refine Goes.to (fun _ k => XS.bipush X0.here hx rfl (hb hby d1_33) k) ?_
          show Goes p.tables e below (s₁.setTop (mkF m 35 #[.val (.int x0), .unset] [(.int (65 : Int32)), (.int x0)])) _
          refine Goes.to (fun _ k => XS.isub X0.here hx rfl (hb hby d1_35) rfl k) ?_
          show Goes p.tables e below (s₁.setTop (mkF m 36 #[.val (.int x0), .unset] [(.int (x0 - (65 : Int32)))])) _
          refine Goes.to (fun _ k => XS.bipush X0.here hx rfl (hb hby d1_36) k) ?_
          show Goes p.tables e below (s₁.setTop (mkF m 38 #[.val (.int x0), .unset] [(.int (10 : Int32)), (.int (x0 - (65 : Int32)))])) _
          refine Goes.to (fun _ k => XS.iadd X0.here hx rfl (hb hby d1_38) rfl k) ?_
          show Goes p.tables e below (s₁.setTop (mkF m 39 #[.val (.int x0), .unset] [(.int ((x0 - (65 : Int32)) + (10 : Int32)))])) _
          refine Goes.to (fun _ k => XS.istoreN X0.here hx rfl (hb hby d1_39) rfl (l' := #[.val (.int x0), .val (.int ((x0 - (65 : Int32)) + (10 : Int32)))]) rfl k) ?_
          show Goes p.tables e below (s₁.setTop (mkF m 40 #[.val (.int x0), .val (.int ((x0 - (65 : Int32)) + (10 : Int32)))] [])) _
          refine Goes.to (fun _ k => XS.goto X0.here hx rfl (pc0 := 40) (pc' := 68) rfl (hb hby d1_40) (by decide) (by decide) k) ?_
          show Goes p.tables e below (s₁.setTop (mkF m 68 #[.val (.int x0), .val (.int ((x0 - (65 : Int32)) + (10 : Int32)))] [])) _
          refine Goes.to (fun _ k => XS.iloadN X0.here hx rfl (hb hby d1_68) rfl k) ?_
          show Goes p.tables e below (s₁.setTop (mkF m 69 #[.val (.int x0), .val (.int ((x0 - (65 : Int32)) + (10 : Int32)))] [(.int ((x0 - (65 : Int32)) + (10 : Int32)))])) _
          obtain ⟨fs, hr, hrun, hended, hW, hsame⟩ := X0.leave (v := some (.int ((x0 - (65 : Int32)) + (10 : Int32)))) (fun h => by rw [Bd.returns] at h; cases h)
          have hv : (some (.int ((x0 - (65 : Int32)) + (10 : Int32))) : Option Value) = some (.int (own_hex x0)) := by
            unfold own_hex
            rw [if_neg (by
              have k1 := rng32 x0
              have k2 : (48 : Int32).toInt = 48 := rfl
              have k3 : ¬ x0.toInt < (48 : Int32).toInt := fun z => hc1 (Int32.lt_iff_toInt_lt.mpr z)
              have k4 : (57 : Int32).toInt = 57 := rfl
              have k5 : (57 : Int32).toInt < x0.toInt := Int32.lt_iff_toInt_lt.mp hc8
              have k6 : (65 : Int32).toInt = 65 := rfl
              have k7 : ¬ x0.toInt < (65 : Int32).toInt := fun z => hc9 (Int32.lt_iff_toInt_lt.mpr z)
              have k8 : (70 : Int32).toInt = 70 := rfl
              have k9 : ¬ (70 : Int32).toInt < x0.toInt := fun z => hc12 (Int32.lt_iff_toInt_lt.mpr z)
              omega)]
            rw [if_pos (by
              have k1 := rng32 x0
              have k2 : (48 : Int32).toInt = 48 := rfl
              have k3 : ¬ x0.toInt < (48 : Int32).toInt := fun z => hc1 (Int32.lt_iff_toInt_lt.mpr z)
              have k4 : (57 : Int32).toInt = 57 := rfl
              have k5 : (57 : Int32).toInt < x0.toInt := Int32.lt_iff_toInt_lt.mp hc8
              have k6 : (65 : Int32).toInt = 65 := rfl
              have k7 : ¬ x0.toInt < (65 : Int32).toInt := fun z => hc9 (Int32.lt_iff_toInt_lt.mpr z)
              have k8 : (70 : Int32).toInt = 70 := rfl
              have k9 : ¬ (70 : Int32).toInt < x0.toInt := fun z => hc12 (Int32.lt_iff_toInt_lt.mpr z)
              omega)]
          exact ⟨_, _, retI X0 hx Bd.returns (hb hby d1_69) hr, hrun, hended, _, _, rfl, ⟨hv, N0, e0⟩, ⟨_, rfl⟩, hW, hsame.mono (by decide) (by decide)⟩
    · refine Goes.to (fun _ k => XS.icmpNo X0.here hx rfl (hb hby d1_9) rfl (flt hc8).2.2.1 k) ?_
      show Goes p.tables e below (s₁.setTop (mkF m 12 #[.val (.int x0), .unset] [])) _
      refine Goes.to (fun _ k => XS.iloadN X0.here hx rfl (hb hby d1_12) rfl k) ?_
      show Goes p.tables e below (s₁.setTop (mkF m 13 #[.val (.int x0), .unset] [(.int x0)])) _
      refine Goes.to (fun _ k => XS.bipush X0.here hx rfl (hb hby d1_13) k) ?_
      show Goes p.tables e below (s₁.setTop (mkF m 15 #[.val (.int x0), .unset] [(.int (48 : Int32)), (.int x0)])) _
      refine Goes.to (fun _ k => XS.isub X0.here hx rfl (hb hby d1_15) rfl k) ?_
      show Goes p.tables e below (s₁.setTop (mkF m 16 #[.val (.int x0), .unset] [(.int (x0 - (48 : Int32)))])) _
      refine Goes.to (fun _ k => XS.istoreN X0.here hx rfl (hb hby d1_16) rfl (l' := #[.val (.int x0), .val (.int (x0 - (48 : Int32)))]) rfl k) ?_
      show Goes p.tables e below (s₁.setTop (mkF m 17 #[.val (.int x0), .val (.int (x0 - (48 : Int32)))] [])) _
      refine Goes.to (fun _ k => XS.goto X0.here hx rfl (pc0 := 17) (pc' := 68) rfl (hb hby d1_17) (by decide) (by decide) k) ?_
      show Goes p.tables e below (s₁.setTop (mkF m 68 #[.val (.int x0), .val (.int (x0 - (48 : Int32)))] [])) _
      refine Goes.to (fun _ k => XS.iloadN X0.here hx rfl (hb hby d1_68) rfl k) ?_
      show Goes p.tables e below (s₁.setTop (mkF m 69 #[.val (.int x0), .val (.int (x0 - (48 : Int32)))] [(.int (x0 - (48 : Int32)))])) _
      obtain ⟨fs, hr, hrun, hended, hW, hsame⟩ := X0.leave (v := some (.int (x0 - (48 : Int32)))) (fun h => by rw [Bd.returns] at h; cases h)
      have hv : (some (.int (x0 - (48 : Int32))) : Option Value) = some (.int (own_hex x0)) := by
        unfold own_hex
        rw [if_pos (by
          have k1 := rng32 x0
          have k2 : (48 : Int32).toInt = 48 := rfl
          have k3 : ¬ x0.toInt < (48 : Int32).toInt := fun z => hc1 (Int32.lt_iff_toInt_lt.mpr z)
          have k4 : (57 : Int32).toInt = 57 := rfl
          have k5 : ¬ (57 : Int32).toInt < x0.toInt := fun z => hc8 (Int32.lt_iff_toInt_lt.mpr z)
          omega)]
      exact ⟨_, _, retI X0 hx Bd.returns (hb hby d1_69) hr, hrun, hended, _, _, rfl, ⟨hv, N0, e0⟩, ⟨_, rfl⟩, hW, hsame.mono (by decide) (by decide)⟩

theorem d6_0 : decode jdk_41_method_11_code 0 = .ok (.iload_n 0, 1) := by decide +kernel
theorem d6_1 : decode jdk_41_method_11_code 1 = .ok (.ifCond .lt 8, 3) := by decide +kernel
theorem d6_4 : decode jdk_41_method_11_code 4 = .ok (.iload_n 0, 1) := by decide +kernel
theorem d6_5 : decode jdk_41_method_11_code 5 = .ok (.iload_n 1, 1) := by decide +kernel
theorem d6_6 : decode jdk_41_method_11_code 6 = .ok (.if_icmp .lt 10, 3) := by decide +kernel
theorem d6_16 : decode jdk_41_method_11_code 16 = .ok (.iload_n 0, 1) := by decide +kernel
theorem d6_17 : decode jdk_41_method_11_code 17 = .ok (.ireturn, 1) := by decide +kernel
theorem own_pn_6 : plainName "jdk/internal/util/Preconditions" = true := by first | (simp [plainName, overriddenIn]; done) | decide +kernel
theorem own_ef_own_rmPN (m : MethodId) (x0 : Int32) (x1 : Int32) : entryFrame m #[(.int x0), (.int x1), .null] 3 = mkF m 0 #[.val (.int x0), .val (.int x1), .val .null] [] := by first | (simp [entryFrame, mkF, argsToLocals, Value.category]; done) | rfl
def own_Q_own_rmPN (Z : State) (x0 : Int32) (x1 : Int32)  (h0 : Heap) (n0 : Nat) (v : Option Value) (h : Heap) (L : List Loc) : Prop := v = some (.int x0) ∧ Fr n0 L ∧ h = h0
set_option maxRecDepth 65536 in
set_option maxHeartbeats 40000000 in
theorem own_rmPN (l : Launch) (Z : State) (a0 : Array Value) (hw : ∀ d ∈ tables_1, d.before a0 Z = true) (ws : List Jvm.Cond) (x0 : Int32) (x1 : Int32)  (h0 : Heap) (n0 : Nat) (Z0 : n0 ≤ h0.size) (hi0 : ¬ (x0 < (0 : Int32))) (hi1 : x0 < x1) :
    MetFree l (⟨"jdk/internal/util/Preconditions", "checkIndex", "(IILjava/util/function/BiFunction;)I"⟩ : MethodName) (head1 (Jvm.Cond.code (⟨"jdk/internal/util/Preconditions", "checkIndex", "(IILjava/util/function/BiFunction;)I"⟩ : MethodName) jdk_41_method_11_code 3 (some .int) :: ws) ({ frames := 0, cells := 0, slots := 0, locals := 0 } : Room)) (fun a U => a = #[(.int x0), (.int x1), .null] ∧ Z.Warmed39 U.vm ∧ U.heap = h0) (fun _ _ _ _ _ => True) (fun _ U o U' => ∃ v L, o = .returned v ∧ own_Q_own_rmPN Z x0 x1 h0 n0 v U'.heap L ∧ FrameEnd U o U' L ({ frames := 0, cells := 0, slots := 0, locals := 0 } : Room).cells ({ frames := 0, cells := 0, slots := 0, locals := 0 } : Room).slots) := by
  refine MetFree.of_bodySF (plainFor_of_name own_pn_6) hisR ?_
  intro p e s m args below meth c s₁ Bd hml0 hP hK
  obtain ⟨rfl, hZ, hh⟩ := hP
  have hx := Bd.exec
  have hby := Bd.bytes
  have hml : c.maxLocals = 3 := hml0
  have hown : s.vm.findClass "jdk/internal/util/Preconditions" = some m.cls := findClass_of_methodNamed Bd.named
  have hnm := (name_of_methodNamed Bd.named Bd.method).1
  have X0 : Stand p l e ({ frames := 0, cells := 0, slots := 0, locals := 0 } : Room) s m #[(.int x0), (.int x1), .null] below meth c s₁ [] 0 0 := Stand.of_body Bd
  have e0 : s₁.heap = h0 := by rw [← hh, Bd.state]; rfl
  have N0 := Fr.nil n0
  show Goes p.tables e below _ (own_R below s (own_Q_own_rmPN Z x0 x1 h0 n0) ({ frames := 0, cells := 0, slots := 0, locals := 0 } : Room).cells ({ frames := 0, cells := 0, slots := 0, locals := 0 } : Room).slots)
  refine Goes.to (fun t k => castTop (own_ef_own_rmPN m x0 x1) k) ?_
  show Goes p.tables e below (s₁.setTop (mkF m 0 #[.val (.int x0), .val (.int x1), .val .null] [])) _
  refine Goes.to (fun _ k => XS.iloadN X0.here hx rfl (hb hby d6_0) rfl k) ?_
  show Goes p.tables e below (s₁.setTop (mkF m 1 #[.val (.int x0), .val (.int x1), .val .null] [(.int x0)])) _
  refine Goes.to (fun _ k => XS.ifNo X0.here hx rfl (hb hby d6_1) rfl ((if0 _ _).trans (flt hi0).1) k) ?_
  show Goes p.tables e below (s₁.setTop (mkF m 4 #[.val (.int x0), .val (.int x1), .val .null] [])) _
  refine Goes.to (fun _ k => XS.iloadN X0.here hx rfl (hb hby d6_4) rfl k) ?_
  show Goes p.tables e below (s₁.setTop (mkF m 5 #[.val (.int x0), .val (.int x1), .val .null] [(.int x0)])) _
  refine Goes.to (fun _ k => XS.iloadN X0.here hx rfl (hb hby d6_5) rfl k) ?_
  show Goes p.tables e below (s₁.setTop (mkF m 6 #[.val (.int x0), .val (.int x1), .val .null] [(.int x1), (.int x0)])) _
  refine Goes.to (fun _ k => XS.icmpYes X0.here hx rfl (pc0 := 6) (pc' := 16) rfl (hb hby d6_6) rfl (tlt hi1).1 (by decide) (by decide) k) ?_
  show Goes p.tables e below (s₁.setTop (mkF m 16 #[.val (.int x0), .val (.int x1), .val .null] [])) _
  refine Goes.to (fun _ k => XS.iloadN X0.here hx rfl (hb hby d6_16) rfl k) ?_
  show Goes p.tables e below (s₁.setTop (mkF m 17 #[.val (.int x0), .val (.int x1), .val .null] [(.int x0)])) _
  obtain ⟨fs, hr, hrun, hended, hW, hsame⟩ := X0.leave (v := some (.int x0)) (fun h => by rw [Bd.returns] at h; cases h)
  have hv : (some (.int x0) : Option Value) = some (.int x0) := by
    rfl
  exact ⟨_, _, retI X0 hx Bd.returns (hb hby d6_17) hr, hrun, hended, _, _, rfl, ⟨hv, N0, e0⟩, ⟨_, rfl⟩, hW, hsame.mono (by decide) (by decide)⟩

theorem own_ef_own_rmPR (m : MethodId) (x0 : Int32) (x1 : Int32) (x2 : Addr) : entryFrame m #[(.int x0), (.int x1), (.ref x2)] 3 = mkF m 0 #[.val (.int x0), .val (.int x1), .val (.ref x2)] [] := by first | (simp [entryFrame, mkF, argsToLocals, Value.category]; done) | rfl
def own_Q_own_rmPR (Z : State) (x0 : Int32) (x1 : Int32) (x2 : Addr)  (h0 : Heap) (n0 : Nat) (v : Option Value) (h : Heap) (L : List Loc) : Prop := v = some (.int x0) ∧ Fr n0 L ∧ h = h0
set_option maxRecDepth 65536 in
set_option maxHeartbeats 40000000 in
theorem own_rmPR (l : Launch) (Z : State) (a0 : Array Value) (hw : ∀ d ∈ tables_1, d.before a0 Z = true) (ws : List Jvm.Cond) (x0 : Int32) (x1 : Int32) (x2 : Addr)  (h0 : Heap) (n0 : Nat) (Z0 : n0 ≤ h0.size) (hi0 : ¬ (x0 < (0 : Int32))) (hi1 : x0 < x1) :
    MetFree l (⟨"jdk/internal/util/Preconditions", "checkIndex", "(IILjava/util/function/BiFunction;)I"⟩ : MethodName) (head1 (Jvm.Cond.code (⟨"jdk/internal/util/Preconditions", "checkIndex", "(IILjava/util/function/BiFunction;)I"⟩ : MethodName) jdk_41_method_11_code 3 (some .int) :: ws) ({ frames := 0, cells := 0, slots := 0, locals := 0 } : Room)) (fun a U => a = #[(.int x0), (.int x1), (.ref x2)] ∧ Z.Warmed39 U.vm ∧ U.heap = h0) (fun _ _ _ _ _ => True) (fun _ U o U' => ∃ v L, o = .returned v ∧ own_Q_own_rmPR Z x0 x1 x2 h0 n0 v U'.heap L ∧ FrameEnd U o U' L ({ frames := 0, cells := 0, slots := 0, locals := 0 } : Room).cells ({ frames := 0, cells := 0, slots := 0, locals := 0 } : Room).slots) := by
  refine MetFree.of_bodySF (plainFor_of_name own_pn_6) hisR ?_
  intro p e s m args below meth c s₁ Bd hml0 hP hK
  obtain ⟨rfl, hZ, hh⟩ := hP
  have hx := Bd.exec
  have hby := Bd.bytes
  have hml : c.maxLocals = 3 := hml0
  have hown : s.vm.findClass "jdk/internal/util/Preconditions" = some m.cls := findClass_of_methodNamed Bd.named
  have hnm := (name_of_methodNamed Bd.named Bd.method).1
  have X0 : Stand p l e ({ frames := 0, cells := 0, slots := 0, locals := 0 } : Room) s m #[(.int x0), (.int x1), (.ref x2)] below meth c s₁ [] 0 0 := Stand.of_body Bd
  have e0 : s₁.heap = h0 := by rw [← hh, Bd.state]; rfl
  have N0 := Fr.nil n0
  show Goes p.tables e below _ (own_R below s (own_Q_own_rmPR Z x0 x1 x2 h0 n0) ({ frames := 0, cells := 0, slots := 0, locals := 0 } : Room).cells ({ frames := 0, cells := 0, slots := 0, locals := 0 } : Room).slots)
  refine Goes.to (fun t k => castTop (own_ef_own_rmPR m x0 x1 x2) k) ?_
  show Goes p.tables e below (s₁.setTop (mkF m 0 #[.val (.int x0), .val (.int x1), .val (.ref x2)] [])) _
  refine Goes.to (fun _ k => XS.iloadN X0.here hx rfl (hb hby d6_0) rfl k) ?_
  show Goes p.tables e below (s₁.setTop (mkF m 1 #[.val (.int x0), .val (.int x1), .val (.ref x2)] [(.int x0)])) _
  refine Goes.to (fun _ k => XS.ifNo X0.here hx rfl (hb hby d6_1) rfl ((if0 _ _).trans (flt hi0).1) k) ?_
  show Goes p.tables e below (s₁.setTop (mkF m 4 #[.val (.int x0), .val (.int x1), .val (.ref x2)] [])) _
  refine Goes.to (fun _ k => XS.iloadN X0.here hx rfl (hb hby d6_4) rfl k) ?_
  show Goes p.tables e below (s₁.setTop (mkF m 5 #[.val (.int x0), .val (.int x1), .val (.ref x2)] [(.int x0)])) _
  refine Goes.to (fun _ k => XS.iloadN X0.here hx rfl (hb hby d6_5) rfl k) ?_
  show Goes p.tables e below (s₁.setTop (mkF m 6 #[.val (.int x0), .val (.int x1), .val (.ref x2)] [(.int x1), (.int x0)])) _
  refine Goes.to (fun _ k => XS.icmpYes X0.here hx rfl (pc0 := 6) (pc' := 16) rfl (hb hby d6_6) rfl (tlt hi1).1 (by decide) (by decide) k) ?_
  show Goes p.tables e below (s₁.setTop (mkF m 16 #[.val (.int x0), .val (.int x1), .val (.ref x2)] [])) _
  refine Goes.to (fun _ k => XS.iloadN X0.here hx rfl (hb hby d6_16) rfl k) ?_
  show Goes p.tables e below (s₁.setTop (mkF m 17 #[.val (.int x0), .val (.int x1), .val (.ref x2)] [(.int x0)])) _
  obtain ⟨fs, hr, hrun, hended, hW, hsame⟩ := X0.leave (v := some (.int x0)) (fun h => by rw [Bd.returns] at h; cases h)
  have hv : (some (.int x0) : Option Value) = some (.int x0) := by
    rfl
  exact ⟨_, _, retI X0 hx Bd.returns (hb hby d6_17) hr, hrun, hended, _, _, rfl, ⟨hv, N0, e0⟩, ⟨_, rfl⟩, hW, hsame.mono (by decide) (by decide)⟩

theorem d5_0 : decode jdk_42_method_155_code 0 = .ok (.iload_n 0, 1) := by decide +kernel
theorem d5_1 : decode jdk_42_method_155_code 1 = .ok (.iload_n 1, 1) := by decide +kernel
theorem d5_2 : decode jdk_42_method_155_code 2 = .ok (.getstatic 1053, 3) := by decide +kernel
theorem d5_5 : decode jdk_42_method_155_code 5 = .ok (.invokestatic 1059, 3) := by decide +kernel
theorem d5_8 : decode jdk_42_method_155_code 8 = .ok (.pop, 1) := by decide +kernel
theorem d5_9 : decode jdk_42_method_155_code 9 = .ok (.return_, 1) := by decide +kernel
theorem own_pd_pIILjavalutillfunctionlBiFunctionsqI : parseMethodDescriptor "(IILjava/util/function/BiFunction;)I" = some ⟨[.int, .int, (.object "java/util/function/BiFunction")], some .int⟩ := by decide +kernel
theorem own_pn_5 : plainName "java/lang/String" = true := by first | (simp [plainName, overriddenIn]; done) | decide +kernel
theorem own_ef_own_rm5 (m : MethodId) (x0 : Int32) (x1 : Int32) : entryFrame m #[(.int x0), (.int x1)] 2 = mkF m 0 #[.val (.int x0), .val (.int x1)] [] := by first | (simp [entryFrame, mkF, argsToLocals, Value.category]; done) | rfl
def own_Q_own_rm5 (Z : State) (x0 : Int32) (x1 : Int32) (fm : Value) (h0 : Heap) (n0 : Nat) (v : Option Value) (h : Heap) (L : List Loc) : Prop := v = none ∧ Fr n0 L ∧ h = h0
set_option maxRecDepth 65536 in
set_option maxHeartbeats 40000000 in
theorem own_rm5 (l : Launch) (Z : State) (a0 : Array Value) (hw : ∀ d ∈ tables_1, d.before a0 Z = true) (ws : List Jvm.Cond) (x0 : Int32) (x1 : Int32) (fm : Value) (h0 : Heap) (n0 : Nat) (Z0 : n0 ≤ h0.size) (SF : Sta Z h0 "jdk/internal/util/Preconditions" "SIOOBE_FORMATTER" "Ljava/util/function/BiFunction;" fm) (hfm : fm.isRef = true) (hi0 : ¬ (x0 < (0 : Int32))) (hi1 : x0 < x1) :
    MetFree l (⟨"java/lang/String", "checkIndex", "(II)V"⟩ : MethodName) (head1 (Jvm.Cond.code (⟨"java/lang/String", "checkIndex", "(II)V"⟩ : MethodName) jdk_42_method_155_code 2 none :: ws) ({ frames := 1, cells := 0, slots := 0, locals := 14 } : Room)) (fun a U => a = #[(.int x0), (.int x1)] ∧ Z.Warmed39 U.vm ∧ U.heap = h0) (fun _ _ _ _ _ => True) (fun _ U o U' => ∃ v L, o = .returned v ∧ own_Q_own_rm5 Z x0 x1 fm h0 n0 v U'.heap L ∧ FrameEnd U o U' L ({ frames := 1, cells := 0, slots := 0, locals := 14 } : Room).cells ({ frames := 1, cells := 0, slots := 0, locals := 14 } : Room).slots) := by
  refine MetFree.of_bodySF (plainFor_of_name own_pn_5) hisR ?_
  intro p e s m args below meth c s₁ Bd hml0 hP hK
  obtain ⟨rfl, hZ, hh⟩ := hP
  have hx := Bd.exec
  have hby := Bd.bytes
  have hml : c.maxLocals = 2 := hml0
  have hown : s.vm.findClass "java/lang/String" = some m.cls := findClass_of_methodNamed Bd.named
  have hnm := (name_of_methodNamed Bd.named Bd.method).1
  have X0 : Stand p l e ({ frames := 1, cells := 0, slots := 0, locals := 14 } : Room) s m #[(.int x0), (.int x1)] below meth c s₁ [] 0 0 := Stand.of_body Bd
  have e0 : s₁.heap = h0 := by rw [← hh, Bd.state]; rfl
  have N0 := Fr.nil n0
  show Goes p.tables e below _ (own_R below s (own_Q_own_rm5 Z x0 x1 fm h0 n0) ({ frames := 1, cells := 0, slots := 0, locals := 14 } : Room).cells ({ frames := 1, cells := 0, slots := 0, locals := 14 } : Room).slots)
  refine Goes.to (fun t k => castTop (own_ef_own_rm5 m x0 x1) k) ?_
  rcases ref_cases hfm with rfl | ⟨af, rfl⟩
  · show Goes p.tables e below (s₁.setTop (mkF m 0 #[.val (.int x0), .val (.int x1)] [])) _
    refine Goes.to (fun _ k => XS.iloadN X0.here hx rfl (hb hby d5_0) rfl k) ?_
    show Goes p.tables e below (s₁.setTop (mkF m 1 #[.val (.int x0), .val (.int x1)] [(.int x0)])) _
    refine Goes.to (fun _ k => XS.iloadN X0.here hx rfl (hb hby d5_1) rfl k) ?_
    show Goes p.tables e below (s₁.setTop (mkF m 2 #[.val (.int x0), .val (.int x1)] [(.int x1), (.int x0)])) _
    obtain ⟨T1, X1, e1, st1⟩ := getS2 X0 hx hZ hown (host := "") (Or.inl (hw _ (List.mem_of_getElem? (i := 34) rfl))) Via.refl e0 SF (g := (mkF m 2 #[.val (.int x0), .val (.int x1)] [(.int x1), (.int x0)])) rfl (hb hby d5_2)
    refine Goes.to st1 ?_
    show Goes p.tables e below (T1.setTop (mkF m 5 #[.val (.int x0), .val (.int x1)] [.null, (.int x1), (.int x0)])) _
    obtain ⟨_, _, ⟨T2, L2, k2, n2⟩, -, X2, ⟨Lc2, hQ2, l2, y2, z2⟩, st2⟩ := Jvm.LawKit.callS X1 hx (y := (⟨"jdk/internal/util/Preconditions", "checkIndex", "(IILjava/util/function/BiFunction;)I"⟩ : MethodName)) hown (mvT hZ (hw _ (List.mem_of_getElem? (i := 36) rfl))) (mvT hZ (hw _ (List.mem_of_getElem? (i := 37) rfl))) (mvT hZ (hw _ (List.mem_of_getElem? (i := 35) rfl))) (mvT hZ (hw _ (List.mem_of_getElem? (i := 38) rfl))) (by decide) (backOf (W := 0) (own_rmPN l Z a0 hw [] x0 x1 h0 n0 Z0 hi0 hi1) hZ (hw _ (List.mem_of_getElem? (i := 38) rfl)) (hw _ (List.mem_of_getElem? (i := 35) rfl)) (by decide) (by decide)) (g := (mkF m 5 #[.val (.int x0), .val (.int x1)] [.null, (.int x1), (.int x0)])) rfl (by rw [hml]; rfl) (argsL := [(.int x0), (.int x1), .null]) (rest := []) (lenOf own_pd_pIILjavalutillfunctionlBiFunctionsqI rfl) rfl (by show 2 * 0 + _ ≤ _; exact Nat.le_of_eq rfl) (hb hby d5_5) (fun _ _ => ⟨rfl, e1, (by decide : 0 + 0 ≤ _), (by decide : 0 + 0 ≤ _)⟩)
    dsimp only [Pt.U, Pt.locs, Pt.cells, Pt.slots] at X2 l2 y2 z2 st2 hQ2
    subst l2 y2 z2
    obtain ⟨hv2, Nq2, hp2_0⟩ := hQ2
    have N2 := Fr.app N0 Nq2
    subst hv2
    refine Goes.to st2 ?_
    show Goes p.tables e below (T2.setTop (mkF m 8 #[.val (.int x0), .val (.int x1)] [(.int x0)])) _
    refine Goes.to (fun _ k => XS.pop X2.here hx rfl (hb hby d5_8) rfl rfl k) ?_
    show Goes p.tables e below (T2.setTop (mkF m 9 #[.val (.int x0), .val (.int x1)] [])) _
    obtain ⟨fs, hr, hrun, hended, hW, hsame⟩ := X2.leave (v := none) (fun _ => rfl)
    have hv : (none : Option Value) = none := by
      rfl
    exact ⟨_, _, X2.returnOut hx Bd.returns (hb hby d5_9) hr, hrun, hended, _, _, rfl, ⟨hv, N2, hp2_0⟩, ⟨_, rfl⟩, hW, hsame.mono (by decide) (by decide)⟩
  · show Goes p.tables e below (s₁.setTop (mkF m 0 #[.val (.int x0), .val (.int x1)] [])) _
    refine Goes.to (fun _ k => XS.iloadN X0.here hx rfl (hb hby d5_0) rfl k) ?_
    show Goes p.tables e below (s₁.setTop (mkF m 1 #[.val (.int x0), .val (.int x1)] [(.int x0)])) _
    refine Goes.to (fun _ k => XS.iloadN X0.here hx rfl (hb hby d5_1) rfl k) ?_
    show Goes p.tables e below (s₁.setTop (mkF m 2 #[.val (.int x0), .val (.int x1)] [(.int x1), (.int x0)])) _
    obtain ⟨T3, X3, e3, st3⟩ := getS2 X0 hx hZ hown (host := "") (Or.inl (hw _ (List.mem_of_getElem? (i := 34) rfl))) Via.refl e0 SF (g := (mkF m 2 #[.val (.int x0), .val (.int x1)] [(.int x1), (.int x0)])) rfl (hb hby d5_2)
    refine Goes.to st3 ?_
    show Goes p.tables e below (T3.setTop (mkF m 5 #[.val (.int x0), .val (.int x1)] [(.ref af), (.int x1), (.int x0)])) _
    obtain ⟨_, _, ⟨T4, L4, k4, n4⟩, -, X4, ⟨Lc4, hQ4, l4, y4, z4⟩, st4⟩ := Jvm.LawKit.callS X3 hx (y := (⟨"jdk/internal/util/Preconditions", "checkIndex", "(IILjava/util/function/BiFunction;)I"⟩ : MethodName)) hown (mvT hZ (hw _ (List.mem_of_getElem? (i := 36) rfl))) (mvT hZ (hw _ (List.mem_of_getElem? (i := 37) rfl))) (mvT hZ (hw _ (List.mem_of_getElem? (i := 35) rfl))) (mvT hZ (hw _ (List.mem_of_getElem? (i := 38) rfl))) (by decide) (backOf (W := 0) (own_rmPR l Z a0 hw [] x0 x1 af h0 n0 Z0 hi0 hi1) hZ (hw _ (List.mem_of_getElem? (i := 38) rfl)) (hw _ (List.mem_of_getElem? (i := 35) rfl)) (by decide) (by decide)) (g := (mkF m 5 #[.val (.int x0), .val (.int x1)] [(.ref af), (.int x1), (.int x0)])) rfl (by rw [hml]; rfl) (argsL := [(.int x0), (.int x1), (.ref af)]) (rest := []) (lenOf own_pd_pIILjavalutillfunctionlBiFunctionsqI rfl) rfl (by show 2 * 0 + _ ≤ _; exact Nat.le_of_eq rfl) (hb hby d5_5) (fun _ _ => ⟨rfl, e3, (by decide : 0 + 0 ≤ _), (by decide : 0 + 0 ≤ _)⟩)
    dsimp only [Pt.U, Pt.locs, Pt.cells, Pt.slots] at X4 l4 y4 z4 st4 hQ4
    subst l4 y4 z4
    obtain ⟨hv4, Nq4, hp4_0⟩ := hQ4
    have N4 := Fr.app N0 Nq4
    subst hv4
    refine Goes.to st4 ?_
    show Goes p.tables e below (T4.setTop (mkF m 8 #[.val (.int x0), .val (.int x1)] [(.int x0)])) _
    refine Goes.to (fun _ k => XS.pop X4.here hx rfl (hb hby d5_8) rfl rfl k) ?_
    show Goes p.tables e below (T4.setTop (mkF m 9 #[.val (.int x0), .val (.int x1)] [])) _
    obtain ⟨fs, hr, hrun, hended, hW, hsame⟩ := X4.leave (v := none) (fun _ => rfl)
    have hv : (none : Option Value) = none := by
      rfl
    exact ⟨_, _, X4.returnOut hx Bd.returns (hb hby d5_9) hr, hrun, hended, _, _, rfl, ⟨hv, N4, hp4_0⟩, ⟨_, rfl⟩, hW, hsame.mono (by decide) (by decide)⟩

theorem d4_0 : decode jdk_43_method_2_code 0 = .ok (.iload_n 1, 1) := by decide +kernel
theorem d4_1 : decode jdk_43_method_2_code 1 = .ok (.aload_n 0, 1) := by decide +kernel
theorem d4_2 : decode jdk_43_method_2_code 2 = .ok (.arraylength, 1) := by decide +kernel
theorem d4_3 : decode jdk_43_method_2_code 3 = .ok (.invokestatic 9, 3) := by decide +kernel
theorem d4_6 : decode jdk_43_method_2_code 6 = .ok (.aload_n 0, 1) := by decide +kernel
theorem d4_7 : decode jdk_43_method_2_code 7 = .ok (.iload_n 1, 1) := by decide +kernel
theorem d4_8 : decode jdk_43_method_2_code 8 = .ok (.baload, 1) := by decide +kernel
theorem d4_9 : decode jdk_43_method_2_code 9 = .ok (.sipush 255, 3) := by decide +kernel
theorem d4_12 : decode jdk_43_method_2_code 12 = .ok (.iand, 1) := by decide +kernel
theorem d4_13 : decode jdk_43_method_2_code 13 = .ok (.i2c, 1) := by decide +kernel
theorem d4_14 : decode jdk_43_method_2_code 14 = .ok (.ireturn, 1) := by decide +kernel
theorem own_pd_pIIqV : parseMethodDescriptor "(II)V" = some ⟨[.int, .int], none⟩ := by decide +kernel
theorem own_pn_4 : plainName "java/lang/StringLatin1" = true := by first | (simp [plainName, overriddenIn]; done) | decide +kernel
theorem own_ef_own_rm4 (m : MethodId) (x0 : Addr) (x1 : Int32) : entryFrame m #[(.ref x0), (.int x1)] 2 = mkF m 0 #[.val (.ref x0), .val (.int x1)] [] := by first | (simp [entryFrame, mkF, argsToLocals, Value.category]; done) | rfl
def own_Q_own_rm4 (Z : State) (x0 : Addr) (x1 : Int32) (kb : ClassId) (z : Int32) (vs : List Value) (w : Int32) (fm : Value) (h0 : Heap) (n0 : Nat) (v : Option Value) (h : Heap) (L : List Loc) : Prop := v = some (.int (own_ch1 w)) ∧ Fr n0 L ∧ h = h0
set_option maxRecDepth 65536 in
set_option maxHeartbeats 40000000 in
theorem own_rm4 (l : Launch) (Z : State) (a0 : Array Value) (hw : ∀ d ∈ tables_1, d.before a0 Z = true) (ws : List Jvm.Cond) (x0 : Addr) (x1 : Int32) (kb : ClassId) (z : Int32) (vs : List Value) (w : Int32) (fm : Value) (h0 : Heap) (n0 : Nat) (Z0 : n0 ≤ h0.size) (VA : Arv Z h0 x0 kb .byte z vs (.int (0 : Int32))) (SF : Sta Z h0 "jdk/internal/util/Preconditions" "SIOOBE_FORMATTER" "Ljava/util/function/BiFunction;" fm) (hfm : fm.isRef = true) (hi0 : ¬ (x1 < (0 : Int32))) (hi1 : x1 < z) (Hw : vs.getD x1.toNatClampNeg (.int (0 : Int32)) = .int w) :
    MetFree l (⟨"java/lang/StringLatin1", "charAt", "([BI)C"⟩ : MethodName) (head1 (Jvm.Cond.code (⟨"java/lang/StringLatin1", "charAt", "([BI)C"⟩ : MethodName) jdk_43_method_2_code 2 (some .char) :: ws) ({ frames := 2, cells := 0, slots := 0, locals := 27 } : Room)) (fun a U => a = #[(.ref x0), (.int x1)] ∧ Z.Warmed39 U.vm ∧ U.heap = h0) (fun _ _ _ _ _ => True) (fun _ U o U' => ∃ v L, o = .returned v ∧ own_Q_own_rm4 Z x0 x1 kb z vs w fm h0 n0 v U'.heap L ∧ FrameEnd U o U' L ({ frames := 2, cells := 0, slots := 0, locals := 27 } : Room).cells ({ frames := 2, cells := 0, slots := 0, locals := 27 } : Room).slots) := by
  refine MetFree.of_bodySF (plainFor_of_name own_pn_4) hisR ?_
  intro p e s m args below meth c s₁ Bd hml0 hP hK
  obtain ⟨rfl, hZ, hh⟩ := hP
  have hx := Bd.exec
  have hby := Bd.bytes
  have hml : c.maxLocals = 2 := hml0
  have hown : s.vm.findClass "java/lang/StringLatin1" = some m.cls := findClass_of_methodNamed Bd.named
  have hnm := (name_of_methodNamed Bd.named Bd.method).1
  have X0 : Stand p l e ({ frames := 2, cells := 0, slots := 0, locals := 27 } : Room) s m #[(.ref x0), (.int x1)] below meth c s₁ [] 0 0 := Stand.of_body Bd
  have e0 : s₁.heap = h0 := by rw [← hh, Bd.state]; rfl
  have N0 := Fr.nil n0
  show Goes p.tables e below _ (own_R below s (own_Q_own_rm4 Z x0 x1 kb z vs w fm h0 n0) ({ frames := 2, cells := 0, slots := 0, locals := 27 } : Room).cells ({ frames := 2, cells := 0, slots := 0, locals := 27 } : Room).slots)
  refine Goes.to (fun t k => castTop (own_ef_own_rm4 m x0 x1) k) ?_
  show Goes p.tables e below (s₁.setTop (mkF m 0 #[.val (.ref x0), .val (.int x1)] [])) _
  refine Goes.to (fun _ k => XS.iloadN X0.here hx rfl (hb hby d4_0) rfl k) ?_
  show Goes p.tables e below (s₁.setTop (mkF m 1 #[.val (.ref x0), .val (.int x1)] [(.int x1)])) _
  refine Goes.to (fun _ k => XS.aloadN X0.here hx rfl (hb hby d4_1) rfl rfl k) ?_
  show Goes p.tables e below (s₁.setTop (mkF m 2 #[.val (.ref x0), .val (.int x1)] [(.ref x0), (.int x1)])) _
  obtain ⟨cl1, Ar1, -, S1, N1, -, -⟩ := id VA
  refine Goes.to (fun _ k => X0.arraylength hx (by rw [e0]; exact Ar1.1) (State.isArrayOf_alike hZ.alike Ar1.2.1) (g := (mkF m 2 #[.val (.ref x0), .val (.int x1)] [(.ref x0), (.int x1)])) rfl rfl (hb hby d4_2) _ k) ?_
  rw [len_of S1 N1]
  show Goes p.tables e below (s₁.setTop (mkF m 3 #[.val (.ref x0), .val (.int x1)] [(.int z), (.int x1)])) _
  obtain ⟨_, _, ⟨T2, L2, k2, n2⟩, -, X2, ⟨Lc2, hQ2, l2, y2, z2⟩, st2⟩ := Jvm.LawKit.callS X0 hx (y := (⟨"java/lang/String", "checkIndex", "(II)V"⟩ : MethodName)) hown (mvT hZ (hw _ (List.mem_of_getElem? (i := 31) rfl))) (mvT hZ (hw _ (List.mem_of_getElem? (i := 32) rfl))) (mvT hZ (hw _ (List.mem_of_getElem? (i := 1) rfl))) (mvT hZ (hw _ (List.mem_of_getElem? (i := 33) rfl))) (by decide) (backOf (W := 0) (own_rm5 l Z a0 hw [] x1 z fm h0 n0 Z0 SF hfm hi0 hi1) hZ (hw _ (List.mem_of_getElem? (i := 33) rfl)) (hw _ (List.mem_of_getElem? (i := 1) rfl)) (by decide) (by decide)) (g := (mkF m 3 #[.val (.ref x0), .val (.int x1)] [(.int z), (.int x1)])) rfl (by rw [hml]; rfl) (argsL := [(.int x1), (.int z)]) (rest := []) (lenOf own_pd_pIIqV rfl) rfl (by show 2 * 0 + _ ≤ _; exact Nat.le_of_eq rfl) (hb hby d4_3) (fun _ _ => ⟨rfl, e0, (by decide : 0 + 0 ≤ _), (by decide : 0 + 0 ≤ _)⟩)
  dsimp only [Pt.U, Pt.locs, Pt.cells, Pt.slots] at X2 l2 y2 z2 st2 hQ2
  subst l2 y2 z2
  obtain ⟨hv2, Nq2, hp2_0⟩ := hQ2
  have N2 := Fr.app N0 Nq2
  subst hv2
  refine Goes.to st2 ?_
  show Goes p.tables e below (T2.setTop (mkF m 6 #[.val (.ref x0), .val (.int x1)] [])) _
  refine Goes.to (fun _ k => XS.aloadN X2.here hx rfl (hb hby d4_6) rfl rfl k) ?_
  show Goes p.tables e below (T2.setTop (mkF m 7 #[.val (.ref x0), .val (.int x1)] [(.ref x0)])) _
  refine Goes.to (fun _ k => XS.iloadN X2.here hx rfl (hb hby d4_7) rfl k) ?_
  show Goes p.tables e below (T2.setTop (mkF m 8 #[.val (.ref x0), .val (.int x1)] [(.int x1), (.ref x0)])) _
  obtain ⟨cl3, Ar3, q3, S3, N3, H3, G3⟩ := id VA
  have hin3 := inb_of S3 ⟨hi0, hi1⟩
  have hat3 := Has.at H3 hin3 Hw
  refine Goes.to (fun _ k => X2.baloadBytes hx (j := x1) (v := (.int w)) (by rw [hp2_0]; exact Ar3.1) (State.isArrayOf_alike hZ.alike Ar3.2.1) Ar3.2.2 hin3 hat3 (g := (mkF m 8 #[.val (.ref x0), .val (.int x1)] [(.int x1), (.ref x0)])) rfl rfl (hb hby d4_8) _ k) ?_
  show Goes p.tables e below (T2.setTop (mkF m 9 #[.val (.ref x0), .val (.int x1)] [(.int w)])) _
  refine Goes.to (fun _ k => XS.sipush X2.here hx rfl (hb hby d4_9) k) ?_
  show Goes p.tables e below (T2.setTop (mkF m 12 #[.val (.ref x0), .val (.int x1)] [(.int (255 : Int32)), (.int w)])) _
  refine Goes.to (fun _ k => XS.iand X2.here hx rfl (hb hby d4_12) rfl k) ?_
  show Goes p.tables e below (T2.setTop (mkF m 13 #[.val (.ref x0), .val (.int x1)] [(.int (w &&& (255 : Int32)))])) _
  refine Goes.to (fun _ k => XS.i2c X2.here hx rfl (hb hby d4_13) rfl k) ?_
  show Goes p.tables e below (T2.setTop (mkF m 14 #[.val (.ref x0), .val (.int x1)] [(.int ((w &&& (255 : Int32)).toUInt32.toUInt16.toUInt32.toInt32))])) _
  obtain ⟨fs, hr, hrun, hended, hW, hsame⟩ := X2.leave (v := some (.int (nar .char ((w &&& (255 : Int32)).toUInt32.toUInt16.toUInt32.toInt32)))) (fun h => by rw [Bd.returns] at h; cases h)
  have hv : (some (.int (nar .char ((w &&& (255 : Int32)).toUInt32.toUInt16.toUInt32.toInt32))) : Option Value) = some (.int (own_ch1 w)) := by
    rfl
  exact ⟨_, _, retN X2 hx (t := .char) Bd.returns (by simp) (hb hby d4_14) hr, hrun, hended, _, _, rfl, ⟨hv, N2, hp2_0⟩, ⟨_, rfl⟩, hW, hsame.mono (by decide) (by decide)⟩

theorem d3_0 : decode jdk_42_method_154_code 0 = .ok (.getstatic 38, 3) := by decide +kernel
theorem d3_3 : decode jdk_42_method_154_code 3 = .ok (.ifCond .eq 14, 3) := by decide +kernel
theorem d3_6 : decode jdk_42_method_154_code 6 = .ok (.aload_n 0, 1) := by decide +kernel
theorem d3_7 : decode jdk_42_method_154_code 7 = .ok (.getfield 15, 3) := by decide +kernel
theorem d3_10 : decode jdk_42_method_154_code 10 = .ok (.ifCond .ne 7, 3) := by decide +kernel
theorem d3_13 : decode jdk_42_method_154_code 13 = .ok (.iconst 1, 1) := by decide +kernel
theorem d3_14 : decode jdk_42_method_154_code 14 = .ok (.goto 4, 3) := by decide +kernel
theorem d3_18 : decode jdk_42_method_154_code 18 = .ok (.ireturn, 1) := by decide +kernel
theorem own_pn_3 : plainName "java/lang/String" = true := by first | (simp [plainName, overriddenIn]; done) | decide +kernel
theorem own_ef_own_rm3 (m : MethodId) (x0 : Addr) : entryFrame m #[(.ref x0)] 1 = mkF m 0 #[.val (.ref x0)] [] := by first | (simp [entryFrame, mkF, argsToLocals, Value.category]; done) | rfl
def own_Q_own_rm3 (Z : State) (x0 : Addr) (cs : Int32) (h0 : Heap) (n0 : Nat) (v : Option Value) (h : Heap) (L : List Loc) : Prop := v = some (.int (1 : Int32)) ∧ Fr n0 L ∧ h = h0
set_option maxRecDepth 65536 in
set_option maxHeartbeats 40000000 in
theorem own_rm3 (l : Launch) (Z : State) (a0 : Array Value) (hw : ∀ d ∈ tables_1, d.before a0 Z = true) (ws : List Jvm.Cond) (x0 : Addr) (cs : Int32) (h0 : Heap) (n0 : Nat) (Z0 : n0 ≤ h0.size) (FC : Fld Z h0 x0 "java/lang/String" "coder" "B" (.int (0 : Int32))) (SC : Sta Z h0 "java/lang/String" "COMPACT_STRINGS" "Z" (.int cs)) (hcs : ¬ (cs = (0 : Int32))) :
    MetFree l (⟨"java/lang/String", "isLatin1", "()Z"⟩ : MethodName) (head1 (Jvm.Cond.code (⟨"java/lang/String", "isLatin1", "()Z"⟩ : MethodName) jdk_42_method_154_code 1 (some .boolean) :: ws) ({ frames := 0, cells := 0, slots := 0, locals := 0 } : Room)) (fun a U => a = #[(.ref x0)] ∧ Z.Warmed39 U.vm ∧ U.heap = h0) (fun _ _ _ _ _ => True) (fun _ U o U' => ∃ v L, o = .returned v ∧ own_Q_own_rm3 Z x0 cs h0 n0 v U'.heap L ∧ FrameEnd U o U' L ({ frames := 0, cells := 0, slots := 0, locals := 0 } : Room).cells ({ frames := 0, cells := 0, slots := 0, locals := 0 } : Room).slots) := by
  refine MetFree.of_bodySF (plainFor_of_name own_pn_3) hisR ?_
  intro p e s m args below meth c s₁ Bd hml0 hP hK
  obtain ⟨rfl, hZ, hh⟩ := hP
  have hx := Bd.exec
  have hby := Bd.bytes
  have hml : c.maxLocals = 1 := hml0
  have hown : s.vm.findClass "java/lang/String" = some m.cls := findClass_of_methodNamed Bd.named
  have hnm := (name_of_methodNamed Bd.named Bd.method).1
  have X0 : Stand p l e ({ frames := 0, cells := 0, slots := 0, locals := 0 } : Room) s m #[(.ref x0)] below meth c s₁ [] 0 0 := Stand.of_body Bd
  have e0 : s₁.heap = h0 := by rw [← hh, Bd.state]; rfl
  have N0 := Fr.nil n0
  show Goes p.tables e below _ (own_R below s (own_Q_own_rm3 Z x0 cs h0 n0) ({ frames := 0, cells := 0, slots := 0, locals := 0 } : Room).cells ({ frames := 0, cells := 0, slots := 0, locals := 0 } : Room).slots)
  refine Goes.to (fun t k => castTop (own_ef_own_rm3 m x0) k) ?_
  show Goes p.tables e below (s₁.setTop (mkF m 0 #[.val (.ref x0)] [])) _
  obtain ⟨T1, X1, e1, st1⟩ := getS2 X0 hx hZ hown (host := "") (Or.inl (hw _ (List.mem_of_getElem? (i := 24) rfl))) Via.refl e0 SC (g := (mkF m 0 #[.val (.ref x0)] [])) rfl (hb hby d3_0)
  refine Goes.to st1 ?_
  show Goes p.tables e below (T1.setTop (mkF m 3 #[.val (.ref x0)] [(.int cs)])) _
  refine Goes.to (fun _ k => XS.ifNo X1.here hx rfl (hb hby d3_3) rfl ((if0 _ _).trans (feq hcs).1) k) ?_
  show Goes p.tables e below (T1.setTop (mkF m 6 #[.val (.ref x0)] [])) _
  refine Goes.to (fun _ k => XS.aloadN X1.here hx rfl (hb hby d3_6) rfl rfl k) ?_
  show Goes p.tables e below (T1.setTop (mkF m 7 #[.val (.ref x0)] [(.ref x0)])) _
  obtain ⟨T2, X2, e2, st2⟩ := getF X1 hx hZ hown (host := "") (Or.inl (hw _ (List.mem_of_getElem? (i := 25) rfl))) Via.refl e1 FC (g := (mkF m 7 #[.val (.ref x0)] [(.ref x0)])) rfl rfl (hb hby d3_7)
  refine Goes.to st2 ?_
  show Goes p.tables e below (T2.setTop (mkF m 10 #[.val (.ref x0)] [(.int (0 : Int32))])) _
  refine Goes.to (fun _ k => XS.ifNo X2.here hx rfl (hb hby d3_10) rfl ((if0 _ _).trans (teq (by decide : (0 : Int32) = (0 : Int32))).2) k) ?_
  show Goes p.tables e below (T2.setTop (mkF m 13 #[.val (.ref x0)] [])) _
  refine Goes.to (fun _ k => XS.iconst X2.here hx rfl (hb hby d3_13) k) ?_
  show Goes p.tables e below (T2.setTop (mkF m 14 #[.val (.ref x0)] [(.int (1 : Int32))])) _
  refine Goes.to (fun _ k => XS.goto X2.here hx rfl (pc0 := 14) (pc' := 18) rfl (hb hby d3_14) (by decide) (by decide) k) ?_
  show Goes p.tables e below (T2.setTop (mkF m 18 #[.val (.ref x0)] [(.int (1 : Int32))])) _
  obtain ⟨fs, hr, hrun, hended, hW, hsame⟩ := X2.leave (v := some (.int (1 : Int32))) (fun h => by rw [Bd.returns] at h; cases h)
  have hv : (some (.int (1 : Int32)) : Option Value) = some (.int (1 : Int32)) := by
    rfl
  exact ⟨_, _, retN X2 hx (t := .boolean) Bd.returns (by simp) (hb hby d3_18) hr, hrun, hended, _, _, rfl, ⟨hv, N0, e2⟩, ⟨_, rfl⟩, hW, hsame.mono (by decide) (by decide)⟩

theorem d2_0 : decode jdk_42_method_56_code 0 = .ok (.aload_n 0, 1) := by decide +kernel
theorem d2_1 : decode jdk_42_method_56_code 1 = .ok (.invokevirtual 492, 3) := by decide +kernel
theorem d2_4 : decode jdk_42_method_56_code 4 = .ok (.ifCond .eq 12, 3) := by decide +kernel
theorem d2_7 : decode jdk_42_method_56_code 7 = .ok (.aload_n 0, 1) := by decide +kernel
theorem d2_8 : decode jdk_42_method_56_code 8 = .ok (.getfield 9, 3) := by decide +kernel
theorem d2_11 : decode jdk_42_method_56_code 11 = .ok (.iload_n 1, 1) := by decide +kernel
theorem d2_12 : decode jdk_42_method_56_code 12 = .ok (.invokestatic 495, 3) := by decide +kernel
theorem d2_15 : decode jdk_42_method_56_code 15 = .ok (.ireturn, 1) := by decide +kernel
theorem own_pd_pqZ : parseMethodDescriptor "()Z" = some ⟨[], some .boolean⟩ := by decide +kernel
theorem own_pd_paBIqC : parseMethodDescriptor "([BI)C" = some ⟨[(.array .byte), .int], some .char⟩ := by decide +kernel
theorem own_pn_2 : plainName "java/lang/String" = true := by first | (simp [plainName, overriddenIn]; done) | decide +kernel
theorem own_ef_own_rm2 (m : MethodId) (x0 : Addr) (x1 : Int32) : entryFrame m #[(.ref x0), (.int x1)] 2 = mkF m 0 #[.val (.ref x0), .val (.int x1)] [] := by first | (simp [entryFrame, mkF, argsToLocals, Value.category]; done) | rfl
def own_Q_own_rm2 (Z : State) (x0 : Addr) (x1 : Int32) (bv : Addr) (kb : ClassId) (z : Int32) (vs : List Value) (w : Int32) (cs : Int32) (fm : Value) (h0 : Heap) (n0 : Nat) (v : Option Value) (h : Heap) (L : List Loc) : Prop := v = some (.int (own_ch w)) ∧ Fr n0 L ∧ h = h0
set_option maxRecDepth 65536 in
set_option maxHeartbeats 40000000 in
theorem own_rm2 (l : Launch) (Z : State) (a0 : Array Value) (hw : ∀ d ∈ tables_1, d.before a0 Z = true) (ws : List Jvm.Cond) (x0 : Addr) (x1 : Int32) (bv : Addr) (kb : ClassId) (z : Int32) (vs : List Value) (w : Int32) (cs : Int32) (fm : Value) (h0 : Heap) (n0 : Nat) (Z0 : n0 ≤ h0.size) (EX : Exa Z h0 x0 "java/lang/String") (FC : Fld Z h0 x0 "java/lang/String" "coder" "B" (.int (0 : Int32))) (FV : Fld Z h0 x0 "java/lang/String" "value" "[B" (.ref bv)) (VA : Arv Z h0 bv kb .byte z vs (.int (0 : Int32))) (SC : Sta Z h0 "java/lang/String" "COMPACT_STRINGS" "Z" (.int cs)) (hcs : ¬ (cs = (0 : Int32))) (SF : Sta Z h0 "jdk/internal/util/Preconditions" "SIOOBE_FORMATTER" "Ljava/util/function/BiFunction;" fm) (hfm : fm.isRef = true) (hi0 : ¬ (x1 < (0 : Int32))) (hi1 : x1 < z) (Hw : vs.getD x1.toNatClampNeg (.int (0 : Int32)) = .int w) :
    MetFree l (⟨"java/lang/String", "charAt", "(I)C"⟩ : MethodName) (head1 (Jvm.Cond.code (⟨"java/lang/String", "charAt", "(I)C"⟩ : MethodName) jdk_42_method_56_code 2 (some .char) :: ws) ({ frames := 3, cells := 0, slots := 0, locals := 40 } : Room)) (fun a U => a = #[(.ref x0), (.int x1)] ∧ Z.Warmed39 U.vm ∧ U.heap = h0) (fun _ _ _ _ _ => True) (fun _ U o U' => ∃ v L, o = .returned v ∧ own_Q_own_rm2 Z x0 x1 bv kb z vs w cs fm h0 n0 v U'.heap L ∧ FrameEnd U o U' L ({ frames := 3, cells := 0, slots := 0, locals := 40 } : Room).cells ({ frames := 3, cells := 0, slots := 0, locals := 40 } : Room).slots) := by
  refine MetFree.of_bodySF (plainFor_of_name own_pn_2) hisR ?_
  intro p e s m args below meth c s₁ Bd hml0 hP hK
  obtain ⟨rfl, hZ, hh⟩ := hP
  have hx := Bd.exec
  have hby := Bd.bytes
  have hml : c.maxLocals = 2 := hml0
  have hown : s.vm.findClass "java/lang/String" = some m.cls := findClass_of_methodNamed Bd.named
  have hnm := (name_of_methodNamed Bd.named Bd.method).1
  have X0 : Stand p l e ({ frames := 3, cells := 0, slots := 0, locals := 40 } : Room) s m #[(.ref x0), (.int x1)] below meth c s₁ [] 0 0 := Stand.of_body Bd
  have e0 : s₁.heap = h0 := by rw [← hh, Bd.state]; rfl
  have N0 := Fr.nil n0
  show Goes p.tables e below _ (own_R below s (own_Q_own_rm2 Z x0 x1 bv kb z vs w cs fm h0 n0) ({ frames := 3, cells := 0, slots := 0, locals := 40 } : Room).cells ({ frames := 3, cells := 0, slots := 0, locals := 40 } : Room).slots)
  refine Goes.to (fun t k => castTop (own_ef_own_rm2 m x0 x1) k) ?_
  show Goes p.tables e below (s₁.setTop (mkF m 0 #[.val (.ref x0), .val (.int x1)] [])) _
  refine Goes.to (fun _ k => XS.aloadN X0.here hx rfl (hb hby d2_0) rfl rfl k) ?_
  show Goes p.tables e below (s₁.setTop (mkF m 1 #[.val (.ref x0), .val (.int x1)] [(.ref x0)])) _
  obtain ⟨cq1, kq1, q1a, q1b, q1c⟩ := isOf hZ e0 EX
  obtain ⟨_, _, ⟨T1, L1, k1, n1⟩, -, X1, ⟨Lc1, hQ1, l1, y1, z1⟩, st1⟩ := X0.virtualBack hx (y := (⟨"java/lang/String", "isLatin1", "()Z"⟩ : MethodName)) (z := (⟨"java/lang/String", "isLatin1", "()Z"⟩ : MethodName)) hown (mvT hZ (hw _ (List.mem_of_getElem? (i := 19) rfl))) (mvT hZ (hw _ (List.mem_of_getElem? (i := 20) rfl))) (notFace_of_selects (args := #[]) (mvT hZ (hw _ (List.mem_of_getElem? (i := 22) rfl)))) (mvT hZ (hw _ (List.mem_of_getElem? (i := 22) rfl))) (mvT hZ (hw _ (List.mem_of_getElem? (i := 21) rfl))) (by decide) (backOf (W := 0) (own_rm3 l Z a0 hw [] x0 cs h0 n0 Z0 FC SC hcs) hZ (hw _ (List.mem_of_getElem? (i := 23) rfl)) (hw _ (List.mem_of_getElem? (i := 1) rfl)) (by decide) (by decide)) q1a q1c (g := (mkF m 1 #[.val (.ref x0), .val (.int x1)] [(.ref x0)])) rfl (by rw [hml]; rfl) (Steps.refl _) (argsL := []) (rest := []) (lenOf own_pd_pqZ rfl) rfl (by show 2 * 0 + _ ≤ _; exact Nat.le_of_eq rfl) (hb hby d2_1) (fun _ _ => ⟨rfl, e0, (by decide : 0 + 0 ≤ _), (by decide : 0 + 0 ≤ _)⟩)
  dsimp only [Pt.U, Pt.locs, Pt.cells, Pt.slots] at X1 l1 y1 z1 st1 hQ1
  subst l1 y1 z1
  obtain ⟨hv1, Nq1, hp1_0⟩ := hQ1
  have N1 := Fr.app N0 Nq1
  subst hv1
  refine Goes.tr st1 ?_
  show Goes p.tables e below (T1.setTop (mkF m 4 #[.val (.ref x0), .val (.int x1)] [(.int (1 : Int32))])) _
  refine Goes.to (fun _ k => XS.ifNo X1.here hx rfl (hb hby d2_4) rfl ((if0 _ _).trans (feq (by decide : ¬ ((1 : Int32) = (0 : Int32)))).1) k) ?_
  show Goes p.tables e below (T1.setTop (mkF m 7 #[.val (.ref x0), .val (.int x1)] [])) _
  refine Goes.to (fun _ k => XS.aloadN X1.here hx rfl (hb hby d2_7) rfl rfl k) ?_
  show Goes p.tables e below (T1.setTop (mkF m 8 #[.val (.ref x0), .val (.int x1)] [(.ref x0)])) _
  obtain ⟨T2, X2, e2, st2⟩ := getF X1 hx hZ hown (host := "") (Or.inl (hw _ (List.mem_of_getElem? (i := 26) rfl))) Via.refl hp1_0 FV (g := (mkF m 8 #[.val (.ref x0), .val (.int x1)] [(.ref x0)])) rfl rfl (hb hby d2_8)
  refine Goes.to st2 ?_
  show Goes p.tables e below (T2.setTop (mkF m 11 #[.val (.ref x0), .val (.int x1)] [(.ref bv)])) _
  refine Goes.to (fun _ k => XS.iloadN X2.here hx rfl (hb hby d2_11) rfl k) ?_
  show Goes p.tables e below (T2.setTop (mkF m 12 #[.val (.ref x0), .val (.int x1)] [(.int x1), (.ref bv)])) _
  obtain ⟨_, _, ⟨T3, L3, k3, n3⟩, -, X3, ⟨Lc3, hQ3, l3, y3, z3⟩, st3⟩ := Jvm.LawKit.callS X2 hx (y := (⟨"java/lang/StringLatin1", "charAt", "([BI)C"⟩ : MethodName)) hown (mvT hZ (hw _ (List.mem_of_getElem? (i := 27) rfl))) (mvT hZ (hw _ (List.mem_of_getElem? (i := 28) rfl))) (mvT hZ (hw _ (List.mem_of_getElem? (i := 29) rfl))) (mvT hZ (hw _ (List.mem_of_getElem? (i := 30) rfl))) (by decide) (backOf (W := 0) (own_rm4 l Z a0 hw [] bv x1 kb z vs w fm h0 n0 Z0 VA SF hfm hi0 hi1 Hw) hZ (hw _ (List.mem_of_getElem? (i := 30) rfl)) (hw _ (List.mem_of_getElem? (i := 29) rfl)) (by decide) (by decide)) (g := (mkF m 12 #[.val (.ref x0), .val (.int x1)] [(.int x1), (.ref bv)])) rfl (by rw [hml]; rfl) (argsL := [(.ref bv), (.int x1)]) (rest := []) (lenOf own_pd_paBIqC rfl) rfl (by show 2 * 0 + _ ≤ _; exact Nat.le_of_eq rfl) (hb hby d2_12) (fun _ _ => ⟨rfl, e2, (by decide : 0 + 0 ≤ _), (by decide : 0 + 0 ≤ _)⟩)
  dsimp only [Pt.U, Pt.locs, Pt.cells, Pt.slots] at X3 l3 y3 z3 st3 hQ3
  subst l3 y3 z3
  obtain ⟨hv3, Nq3, hp3_0⟩ := hQ3
  have N3 := Fr.app N1 Nq3
  subst hv3
  refine Goes.to st3 ?_
  show Goes p.tables e below (T3.setTop (mkF m 15 #[.val (.ref x0), .val (.int x1)] [(.int (own_ch1 w))])) _
  obtain ⟨fs, hr, hrun, hended, hW, hsame⟩ := X3.leave (v := some (.int (nar .char (own_ch1 w)))) (fun h => by rw [Bd.returns] at h; cases h)
  have hv : (some (.int (nar .char (own_ch1 w))) : Option Value) = some (.int (own_ch w)) := by
    rfl
  exact ⟨_, _, retN X3 hx (t := .char) Bd.returns (by simp) (hb hby d2_15) hr, hrun, hended, _, _, rfl, ⟨hv, N3, hp3_0⟩, ⟨_, rfl⟩, hW, hsame.mono (by decide) (by decide)⟩

theorem own_pd_pCqI : parseMethodDescriptor "(C)I" = some ⟨[.char], some .int⟩ := by decide +kernel
theorem own_pd_pIqC : parseMethodDescriptor "(I)C" = some ⟨[.int], some .char⟩ := by decide +kernel
theorem own_pn_0 : plainName "com/example/unipar/unipar/PercentEncodingHexValuePinLaw" = true := by first | (simp [plainName, overriddenIn]; done) | decide +kernel
theorem own_ef_own_rm0 (m : MethodId) (x0 : Int32) (x1 : Int32) : entryFrame m #[(.int x0), (.int x1)] maxLocals = mkF m 0 #[.val (.int x0), .val (.int x1), .unset, .unset, .unset, .unset, .unset, .unset, .unset, .unset, .unset] [] := by first | (simp [entryFrame, mkF, argsToLocals, Value.category, maxLocals]; done) | rfl
def own_Q_own_rm0 (Z : State) (x0 : Int32) (x1 : Int32) (cs : Int32) (fm : Value) (h0 : Heap) (n0 : Nat) (v : Option Value) (h : Heap) (L : List Loc) : Prop := v = some (.int (1 : Int32)) ∧ Fr n0 L
set_option maxRecDepth 65536 in
set_option maxHeartbeats 40000000 in
theorem own_rm0 (l : Launch) (Z : State) (a0 : Array Value) (hw : ∀ d ∈ tables_1, d.before a0 Z = true) (ws : List Jvm.Cond) (x0 : Int32) (x1 : Int32) (cs : Int32) (fm : Value) (h0 : Heap) (n0 : Nat) (Z0 : n0 ≤ h0.size) (O0 : Old Z n0 h0) (SC : Sta Z Z.heap "java/lang/String" "COMPACT_STRINGS" "Z" (.int cs)) (hcs : ¬ (cs = (0 : Int32))) (SF : Sta Z Z.heap "jdk/internal/util/Preconditions" "SIOOBE_FORMATTER" "Ljava/util/function/BiFunction;" fm) (hfm : fm.isRef = true) (hcw : Jvm.Lit.compactW.before a0 Z = true) (hd7 : Jvm.Lit.constHeld Z "com/example/unipar/unipar/PercentEncodingHexValuePinLaw" 7) (hd9 : Jvm.Lit.constHeld Z "com/example/unipar/unipar/PercentEncodingHexValuePinLaw" 9) :
    MetFree l x (head1 (Jvm.Cond.code x code maxLocals ret :: ws) room_1) (fun a U => a = #[(.int x0), (.int x1)] ∧ U = Z ∧ U.heap = h0) (fun _ _ _ _ _ => True) (fun _ U o U' => ∃ v L, o = .returned v ∧ own_Q_own_rm0 Z x0 x1 cs fm h0 n0 v U'.heap L ∧ ReturnedEndW U o U' L 4 136) := by
  refine MetFree.of_bodySF (plainFor_of_name own_pn_0) hisR ?_
  intro p e s m args below meth c s₁ Bd hml0 hP hK
  obtain ⟨rfl, hU, hh⟩ := hP
  have hx := Bd.exec
  have hby := Bd.bytes
  have hml : c.maxLocals = 11 := hml0
  have hown : s.vm.findClass "com/example/unipar/unipar/PercentEncodingHexValuePinLaw" = some m.cls := findClass_of_methodNamed Bd.named
  have hnm := (name_of_methodNamed Bd.named Bd.method).1
  have X0 : Stand p l e room_1 (s.setVm s.vm) m #[(.int x0), (.int x1)] below meth c s₁ [] 0 0 := Stand.of_body Bd
  have e0 : s₁.heap = h0 := by rw [← hh, Bd.state]; rfl
  have N0 := Fr.nil n0
  have hZ : Z.Warmed39 s.vm := by rw [hU]; exact State.Warmed39.refl Z
  have I0 : IB Z s.vm [] := by rw [hU]; exact IB.start
  have hkeep : ∀ (b : Addr) (cl : Cell), Z.heap[b]? = some cl → s.heap[b]? = some cl := fun b cl q => by rw [hU]; exact q
  have hS0 : s.Since s.vm h0.size := (State.WarmedH.refl s).since _
  have own_wS' : ∀ a ∈ Bundle.stringAtoms, a.before a0 Z = true := own_wS hw
  show Goes p.tables e below _ (own_RW below s (own_Q_own_rm0 Z x0 x1 cs fm h0 n0) 4 136)
  refine Goes.to (fun t k => castTop (own_ef_own_rm0 m x0 x1) k) ?_
  show Goes p.tables e below (s₁.setTop (mkF m 0 #[.val (.int x0), .val (.int x1), .unset, .unset, .unset, .unset, .unset, .unset, .unset, .unset, .unset] [])) _
  obtain ⟨a1, T1, h1, kk1, b1, k1, X1, e1, E1, hS1, hk1, hZ1, hown1, A1, C1, V1, W1, la1, lb1, I1, st1⟩ := ldcSV (s := s) X0 hx hZ hown (hw _ (List.mem_of_getElem? (i := 0) rfl)) own_wS' e0 hS0 (Nat.le_refl _) (Fr.nil _) hkeep I0 (by decide) hd7 hcw (vs := [(.int (48 : Int32)), (.int (49 : Int32)), (.int (50 : Int32)), (.int (51 : Int32)), (.int (52 : Int32)), (.int (53 : Int32)), (.int (54 : Int32)), (.int (55 : Int32)), (.int (56 : Int32)), (.int (57 : Int32)), (.int (65 : Int32)), (.int (66 : Int32)), (.int (67 : Int32)), (.int (68 : Int32)), (.int (69 : Int32)), (.int (70 : Int32))]) (z := (16 : Int32)) (own_txt _ _ (by decide) rfl) (by decide) rfl (g := (mkF m 0 #[.val (.int x0), .val (.int x1), .unset, .unset, .unset, .unset, .unset, .unset, .unset, .unset, .unset] [])) rfl (hb hby at_0) (n := 64) (by decide) (by decide) (by decide) (by decide)
  subst e1
  have hZ := hZ1
  have hown := hown1
  have O2 := O0.ext E1
  have Z1 : n0 ≤ T1.heap.size := Nat.le_trans Z0 E1.1
  refine Goes.to st1 ?_
  show Goes p.tables e below (T1.setTop (mkF m 2 #[.val (.int x0), .val (.int x1), .unset, .unset, .unset, .unset, .unset, .unset, .unset, .unset, .unset] [(.ref a1)])) _
  refine Goes.to (fun _ k => XS.astoreN X1.here hx rfl (hb hby at_2) rfl rfl (l' := #[.val (.int x0), .val (.int x1), .val (.ref a1), .unset, .unset, .unset, .unset, .unset, .unset, .unset, .unset]) rfl k) ?_
  show Goes p.tables e below (T1.setTop (mkF m 3 #[.val (.int x0), .val (.int x1), .val (.ref a1), .unset, .unset, .unset, .unset, .unset, .unset, .unset, .unset] [])) _
  obtain ⟨a3, T3, h3, kk3, b3, k3, X3, e3, E3, hS3, hk3, hZ3, hown3, A3, C3, V3, W3, la3, lb3, I3, st3⟩ := ldcSV (s := s) X1 hx hZ hown (hw _ (List.mem_of_getElem? (i := 8) rfl)) own_wS' rfl hS1 hk1 (Fr.nil _) hkeep I1 (by decide) hd9 hcw (vs := [(.int (48 : Int32)), (.int (49 : Int32)), (.int (50 : Int32)), (.int (51 : Int32)), (.int (52 : Int32)), (.int (53 : Int32)), (.int (54 : Int32)), (.int (55 : Int32)), (.int (56 : Int32)), (.int (57 : Int32)), (.int (97 : Int32)), (.int (98 : Int32)), (.int (99 : Int32)), (.int (100 : Int32)), (.int (101 : Int32)), (.int (102 : Int32))]) (z := (16 : Int32)) (own_txt _ _ (by decide) rfl) (by decide) rfl (g := (mkF m 3 #[.val (.int x0), .val (.int x1), .val (.ref a1), .unset, .unset, .unset, .unset, .unset, .unset, .unset, .unset] [])) rfl (hb hby at_3) (n := 64) (by decide) (by decide) (by decide) (by decide)
  subst e3
  have hZ := hZ3
  have hown := hown3
  have O4 := O2.ext E3
  have F5 := A1.ext E3
  have F6 := C1.ext E3
  have F7 := V1.ext E3
  have F8 := W1.ext E3
  have Z3 : n0 ≤ T3.heap.size := Nat.le_trans Z1 E3.1
  refine Goes.to st3 ?_
  show Goes p.tables e below (T3.setTop (mkF m 5 #[.val (.int x0), .val (.int x1), .val (.ref a1), .unset, .unset, .unset, .unset, .unset, .unset, .unset, .unset] [(.ref a3)])) _
  refine Goes.to (fun _ k => XS.astoreN X3.here hx rfl (hb hby at_5) rfl rfl (l' := #[.val (.int x0), .val (.int x1), .val (.ref a1), .val (.ref a3), .unset, .unset, .unset, .unset, .unset, .unset, .unset]) rfl k) ?_
  show Goes p.tables e below (T3.setTop (mkF m 6 #[.val (.int x0), .val (.int x1), .val (.ref a1), .val (.ref a3), .unset, .unset, .unset, .unset, .unset, .unset, .unset] [])) _
  refine Goes.to (fun _ k => XS.iloadN X3.here hx rfl (hb hby at_6) rfl k) ?_
  show Goes p.tables e below (T3.setTop (mkF m 7 #[.val (.int x0), .val (.int x1), .val (.ref a1), .val (.ref a3), .unset, .unset, .unset, .unset, .unset, .unset, .unset] [(.int x0)])) _
  refine Goes.to (fun _ k => X3.ldcInt hx hown (mvT hZ (hw _ (List.mem_of_getElem? (i := 9) rfl))) (g := (mkF m 7 #[.val (.int x0), .val (.int x1), .val (.ref a1), .val (.ref a3), .unset, .unset, .unset, .unset, .unset, .unset, .unset] [(.int x0)])) rfl (hb hby at_7) _ k) ?_
  show Goes p.tables e below (T3.setTop (mkF m 9 #[.val (.int x0), .val (.int x1), .val (.ref a1), .val (.ref a3), .unset, .unset, .unset, .unset, .unset, .unset, .unset] [(.int (65535 : Int32)), (.int x0)])) _
  refine Goes.to (fun _ k => XS.iand X3.here hx rfl (hb hby at_9) rfl k) ?_
  show Goes p.tables e below (T3.setTop (mkF m 10 #[.val (.int x0), .val (.int x1), .val (.ref a1), .val (.ref a3), .unset, .unset, .unset, .unset, .unset, .unset, .unset] [(.int (x0 &&& (65535 : Int32)))])) _
  refine Goes.to (fun _ k => XS.i2c X3.here hx rfl (hb hby at_10) rfl k) ?_
  show Goes p.tables e below (T3.setTop (mkF m 11 #[.val (.int x0), .val (.int x1), .val (.ref a1), .val (.ref a3), .unset, .unset, .unset, .unset, .unset, .unset, .unset] [(.int ((x0 &&& (65535 : Int32)).toUInt32.toUInt16.toUInt32.toInt32))])) _
  refine Goes.to (fun _ k => XS.istore X3.here hx rfl (hb hby at_11) rfl (l' := #[.val (.int x0), .val (.int x1), .val (.ref a1), .val (.ref a3), .val (.int ((x0 &&& (65535 : Int32)).toUInt32.toUInt16.toUInt32.toInt32)), .unset, .unset, .unset, .unset, .unset, .unset]) rfl k) ?_
  show Goes p.tables e below (T3.setTop (mkF m 13 #[.val (.int x0), .val (.int x1), .val (.ref a1), .val (.ref a3), .val (.int ((x0 &&& (65535 : Int32)).toUInt32.toUInt16.toUInt32.toInt32)), .unset, .unset, .unset, .unset, .unset, .unset] [])) _
  refine Goes.to (fun _ k => XS.iloadN X3.here hx rfl (hb hby at_13) rfl k) ?_
  show Goes p.tables e below (T3.setTop (mkF m 14 #[.val (.int x0), .val (.int x1), .val (.ref a1), .val (.ref a3), .val (.int ((x0 &&& (65535 : Int32)).toUInt32.toUInt16.toUInt32.toInt32)), .unset, .unset, .unset, .unset, .unset, .unset] [(.int x1)])) _
  refine Goes.to (fun _ k => XS.bipush X3.here hx rfl (hb hby at_14) k) ?_
  show Goes p.tables e below (T3.setTop (mkF m 16 #[.val (.int x0), .val (.int x1), .val (.ref a1), .val (.ref a3), .val (.int ((x0 &&& (65535 : Int32)).toUInt32.toUInt16.toUInt32.toInt32)), .unset, .unset, .unset, .unset, .unset, .unset] [(.int (15 : Int32)), (.int x1)])) _
  refine Goes.to (fun _ k => XS.iand X3.here hx rfl (hb hby at_16) rfl k) ?_
  show Goes p.tables e below (T3.setTop (mkF m 17 #[.val (.int x0), .val (.int x1), .val (.ref a1), .val (.ref a3), .val (.int ((x0 &&& (65535 : Int32)).toUInt32.toUInt16.toUInt32.toInt32)), .unset, .unset, .unset, .unset, .unset, .unset] [(.int (x1 &&& (15 : Int32)))])) _
  refine Goes.to (fun _ k => XS.istore X3.here hx rfl (hb hby at_17) rfl (l' := #[.val (.int x0), .val (.int x1), .val (.ref a1), .val (.ref a3), .val (.int ((x0 &&& (65535 : Int32)).toUInt32.toUInt16.toUInt32.toInt32)), .val (.int (x1 &&& (15 : Int32))), .unset, .unset, .unset, .unset, .unset]) rfl k) ?_
  show Goes p.tables e below (T3.setTop (mkF m 19 #[.val (.int x0), .val (.int x1), .val (.ref a1), .val (.ref a3), .val (.int ((x0 &&& (65535 : Int32)).toUInt32.toUInt16.toUInt32.toInt32)), .val (.int (x1 &&& (15 : Int32))), .unset, .unset, .unset, .unset, .unset] [])) _
  refine Goes.to (fun _ k => XS.iload X3.here hx rfl (hb hby at_19) rfl k) ?_
  show Goes p.tables e below (T3.setTop (mkF m 21 #[.val (.int x0), .val (.int x1), .val (.ref a1), .val (.ref a3), .val (.int ((x0 &&& (65535 : Int32)).toUInt32.toUInt16.toUInt32.toInt32)), .val (.int (x1 &&& (15 : Int32))), .unset, .unset, .unset, .unset, .unset] [(.int ((x0 &&& (65535 : Int32)).toUInt32.toUInt16.toUInt32.toInt32))])) _
  obtain ⟨_, _, ⟨T9, L9, k9, n9⟩, -, X9, ⟨Lc9, hQ9, l9, y9, z9⟩, st9⟩ := Jvm.LawKit.callS X3 hx (y := (⟨"com/example/unipar/unipar/PercentEncoding", "hexValue", "(C)I"⟩ : MethodName)) hown (mvT hZ (hw _ (List.mem_of_getElem? (i := 10) rfl))) (mvT hZ (hw _ (List.mem_of_getElem? (i := 11) rfl))) (mvT hZ (hw _ (List.mem_of_getElem? (i := 12) rfl))) (mvT hZ (hw _ (List.mem_of_getElem? (i := 13) rfl))) (by decide) (backOf (W := 0) (own_rm1 l Z a0 hw [] ((x0 &&& (65535 : Int32)).toUInt32.toUInt16.toUInt32.toInt32) T3.heap n0 Z3 ) hZ (hw _ (List.mem_of_getElem? (i := 13) rfl)) (hw _ (List.mem_of_getElem? (i := 12) rfl)) (by decide) (by decide)) (g := (mkF m 21 #[.val (.int x0), .val (.int x1), .val (.ref a1), .val (.ref a3), .val (.int ((x0 &&& (65535 : Int32)).toUInt32.toUInt16.toUInt32.toInt32)), .val (.int (x1 &&& (15 : Int32))), .unset, .unset, .unset, .unset, .unset] [(.int ((x0 &&& (65535 : Int32)).toUInt32.toUInt16.toUInt32.toInt32))])) rfl (by rw [hml]; rfl) (argsL := [(.int ((x0 &&& (65535 : Int32)).toUInt32.toUInt16.toUInt32.toInt32))]) (rest := []) (lenOf own_pd_pCqI rfl) rfl (by show 2 * 0 + _ ≤ _; exact Nat.le_of_eq rfl) (hb hby at_21) (fun _ _ => ⟨rfl, rfl, (by decide : 4 + 0 ≤ _), (by decide : 136 + 0 ≤ _)⟩)
  dsimp only [Pt.U, Pt.locs, Pt.cells, Pt.slots] at X9 l9 y9 z9 st9 hQ9
  subst l9 y9 z9
  obtain ⟨hv9, Nq9, hp9_0⟩ := hQ9
  have N9 := Fr.app N0 Nq9
  subst hv9
  refine Goes.to st9 ?_
  show Goes p.tables e below (T9.setTop (mkF m 24 #[.val (.int x0), .val (.int x1), .val (.ref a1), .val (.ref a3), .val (.int ((x0 &&& (65535 : Int32)).toUInt32.toUInt16.toUInt32.toInt32)), .val (.int (x1 &&& (15 : Int32))), .unset, .unset, .unset, .unset, .unset] [(.int (own_hex ((x0 &&& (65535 : Int32)).toUInt32.toUInt16.toUInt32.toInt32)))])) _
  refine Goes.to (fun _ k => XS.istore X9.here hx rfl (hb hby at_24) rfl (l' := #[.val (.int x0), .val (.int x1), .val (.ref a1), .val (.ref a3), .val (.int ((x0 &&& (65535 : Int32)).toUInt32.toUInt16.toUInt32.toInt32)), .val (.int (x1 &&& (15 : Int32))), .val (.int (own_hex ((x0 &&& (65535 : Int32)).toUInt32.toUInt16.toUInt32.toInt32))), .unset, .unset, .unset, .unset]) rfl k) ?_
  show Goes p.tables e below (T9.setTop (mkF m 26 #[.val (.int x0), .val (.int x1), .val (.ref a1), .val (.ref a3), .val (.int ((x0 &&& (65535 : Int32)).toUInt32.toUInt16.toUInt32.toInt32)), .val (.int (x1 &&& (15 : Int32))), .val (.int (own_hex ((x0 &&& (65535 : Int32)).toUInt32.toUInt16.toUInt32.toInt32))), .unset, .unset, .unset, .unset] [])) _
  refine Goes.to (fun _ k => XS.aloadN X9.here hx rfl (hb hby at_26) rfl rfl k) ?_
  show Goes p.tables e below (T9.setTop (mkF m 27 #[.val (.int x0), .val (.int x1), .val (.ref a1), .val (.ref a3), .val (.int ((x0 &&& (65535 : Int32)).toUInt32.toUInt16.toUInt32.toInt32)), .val (.int (x1 &&& (15 : Int32))), .val (.int (own_hex ((x0 &&& (65535 : Int32)).toUInt32.toUInt16.toUInt32.toInt32))), .unset, .unset, .unset, .unset] [(.ref a1)])) _
  refine Goes.to (fun _ k => XS.iload X9.here hx rfl (hb hby at_27) rfl k) ?_
  show Goes p.tables e below (T9.setTop (mkF m 29 #[.val (.int x0), .val (.int x1), .val (.ref a1), .val (.ref a3), .val (.int ((x0 &&& (65535 : Int32)).toUInt32.toUInt16.toUInt32.toInt32)), .val (.int (x1 &&& (15 : Int32))), .val (.int (own_hex ((x0 &&& (65535 : Int32)).toUInt32.toUInt16.toUInt32.toInt32))), .unset, .unset, .unset, .unset] [(.int (x1 &&& (15 : Int32))), (.ref a1)])) _
  have ji10 : 0 ≤ (x1 &&& (15 : Int32)).toInt ∧ (x1 &&& (15 : Int32)).toInt < 16 := by
    have k1 := rng32 cs
    have k2 : (0 : Int32).toInt = 0 := rfl
    have k3 : ¬ cs.toInt = (0 : Int32).toInt := fun z => hcs (Int32.toInt_inj.mp z)
    have k4 := rng32 x1
    have k5 : (x1 &&& (15 : Int32)).toInt = x1.toInt % 16 := c_mask x1 (15 : Int32) 4 (by decide) (by decide)
    omega
  have z010 : (0 : Int32).toInt = 0 := rfl
  have z1610 : (16 : Int32).toInt = 16 := rfl
  have hl10 : ¬ ((x1 &&& (15 : Int32)) < (0 : Int32)) := fun q => by have := Int32.lt_iff_toInt_lt.mp q; omega
  have hg10 : (x1 &&& (15 : Int32)) < (16 : Int32) := Int32.lt_iff_toInt_lt.mpr (by omega)
  have hc10 := own_up_at (x1 &&& (15 : Int32)) ji10.1 ji10.2
  obtain ⟨cq11, kq11, q11a, q11b, q11c⟩ := isOf hZ hp9_0 F5
  obtain ⟨_, _, ⟨T11, L11, k11, n11⟩, -, X11, ⟨Lc11, hQ11, l11, y11, z11⟩, st11⟩ := X9.virtualBack hx (y := (⟨"java/lang/String", "charAt", "(I)C"⟩ : MethodName)) (z := (⟨"java/lang/String", "charAt", "(I)C"⟩ : MethodName)) hown (mvT hZ (hw _ (List.mem_of_getElem? (i := 14) rfl))) (mvT hZ (hw _ (List.mem_of_getElem? (i := 15) rfl))) (notFace_of_selects (args := #[]) (mvT hZ (hw _ (List.mem_of_getElem? (i := 17) rfl)))) (mvT hZ (hw _ (List.mem_of_getElem? (i := 17) rfl))) (mvT hZ (hw _ (List.mem_of_getElem? (i := 16) rfl))) (by decide) (backOf (W := 0) (own_rm2 l Z a0 hw [] a1 (x1 &&& (15 : Int32)) b1 k1 (16 : Int32) [(.int (48 : Int32)), (.int (49 : Int32)), (.int (50 : Int32)), (.int (51 : Int32)), (.int (52 : Int32)), (.int (53 : Int32)), (.int (54 : Int32)), (.int (55 : Int32)), (.int (56 : Int32)), (.int (57 : Int32)), (.int (65 : Int32)), (.int (66 : Int32)), (.int (67 : Int32)), (.int (68 : Int32)), (.int (69 : Int32)), (.int (70 : Int32))] (own_up (x1 &&& (15 : Int32))) cs fm T3.heap n0 Z3 F5 F6 F7 F8 (SC.ext O4.2) hcs (SF.ext O4.2) hfm hl10 hg10 hc10.1) hZ (hw _ (List.mem_of_getElem? (i := 18) rfl)) (hw _ (List.mem_of_getElem? (i := 1) rfl)) (by decide) (by decide)) q11a q11c (g := (mkF m 29 #[.val (.int x0), .val (.int x1), .val (.ref a1), .val (.ref a3), .val (.int ((x0 &&& (65535 : Int32)).toUInt32.toUInt16.toUInt32.toInt32)), .val (.int (x1 &&& (15 : Int32))), .val (.int (own_hex ((x0 &&& (65535 : Int32)).toUInt32.toUInt16.toUInt32.toInt32))), .unset, .unset, .unset, .unset] [(.int (x1 &&& (15 : Int32))), (.ref a1)])) rfl (by rw [hml]; rfl) (Steps.refl _) (argsL := [(.int (x1 &&& (15 : Int32)))]) (rest := []) (lenOf own_pd_pIqC rfl) rfl (by show 2 * 0 + _ ≤ _; exact Nat.le_of_eq rfl) (hb hby at_29) (fun _ _ => ⟨rfl, hp9_0, (by decide : 4 + 0 ≤ _), (by decide : 136 + 0 ≤ _)⟩)
  dsimp only [Pt.U, Pt.locs, Pt.cells, Pt.slots] at X11 l11 y11 z11 st11 hQ11
  subst l11 y11 z11
  obtain ⟨hv11, Nq11, hp11_0⟩ := hQ11
  have N11 := Fr.app N9 Nq11
  rw [hc10.2] at hv11
  subst hv11
  refine Goes.tr st11 ?_
  show Goes p.tables e below (T11.setTop (mkF m 32 #[.val (.int x0), .val (.int x1), .val (.ref a1), .val (.ref a3), .val (.int ((x0 &&& (65535 : Int32)).toUInt32.toUInt16.toUInt32.toInt32)), .val (.int (x1 &&& (15 : Int32))), .val (.int (own_hex ((x0 &&& (65535 : Int32)).toUInt32.toUInt16.toUInt32.toInt32))), .unset, .unset, .unset, .unset] [(.int (own_up (x1 &&& (15 : Int32))))])) _
  obtain ⟨_, _, ⟨T12, L12, k12, n12⟩, -, X12, ⟨Lc12, hQ12, l12, y12, z12⟩, st12⟩ := Jvm.LawKit.callS X11 hx (y := (⟨"com/example/unipar/unipar/PercentEncoding", "hexValue", "(C)I"⟩ : MethodName)) hown (mvT hZ (hw _ (List.mem_of_getElem? (i := 10) rfl))) (mvT hZ (hw _ (List.mem_of_getElem? (i := 11) rfl))) (mvT hZ (hw _ (List.mem_of_getElem? (i := 12) rfl))) (mvT hZ (hw _ (List.mem_of_getElem? (i := 13) rfl))) (by decide) (backOf (W := 0) (own_rm1 l Z a0 hw [] (own_up (x1 &&& (15 : Int32))) T3.heap n0 Z3 ) hZ (hw _ (List.mem_of_getElem? (i := 13) rfl)) (hw _ (List.mem_of_getElem? (i := 12) rfl)) (by decide) (by decide)) (g := (mkF m 32 #[.val (.int x0), .val (.int x1), .val (.ref a1), .val (.ref a3), .val (.int ((x0 &&& (65535 : Int32)).toUInt32.toUInt16.toUInt32.toInt32)), .val (.int (x1 &&& (15 : Int32))), .val (.int (own_hex ((x0 &&& (65535 : Int32)).toUInt32.toUInt16.toUInt32.toInt32))), .unset, .unset, .unset, .unset] [(.int (own_up (x1 &&& (15 : Int32))))])) rfl (by rw [hml]; rfl) (argsL := [(.int (own_up (x1 &&& (15 : Int32))))]) (rest := []) (lenOf own_pd_pCqI rfl) rfl (by show 2 * 0 + _ ≤ _; exact Nat.le_of_eq rfl) (hb hby at_32) (fun _ _ => ⟨rfl, hp11_0, (by decide : 4 + 0 ≤ _), (by decide : 136 + 0 ≤ _)⟩)
  dsimp only [Pt.U, Pt.locs, Pt.cells, Pt.slots] at X12 l12 y12 z12 st12 hQ12
  subst l12 y12 z12
  obtain ⟨hv12, Nq12, hp12_0⟩ := hQ12
  have N12 := Fr.app N11 Nq12
  subst hv12
  refine Goes.to st12 ?_
  show Goes p.tables e below (T12.setTop (mkF m 35 #[.val (.int x0), .val (.int x1), .val (.ref a1), .val (.ref a3), .val (.int ((x0 &&& (65535 : Int32)).toUInt32.toUInt16.toUInt32.toInt32)), .val (.int (x1 &&& (15 : Int32))), .val (.int (own_hex ((x0 &&& (65535 : Int32)).toUInt32.toUInt16.toUInt32.toInt32))), .unset, .unset, .unset, .unset] [(.int (own_hex (own_up (x1 &&& (15 : Int32)))))])) _
  refine Goes.to (fun _ k => XS.istore X12.here hx rfl (hb hby at_35) rfl (l' := #[.val (.int x0), .val (.int x1), .val (.ref a1), .val (.ref a3), .val (.int ((x0 &&& (65535 : Int32)).toUInt32.toUInt16.toUInt32.toInt32)), .val (.int (x1 &&& (15 : Int32))), .val (.int (own_hex ((x0 &&& (65535 : Int32)).toUInt32.toUInt16.toUInt32.toInt32))), .val (.int (own_hex (own_up (x1 &&& (15 : Int32))))), .unset, .unset, .unset]) rfl k) ?_
  show Goes p.tables e below (T12.setTop (mkF m 37 #[.val (.int x0), .val (.int x1), .val (.ref a1), .val (.ref a3), .val (.int ((x0 &&& (65535 : Int32)).toUInt32.toUInt16.toUInt32.toInt32)), .val (.int (x1 &&& (15 : Int32))), .val (.int (own_hex ((x0 &&& (65535 : Int32)).toUInt32.toUInt16.toUInt32.toInt32))), .val (.int (own_hex (own_up (x1 &&& (15 : Int32))))), .unset, .unset, .unset] [])) _
  refine Goes.to (fun _ k => XS.aloadN X12.here hx rfl (hb hby at_37) rfl rfl k) ?_
  show Goes p.tables e below (T12.setTop (mkF m 38 #[.val (.int x0), .val (.int x1), .val (.ref a1), .val (.ref a3), .val (.int ((x0 &&& (65535 : Int32)).toUInt32.toUInt16.toUInt32.toInt32)), .val (.int (x1 &&& (15 : Int32))), .val (.int (own_hex ((x0 &&& (65535 : Int32)).toUInt32.toUInt16.toUInt32.toInt32))), .val (.int (own_hex (own_up (x1 &&& (15 : Int32))))), .unset, .unset, .unset] [(.ref a3)])) _
  refine Goes.to (fun _ k => XS.iload X12.here hx rfl (hb hby at_38) rfl k) ?_
  show Goes p.tables e below (T12.setTop (mkF m 40 #[.val (.int x0), .val (.int x1), .val (.ref a1), .val (.ref a3), .val (.int ((x0 &&& (65535 : Int32)).toUInt32.toUInt16.toUInt32.toInt32)), .val (.int (x1 &&& (15 : Int32))), .val (.int (own_hex ((x0 &&& (65535 : Int32)).toUInt32.toUInt16.toUInt32.toInt32))), .val (.int (own_hex (own_up (x1 &&& (15 : Int32))))), .unset, .unset, .unset] [(.int (x1 &&& (15 : Int32))), (.ref a3)])) _
  have ji13 : 0 ≤ (x1 &&& (15 : Int32)).toInt ∧ (x1 &&& (15 : Int32)).toInt < 16 := by
    have k1 := rng32 cs
    have k2 : (0 : Int32).toInt = 0 := rfl
    have k3 : ¬ cs.toInt = (0 : Int32).toInt := fun z => hcs (Int32.toInt_inj.mp z)
    have k4 := rng32 x1
    have k5 : (x1 &&& (15 : Int32)).toInt = x1.toInt % 16 := c_mask x1 (15 : Int32) 4 (by decide) (by decide)
    omega
  have z013 : (0 : Int32).toInt = 0 := rfl
  have z1613 : (16 : Int32).toInt = 16 := rfl
  have hl13 : ¬ ((x1 &&& (15 : Int32)) < (0 : Int32)) := fun q => by have := Int32.lt_iff_toInt_lt.mp q; omega
  have hg13 : (x1 &&& (15 : Int32)) < (16 : Int32) := Int32.lt_iff_toInt_lt.mpr (by omega)
  have hc13 := own_lo_at (x1 &&& (15 : Int32)) ji13.1 ji13.2
  obtain ⟨cq14, kq14, q14a, q14b, q14c⟩ := isOf hZ hp12_0 A3
  obtain ⟨_, _, ⟨T14, L14, k14, n14⟩, -, X14, ⟨Lc14, hQ14, l14, y14, z14⟩, st14⟩ := X12.virtualBack hx (y := (⟨"java/lang/String", "charAt", "(I)C"⟩ : MethodName)) (z := (⟨"java/lang/String", "charAt", "(I)C"⟩ : MethodName)) hown (mvT hZ (hw _ (List.mem_of_getElem? (i := 14) rfl))) (mvT hZ (hw _ (List.mem_of_getElem? (i := 15) rfl))) (notFace_of_selects (args := #[]) (mvT hZ (hw _ (List.mem_of_getElem? (i := 17) rfl)))) (mvT hZ (hw _ (List.mem_of_getElem? (i := 17) rfl))) (mvT hZ (hw _ (List.mem_of_getElem? (i := 16) rfl))) (by decide) (backOf (W := 0) (own_rm2 l Z a0 hw [] a3 (x1 &&& (15 : Int32)) b3 k3 (16 : Int32) [(.int (48 : Int32)), (.int (49 : Int32)), (.int (50 : Int32)), (.int (51 : Int32)), (.int (52 : Int32)), (.int (53 : Int32)), (.int (54 : Int32)), (.int (55 : Int32)), (.int (56 : Int32)), (.int (57 : Int32)), (.int (97 : Int32)), (.int (98 : Int32)), (.int (99 : Int32)), (.int (100 : Int32)), (.int (101 : Int32)), (.int (102 : Int32))] (own_lo (x1 &&& (15 : Int32))) cs fm T3.heap n0 Z3 A3 C3 V3 W3 (SC.ext O4.2) hcs (SF.ext O4.2) hfm hl13 hg13 hc13.1) hZ (hw _ (List.mem_of_getElem? (i := 18) rfl)) (hw _ (List.mem_of_getElem? (i := 1) rfl)) (by decide) (by decide)) q14a q14c (g := (mkF m 40 #[.val (.int x0), .val (.int x1), .val (.ref a1), .val (.ref a3), .val (.int ((x0 &&& (65535 : Int32)).toUInt32.toUInt16.toUInt32.toInt32)), .val (.int (x1 &&& (15 : Int32))), .val (.int (own_hex ((x0 &&& (65535 : Int32)).toUInt32.toUInt16.toUInt32.toInt32))), .val (.int (own_hex (own_up (x1 &&& (15 : Int32))))), .unset, .unset, .unset] [(.int (x1 &&& (15 : Int32))), (.ref a3)])) rfl (by rw [hml]; rfl) (Steps.refl _) (argsL := [(.int (x1 &&& (15 : Int32)))]) (rest := []) (lenOf own_pd_pIqC rfl) rfl (by show 2 * 0 + _ ≤ _; exact Nat.le_of_eq rfl) (hb hby at_40) (fun _ _ => ⟨rfl, hp12_0, (by decide : 4 + 0 ≤ _), (by decide : 136 + 0 ≤ _)⟩)
  dsimp only [Pt.U, Pt.locs, Pt.cells, Pt.slots] at X14 l14 y14 z14 st14 hQ14
  subst l14 y14 z14
  obtain ⟨hv14, Nq14, hp14_0⟩ := hQ14
  have N14 := Fr.app N12 Nq14
  rw [hc13.2] at hv14
  subst hv14
  refine Goes.tr st14 ?_
  show Goes p.tables e below (T14.setTop (mkF m 43 #[.val (.int x0), .val (.int x1), .val (.ref a1), .val (.ref a3), .val (.int ((x0 &&& (65535 : Int32)).toUInt32.toUInt16.toUInt32.toInt32)), .val (.int (x1 &&& (15 : Int32))), .val (.int (own_hex ((x0 &&& (65535 : Int32)).toUInt32.toUInt16.toUInt32.toInt32))), .val (.int (own_hex (own_up (x1 &&& (15 : Int32))))), .unset, .unset, .unset] [(.int (own_lo (x1 &&& (15 : Int32))))])) _
  obtain ⟨_, _, ⟨T15, L15, k15, n15⟩, -, X15, ⟨Lc15, hQ15, l15, y15, z15⟩, st15⟩ := Jvm.LawKit.callS X14 hx (y := (⟨"com/example/unipar/unipar/PercentEncoding", "hexValue", "(C)I"⟩ : MethodName)) hown (mvT hZ (hw _ (List.mem_of_getElem? (i := 10) rfl))) (mvT hZ (hw _ (List.mem_of_getElem? (i := 11) rfl))) (mvT hZ (hw _ (List.mem_of_getElem? (i := 12) rfl))) (mvT hZ (hw _ (List.mem_of_getElem? (i := 13) rfl))) (by decide) (backOf (W := 0) (own_rm1 l Z a0 hw [] (own_lo (x1 &&& (15 : Int32))) T3.heap n0 Z3 ) hZ (hw _ (List.mem_of_getElem? (i := 13) rfl)) (hw _ (List.mem_of_getElem? (i := 12) rfl)) (by decide) (by decide)) (g := (mkF m 43 #[.val (.int x0), .val (.int x1), .val (.ref a1), .val (.ref a3), .val (.int ((x0 &&& (65535 : Int32)).toUInt32.toUInt16.toUInt32.toInt32)), .val (.int (x1 &&& (15 : Int32))), .val (.int (own_hex ((x0 &&& (65535 : Int32)).toUInt32.toUInt16.toUInt32.toInt32))), .val (.int (own_hex (own_up (x1 &&& (15 : Int32))))), .unset, .unset, .unset] [(.int (own_lo (x1 &&& (15 : Int32))))])) rfl (by rw [hml]; rfl) (argsL := [(.int (own_lo (x1 &&& (15 : Int32))))]) (rest := []) (lenOf own_pd_pCqI rfl) rfl (by show 2 * 0 + _ ≤ _; exact Nat.le_of_eq rfl) (hb hby at_43) (fun _ _ => ⟨rfl, hp14_0, (by decide : 4 + 0 ≤ _), (by decide : 136 + 0 ≤ _)⟩)
  dsimp only [Pt.U, Pt.locs, Pt.cells, Pt.slots] at X15 l15 y15 z15 st15 hQ15
  subst l15 y15 z15
  obtain ⟨hv15, Nq15, hp15_0⟩ := hQ15
  have N15 := Fr.app N14 Nq15
  subst hv15
  refine Goes.to st15 ?_
  show Goes p.tables e below (T15.setTop (mkF m 46 #[.val (.int x0), .val (.int x1), .val (.ref a1), .val (.ref a3), .val (.int ((x0 &&& (65535 : Int32)).toUInt32.toUInt16.toUInt32.toInt32)), .val (.int (x1 &&& (15 : Int32))), .val (.int (own_hex ((x0 &&& (65535 : Int32)).toUInt32.toUInt16.toUInt32.toInt32))), .val (.int (own_hex (own_up (x1 &&& (15 : Int32))))), .unset, .unset, .unset] [(.int (own_hex (own_lo (x1 &&& (15 : Int32)))))])) _
  refine Goes.to (fun _ k => XS.istore X15.here hx rfl (hb hby at_46) rfl (l' := #[.val (.int x0), .val (.int x1), .val (.ref a1), .val (.ref a3), .val (.int ((x0 &&& (65535 : Int32)).toUInt32.toUInt16.toUInt32.toInt32)), .val (.int (x1 &&& (15 : Int32))), .val (.int (own_hex ((x0 &&& (65535 : Int32)).toUInt32.toUInt16.toUInt32.toInt32))), .val (.int (own_hex (own_up (x1 &&& (15 : Int32))))), .val (.int (own_hex (own_lo (x1 &&& (15 : Int32))))), .unset, .unset]) rfl k) ?_
  show Goes p.tables e below (T15.setTop (mkF m 48 #[.val (.int x0), .val (.int x1), .val (.ref a1), .val (.ref a3), .val (.int ((x0 &&& (65535 : Int32)).toUInt32.toUInt16.toUInt32.toInt32)), .val (.int (x1 &&& (15 : Int32))), .val (.int (own_hex ((x0 &&& (65535 : Int32)).toUInt32.toUInt16.toUInt32.toInt32))), .val (.int (own_hex (own_up (x1 &&& (15 : Int32))))), .val (.int (own_hex (own_lo (x1 &&& (15 : Int32))))), .unset, .unset] [])) _
  refine Goes.to (fun _ k => XS.iload X15.here hx rfl (hb hby at_48) rfl k) ?_
  show Goes p.tables e below (T15.setTop (mkF m 50 #[.val (.int x0), .val (.int x1), .val (.ref a1), .val (.ref a3), .val (.int ((x0 &&& (65535 : Int32)).toUInt32.toUInt16.toUInt32.toInt32)), .val (.int (x1 &&& (15 : Int32))), .val (.int (own_hex ((x0 &&& (65535 : Int32)).toUInt32.toUInt16.toUInt32.toInt32))), .val (.int (own_hex (own_up (x1 &&& (15 : Int32))))), .val (.int (own_hex (own_lo (x1 &&& (15 : Int32))))), .unset, .unset] [(.int (own_hex (own_up (x1 &&& (15 : Int32)))))])) _
  refine Goes.to (fun _ k => XS.iload X15.here hx rfl (hb hby at_50) rfl k) ?_
  show Goes p.tables e below (T15.setTop (mkF m 52 #[.val (.int x0), .val (.int x1), .val (.ref a1), .val (.ref a3), .val (.int ((x0 &&& (65535 : Int32)).toUInt32.toUInt16.toUInt32.toInt32)), .val (.int (x1 &&& (15 : Int32))), .val (.int (own_hex ((x0 &&& (65535 : Int32)).toUInt32.toUInt16.toUInt32.toInt32))), .val (.int (own_hex (own_up (x1 &&& (15 : Int32))))), .val (.int (own_hex (own_lo (x1 &&& (15 : Int32))))), .unset, .unset] [(.int (x1 &&& (15 : Int32))), (.int (own_hex (own_up (x1 &&& (15 : Int32)))))])) _
  by_cases hc16 : (own_hex (own_up (x1 &&& (15 : Int32)))) = (x1 &&& (15 : Int32))
  · refine Goes.to (fun _ k => XS.icmpNo X15.here hx rfl (hb hby at_52) rfl (teq hc16).2 k) ?_
    show Goes p.tables e below (T15.setTop (mkF m 55 #[.val (.int x0), .val (.int x1), .val (.ref a1), .val (.ref a3), .val (.int ((x0 &&& (65535 : Int32)).toUInt32.toUInt16.toUInt32.toInt32)), .val (.int (x1 &&& (15 : Int32))), .val (.int (own_hex ((x0 &&& (65535 : Int32)).toUInt32.toUInt16.toUInt32.toInt32))), .val (.int (own_hex (own_up (x1 &&& (15 : Int32))))), .val (.int (own_hex (own_lo (x1 &&& (15 : Int32))))), .unset, .unset] [])) _
    refine Goes.to (fun _ k => XS.iload X15.here hx rfl (hb hby at_55) rfl k) ?_
    show Goes p.tables e below (T15.setTop (mkF m 57 #[.val (.int x0), .val (.int x1), .val (.ref a1), .val (.ref a3), .val (.int ((x0 &&& (65535 : Int32)).toUInt32.toUInt16.toUInt32.toInt32)), .val (.int (x1 &&& (15 : Int32))), .val (.int (own_hex ((x0 &&& (65535 : Int32)).toUInt32.toUInt16.toUInt32.toInt32))), .val (.int (own_hex (own_up (x1 &&& (15 : Int32))))), .val (.int (own_hex (own_lo (x1 &&& (15 : Int32))))), .unset, .unset] [(.int (own_hex (own_lo (x1 &&& (15 : Int32)))))])) _
    refine Goes.to (fun _ k => XS.iload X15.here hx rfl (hb hby at_57) rfl k) ?_
    show Goes p.tables e below (T15.setTop (mkF m 59 #[.val (.int x0), .val (.int x1), .val (.ref a1), .val (.ref a3), .val (.int ((x0 &&& (65535 : Int32)).toUInt32.toUInt16.toUInt32.toInt32)), .val (.int (x1 &&& (15 : Int32))), .val (.int (own_hex ((x0 &&& (65535 : Int32)).toUInt32.toUInt16.toUInt32.toInt32))), .val (.int (own_hex (own_up (x1 &&& (15 : Int32))))), .val (.int (own_hex (own_lo (x1 &&& (15 : Int32))))), .unset, .unset] [(.int (x1 &&& (15 : Int32))), (.int (own_hex (own_lo (x1 &&& (15 : Int32)))))])) _
    by_cases hc17 : (own_hex (own_lo (x1 &&& (15 : Int32)))) = (x1 &&& (15 : Int32))
    · refine Goes.to (fun _ k => XS.icmpNo X15.here hx rfl (hb hby at_59) rfl (teq hc17).2 k) ?_
      show Goes p.tables e below (T15.setTop (mkF m 62 #[.val (.int x0), .val (.int x1), .val (.ref a1), .val (.ref a3), .val (.int ((x0 &&& (65535 : Int32)).toUInt32.toUInt16.toUInt32.toInt32)), .val (.int (x1 &&& (15 : Int32))), .val (.int (own_hex ((x0 &&& (65535 : Int32)).toUInt32.toUInt16.toUInt32.toInt32))), .val (.int (own_hex (own_up (x1 &&& (15 : Int32))))), .val (.int (own_hex (own_lo (x1 &&& (15 : Int32))))), .unset, .unset] [])) _
      refine Goes.to (fun _ k => XS.iconst X15.here hx rfl (hb hby at_62) k) ?_
      show Goes p.tables e below (T15.setTop (mkF m 63 #[.val (.int x0), .val (.int x1), .val (.ref a1), .val (.ref a3), .val (.int ((x0 &&& (65535 : Int32)).toUInt32.toUInt16.toUInt32.toInt32)), .val (.int (x1 &&& (15 : Int32))), .val (.int (own_hex ((x0 &&& (65535 : Int32)).toUInt32.toUInt16.toUInt32.toInt32))), .val (.int (own_hex (own_up (x1 &&& (15 : Int32))))), .val (.int (own_hex (own_lo (x1 &&& (15 : Int32))))), .unset, .unset] [(.int (1 : Int32))])) _
      refine Goes.to (fun _ k => XS.goto X15.here hx rfl (pc0 := 63) (pc' := 67) rfl (hb hby at_63) (by decide) (by decide) k) ?_
      show Goes p.tables e below (T15.setTop (mkF m 67 #[.val (.int x0), .val (.int x1), .val (.ref a1), .val (.ref a3), .val (.int ((x0 &&& (65535 : Int32)).toUInt32.toUInt16.toUInt32.toInt32)), .val (.int (x1 &&& (15 : Int32))), .val (.int (own_hex ((x0 &&& (65535 : Int32)).toUInt32.toUInt16.toUInt32.toInt32))), .val (.int (own_hex (own_up (x1 &&& (15 : Int32))))), .val (.int (own_hex (own_lo (x1 &&& (15 : Int32))))), .unset, .unset] [(.int (1 : Int32))])) _
      refine Goes.to (fun _ k => XS.istore X15.here hx rfl (hb hby at_67) rfl (l' := #[.val (.int x0), .val (.int x1), .val (.ref a1), .val (.ref a3), .val (.int ((x0 &&& (65535 : Int32)).toUInt32.toUInt16.toUInt32.toInt32)), .val (.int (x1 &&& (15 : Int32))), .val (.int (own_hex ((x0 &&& (65535 : Int32)).toUInt32.toUInt16.toUInt32.toInt32))), .val (.int (own_hex (own_up (x1 &&& (15 : Int32))))), .val (.int (own_hex (own_lo (x1 &&& (15 : Int32))))), .val (.int (1 : Int32)), .unset]) rfl k) ?_
      show Goes p.tables e below (T15.setTop (mkF m 69 #[.val (.int x0), .val (.int x1), .val (.ref a1), .val (.ref a3), .val (.int ((x0 &&& (65535 : Int32)).toUInt32.toUInt16.toUInt32.toInt32)), .val (.int (x1 &&& (15 : Int32))), .val (.int (own_hex ((x0 &&& (65535 : Int32)).toUInt32.toUInt16.toUInt32.toInt32))), .val (.int (own_hex (own_up (x1 &&& (15 : Int32))))), .val (.int (own_hex (own_lo (x1 &&& (15 : Int32))))), .val (.int (1 : Int32)), .unset] [])) _
      refine Goes.to (fun _ k => XS.iload X15.here hx rfl (hb hby at_69) rfl k) ?_
      show Goes p.tables e below (T15.setTop (mkF m 71 #[.val (.int x0), .val (.int x1), .val (.ref a1), .val (.ref a3), .val (.int ((x0 &&& (65535 : Int32)).toUInt32.toUInt16.toUInt32.toInt32)), .val (.int (x1 &&& (15 : Int32))), .val (.int (own_hex ((x0 &&& (65535 : Int32)).toUInt32.toUInt16.toUInt32.toInt32))), .val (.int (own_hex (own_up (x1 &&& (15 : Int32))))), .val (.int (own_hex (own_lo (x1 &&& (15 : Int32))))), .val (.int (1 : Int32)), .unset] [(.int (own_hex ((x0 &&& (65535 : Int32)).toUInt32.toUInt16.toUInt32.toInt32)))])) _
      refine Goes.to (fun _ k => XS.iconst X15.here hx rfl (hb hby at_71) k) ?_
      show Goes p.tables e below (T15.setTop (mkF m 72 #[.val (.int x0), .val (.int x1), .val (.ref a1), .val (.ref a3), .val (.int ((x0 &&& (65535 : Int32)).toUInt32.toUInt16.toUInt32.toInt32)), .val (.int (x1 &&& (15 : Int32))), .val (.int (own_hex ((x0 &&& (65535 : Int32)).toUInt32.toUInt16.toUInt32.toInt32))), .val (.int (own_hex (own_up (x1 &&& (15 : Int32))))), .val (.int (own_hex (own_lo (x1 &&& (15 : Int32))))), .val (.int (1 : Int32)), .unset] [(.int (-1 : Int32)), (.int (own_hex ((x0 &&& (65535 : Int32)).toUInt32.toUInt16.toUInt32.toInt32)))])) _
      by_cases hc18 : (own_hex ((x0 &&& (65535 : Int32)).toUInt32.toUInt16.toUInt32.toInt32)) = (-1 : Int32)
      · refine Goes.to (fun _ k => XS.icmpNo X15.here hx rfl (hb hby at_72) rfl (teq hc18).2 k) ?_
        show Goes p.tables e below (T15.setTop (mkF m 75 #[.val (.int x0), .val (.int x1), .val (.ref a1), .val (.ref a3), .val (.int ((x0 &&& (65535 : Int32)).toUInt32.toUInt16.toUInt32.toInt32)), .val (.int (x1 &&& (15 : Int32))), .val (.int (own_hex ((x0 &&& (65535 : Int32)).toUInt32.toUInt16.toUInt32.toInt32))), .val (.int (own_hex (own_up (x1 &&& (15 : Int32))))), .val (.int (own_hex (own_lo (x1 &&& (15 : Int32))))), .val (.int (1 : Int32)), .unset] [])) _
        refine Goes.to (fun _ k => XS.iconst X15.here hx rfl (hb hby at_75) k) ?_
        show Goes p.tables e below (T15.setTop (mkF m 76 #[.val (.int x0), .val (.int x1), .val (.ref a1), .val (.ref a3), .val (.int ((x0 &&& (65535 : Int32)).toUInt32.toUInt16.toUInt32.toInt32)), .val (.int (x1 &&& (15 : Int32))), .val (.int (own_hex ((x0 &&& (65535 : Int32)).toUInt32.toUInt16.toUInt32.toInt32))), .val (.int (own_hex (own_up (x1 &&& (15 : Int32))))), .val (.int (own_hex (own_lo (x1 &&& (15 : Int32))))), .val (.int (1 : Int32)), .unset] [(.int (1 : Int32))])) _
        refine Goes.to (fun _ k => XS.istore X15.here hx rfl (hb hby at_76) rfl (l' := #[.val (.int x0), .val (.int x1), .val (.ref a1), .val (.ref a3), .val (.int ((x0 &&& (65535 : Int32)).toUInt32.toUInt16.toUInt32.toInt32)), .val (.int (x1 &&& (15 : Int32))), .val (.int (own_hex ((x0 &&& (65535 : Int32)).toUInt32.toUInt16.toUInt32.toInt32))), .val (.int (own_hex (own_up (x1 &&& (15 : Int32))))), .val (.int (own_hex (own_lo (x1 &&& (15 : Int32))))), .val (.int (1 : Int32)), .val (.int (1 : Int32))]) rfl k) ?_
        show Goes p.tables e below (T15.setTop (mkF m 78 #[.val (.int x0), .val (.int x1), .val (.ref a1), .val (.ref a3), .val (.int ((x0 &&& (65535 : Int32)).toUInt32.toUInt16.toUInt32.toInt32)), .val (.int (x1 &&& (15 : Int32))), .val (.int (own_hex ((x0 &&& (65535 : Int32)).toUInt32.toUInt16.toUInt32.toInt32))), .val (.int (own_hex (own_up (x1 &&& (15 : Int32))))), .val (.int (own_hex (own_lo (x1 &&& (15 : Int32))))), .val (.int (1 : Int32)), .val (.int (1 : Int32))] [])) _
        refine Goes.to (fun _ k => XS.goto X15.here hx rfl (pc0 := 78) (pc' := 128) rfl (hb hby at_78) (by decide) (by decide) k) ?_
        show Goes p.tables e below (T15.setTop (mkF m 128 #[.val (.int x0), .val (.int x1), .val (.ref a1), .val (.ref a3), .val (.int ((x0 &&& (65535 : Int32)).toUInt32.toUInt16.toUInt32.toInt32)), .val (.int (x1 &&& (15 : Int32))), .val (.int (own_hex ((x0 &&& (65535 : Int32)).toUInt32.toUInt16.toUInt32.toInt32))), .val (.int (own_hex (own_up (x1 &&& (15 : Int32))))), .val (.int (own_hex (own_lo (x1 &&& (15 : Int32))))), .val (.int (1 : Int32)), .val (.int (1 : Int32))] [])) _
        refine Goes.to (fun _ k => XS.iload X15.here hx rfl (hb hby at_128) rfl k) ?_
        show Goes p.tables e below (T15.setTop (mkF m 130 #[.val (.int x0), .val (.int x1), .val (.ref a1), .val (.ref a3), .val (.int ((x0 &&& (65535 : Int32)).toUInt32.toUInt16.toUInt32.toInt32)), .val (.int (x1 &&& (15 : Int32))), .val (.int (own_hex ((x0 &&& (65535 : Int32)).toUInt32.toUInt16.toUInt32.toInt32))), .val (.int (own_hex (own_up (x1 &&& (15 : Int32))))), .val (.int (own_hex (own_lo (x1 &&& (15 : Int32))))), .val (.int (1 : Int32)), .val (.int (1 : Int32))] [(.int (1 : Int32))])) _
        refine Goes.to (fun _ k => XS.ifNo X15.here hx rfl (hb hby at_130) rfl ((if0 _ _).trans (feq (by decide : ¬ ((1 : Int32) = (0 : Int32)))).1) k) ?_
        show Goes p.tables e below (T15.setTop (mkF m 133 #[.val (.int x0), .val (.int x1), .val (.ref a1), .val (.ref a3), .val (.int ((x0 &&& (65535 : Int32)).toUInt32.toUInt16.toUInt32.toInt32)), .val (.int (x1 &&& (15 : Int32))), .val (.int (own_hex ((x0 &&& (65535 : Int32)).toUInt32.toUInt16.toUInt32.toInt32))), .val (.int (own_hex (own_up (x1 &&& (15 : Int32))))), .val (.int (own_hex (own_lo (x1 &&& (15 : Int32))))), .val (.int (1 : Int32)), .val (.int (1 : Int32))] [])) _
        refine Goes.to (fun _ k => XS.iload X15.here hx rfl (hb hby at_133) rfl k) ?_
        show Goes p.tables e below (T15.setTop (mkF m 135 #[.val (.int x0), .val (.int x1), .val (.ref a1), .val (.ref a3), .val (.int ((x0 &&& (65535 : Int32)).toUInt32.toUInt16.toUInt32.toInt32)), .val (.int (x1 &&& (15 : Int32))), .val (.int (own_hex ((x0 &&& (65535 : Int32)).toUInt32.toUInt16.toUInt32.toInt32))), .val (.int (own_hex (own_up (x1 &&& (15 : Int32))))), .val (.int (own_hex (own_lo (x1 &&& (15 : Int32))))), .val (.int (1 : Int32)), .val (.int (1 : Int32))] [(.int (1 : Int32))])) _
        refine Goes.to (fun _ k => XS.ifNo X15.here hx rfl (hb hby at_135) rfl ((if0 _ _).trans (feq (by decide : ¬ ((1 : Int32) = (0 : Int32)))).1) k) ?_
        show Goes p.tables e below (T15.setTop (mkF m 138 #[.val (.int x0), .val (.int x1), .val (.ref a1), .val (.ref a3), .val (.int ((x0 &&& (65535 : Int32)).toUInt32.toUInt16.toUInt32.toInt32)), .val (.int (x1 &&& (15 : Int32))), .val (.int (own_hex ((x0 &&& (65535 : Int32)).toUInt32.toUInt16.toUInt32.toInt32))), .val (.int (own_hex (own_up (x1 &&& (15 : Int32))))), .val (.int (own_hex (own_lo (x1 &&& (15 : Int32))))), .val (.int (1 : Int32)), .val (.int (1 : Int32))] [])) _
        refine Goes.to (fun _ k => XS.iconst X15.here hx rfl (hb hby at_138) k) ?_
        show Goes p.tables e below (T15.setTop (mkF m 139 #[.val (.int x0), .val (.int x1), .val (.ref a1), .val (.ref a3), .val (.int ((x0 &&& (65535 : Int32)).toUInt32.toUInt16.toUInt32.toInt32)), .val (.int (x1 &&& (15 : Int32))), .val (.int (own_hex ((x0 &&& (65535 : Int32)).toUInt32.toUInt16.toUInt32.toInt32))), .val (.int (own_hex (own_up (x1 &&& (15 : Int32))))), .val (.int (own_hex (own_lo (x1 &&& (15 : Int32))))), .val (.int (1 : Int32)), .val (.int (1 : Int32))] [(.int (1 : Int32))])) _
        refine Goes.to (fun _ k => XS.goto X15.here hx rfl (pc0 := 139) (pc' := 143) rfl (hb hby at_139) (by decide) (by decide) k) ?_
        show Goes p.tables e below (T15.setTop (mkF m 143 #[.val (.int x0), .val (.int x1), .val (.ref a1), .val (.ref a3), .val (.int ((x0 &&& (65535 : Int32)).toUInt32.toUInt16.toUInt32.toInt32)), .val (.int (x1 &&& (15 : Int32))), .val (.int (own_hex ((x0 &&& (65535 : Int32)).toUInt32.toUInt16.toUInt32.toInt32))), .val (.int (own_hex (own_up (x1 &&& (15 : Int32))))), .val (.int (own_hex (own_lo (x1 &&& (15 : Int32))))), .val (.int (1 : Int32)), .val (.int (1 : Int32))] [(.int (1 : Int32))])) _
        obtain ⟨fs, hr, hrun, hended, hEnd⟩ := X15.leaveW (s := s) hS3 (Nat.le_trans hk3 (Nat.le_of_eq (congrArg Array.size (hp15_0).symm))) (v := some (.int (1 : Int32))) (fun h => by rw [Bd.returns] at h; cases h)
        have hv : (some (.int (1 : Int32)) : Option Value) = some (.int (1 : Int32)) := by
          rfl
        exact ⟨_, _, retN X15 hx (t := .boolean) Bd.returns (by simp) (hb hby at_143) hr, hrun, hended, _, _, rfl, ⟨hv, N15⟩, hEnd.1, hEnd.2.1, hEnd.2.2.1, hEnd.2.2.2.mono (by decide) (by decide)⟩
      · refine Goes.to (fun _ k => XS.icmpYes X15.here hx rfl (pc0 := 72) (pc' := 81) rfl (hb hby at_72) rfl (feq hc18).2 (by decide) (by decide) k) ?_
        show Goes p.tables e below (T15.setTop (mkF m 81 #[.val (.int x0), .val (.int x1), .val (.ref a1), .val (.ref a3), .val (.int ((x0 &&& (65535 : Int32)).toUInt32.toUInt16.toUInt32.toInt32)), .val (.int (x1 &&& (15 : Int32))), .val (.int (own_hex ((x0 &&& (65535 : Int32)).toUInt32.toUInt16.toUInt32.toInt32))), .val (.int (own_hex (own_up (x1 &&& (15 : Int32))))), .val (.int (own_hex (own_lo (x1 &&& (15 : Int32))))), .val (.int (1 : Int32)), .unset] [])) _
        refine Goes.to (fun _ k => XS.iload X15.here hx rfl (hb hby at_81) rfl k) ?_
        show Goes p.tables e below (T15.setTop (mkF m 83 #[.val (.int x0), .val (.int x1), .val (.ref a1), .val (.ref a3), .val (.int ((x0 &&& (65535 : Int32)).toUInt32.toUInt16.toUInt32.toInt32)), .val (.int (x1 &&& (15 : Int32))), .val (.int (own_hex ((x0 &&& (65535 : Int32)).toUInt32.toUInt16.toUInt32.toInt32))), .val (.int (own_hex (own_up (x1 &&& (15 : Int32))))), .val (.int (own_hex (own_lo (x1 &&& (15 : Int32))))), .val (.int (1 : Int32)), .unset] [(.int (own_hex ((x0 &&& (65535 : Int32)).toUInt32.toUInt16.toUInt32.toInt32)))])) _
        by_cases hc19 : (own_hex ((x0 &&& (65535 : Int32)).toUInt32.toUInt16.toUInt32.toInt32)) < (0 : Int32)
        · exfalso
          have k0 : (0 : Int32).toInt = 0 := rfl
          have k15 : (15 : Int32).toInt = 15 := rfl
          have kl := Int32.lt_iff_toInt_lt.mp hc19
          rcases own_hex_rng ((x0 &&& (65535 : Int32)).toUInt32.toUInt16.toUInt32.toInt32) with k | k
          · exact hc18 k
          · omega
        · refine Goes.to (fun _ k => XS.ifNo X15.here hx rfl (hb hby at_83) rfl ((if0 _ _).trans (flt hc19).1) k) ?_
          show Goes p.tables e below (T15.setTop (mkF m 86 #[.val (.int x0), .val (.int x1), .val (.ref a1), .val (.ref a3), .val (.int ((x0 &&& (65535 : Int32)).toUInt32.toUInt16.toUInt32.toInt32)), .val (.int (x1 &&& (15 : Int32))), .val (.int (own_hex ((x0 &&& (65535 : Int32)).toUInt32.toUInt16.toUInt32.toInt32))), .val (.int (own_hex (own_up (x1 &&& (15 : Int32))))), .val (.int (own_hex (own_lo (x1 &&& (15 : Int32))))), .val (.int (1 : Int32)), .unset] [])) _
          refine Goes.to (fun _ k => XS.iload X15.here hx rfl (hb hby at_86) rfl k) ?_
          show Goes p.tables e below (T15.setTop (mkF m 88 #[.val (.int x0), .val (.int x1), .val (.ref a1), .val (.ref a3), .val (.int ((x0 &&& (65535 : Int32)).toUInt32.toUInt16.toUInt32.toInt32)), .val (.int (x1 &&& (15 : Int32))), .val (.int (own_hex ((x0 &&& (65535 : Int32)).toUInt32.toUInt16.toUInt32.toInt32))), .val (.int (own_hex (own_up (x1 &&& (15 : Int32))))), .val (.int (own_hex (own_lo (x1 &&& (15 : Int32))))), .val (.int (1 : Int32)), .unset] [(.int (own_hex ((x0 &&& (65535 : Int32)).toUInt32.toUInt16.toUInt32.toInt32)))])) _
          refine Goes.to (fun _ k => XS.bipush X15.here hx rfl (hb hby at_88) k) ?_
          show Goes p.tables e below (T15.setTop (mkF m 90 #[.val (.int x0), .val (.int x1), .val (.ref a1), .val (.ref a3), .val (.int ((x0 &&& (65535 : Int32)).toUInt32.toUInt16.toUInt32.toInt32)), .val (.int (x1 &&& (15 : Int32))), .val (.int (own_hex ((x0 &&& (65535 : Int32)).toUInt32.toUInt16.toUInt32.toInt32))), .val (.int (own_hex (own_up (x1 &&& (15 : Int32))))), .val (.int (own_hex (own_lo (x1 &&& (15 : Int32))))), .val (.int (1 : Int32)), .unset] [(.int (15 : Int32)), (.int (own_hex ((x0 &&& (65535 : Int32)).toUInt32.toUInt16.toUInt32.toInt32)))])) _
          by_cases hc20 : (15 : Int32) < (own_hex ((x0 &&& (65535 : Int32)).toUInt32.toUInt16.toUInt32.toInt32))
          · exfalso
            have k0 : (0 : Int32).toInt = 0 := rfl
            have k15 : (15 : Int32).toInt = 15 := rfl
            have kl := Int32.lt_iff_toInt_lt.mp hc20
            rcases own_hex_rng ((x0 &&& (65535 : Int32)).toUInt32.toUInt16.toUInt32.toInt32) with k | k
            · exact hc18 k
            · omega
          · refine Goes.to (fun _ k => XS.icmpNo X15.here hx rfl (hb hby at_90) rfl (flt hc20).2.2.1 k) ?_
            show Goes p.tables e below (T15.setTop (mkF m 93 #[.val (.int x0), .val (.int x1), .val (.ref a1), .val (.ref a3), .val (.int ((x0 &&& (65535 : Int32)).toUInt32.toUInt16.toUInt32.toInt32)), .val (.int (x1 &&& (15 : Int32))), .val (.int (own_hex ((x0 &&& (65535 : Int32)).toUInt32.toUInt16.toUInt32.toInt32))), .val (.int (own_hex (own_up (x1 &&& (15 : Int32))))), .val (.int (own_hex (own_lo (x1 &&& (15 : Int32))))), .val (.int (1 : Int32)), .unset] [])) _
            refine Goes.to (fun _ k => XS.iload X15.here hx rfl (hb hby at_93) rfl k) ?_
            show Goes p.tables e below (T15.setTop (mkF m 95 #[.val (.int x0), .val (.int x1), .val (.ref a1), .val (.ref a3), .val (.int ((x0 &&& (65535 : Int32)).toUInt32.toUInt16.toUInt32.toInt32)), .val (.int (x1 &&& (15 : Int32))), .val (.int (own_hex ((x0 &&& (65535 : Int32)).toUInt32.toUInt16.toUInt32.toInt32))), .val (.int (own_hex (own_up (x1 &&& (15 : Int32))))), .val (.int (own_hex (own_lo (x1 &&& (15 : Int32))))), .val (.int (1 : Int32)), .unset] [(.int ((x0 &&& (65535 : Int32)).toUInt32.toUInt16.toUInt32.toInt32))])) _
            refine Goes.to (fun _ k => XS.aloadN X15.here hx rfl (hb hby at_95) rfl rfl k) ?_
            show Goes p.tables e below (T15.setTop (mkF m 96 #[.val (.int x0), .val (.int x1), .val (.ref a1), .val (.ref a3), .val (.int ((x0 &&& (65535 : Int32)).toUInt32.toUInt16.toUInt32.toInt32)), .val (.int (x1 &&& (15 : Int32))), .val (.int (own_hex ((x0 &&& (65535 : Int32)).toUInt32.toUInt16.toUInt32.toInt32))), .val (.int (own_hex (own_up (x1 &&& (15 : Int32))))), .val (.int (own_hex (own_lo (x1 &&& (15 : Int32))))), .val (.int (1 : Int32)), .unset] [(.ref a1), (.int ((x0 &&& (65535 : Int32)).toUInt32.toUInt16.toUInt32.toInt32))])) _
            refine Goes.to (fun _ k => XS.iload X15.here hx rfl (hb hby at_96) rfl k) ?_
            show Goes p.tables e below (T15.setTop (mkF m 98 #[.val (.int x0), .val (.int x1), .val (.ref a1), .val (.ref a3), .val (.int ((x0 &&& (65535 : Int32)).toUInt32.toUInt16.toUInt32.toInt32)), .val (.int (x1 &&& (15 : Int32))), .val (.int (own_hex ((x0 &&& (65535 : Int32)).toUInt32.toUInt16.toUInt32.toInt32))), .val (.int (own_hex (own_up (x1 &&& (15 : Int32))))), .val (.int (own_hex (own_lo (x1 &&& (15 : Int32))))), .val (.int (1 : Int32)), .unset] [(.int (own_hex ((x0 &&& (65535 : Int32)).toUInt32.toUInt16.toUInt32.toInt32))), (.ref a1), (.int ((x0 &&& (65535 : Int32)).toUInt32.toUInt16.toUInt32.toInt32))])) _
            have ji21 : 0 ≤ (own_hex ((x0 &&& (65535 : Int32)).toUInt32.toUInt16.toUInt32.toInt32)).toInt ∧ (own_hex ((x0 &&& (65535 : Int32)).toUInt32.toUInt16.toUInt32.toInt32)).toInt < 16 := by
              have k1 := rng32 cs
              have k2 : (0 : Int32).toInt = 0 := rfl
              have k3 : ¬ cs.toInt = (0 : Int32).toInt := fun z => hcs (Int32.toInt_inj.mp z)
              have k4 := rng32 (own_hex (own_up (x1 &&& (15 : Int32))))
              have k5 := rng32 x1
              have k6 : (x1 &&& (15 : Int32)).toInt = x1.toInt % 16 := c_mask x1 (15 : Int32) 4 (by decide) (by decide)
              have k7 : (own_hex (own_up (x1 &&& (15 : Int32)))).toInt = (x1 &&& (15 : Int32)).toInt := congrArg Int32.toInt hc16
              have k8 := rng32 (own_hex (own_lo (x1 &&& (15 : Int32))))
              have k9 : (own_hex (own_lo (x1 &&& (15 : Int32)))).toInt = (x1 &&& (15 : Int32)).toInt := congrArg Int32.toInt hc17
              have k10 := rng32 (own_hex ((x0 &&& (65535 : Int32)).toUInt32.toUInt16.toUInt32.toInt32))
              have k11 : (-1 : Int32).toInt = -1 := rfl
              have k12 : ¬ (own_hex ((x0 &&& (65535 : Int32)).toUInt32.toUInt16.toUInt32.toInt32)).toInt = (-1 : Int32).toInt := fun z => hc18 (Int32.toInt_inj.mp z)
              have k13 : ¬ (own_hex ((x0 &&& (65535 : Int32)).toUInt32.toUInt16.toUInt32.toInt32)).toInt < (0 : Int32).toInt := fun z => hc19 (Int32.lt_iff_toInt_lt.mpr z)
              have k14 : (15 : Int32).toInt = 15 := rfl
              have k15 : ¬ (15 : Int32).toInt < (own_hex ((x0 &&& (65535 : Int32)).toUInt32.toUInt16.toUInt32.toInt32)).toInt := fun z => hc20 (Int32.lt_iff_toInt_lt.mpr z)
              omega
            have z021 : (0 : Int32).toInt = 0 := rfl
            have z1621 : (16 : Int32).toInt = 16 := rfl
            have hl21 : ¬ ((own_hex ((x0 &&& (65535 : Int32)).toUInt32.toUInt16.toUInt32.toInt32)) < (0 : Int32)) := fun q => by have := Int32.lt_iff_toInt_lt.mp q; omega
            have hg21 : (own_hex ((x0 &&& (65535 : Int32)).toUInt32.toUInt16.toUInt32.toInt32)) < (16 : Int32) := Int32.lt_iff_toInt_lt.mpr (by omega)
            have hc21 := own_up_at (own_hex ((x0 &&& (65535 : Int32)).toUInt32.toUInt16.toUInt32.toInt32)) ji21.1 ji21.2
            obtain ⟨cq22, kq22, q22a, q22b, q22c⟩ := isOf hZ hp15_0 F5
            obtain ⟨_, _, ⟨T22, L22, k22, n22⟩, -, X22, ⟨Lc22, hQ22, l22, y22, z22⟩, st22⟩ := X15.virtualBack hx (y := (⟨"java/lang/String", "charAt", "(I)C"⟩ : MethodName)) (z := (⟨"java/lang/String", "charAt", "(I)C"⟩ : MethodName)) hown (mvT hZ (hw _ (List.mem_of_getElem? (i := 14) rfl))) (mvT hZ (hw _ (List.mem_of_getElem? (i := 15) rfl))) (notFace_of_selects (args := #[]) (mvT hZ (hw _ (List.mem_of_getElem? (i := 17) rfl)))) (mvT hZ (hw _ (List.mem_of_getElem? (i := 17) rfl))) (mvT hZ (hw _ (List.mem_of_getElem? (i := 16) rfl))) (by decide) (backOf (W := 1) (own_rm2 l Z a0 hw [] a1 (own_hex ((x0 &&& (65535 : Int32)).toUInt32.toUInt16.toUInt32.toInt32)) b1 k1 (16 : Int32) [(.int (48 : Int32)), (.int (49 : Int32)), (.int (50 : Int32)), (.int (51 : Int32)), (.int (52 : Int32)), (.int (53 : Int32)), (.int (54 : Int32)), (.int (55 : Int32)), (.int (56 : Int32)), (.int (57 : Int32)), (.int (65 : Int32)), (.int (66 : Int32)), (.int (67 : Int32)), (.int (68 : Int32)), (.int (69 : Int32)), (.int (70 : Int32))] (own_up (own_hex ((x0 &&& (65535 : Int32)).toUInt32.toUInt16.toUInt32.toInt32))) cs fm T3.heap n0 Z3 F5 F6 F7 F8 (SC.ext O4.2) hcs (SF.ext O4.2) hfm hl21 hg21 hc21.1) hZ (hw _ (List.mem_of_getElem? (i := 18) rfl)) (hw _ (List.mem_of_getElem? (i := 1) rfl)) (by decide) (by decide)) q22a q22c (g := (mkF m 98 #[.val (.int x0), .val (.int x1), .val (.ref a1), .val (.ref a3), .val (.int ((x0 &&& (65535 : Int32)).toUInt32.toUInt16.toUInt32.toInt32)), .val (.int (x1 &&& (15 : Int32))), .val (.int (own_hex ((x0 &&& (65535 : Int32)).toUInt32.toUInt16.toUInt32.toInt32))), .val (.int (own_hex (own_up (x1 &&& (15 : Int32))))), .val (.int (own_hex (own_lo (x1 &&& (15 : Int32))))), .val (.int (1 : Int32)), .unset] [(.int (own_hex ((x0 &&& (65535 : Int32)).toUInt32.toUInt16.toUInt32.toInt32))), (.ref a1), (.int ((x0 &&& (65535 : Int32)).toUInt32.toUInt16.toUInt32.toInt32))])) rfl (by rw [hml]; rfl) (Steps.refl _) (argsL := [(.int (own_hex ((x0 &&& (65535 : Int32)).toUInt32.toUInt16.toUInt32.toInt32)))]) (rest := [(.int ((x0 &&& (65535 : Int32)).toUInt32.toUInt16.toUInt32.toInt32))]) (lenOf own_pd_pIqC rfl) rfl (by show 2 * 0 + _ ≤ _; exact Nat.le_of_eq rfl) (hb hby at_98) (fun _ _ => ⟨rfl, hp15_0, (by decide : 4 + 0 ≤ _), (by decide : 136 + 0 ≤ _)⟩)
            dsimp only [Pt.U, Pt.locs, Pt.cells, Pt.slots] at X22 l22 y22 z22 st22 hQ22
            subst l22 y22 z22
            obtain ⟨hv22, Nq22, hp22_0⟩ := hQ22
            have N22 := Fr.app N15 Nq22
            rw [hc21.2] at hv22
            subst hv22
            refine Goes.tr st22 ?_
            show Goes p.tables e below (T22.setTop (mkF m 101 #[.val (.int x0), .val (.int x1), .val (.ref a1), .val (.ref a3), .val (.int ((x0 &&& (65535 : Int32)).toUInt32.toUInt16.toUInt32.toInt32)), .val (.int (x1 &&& (15 : Int32))), .val (.int (own_hex ((x0 &&& (65535 : Int32)).toUInt32.toUInt16.toUInt32.toInt32))), .val (.int (own_hex (own_up (x1 &&& (15 : Int32))))), .val (.int (own_hex (own_lo (x1 &&& (15 : Int32))))), .val (.int (1 : Int32)), .unset] [(.int (own_up (own_hex ((x0 &&& (65535 : Int32)).toUInt32.toUInt16.toUInt32.toInt32)))), (.int ((x0 &&& (65535 : Int32)).toUInt32.toUInt16.toUInt32.toInt32))])) _
            by_cases hc23 : ((x0 &&& (65535 : Int32)).toUInt32.toUInt16.toUInt32.toInt32) = (own_up (own_hex ((x0 &&& (65535 : Int32)).toUInt32.toUInt16.toUInt32.toInt32)))
            · refine Goes.to (fun _ k => XS.icmpYes X22.here hx rfl (pc0 := 101) (pc' := 115) rfl (hb hby at_101) rfl (teq hc23).1 (by decide) (by decide) k) ?_
              show Goes p.tables e below (T22.setTop (mkF m 115 #[.val (.int x0), .val (.int x1), .val (.ref a1), .val (.ref a3), .val (.int ((x0 &&& (65535 : Int32)).toUInt32.toUInt16.toUInt32.toInt32)), .val (.int (x1 &&& (15 : Int32))), .val (.int (own_hex ((x0 &&& (65535 : Int32)).toUInt32.toUInt16.toUInt32.toInt32))), .val (.int (own_hex (own_up (x1 &&& (15 : Int32))))), .val (.int (own_hex (own_lo (x1 &&& (15 : Int32))))), .val (.int (1 : Int32)), .unset] [])) _
              refine Goes.to (fun _ k => XS.iconst X22.here hx rfl (hb hby at_115) k) ?_
              show Goes p.tables e below (T22.setTop (mkF m 116 #[.val (.int x0), .val (.int x1), .val (.ref a1), .val (.ref a3), .val (.int ((x0 &&& (65535 : Int32)).toUInt32.toUInt16.toUInt32.toInt32)), .val (.int (x1 &&& (15 : Int32))), .val (.int (own_hex ((x0 &&& (65535 : Int32)).toUInt32.toUInt16.toUInt32.toInt32))), .val (.int (own_hex (own_up (x1 &&& (15 : Int32))))), .val (.int (own_hex (own_lo (x1 &&& (15 : Int32))))), .val (.int (1 : Int32)), .unset] [(.int (1 : Int32))])) _
              refine Goes.to (fun _ k => XS.goto X22.here hx rfl (pc0 := 116) (pc' := 120) rfl (hb hby at_116) (by decide) (by decide) k) ?_
              show Goes p.tables e below (T22.setTop (mkF m 120 #[.val (.int x0), .val (.int x1), .val (.ref a1), .val (.ref a3), .val (.int ((x0 &&& (65535 : Int32)).toUInt32.toUInt16.toUInt32.toInt32)), .val (.int (x1 &&& (15 : Int32))), .val (.int (own_hex ((x0 &&& (65535 : Int32)).toUInt32.toUInt16.toUInt32.toInt32))), .val (.int (own_hex (own_up (x1 &&& (15 : Int32))))), .val (.int (own_hex (own_lo (x1 &&& (15 : Int32))))), .val (.int (1 : Int32)), .unset] [(.int (1 : Int32))])) _
              refine Goes.to (fun _ k => XS.istore X22.here hx rfl (hb hby at_120) rfl (l' := #[.val (.int x0), .val (.int x1), .val (.ref a1), .val (.ref a3), .val (.int ((x0 &&& (65535 : Int32)).toUInt32.toUInt16.toUInt32.toInt32)), .val (.int (x1 &&& (15 : Int32))), .val (.int (own_hex ((x0 &&& (65535 : Int32)).toUInt32.toUInt16.toUInt32.toInt32))), .val (.int (own_hex (own_up (x1 &&& (15 : Int32))))), .val (.int (own_hex (own_lo (x1 &&& (15 : Int32))))), .val (.int (1 : Int32)), .val (.int (1 : Int32))]) rfl k) ?_
              show Goes p.tables e below (T22.setTop (mkF m 122 #[.val (.int x0), .val (.int x1), .val (.ref a1), .val (.ref a3), .val (.int ((x0 &&& (65535 : Int32)).toUInt32.toUInt16.toUInt32.toInt32)), .val (.int (x1 &&& (15 : Int32))), .val (.int (own_hex ((x0 &&& (65535 : Int32)).toUInt32.toUInt16.toUInt32.toInt32))), .val (.int (own_hex (own_up (x1 &&& (15 : Int32))))), .val (.int (own_hex (own_lo (x1 &&& (15 : Int32))))), .val (.int (1 : Int32)), .val (.int (1 : Int32))] [])) _
              refine Goes.to (fun _ k => XS.goto X22.here hx rfl (pc0 := 122) (pc' := 128) rfl (hb hby at_122) (by decide) (by decide) k) ?_
              show Goes p.tables e below (T22.setTop (mkF m 128 #[.val (.int x0), .val (.int x1), .val (.ref a1), .val (.ref a3), .val (.int ((x0 &&& (65535 : Int32)).toUInt32.toUInt16.toUInt32.toInt32)), .val (.int (x1 &&& (15 : Int32))), .val (.int (own_hex ((x0 &&& (65535 : Int32)).toUInt32.toUInt16.toUInt32.toInt32))), .val (.int (own_hex (own_up (x1 &&& (15 : Int32))))), .val (.int (own_hex (own_lo (x1 &&& (15 : Int32))))), .val (.int (1 : Int32)), .val (.int (1 : Int32))] [])) _
              refine Goes.to (fun _ k => XS.iload X22.here hx rfl (hb hby at_128) rfl k) ?_
              show Goes p.tables e below (T22.setTop (mkF m 130 #[.val (.int x0), .val (.int x1), .val (.ref a1), .val (.ref a3), .val (.int ((x0 &&& (65535 : Int32)).toUInt32.toUInt16.toUInt32.toInt32)), .val (.int (x1 &&& (15 : Int32))), .val (.int (own_hex ((x0 &&& (65535 : Int32)).toUInt32.toUInt16.toUInt32.toInt32))), .val (.int (own_hex (own_up (x1 &&& (15 : Int32))))), .val (.int (own_hex (own_lo (x1 &&& (15 : Int32))))), .val (.int (1 : Int32)), .val (.int (1 : Int32))] [(.int (1 : Int32))])) _
              refine Goes.to (fun _ k => XS.ifNo X22.here hx rfl (hb hby at_130) rfl ((if0 _ _).trans (feq (by decide : ¬ ((1 : Int32) = (0 : Int32)))).1) k) ?_
              show Goes p.tables e below (T22.setTop (mkF m 133 #[.val (.int x0), .val (.int x1), .val (.ref a1), .val (.ref a3), .val (.int ((x0 &&& (65535 : Int32)).toUInt32.toUInt16.toUInt32.toInt32)), .val (.int (x1 &&& (15 : Int32))), .val (.int (own_hex ((x0 &&& (65535 : Int32)).toUInt32.toUInt16.toUInt32.toInt32))), .val (.int (own_hex (own_up (x1 &&& (15 : Int32))))), .val (.int (own_hex (own_lo (x1 &&& (15 : Int32))))), .val (.int (1 : Int32)), .val (.int (1 : Int32))] [])) _
              refine Goes.to (fun _ k => XS.iload X22.here hx rfl (hb hby at_133) rfl k) ?_
              show Goes p.tables e below (T22.setTop (mkF m 135 #[.val (.int x0), .val (.int x1), .val (.ref a1), .val (.ref a3), .val (.int ((x0 &&& (65535 : Int32)).toUInt32.toUInt16.toUInt32.toInt32)), .val (.int (x1 &&& (15 : Int32))), .val (.int (own_hex ((x0 &&& (65535 : Int32)).toUInt32.toUInt16.toUInt32.toInt32))), .val (.int (own_hex (own_up (x1 &&& (15 : Int32))))), .val (.int (own_hex (own_lo (x1 &&& (15 : Int32))))), .val (.int (1 : Int32)), .val (.int (1 : Int32))] [(.int (1 : Int32))])) _
              refine Goes.to (fun _ k => XS.ifNo X22.here hx rfl (hb hby at_135) rfl ((if0 _ _).trans (feq (by decide : ¬ ((1 : Int32) = (0 : Int32)))).1) k) ?_
              show Goes p.tables e below (T22.setTop (mkF m 138 #[.val (.int x0), .val (.int x1), .val (.ref a1), .val (.ref a3), .val (.int ((x0 &&& (65535 : Int32)).toUInt32.toUInt16.toUInt32.toInt32)), .val (.int (x1 &&& (15 : Int32))), .val (.int (own_hex ((x0 &&& (65535 : Int32)).toUInt32.toUInt16.toUInt32.toInt32))), .val (.int (own_hex (own_up (x1 &&& (15 : Int32))))), .val (.int (own_hex (own_lo (x1 &&& (15 : Int32))))), .val (.int (1 : Int32)), .val (.int (1 : Int32))] [])) _
              refine Goes.to (fun _ k => XS.iconst X22.here hx rfl (hb hby at_138) k) ?_
              show Goes p.tables e below (T22.setTop (mkF m 139 #[.val (.int x0), .val (.int x1), .val (.ref a1), .val (.ref a3), .val (.int ((x0 &&& (65535 : Int32)).toUInt32.toUInt16.toUInt32.toInt32)), .val (.int (x1 &&& (15 : Int32))), .val (.int (own_hex ((x0 &&& (65535 : Int32)).toUInt32.toUInt16.toUInt32.toInt32))), .val (.int (own_hex (own_up (x1 &&& (15 : Int32))))), .val (.int (own_hex (own_lo (x1 &&& (15 : Int32))))), .val (.int (1 : Int32)), .val (.int (1 : Int32))] [(.int (1 : Int32))])) _
              refine Goes.to (fun _ k => XS.goto X22.here hx rfl (pc0 := 139) (pc' := 143) rfl (hb hby at_139) (by decide) (by decide) k) ?_
              show Goes p.tables e below (T22.setTop (mkF m 143 #[.val (.int x0), .val (.int x1), .val (.ref a1), .val (.ref a3), .val (.int ((x0 &&& (65535 : Int32)).toUInt32.toUInt16.toUInt32.toInt32)), .val (.int (x1 &&& (15 : Int32))), .val (.int (own_hex ((x0 &&& (65535 : Int32)).toUInt32.toUInt16.toUInt32.toInt32))), .val (.int (own_hex (own_up (x1 &&& (15 : Int32))))), .val (.int (own_hex (own_lo (x1 &&& (15 : Int32))))), .val (.int (1 : Int32)), .val (.int (1 : Int32))] [(.int (1 : Int32))])) _
              obtain ⟨fs, hr, hrun, hended, hEnd⟩ := X22.leaveW (s := s) hS3 (Nat.le_trans hk3 (Nat.le_of_eq (congrArg Array.size (hp22_0).symm))) (v := some (.int (1 : Int32))) (fun h => by rw [Bd.returns] at h; cases h)
              have hv : (some (.int (1 : Int32)) : Option Value) = some (.int (1 : Int32)) := by
                rfl
              exact ⟨_, _, retN X22 hx (t := .boolean) Bd.returns (by simp) (hb hby at_143) hr, hrun, hended, _, _, rfl, ⟨hv, N22⟩, hEnd.1, hEnd.2.1, hEnd.2.2.1, hEnd.2.2.2.mono (by decide) (by decide)⟩
            · refine Goes.to (fun _ k => XS.icmpNo X22.here hx rfl (hb hby at_101) rfl (feq hc23).1 k) ?_
              show Goes p.tables e below (T22.setTop (mkF m 104 #[.val (.int x0), .val (.int x1), .val (.ref a1), .val (.ref a3), .val (.int ((x0 &&& (65535 : Int32)).toUInt32.toUInt16.toUInt32.toInt32)), .val (.int (x1 &&& (15 : Int32))), .val (.int (own_hex ((x0 &&& (65535 : Int32)).toUInt32.toUInt16.toUInt32.toInt32))), .val (.int (own_hex (own_up (x1 &&& (15 : Int32))))), .val (.int (own_hex (own_lo (x1 &&& (15 : Int32))))), .val (.int (1 : Int32)), .unset] [])) _
              refine Goes.to (fun _ k => XS.iload X22.here hx rfl (hb hby at_104) rfl k) ?_
              show Goes p.tables e below (T22.setTop (mkF m 106 #[.val (.int x0), .val (.int x1), .val (.ref a1), .val (.ref a3), .val (.int ((x0 &&& (65535 : Int32)).toUInt32.toUInt16.toUInt32.toInt32)), .val (.int (x1 &&& (15 : Int32))), .val (.int (own_hex ((x0 &&& (65535 : Int32)).toUInt32.toUInt16.toUInt32.toInt32))), .val (.int (own_hex (own_up (x1 &&& (15 : Int32))))), .val (.int (own_hex (own_lo (x1 &&& (15 : Int32))))), .val (.int (1 : Int32)), .unset] [(.int ((x0 &&& (65535 : Int32)).toUInt32.toUInt16.toUInt32.toInt32))])) _
              refine Goes.to (fun _ k => XS.aloadN X22.here hx rfl (hb hby at_106) rfl rfl k) ?_
              show Goes p.tables e below (T22.setTop (mkF m 107 #[.val (.int x0), .val (.int x1), .val (.ref a1), .val (.ref a3), .val (.int ((x0 &&& (65535 : Int32)).toUInt32.toUInt16.toUInt32.toInt32)), .val (.int (x1 &&& (15 : Int32))), .val (.int (own_hex ((x0 &&& (65535 : Int32)).toUInt32.toUInt16.toUInt32.toInt32))), .val (.int (own_hex (own_up (x1 &&& (15 : Int32))))), .val (.int (own_hex (own_lo (x1 &&& (15 : Int32))))), .val (.int (1 : Int32)), .unset] [(.ref a3), (.int ((x0 &&& (65535 : Int32)).toUInt32.toUInt16.toUInt32.toInt32))])) _
              refine Goes.to (fun _ k => XS.iload X22.here hx rfl (hb hby at_107) rfl k) ?_
              show Goes p.tables e below (T22.setTop (mkF m 109 #[.val (.int x0), .val (.int x1), .val (.ref a1), .val (.ref a3), .val (.int ((x0 &&& (65535 : Int32)).toUInt32.toUInt16.toUInt32.toInt32)), .val (.int (x1 &&& (15 : Int32))), .val (.int (own_hex ((x0 &&& (65535 : Int32)).toUInt32.toUInt16.toUInt32.toInt32))), .val (.int (own_hex (own_up (x1 &&& (15 : Int32))))), .val (.int (own_hex (own_lo (x1 &&& (15 : Int32))))), .val (.int (1 : Int32)), .unset] [(.int (own_hex ((x0 &&& (65535 : Int32)).toUInt32.toUInt16.toUInt32.toInt32))), (.ref a3), (.int ((x0 &&& (65535 : Int32)).toUInt32.toUInt16.toUInt32.toInt32))])) _
              have ji24 : 0 ≤ (own_hex ((x0 &&& (65535 : Int32)).toUInt32.toUInt16.toUInt32.toInt32)).toInt ∧ (own_hex ((x0 &&& (65535 : Int32)).toUInt32.toUInt16.toUInt32.toInt32)).toInt < 16 := by
                have k1 := rng32 cs
                have k2 : (0 : Int32).toInt = 0 := rfl
                have k3 : ¬ cs.toInt = (0 : Int32).toInt := fun z => hcs (Int32.toInt_inj.mp z)
                have k4 := rng32 (own_hex (own_up (x1 &&& (15 : Int32))))
                have k5 := rng32 x1
                have k6 : (x1 &&& (15 : Int32)).toInt = x1.toInt % 16 := c_mask x1 (15 : Int32) 4 (by decide) (by decide)
                have k7 : (own_hex (own_up (x1 &&& (15 : Int32)))).toInt = (x1 &&& (15 : Int32)).toInt := congrArg Int32.toInt hc16
                have k8 := rng32 (own_hex (own_lo (x1 &&& (15 : Int32))))
                have k9 : (own_hex (own_lo (x1 &&& (15 : Int32)))).toInt = (x1 &&& (15 : Int32)).toInt := congrArg Int32.toInt hc17
                have k10 := rng32 (own_hex ((x0 &&& (65535 : Int32)).toUInt32.toUInt16.toUInt32.toInt32))
                have k11 : (-1 : Int32).toInt = -1 := rfl
                have k12 : ¬ (own_hex ((x0 &&& (65535 : Int32)).toUInt32.toUInt16.toUInt32.toInt32)).toInt = (-1 : Int32).toInt := fun z => hc18 (Int32.toInt_inj.mp z)
                have k13 : ¬ (own_hex ((x0 &&& (65535 : Int32)).toUInt32.toUInt16.toUInt32.toInt32)).toInt < (0 : Int32).toInt := fun z => hc19 (Int32.lt_iff_toInt_lt.mpr z)
                have k14 : (15 : Int32).toInt = 15 := rfl
                have k15 : ¬ (15 : Int32).toInt < (own_hex ((x0 &&& (65535 : Int32)).toUInt32.toUInt16.toUInt32.toInt32)).toInt := fun z => hc20 (Int32.lt_iff_toInt_lt.mpr z)
                have k16 := rng32 x0
                have k17 : (x0 &&& (65535 : Int32)).toInt = x0.toInt % 65536 := c_mask x0 (65535 : Int32) 16 (by decide) (by decide)
                have k18 := c_i2c (x0 &&& (65535 : Int32))
                have k19 := rng32 (own_up (own_hex ((x0 &&& (65535 : Int32)).toUInt32.toUInt16.toUInt32.toInt32)))
                have k20 : ¬ ((x0 &&& (65535 : Int32)).toUInt32.toUInt16.toUInt32.toInt32).toInt = (own_up (own_hex ((x0 &&& (65535 : Int32)).toUInt32.toUInt16.toUInt32.toInt32))).toInt := fun z => hc23 (Int32.toInt_inj.mp z)
                omega
              have z024 : (0 : Int32).toInt = 0 := rfl
              have z1624 : (16 : Int32).toInt = 16 := rfl
              have hl24 : ¬ ((own_hex ((x0 &&& (65535 : Int32)).toUInt32.toUInt16.toUInt32.toInt32)) < (0 : Int32)) := fun q => by have := Int32.lt_iff_toInt_lt.mp q; omega
              have hg24 : (own_hex ((x0 &&& (65535 : Int32)).toUInt32.toUInt16.toUInt32.toInt32)) < (16 : Int32) := Int32.lt_iff_toInt_lt.mpr (by omega)
              have hc24 := own_lo_at (own_hex ((x0 &&& (65535 : Int32)).toUInt32.toUInt16.toUInt32.toInt32)) ji24.1 ji24.2
              obtain ⟨cq25, kq25, q25a, q25b, q25c⟩ := isOf hZ hp22_0 A3
              obtain ⟨_, _, ⟨T25, L25, k25, n25⟩, -, X25, ⟨Lc25, hQ25, l25, y25, z25⟩, st25⟩ := X22.virtualBack hx (y := (⟨"java/lang/String", "charAt", "(I)C"⟩ : MethodName)) (z := (⟨"java/lang/String", "charAt", "(I)C"⟩ : MethodName)) hown (mvT hZ (hw _ (List.mem_of_getElem? (i := 14) rfl))) (mvT hZ (hw _ (List.mem_of_getElem? (i := 15) rfl))) (notFace_of_selects (args := #[]) (mvT hZ (hw _ (List.mem_of_getElem? (i := 17) rfl)))) (mvT hZ (hw _ (List.mem_of_getElem? (i := 17) rfl))) (mvT hZ (hw _ (List.mem_of_getElem? (i := 16) rfl))) (by decide) (backOf (W := 1) (own_rm2 l Z a0 hw [] a3 (own_hex ((x0 &&& (65535 : Int32)).toUInt32.toUInt16.toUInt32.toInt32)) b3 k3 (16 : Int32) [(.int (48 : Int32)), (.int (49 : Int32)), (.int (50 : Int32)), (.int (51 : Int32)), (.int (52 : Int32)), (.int (53 : Int32)), (.int (54 : Int32)), (.int (55 : Int32)), (.int (56 : Int32)), (.int (57 : Int32)), (.int (97 : Int32)), (.int (98 : Int32)), (.int (99 : Int32)), (.int (100 : Int32)), (.int (101 : Int32)), (.int (102 : Int32))] (own_lo (own_hex ((x0 &&& (65535 : Int32)).toUInt32.toUInt16.toUInt32.toInt32))) cs fm T3.heap n0 Z3 A3 C3 V3 W3 (SC.ext O4.2) hcs (SF.ext O4.2) hfm hl24 hg24 hc24.1) hZ (hw _ (List.mem_of_getElem? (i := 18) rfl)) (hw _ (List.mem_of_getElem? (i := 1) rfl)) (by decide) (by decide)) q25a q25c (g := (mkF m 109 #[.val (.int x0), .val (.int x1), .val (.ref a1), .val (.ref a3), .val (.int ((x0 &&& (65535 : Int32)).toUInt32.toUInt16.toUInt32.toInt32)), .val (.int (x1 &&& (15 : Int32))), .val (.int (own_hex ((x0 &&& (65535 : Int32)).toUInt32.toUInt16.toUInt32.toInt32))), .val (.int (own_hex (own_up (x1 &&& (15 : Int32))))), .val (.int (own_hex (own_lo (x1 &&& (15 : Int32))))), .val (.int (1 : Int32)), .unset] [(.int (own_hex ((x0 &&& (65535 : Int32)).toUInt32.toUInt16.toUInt32.toInt32))), (.ref a3), (.int ((x0 &&& (65535 : Int32)).toUInt32.toUInt16.toUInt32.toInt32))])) rfl (by rw [hml]; rfl) (Steps.refl _) (argsL := [(.int (own_hex ((x0 &&& (65535 : Int32)).toUInt32.toUInt16.toUInt32.toInt32)))]) (rest := [(.int ((x0 &&& (65535 : Int32)).toUInt32.toUInt16.toUInt32.toInt32))]) (lenOf own_pd_pIqC rfl) rfl (by show 2 * 0 + _ ≤ _; exact Nat.le_of_eq rfl) (hb hby at_109) (fun _ _ => ⟨rfl, hp22_0, (by decide : 4 + 0 ≤ _), (by decide : 136 + 0 ≤ _)⟩)
              dsimp only [Pt.U, Pt.locs, Pt.cells, Pt.slots] at X25 l25 y25 z25 st25 hQ25
              subst l25 y25 z25
              obtain ⟨hv25, Nq25, hp25_0⟩ := hQ25
              have N25 := Fr.app N22 Nq25
              rw [hc24.2] at hv25
              subst hv25
              refine Goes.tr st25 ?_
              show Goes p.tables e below (T25.setTop (mkF m 112 #[.val (.int x0), .val (.int x1), .val (.ref a1), .val (.ref a3), .val (.int ((x0 &&& (65535 : Int32)).toUInt32.toUInt16.toUInt32.toInt32)), .val (.int (x1 &&& (15 : Int32))), .val (.int (own_hex ((x0 &&& (65535 : Int32)).toUInt32.toUInt16.toUInt32.toInt32))), .val (.int (own_hex (own_up (x1 &&& (15 : Int32))))), .val (.int (own_hex (own_lo (x1 &&& (15 : Int32))))), .val (.int (1 : Int32)), .unset] [(.int (own_lo (own_hex ((x0 &&& (65535 : Int32)).toUInt32.toUInt16.toUInt32.toInt32)))), (.int ((x0 &&& (65535 : Int32)).toUInt32.toUInt16.toUInt32.toInt32))])) _
              by_cases hc26 : ((x0 &&& (65535 : Int32)).toUInt32.toUInt16.toUInt32.toInt32) = (own_lo (own_hex ((x0 &&& (65535 : Int32)).toUInt32.toUInt16.toUInt32.toInt32)))
              · refine Goes.to (fun _ k => XS.icmpNo X25.here hx rfl (hb hby at_112) rfl (teq hc26).2 k) ?_
                show Goes p.tables e below (T25.setTop (mkF m 115 #[.val (.int x0), .val (.int x1), .val (.ref a1), .val (.ref a3), .val (.int ((x0 &&& (65535 : Int32)).toUInt32.toUInt16.toUInt32.toInt32)), .val (.int (x1 &&& (15 : Int32))), .val (.int (own_hex ((x0 &&& (65535 : Int32)).toUInt32.toUInt16.toUInt32.toInt32))), .val (.int (own_hex (own_up (x1 &&& (15 : Int32))))), .val (.int (own_hex (own_lo (x1 &&& (15 : Int32))))), .val (.int (1 : Int32)), .unset] [])) _
                refine Goes.to (fun _ k => XS.iconst X25.here hx rfl (hb hby at_115) k) ?_
                show Goes p.tables e below (T25.setTop (mkF m 116 #[.val (.int x0), .val (.int x1), .val (.ref a1), .val (.ref a3), .val (.int ((x0 &&& (65535 : Int32)).toUInt32.toUInt16.toUInt32.toInt32)), .val (.int (x1 &&& (15 : Int32))), .val (.int (own_hex ((x0 &&& (65535 : Int32)).toUInt32.toUInt16.toUInt32.toInt32))), .val (.int (own_hex (own_up (x1 &&& (15 : Int32))))), .val (.int (own_hex (own_lo (x1 &&& (15 : Int32))))), .val (.int (1 : Int32)), .unset] [(.int (1 : Int32))])) _
                refine Goes.to (fun _ k => XS.goto X25.here hx rfl (pc0 := 116) (pc' := 120) rfl (hb hby at_116) (by decide) (by decide) k) ?_
                show Goes p.tables e below (T25.setTop (mkF m 120 #[.val (.int x0), .val (.int x1), .val (.ref a1), .val (.ref a3), .val (.int ((x0 &&& (65535 : Int32)).toUInt32.toUInt16.toUInt32.toInt32)), .val (.int (x1 &&& (15 : Int32))), .val (.int (own_hex ((x0 &&& (65535 : Int32)).toUInt32.toUInt16.toUInt32.toInt32))), .val (.int (own_hex (own_up (x1 &&& (15 : Int32))))), .val (.int (own_hex (own_lo (x1 &&& (15 : Int32))))), .val (.int (1 : Int32)), .unset] [(.int (1 : Int32))])) _
                refine Goes.to (fun _ k => XS.istore X25.here hx rfl (hb hby at_120) rfl (l' := #[.val (.int x0), .val (.int x1), .val (.ref a1), .val (.ref a3), .val (.int ((x0 &&& (65535 : Int32)).toUInt32.toUInt16.toUInt32.toInt32)), .val (.int (x1 &&& (15 : Int32))), .val (.int (own_hex ((x0 &&& (65535 : Int32)).toUInt32.toUInt16.toUInt32.toInt32))), .val (.int (own_hex (own_up (x1 &&& (15 : Int32))))), .val (.int (own_hex (own_lo (x1 &&& (15 : Int32))))), .val (.int (1 : Int32)), .val (.int (1 : Int32))]) rfl k) ?_
                show Goes p.tables e below (T25.setTop (mkF m 122 #[.val (.int x0), .val (.int x1), .val (.ref a1), .val (.ref a3), .val (.int ((x0 &&& (65535 : Int32)).toUInt32.toUInt16.toUInt32.toInt32)), .val (.int (x1 &&& (15 : Int32))), .val (.int (own_hex ((x0 &&& (65535 : Int32)).toUInt32.toUInt16.toUInt32.toInt32))), .val (.int (own_hex (own_up (x1 &&& (15 : Int32))))), .val (.int (own_hex (own_lo (x1 &&& (15 : Int32))))), .val (.int (1 : Int32)), .val (.int (1 : Int32))] [])) _
                refine Goes.to (fun _ k => XS.goto X25.here hx rfl (pc0 := 122) (pc' := 128) rfl (hb hby at_122) (by decide) (by decide) k) ?_
                show Goes p.tables e below (T25.setTop (mkF m 128 #[.val (.int x0), .val (.int x1), .val (.ref a1), .val (.ref a3), .val (.int ((x0 &&& (65535 : Int32)).toUInt32.toUInt16.toUInt32.toInt32)), .val (.int (x1 &&& (15 : Int32))), .val (.int (own_hex ((x0 &&& (65535 : Int32)).toUInt32.toUInt16.toUInt32.toInt32))), .val (.int (own_hex (own_up (x1 &&& (15 : Int32))))), .val (.int (own_hex (own_lo (x1 &&& (15 : Int32))))), .val (.int (1 : Int32)), .val (.int (1 : Int32))] [])) _
                refine Goes.to (fun _ k => XS.iload X25.here hx rfl (hb hby at_128) rfl k) ?_
                show Goes p.tables e below (T25.setTop (mkF m 130 #[.val (.int x0), .val (.int x1), .val (.ref a1), .val (.ref a3), .val (.int ((x0 &&& (65535 : Int32)).toUInt32.toUInt16.toUInt32.toInt32)), .val (.int (x1 &&& (15 : Int32))), .val (.int (own_hex ((x0 &&& (65535 : Int32)).toUInt32.toUInt16.toUInt32.toInt32))), .val (.int (own_hex (own_up (x1 &&& (15 : Int32))))), .val (.int (own_hex (own_lo (x1 &&& (15 : Int32))))), .val (.int (1 : Int32)), .val (.int (1 : Int32))] [(.int (1 : Int32))])) _
                refine Goes.to (fun _ k => XS.ifNo X25.here hx rfl (hb hby at_130) rfl ((if0 _ _).trans (feq (by decide : ¬ ((1 : Int32) = (0 : Int32)))).1) k) ?_
                show Goes p.tables e below (T25.setTop (mkF m 133 #[.val (.int x0), .val (.int x1), .val (.ref a1), .val (.ref a3), .val (.int ((x0 &&& (65535 : Int32)).toUInt32.toUInt16.toUInt32.toInt32)), .val (.int (x1 &&& (15 : Int32))), .val (.int (own_hex ((x0 &&& (65535 : Int32)).toUInt32.toUInt16.toUInt32.toInt32))), .val (.int (own_hex (own_up (x1 &&& (15 : Int32))))), .val (.int (own_hex (own_lo (x1 &&& (15 : Int32))))), .val (.int (1 : Int32)), .val (.int (1 : Int32))] [])) _
                refine Goes.to (fun _ k => XS.iload X25.here hx rfl (hb hby at_133) rfl k) ?_
                show Goes p.tables e below (T25.setTop (mkF m 135 #[.val (.int x0), .val (.int x1), .val (.ref a1), .val (.ref a3), .val (.int ((x0 &&& (65535 : Int32)).toUInt32.toUInt16.toUInt32.toInt32)), .val (.int (x1 &&& (15 : Int32))), .val (.int (own_hex ((x0 &&& (65535 : Int32)).toUInt32.toUInt16.toUInt32.toInt32))), .val (.int (own_hex (own_up (x1 &&& (15 : Int32))))), .val (.int (own_hex (own_lo (x1 &&& (15 : Int32))))), .val (.int (1 : Int32)), .val (.int (1 : Int32))] [(.int (1 : Int32))])) _
                refine Goes.to (fun _ k => XS.ifNo X25.here hx rfl (hb hby at_135) rfl ((if0 _ _).trans (feq (by decide : ¬ ((1 : Int32) = (0 : Int32)))).1) k) ?_
                show Goes p.tables e below (T25.setTop (mkF m 138 #[.val (.int x0), .val (.int x1), .val (.ref a1), .val (.ref a3), .val (.int ((x0 &&& (65535 : Int32)).toUInt32.toUInt16.toUInt32.toInt32)), .val (.int (x1 &&& (15 : Int32))), .val (.int (own_hex ((x0 &&& (65535 : Int32)).toUInt32.toUInt16.toUInt32.toInt32))), .val (.int (own_hex (own_up (x1 &&& (15 : Int32))))), .val (.int (own_hex (own_lo (x1 &&& (15 : Int32))))), .val (.int (1 : Int32)), .val (.int (1 : Int32))] [])) _
                refine Goes.to (fun _ k => XS.iconst X25.here hx rfl (hb hby at_138) k) ?_
                show Goes p.tables e below (T25.setTop (mkF m 139 #[.val (.int x0), .val (.int x1), .val (.ref a1), .val (.ref a3), .val (.int ((x0 &&& (65535 : Int32)).toUInt32.toUInt16.toUInt32.toInt32)), .val (.int (x1 &&& (15 : Int32))), .val (.int (own_hex ((x0 &&& (65535 : Int32)).toUInt32.toUInt16.toUInt32.toInt32))), .val (.int (own_hex (own_up (x1 &&& (15 : Int32))))), .val (.int (own_hex (own_lo (x1 &&& (15 : Int32))))), .val (.int (1 : Int32)), .val (.int (1 : Int32))] [(.int (1 : Int32))])) _
                refine Goes.to (fun _ k => XS.goto X25.here hx rfl (pc0 := 139) (pc' := 143) rfl (hb hby at_139) (by decide) (by decide) k) ?_
                show Goes p.tables e below (T25.setTop (mkF m 143 #[.val (.int x0), .val (.int x1), .val (.ref a1), .val (.ref a3), .val (.int ((x0 &&& (65535 : Int32)).toUInt32.toUInt16.toUInt32.toInt32)), .val (.int (x1 &&& (15 : Int32))), .val (.int (own_hex ((x0 &&& (65535 : Int32)).toUInt32.toUInt16.toUInt32.toInt32))), .val (.int (own_hex (own_up (x1 &&& (15 : Int32))))), .val (.int (own_hex (own_lo (x1 &&& (15 : Int32))))), .val (.int (1 : Int32)), .val (.int (1 : Int32))] [(.int (1 : Int32))])) _
                obtain ⟨fs, hr, hrun, hended, hEnd⟩ := X25.leaveW (s := s) hS3 (Nat.le_trans hk3 (Nat.le_of_eq (congrArg Array.size (hp25_0).symm))) (v := some (.int (1 : Int32))) (fun h => by rw [Bd.returns] at h; cases h)
                have hv : (some (.int (1 : Int32)) : Option Value) = some (.int (1 : Int32)) := by
                  rfl
                exact ⟨_, _, retN X25 hx (t := .boolean) Bd.returns (by simp) (hb hby at_143) hr, hrun, hended, _, _, rfl, ⟨hv, N25⟩, hEnd.1, hEnd.2.1, hEnd.2.2.1, hEnd.2.2.2.mono (by decide) (by decide)⟩
              · exfalso
                rcases own_hex_rng ((x0 &&& (65535 : Int32)).toUInt32.toUInt16.toUInt32.toInt32) with k | k
                · exact hc18 k
                · exact k.2.2.elim hc23 hc26
    · exact absurd (own_hex_lo (x1 &&& (15 : Int32)) (by have := c_mask x1 (15 : Int32) 4 (by decide) (by decide); omega) (by have := c_mask x1 (15 : Int32) 4 (by decide) (by decide); omega)) hc17
  · exact absurd (own_hex_up (x1 &&& (15 : Int32)) (by have := c_mask x1 (15 : Int32) 4 (by decide) (by decide); omega) (by have := c_mask x1 (15 : Int32) 4 (by decide) (by decide); omega)) hc16

set_option maxRecDepth 65536 in
set_option maxHeartbeats 40000000 in
theorem comes_1 {Post : Tables → Env → Array Value → State → Outcome → State → Prop} (hpost : ∀ tb e args s v u, (limb_1_1.after args s (.returned v) u = true ∧ limb_1_2.after args s (.returned v) u = true ∧ True) → ReturnedEndW s (.returned v) u (Jvm.fieldLocs frame_1_writes args s ++ Jvm.arrayLocs frame_1_arrays args s ++ Jvm.staticLocs frame_1_statics s) 8 2112 → Post tb e args s (.returned v) u) :
    ArmFor flags0 classFile x code maxLocals ret World_1 tables_1 room_1 Calls_1 rest_1 Pre_1 Post := by
  intro l hfl _ _ p e ha hc hk s m args below hf hA hF happ hP
  obtain ⟨hcalls, hrest, hpre⟩ := hP
  obtain ⟨-, -, -, hnamed, -, -, -, hat⟩ := (Spec.applies_iff hf).mp happ
  obtain ⟨hg, hn⟩ := and_e (Cond.before_iff.mp (show (Jvm.Cond.and given_1 narrow_1).before args s = true from hpre))
  obtain ⟨hg0, hgr0⟩ := and_e hg
  obtain ⟨hg1, hgr1⟩ := and_e hgr0
  obtain ⟨w0, w1, rfl⟩ : ∃ w0 w1 : Value, args = #[w0, w1] := by
    have hs : args.size = 2 := by simpa [Cond.value, given_1] using hg0
    obtain ⟨L⟩ := args
    match L, hs with
    | [w0, w1], _ => exact ⟨w0, w1, rfl⟩
  have hw := fun d (hd : d ∈ tables_1) => atoms_spec (ws := Jvm.Cond.code x code maxLocals ret :: tables_1) hat d (List.mem_cons_of_mem _ hd)
  have hfit : Fit s := fun {y c} hc i hi => by
    obtain ⟨ha, rfl⟩ := Array.getElem?_eq_some_iff.mp hc
    have q := List.all_eq_true.mp ((Array.all_eq_true_iff_forall_mem.mp hF) _ (Array.getElem_mem ha)) i (List.mem_range.mpr hi)
    simpa [Array.getElem?_eq_getElem hi] using q
  obtain ⟨hsets, hown0⟩ := atoms_of _ (rest_1_c_eq ▸ (show rest_1_c.before _ s = true from hrest))
  have hr0 := Cond.before_iff.mp hown0
  obtain ⟨i0, ei0⟩ := is_v hg1
  obtain rfl : w0 = (.int i0) := Option.some.inj ei0
  obtain ⟨i1, ei1⟩ := is_v hgr1
  obtain rfl : w1 = (.int i1) := Option.some.inj ei1
  obtain ⟨cs, ecs⟩ := is_v (Cond.before_iff.mp (hsets _ (List.mem_of_getElem? (i := 1) rfl)))
  have SC : Sta s s.heap "java/lang/String" "COMPACT_STRINGS" "Z" (.int cs) := Sta.start ecs (Or.inl (hsets _ (List.mem_of_getElem? (i := 0) rfl)))
  have hcw : Jvm.Lit.compactW.before _ s = true := (hsets _ (List.mem_of_getElem? (i := 2) rfl))
  have hcs : ¬ (cs = (0 : Int32)) := gotF (Cond.eq_ints ecs (Term.int_eval 0)) (by simpa using not_v (Cond.before_iff.mp hcw))
  obtain ⟨fm, efm, hfm⟩ := isR_v (Cond.before_iff.mp (hsets _ (List.mem_of_getElem? (i := 8) rfl)))
  have SF : Sta s s.heap "jdk/internal/util/Preconditions" "SIOOBE_FORMATTER" "Ljava/util/function/BiFunction;" fm := Sta.start efm (Or.inl (hsets _ (List.mem_of_getElem? (i := 7) rfl)))
  have hd7 : Jvm.Lit.constHeld s "com/example/unipar/unipar/PercentEncodingHexValuePinLaw" 7 := hcalls.1 ("com/example/unipar/unipar/PercentEncodingHexValuePinLaw", 7) (by simp [consts_1])
  have hd9 : Jvm.Lit.constHeld s "com/example/unipar/unipar/PercentEncodingHexValuePinLaw" 9 := hcalls.1 ("com/example/unipar/unipar/PercentEncodingHexValuePinLaw", 9) (by simp [consts_1])
  obtain ⟨n, o, h1, h2, h3, _, L, rfl, ⟨rfl, N⟩, hq⟩ := own_rm0 l s _ hw tables_1 i0 i1 cs fm s.heap s.heap.size (Nat.le_refl _) (Old.start s) SC hcs SF hfm hcw hd7 hd9 p e ha hc hk s m _ below hf ((Spec.applies_iff_loose hf).mp happ).1 ⟨rfl, rfl, rfl⟩ trivial
  refine ⟨n, _, h1, h2, h3, hpost _ _ _ _ _ _ ⟨Cond.after_iff.mpr rfl, Cond.after_iff.mpr (eq_i res_at (Term.int_eval (1)) rfl), trivial⟩ ⟨hq.1, hq.2.1, hq.2.2.1, (hq.2.2.2.sift fun y hy => Or.inr (N y hy)).mono (by decide) (by decide)⟩⟩
theorem main_1_1 : Claimed_1_1 := comes_1 fun _ _ _ _ _ _ h hF => ⟨h.1, hF⟩
theorem main_1_2 : Claimed_1_2 := comes_1 fun _ _ _ _ _ _ h hF => ⟨h.2.1, hF⟩
end Jvm.Pilot.@@N@@
namespace Jvm.Pilot.@@N@@
open Jvm Jvm.ClassFile Sem Op Lib Jvm.Free Jvm.Stand Jvm.Pilot.@@N@@.Jvm.D
/-! MADE BY PROGRAM (witnessworld.py) out of the Statement's table words and the real class files: 17 classes; the members and pool entries that the words name. The judged class is class 1, her method 1. -/
namespace start1
open Jvm.ClassFile
def u (s : String) : CpInfo := .utf8 (stringToUtf16 s)
/-- a pool by its gaps: so many unusable entries, then the entry; so many at the end -/
def gap : Nat → List CpInfo → List CpInfo
  | 0, r => r
  | n + 1, r => .unusable :: gap n r
def poolList (es : List (Nat × CpInfo)) (last : Nat) : List CpInfo := es.foldr (fun e r => gap e.1 (e.2 :: r)) (gap last [])
def pool (es : List (Nat × CpInfo)) (last : Nat) : Array CpInfo := ⟨poolList es last⟩
def fileOf (pool : Array CpInfo) (this : Nat) (attrs : Array Attribute := #[]) (ms : Array MethodInfo := #[]) (fl : Nat := 33) (sup : Nat := 0) (ifs : Array Nat := #[]) (fds : Array FieldInfo := #[]) : ClassFile where
  minorVersion := 0
  majorVersion := 65
  constantPool := pool
  accessFlags := fl
  thisClass := this
  superClass := sup
  interfaces := ifs
  fields := fds
  methods := ms
  attributes := attrs
def plain (name : String) (sup : Option ClassId) : Class where
  name := name
  kind := .ordinary
  loader := none
  accessFlags := 33
  super := sup
  interfaces := #[]
  cf := none
  fields := #[]
  methods := #[]
  instanceTypes := #[]
  staticTypes := #[]
  resolved := #[]
  callSites := []
  init := .initialized
  statics := none
  mirror := none

def pool0 : Array CpInfo := pool [(5, u "<init>"), (0, u "()V"), (1, .class_ 10), (1, u "java/lang/Object")] 113

def k0m0 : Method := { name := "<init>", desc := "()V", sig := { parameters := [], returnType := none }, accessFlags := 1, code := none }
/-- java/lang/Object -/
def k0 : Class := { plain "java/lang/Object" none with
  accessFlags := 33
  interfaces := #[]
  cf := some (fileOf pool0 8 #[] #[{ accessFlags := 1, nameIndex := 5, descriptorIndex := 6, attributes := #[] }] 33 0 #[] #[])
  fields := #[]
  methods := #[k0m0]
  instanceTypes := #[]
  staticTypes := #[]
  resolved := Array.replicate 124 none
  statics := none }

def pool1 : Array CpInfo := pool [(2, .class_ 4), (1, u "java/lang/Object"), (0, u "<init>"), (0, u "()V"), (0, .string 8), (0, u "0123456789ABCDEF"), (0, .string 10), (0, u "0123456789abcdef"), (0, .integer 65535), (0, .methodref 13 14), (0, .class_ 15), (0, .nameAndType 16 17), (0, u "com/example/unipar/unipar/PercentEncoding"), (0, u "hexValue"), (0, u "(C)I"), (0, .methodref 19 20), (0, .class_ 21), (0, .nameAndType 22 23), (0, u "java/lang/String"), (0, u "charAt"), (0, u "(I)C"), (0, .class_ 25), (0, u "com/example/unipar/unipar/PercentEncodingHexValuePinLaw"), (2, u "law"), (0, u "(II)Z")] 3

def k1m0 : Method := { name := "<init>", desc := "()V", sig := { parameters := [], returnType := none }, accessFlags := 2, code := none }
def k1c1 : Code := { maxStack := 3, maxLocals := 11, code := code, exceptionTable := #[], attributes := #[] }
def k1m1 : Method := { name := "law", desc := "(II)Z", sig := { parameters := [.int, .int], returnType := some .boolean }, accessFlags := 9, code := some k1c1 }
/-- com/example/unipar/unipar/PercentEncodingHexValuePinLaw -/
def k1 : Class := { plain "com/example/unipar/unipar/PercentEncodingHexValuePinLaw" (some 0) with
  accessFlags := 49
  interfaces := #[]
  cf := some (fileOf pool1 24 #[] #[{ accessFlags := 2, nameIndex := 5, descriptorIndex := 6, attributes := #[] }, { accessFlags := 9, nameIndex := 28, descriptorIndex := 29, attributes := #[] }] 49 2 #[] #[])
  fields := #[]
  methods := #[k1m0, k1m1]
  instanceTypes := #[]
  staticTypes := #[]
  resolved := Array.replicate 33 none
  statics := none }

def pool2 : Array CpInfo := pool [(1, .class_ 2), (0, u "java/io/Serializable"), (0, .class_ 4), (0, u "java/lang/Object")] 2

/-- java/io/Serializable -/
def k2 : Class := { plain "java/io/Serializable" (some 0) with
  accessFlags := 1537
  interfaces := #[]
  cf := some (fileOf pool2 1 #[] #[] 1537 3 #[] #[])
  fields := #[]
  methods := #[]
  instanceTypes := #[]
  staticTypes := #[]
  resolved := Array.replicate 7 none
  statics := none }

def pool3 : Array CpInfo := pool [(1, .class_ 2), (0, u "java/lang/Comparable"), (0, .class_ 4), (0, u "java/lang/Object")] 7

/-- java/lang/Comparable -/
def k3 : Class := { plain "java/lang/Comparable" (some 0) with
  accessFlags := 1537
  interfaces := #[]
  cf := some (fileOf pool3 1 #[] #[] 1537 3 #[] #[])
  fields := #[]
  methods := #[]
  instanceTypes := #[]
  staticTypes := #[]
  resolved := Array.replicate 12 none
  statics := none }

def pool4 : Array CpInfo := pool [(2, .class_ 4), (1, u "java/lang/CharSequence"), (42, .class_ 48), (0, u "java/lang/CharSequence$1CodePointIterator"), (10, .class_ 60), (0, u "java/lang/CharSequence$1CharIterator"), (5, .class_ 67), (0, u "java/lang/Object")] 63

/-- java/lang/CharSequence -/
def k4 : Class := { plain "java/lang/CharSequence" (some 0) with
  accessFlags := 1537
  interfaces := #[]
  cf := some (fileOf pool4 2 #[.nestMembers #[47, 59]] #[] 1537 66 #[] #[])
  fields := #[]
  methods := #[]
  instanceTypes := #[]
  staticTypes := #[]
  resolved := Array.replicate 131 none
  statics := none }

def pool5 : Array CpInfo := pool [(1, .class_ 2), (0, u "java/lang/constant/Constable"), (0, .class_ 4), (0, u "java/lang/Object")] 6

/-- java/lang/constant/Constable -/
def k5 : Class := { plain "java/lang/constant/Constable" (some 0) with
  accessFlags := 1537
  interfaces := #[]
  cf := some (fileOf pool5 1 #[] #[] 1537 3 #[] #[])
  fields := #[]
  methods := #[]
  instanceTypes := #[]
  staticTypes := #[]
  resolved := Array.replicate 11 none
  statics := none }

def pool6 : Array CpInfo := pool [(1, .class_ 2), (0, u "java/lang/constant/ConstantDesc"), (0, .class_ 4), (0, u "java/lang/Object")] 32

/-- java/lang/constant/ConstantDesc -/
def k6 : Class := { plain "java/lang/constant/ConstantDesc" (some 0) with
  accessFlags := 1537
  interfaces := #[]
  cf := some (fileOf pool6 1 #[] #[] 1537 3 #[] #[])
  fields := #[]
  methods := #[]
  instanceTypes := #[]
  staticTypes := #[]
  resolved := Array.replicate 37 none
  statics := none }

def pool7 : Array CpInfo := pool [(2, .class_ 4), (1, u "java/lang/Object"), (0, u "<init>"), (0, u "()V"), (2, .fieldref 10 11), (0, .class_ 12), (0, .nameAndType 13 14), (0, u "java/lang/String"), (0, u "value"), (0, u "[B"), (0, .fieldref 10 16), (0, .nameAndType 17 18), (0, u "coder"), (0, u "B"), (2, u "hash"), (0, u "I"), (2, u "hashIsZero"), (0, u "Z"), (11, .fieldref 10 39), (0, .nameAndType 40 26), (0, u "COMPACT_STRINGS"), (66, .class_ 109), (1, u "java/lang/StringLatin1"), (32, u "()Z"), (220, u "([BI)C"), (27, u "(II)V"), (35, u "(I)C"), (64, .methodref 10 493), (0, .nameAndType 494 142), (0, u "isLatin1"), (0, .methodref 107 496), (0, .nameAndType 497 363), (0, u "charAt"), (3, u "checkIndex"), (73, .class_ 576), (0, u "java/lang/CharSequence"), (22, u "CASE_INSENSITIVE_ORDER"), (0, u "Ljava/util/Comparator;"), (452, .fieldref 1054 1055), (0, .class_ 1056), (0, .nameAndType 1057 1058), (0, u "jdk/internal/util/Preconditions"), (0, u "SIOOBE_FORMATTER"), (0, u "Ljava/util/function/BiFunction;"), (0, .methodref 1054 1060), (0, .nameAndType 501 1061), (0, u "(IILjava/util/function/BiFunction;)I"), (39, u "serialPersistentFields"), (0, u "[Ljava/io/ObjectStreamField;"), (0, .class_ 1104), (0, u "java/lang/String$CaseInsensitiveComparator"), (1, .class_ 1107), (0, u "java/io/Serializable"), (0, .class_ 1109), (0, u "java/lang/Comparable"), (0, .class_ 1111), (0, u "java/lang/constant/Constable"), (0, .class_ 1113), (0, u "java/lang/constant/ConstantDesc"), (2, u "serialVersionUID"), (0, u "J"), (3, u "REPL"), (0, u "C"), (2, u "LATIN1"), (1, u "UTF16")] 323

def k7m0 : Method := { name := "<init>", desc := "()V", sig := { parameters := [], returnType := none }, accessFlags := 1, code := none }
def k7c1 : Code := { maxStack := 2, maxLocals := 2, code := jdk_42_method_56_code, exceptionTable := #[], attributes := #[] }
def k7m1 : Method := { name := "charAt", desc := "(I)C", sig := { parameters := [.int], returnType := some .char }, accessFlags := 1, code := some k7c1 }
def k7c2 : Code := { maxStack := 1, maxLocals := 1, code := jdk_42_method_154_code, exceptionTable := #[], attributes := #[] }
def k7m2 : Method := { name := "isLatin1", desc := "()Z", sig := { parameters := [], returnType := some .boolean }, accessFlags := 0, code := some k7c2 }
def k7c3 : Code := { maxStack := 3, maxLocals := 2, code := jdk_42_method_155_code, exceptionTable := #[], attributes := #[] }
def k7m3 : Method := { name := "checkIndex", desc := "(II)V", sig := { parameters := [.int, .int], returnType := none }, accessFlags := 8, code := some k7c3 }
/-- java/lang/String -/
def k7 : Class := { plain "java/lang/String" (some 0) with
  accessFlags := 49
  interfaces := #[2, 3, 4, 5, 6]
  cf := some (fileOf pool7 10 #[.nestMembers #[1103]] #[{ accessFlags := 1, nameIndex := 5, descriptorIndex := 6, attributes := #[] }, { accessFlags := 1, nameIndex := 497, descriptorIndex := 427, attributes := #[] }, { accessFlags := 0, nameIndex := 494, descriptorIndex := 142, attributes := #[] }, { accessFlags := 8, nameIndex := 501, descriptorIndex := 391, attributes := #[] }] 49 2 #[1106, 1108, 575, 1110, 1112] #[{ accessFlags := 18, nameIndex := 13, descriptorIndex := 14, attributes := #[] }, { accessFlags := 18, nameIndex := 17, descriptorIndex := 18, attributes := #[] }, { accessFlags := 2, nameIndex := 21, descriptorIndex := 22, attributes := #[] }, { accessFlags := 2, nameIndex := 25, descriptorIndex := 26, attributes := #[] }, { accessFlags := 26, nameIndex := 1116, descriptorIndex := 1117, attributes := #[] }, { accessFlags := 24, nameIndex := 40, descriptorIndex := 26, attributes := #[] }, { accessFlags := 26, nameIndex := 1101, descriptorIndex := 1102, attributes := #[] }, { accessFlags := 26, nameIndex := 1121, descriptorIndex := 1122, attributes := #[] }, { accessFlags := 25, nameIndex := 599, descriptorIndex := 600, attributes := #[] }, { accessFlags := 24, nameIndex := 1125, descriptorIndex := 18, attributes := #[] }, { accessFlags := 24, nameIndex := 1127, descriptorIndex := 18, attributes := #[] }])
  fields := #[{ name := "value", type := (.array .byte), accessFlags := 18, slot := 0, constantValue := 0 }, { name := "coder", type := .byte, accessFlags := 18, slot := 1, constantValue := 0 }, { name := "hash", type := .int, accessFlags := 2, slot := 2, constantValue := 0 }, { name := "hashIsZero", type := .boolean, accessFlags := 2, slot := 3, constantValue := 0 }, { name := "serialVersionUID", type := .long, accessFlags := 26, slot := 0, constantValue := 0 }, { name := "COMPACT_STRINGS", type := .boolean, accessFlags := 24, slot := 1, constantValue := 0 }, { name := "serialPersistentFields", type := (.array (.object "java/io/ObjectStreamField")), accessFlags := 26, slot := 2, constantValue := 0 }, { name := "REPL", type := .char, accessFlags := 26, slot := 3, constantValue := 0 }, { name := "CASE_INSENSITIVE_ORDER", type := (.object "java/util/Comparator"), accessFlags := 25, slot := 4, constantValue := 0 }, { name := "LATIN1", type := .byte, accessFlags := 24, slot := 5, constantValue := 0 }, { name := "UTF16", type := .byte, accessFlags := 24, slot := 6, constantValue := 0 }]
  methods := #[k7m0, k7m1, k7m2, k7m3]
  instanceTypes := #[(.array .byte), .byte, .int, .boolean]
  staticTypes := #[.long, .boolean, (.array (.object "java/io/ObjectStreamField")), .char, (.object "java/util/Comparator"), .byte, .byte]
  resolved := Array.replicate 1451 none
  statics := some 0 }

def pool8 : Array CpInfo := pool [(2, .class_ 4), (1, u "java/lang/Object"), (0, u "<init>"), (0, u "()V"), (0, .class_ 8), (0, u "com/example/unipar/unipar/PercentEncoding"), (18, u "hexValue"), (0, u "(C)I"), (1, .class_ 32), (1, u "com/example/unipar/unipar/PercentEncoding$Allowed"), (71, u "HEX_DIGITS"), (0, u "[C"), (94, u "UNRESERVED_CHARACTERS"), (0, u "Ljava/lang/String;"), (1, u "RESERVED_CHARACTERS")] 56

def k8m0 : Method := { name := "<init>", desc := "()V", sig := { parameters := [], returnType := none }, accessFlags := 2, code := none }
def k8c1 : Code := { maxStack := 2, maxLocals := 2, code := prog_28_method_14_code, exceptionTable := #[], attributes := #[] }
def k8m1 : Method := { name := "hexValue", desc := "(C)I", sig := { parameters := [.char], returnType := some .int }, accessFlags := 8, code := some k8c1 }
/-- com/example/unipar/unipar/PercentEncoding -/
def k8 : Class := { plain "com/example/unipar/unipar/PercentEncoding" (some 0) with
  accessFlags := 49
  interfaces := #[]
  cf := some (fileOf pool8 7 #[.nestMembers #[30]] #[{ accessFlags := 2, nameIndex := 5, descriptorIndex := 6, attributes := #[] }, { accessFlags := 8, nameIndex := 27, descriptorIndex := 28, attributes := #[] }] 49 2 #[] #[{ accessFlags := 26, nameIndex := 200, descriptorIndex := 201, attributes := #[] }, { accessFlags := 26, nameIndex := 203, descriptorIndex := 201, attributes := #[] }, { accessFlags := 26, nameIndex := 104, descriptorIndex := 105, attributes := #[] }])
  fields := #[{ name := "UNRESERVED_CHARACTERS", type := (.object "java/lang/String"), accessFlags := 26, slot := 0, constantValue := 0 }, { name := "RESERVED_CHARACTERS", type := (.object "java/lang/String"), accessFlags := 26, slot := 1, constantValue := 0 }, { name := "HEX_DIGITS", type := (.array .char), accessFlags := 26, slot := 2, constantValue := 0 }]
  methods := #[k8m0, k8m1]
  instanceTypes := #[]
  staticTypes := #[(.object "java/lang/String"), (.object "java/lang/String"), (.array .char)]
  resolved := Array.replicate 260 none
  statics := none }

def pool9 : Array CpInfo := pool [(1, .class_ 2), (0, u "java/lang/String"), (1, .class_ 6), (1, u "java/lang/Object"), (0, u "<init>"), (0, u "()V"), (0, .methodref 1 10), (0, .nameAndType 11 12), (0, u "checkIndex"), (0, u "(II)V"), (1, .class_ 16), (1, u "java/lang/StringLatin1"), (36, u "([BI)C"), (67, u "$assertionsDisabled"), (0, u "Z"), (98, .class_ 223), (1, u "java/lang/StringLatin1$LinesSpliterator"), (28, u "charAt"), (137, .class_ 391), (0, u "java/lang/StringLatin1$CharsSpliterator")] 3

def k9m0 : Method := { name := "<init>", desc := "()V", sig := { parameters := [], returnType := none }, accessFlags := 0, code := none }
def k9c1 : Code := { maxStack := 2, maxLocals := 2, code := jdk_43_method_2_code, exceptionTable := #[], attributes := #[] }
def k9m1 : Method := { name := "charAt", desc := "([BI)C", sig := { parameters := [(.array .byte), .int], returnType := some .char }, accessFlags := 9, code := some k9c1 }
/-- java/lang/StringLatin1 -/
def k9 : Class := { plain "java/lang/StringLatin1" (some 0) with
  accessFlags := 48
  interfaces := #[]
  cf := some (fileOf pool9 14 #[.nestMembers #[390, 221]] #[{ accessFlags := 0, nameIndex := 7, descriptorIndex := 8, attributes := #[] }, { accessFlags := 9, nameIndex := 252, descriptorIndex := 53, attributes := #[] }] 48 4 #[] #[{ accessFlags := 4120, nameIndex := 121, descriptorIndex := 122, attributes := #[] }])
  fields := #[{ name := "$assertionsDisabled", type := .boolean, accessFlags := 4120, slot := 0, constantValue := 0 }]
  methods := #[k9m0, k9m1]
  instanceTypes := #[]
  staticTypes := #[.boolean]
  resolved := Array.replicate 395 none
  statics := none }

def pool10 : Array CpInfo := pool [(2, .class_ 4), (1, u "java/lang/Object"), (0, u "<init>"), (0, u "()V"), (17, .class_ 26), (1, u "jdk/internal/util/Preconditions"), (6, u "checkIndex"), (21, .class_ 56), (0, u "jdk/internal/util/Preconditions$4"), (57, .class_ 115), (0, u "jdk/internal/util/Preconditions$1"), (7, u "SIOOBE_FORMATTER"), (0, u "Ljava/util/function/BiFunction;"), (0, .class_ 126), (0, u "jdk/internal/util/Preconditions$2"), (3, u "AIOOBE_FORMATTER"), (0, .class_ 132), (0, u "jdk/internal/util/Preconditions$3"), (3, u "IOOBE_FORMATTER"), (41, u "(IILjava/util/function/BiFunction;)I")] 15

def k10m0 : Method := { name := "<init>", desc := "()V", sig := { parameters := [], returnType := none }, accessFlags := 1, code := none }
def k10c1 : Code := { maxStack := 3, maxLocals := 3, code := jdk_41_method_11_code, exceptionTable := #[], attributes := #[] }
def k10m1 : Method := { name := "checkIndex", desc := "(IILjava/util/function/BiFunction;)I", sig := { parameters := [.int, .int, (.object "java/util/function/BiFunction")], returnType := some .int }, accessFlags := 9, code := some k10c1 }
/-- jdk/internal/util/Preconditions -/
def k10 : Class := { plain "jdk/internal/util/Preconditions" (some 0) with
  accessFlags := 33
  interfaces := #[]
  cf := some (fileOf pool10 24 #[.nestMembers #[55, 131, 125, 114]] #[{ accessFlags := 1, nameIndex := 5, descriptorIndex := 6, attributes := #[] }, { accessFlags := 9, nameIndex := 33, descriptorIndex := 178, attributes := #[] }] 33 2 #[] #[{ accessFlags := 25, nameIndex := 123, descriptorIndex := 124, attributes := #[] }, { accessFlags := 25, nameIndex := 130, descriptorIndex := 124, attributes := #[] }, { accessFlags := 25, nameIndex := 136, descriptorIndex := 124, attributes := #[] }])
  fields := #[{ name := "SIOOBE_FORMATTER", type := (.object "java/util/function/BiFunction"), accessFlags := 25, slot := 0, constantValue := 0 }, { name := "AIOOBE_FORMATTER", type := (.object "java/util/function/BiFunction"), accessFlags := 25, slot := 1, constantValue := 0 }, { name := "IOOBE_FORMATTER", type := (.object "java/util/function/BiFunction"), accessFlags := 25, slot := 2, constantValue := 0 }]
  methods := #[k10m0, k10m1]
  instanceTypes := #[]
  staticTypes := #[(.object "java/util/function/BiFunction"), (.object "java/util/function/BiFunction"), (.object "java/util/function/BiFunction")]
  resolved := Array.replicate 194 none
  statics := some 1 }

def pool11 : Array CpInfo := pool [(9, u "<init>"), (6, .class_ 18), (1, u "java/lang/Object"), (0, u "()V"), (1, .class_ 23), (1, u "jdk/internal/util/ArraysSupport"), (0, u "LOG2_ARRAY_LONG_INDEX_SCALE"), (0, u "I"), (2, u "U"), (0, u "Ljdk/internal/misc/Unsafe;"), (8, u "BIG_ENDIAN"), (0, u "Z"), (8, u "LOG2_BYTE_BIT_SIZE"), (4, u "LOG2_ARRAY_INT_INDEX_SCALE"), (54, u "JLA"), (0, u "Ljdk/internal/access/JavaLangAccess;"), (11, u "LOG2_ARRAY_BOOLEAN_INDEX_SCALE"), (9, u "LOG2_ARRAY_BYTE_INDEX_SCALE"), (5, u "LOG2_ARRAY_CHAR_INDEX_SCALE"), (5, u "LOG2_ARRAY_SHORT_INDEX_SCALE"), (18, u "LOG2_ARRAY_FLOAT_INDEX_SCALE"), (24, u "LOG2_ARRAY_DOUBLE_INDEX_SCALE"), (89, u "T_BOOLEAN"), (2, u "T_CHAR"), (1, u "T_FLOAT"), (1, u "T_DOUBLE"), (1, u "T_BYTE"), (1, u "T_SHORT"), (1, u "T_INT"), (1, u "T_LONG"), (1, u "SOFT_MAX_ARRAY_LENGTH")] 83

def k11m0 : Method := { name := "<init>", desc := "()V", sig := { parameters := [], returnType := none }, accessFlags := 2, code := none }
/-- jdk/internal/util/ArraysSupport -/
def k11 : Class := { plain "jdk/internal/util/ArraysSupport" (some 0) with
  accessFlags := 33
  interfaces := #[]
  cf := some (fileOf pool11 21 #[] #[{ accessFlags := 2, nameIndex := 9, descriptorIndex := 19, attributes := #[] }] 33 16 #[] #[{ accessFlags := 24, nameIndex := 28, descriptorIndex := 29, attributes := #[] }, { accessFlags := 26, nameIndex := 38, descriptorIndex := 39, attributes := #[] }, { accessFlags := 25, nameIndex := 121, descriptorIndex := 25, attributes := #[] }, { accessFlags := 25, nameIndex := 131, descriptorIndex := 25, attributes := #[] }, { accessFlags := 25, nameIndex := 137, descriptorIndex := 25, attributes := #[] }, { accessFlags := 25, nameIndex := 143, descriptorIndex := 25, attributes := #[] }, { accessFlags := 25, nameIndex := 53, descriptorIndex := 25, attributes := #[] }, { accessFlags := 25, nameIndex := 24, descriptorIndex := 25, attributes := #[] }, { accessFlags := 25, nameIndex := 162, descriptorIndex := 25, attributes := #[] }, { accessFlags := 25, nameIndex := 187, descriptorIndex := 25, attributes := #[] }, { accessFlags := 26, nameIndex := 48, descriptorIndex := 25, attributes := #[] }, { accessFlags := 25, nameIndex := 277, descriptorIndex := 25, attributes := #[] }, { accessFlags := 25, nameIndex := 280, descriptorIndex := 25, attributes := #[] }, { accessFlags := 25, nameIndex := 282, descriptorIndex := 25, attributes := #[] }, { accessFlags := 25, nameIndex := 284, descriptorIndex := 25, attributes := #[] }, { accessFlags := 25, nameIndex := 286, descriptorIndex := 25, attributes := #[] }, { accessFlags := 25, nameIndex := 288, descriptorIndex := 25, attributes := #[] }, { accessFlags := 25, nameIndex := 290, descriptorIndex := 25, attributes := #[] }, { accessFlags := 25, nameIndex := 292, descriptorIndex := 25, attributes := #[] }, { accessFlags := 26, nameIndex := 108, descriptorIndex := 109, attributes := #[] }, { accessFlags := 25, nameIndex := 294, descriptorIndex := 25, attributes := #[] }])
  fields := #[{ name := "U", type := (.object "jdk/internal/misc/Unsafe"), accessFlags := 24, slot := 0, constantValue := 0 }, { name := "BIG_ENDIAN", type := .boolean, accessFlags := 26, slot := 1, constantValue := 0 }, { name := "LOG2_ARRAY_BOOLEAN_INDEX_SCALE", type := .int, accessFlags := 25, slot := 2, constantValue := 0 }, { name := "LOG2_ARRAY_BYTE_INDEX_SCALE", type := .int, accessFlags := 25, slot := 3, constantValue := 0 }, { name := "LOG2_ARRAY_CHAR_INDEX_SCALE", type := .int, accessFlags := 25, slot := 4, constantValue := 0 }, { name := "LOG2_ARRAY_SHORT_INDEX_SCALE", type := .int, accessFlags := 25, slot := 5, constantValue := 0 }, { name := "LOG2_ARRAY_INT_INDEX_SCALE", type := .int, accessFlags := 25, slot := 6, constantValue := 0 }, { name := "LOG2_ARRAY_LONG_INDEX_SCALE", type := .int, accessFlags := 25, slot := 7, constantValue := 0 }, { name := "LOG2_ARRAY_FLOAT_INDEX_SCALE", type := .int, accessFlags := 25, slot := 8, constantValue := 0 }, { name := "LOG2_ARRAY_DOUBLE_INDEX_SCALE", type := .int, accessFlags := 25, slot := 9, constantValue := 0 }, { name := "LOG2_BYTE_BIT_SIZE", type := .int, accessFlags := 26, slot := 10, constantValue := 0 }, { name := "T_BOOLEAN", type := .int, accessFlags := 25, slot := 11, constantValue := 0 }, { name := "T_CHAR", type := .int, accessFlags := 25, slot := 12, constantValue := 0 }, { name := "T_FLOAT", type := .int, accessFlags := 25, slot := 13, constantValue := 0 }, { name := "T_DOUBLE", type := .int, accessFlags := 25, slot := 14, constantValue := 0 }, { name := "T_BYTE", type := .int, accessFlags := 25, slot := 15, constantValue := 0 }, { name := "T_SHORT", type := .int, accessFlags := 25, slot := 16, constantValue := 0 }, { name := "T_INT", type := .int, accessFlags := 25, slot := 17, constantValue := 0 }, { name := "T_LONG", type := .int, accessFlags := 25, slot := 18, constantValue := 0 }, { name := "JLA", type := (.object "jdk/internal/access/JavaLangAccess"), accessFlags := 26, slot := 19, constantValue := 0 }, { name := "SOFT_MAX_ARRAY_LENGTH", type := .int, accessFlags := 25, slot := 20, constantValue := 0 }]
  methods := #[k11m0]
  instanceTypes := #[]
  staticTypes := #[(.object "jdk/internal/misc/Unsafe"), .boolean, .int, .int, .int, .int, .int, .int, .int, .int, .int, .int, .int, .int, .int, .int, .int, .int, .int, (.object "jdk/internal/access/JavaLangAccess"), .int]
  resolved := Array.replicate 378 none
  statics := none }

def pool12 : Array CpInfo := pool [(1, u "java/lang/Cloneable"), (0, .class_ 1), (0, u "java/lang/Object"), (0, .class_ 3)] 3

/-- java/lang/Cloneable -/
def k12 : Class := { plain "java/lang/Cloneable" (some 0) with
  accessFlags := 1537
  interfaces := #[]
  cf := some (fileOf pool12 2 #[] #[] 1537 4 #[] #[])
  fields := #[]
  methods := #[]
  instanceTypes := #[]
  staticTypes := #[]
  resolved := Array.replicate 8 none
  statics := none }

/-- the primitive byte -/
def k13 : Class := { plain "byte" none with kind := .primitive 'B', accessFlags := 0x411 }
/-- [B -/
def k14 : Class := { plain "[B" (some 0) with kind := .array 13 .byte, interfaces := #[12, 2], accessFlags := 1041 }

/-- the primitive int -/
def k15 : Class := { plain "int" none with kind := .primitive 'I', accessFlags := 0x411 }
/-- [I -/
def k16 : Class := { plain "[I" (some 0) with kind := .array 15 .int, interfaces := #[12, 2], accessFlags := 1041 }

def heap : Heap := #[{ cls := 7, slots := #[.long 0, .int 1, .null, .int 0, .null, .int 0, .int 0], vm := .statics 7 },
  { cls := 10, slots := #[.null, .null, .null], vm := .statics 10 }]
def classes : Array Class := #[k0, k1, k2, k3, k4, k5, k6, k7, k8, k9, k10, k11, k12, k13, k14, k15, k16]
def interned : List (Array UInt16 × Addr) := []
def slotsUsed : Nat := 10
def theMethod : MethodId := ⟨1, 1⟩
def args0 : Array Value := #[.int 65, .int 11]
def aboutOver (below : List Frame) : State where
  vm := { classes := classes, interned := interned.toArray }
  heap := heap
  slotsUsed := slotsUsed
  threads := #[{ frames := .invoking theMethod args0 :: below }]
def below0 : List Frame := [.native { method := ⟨0, 0⟩, args := #[] }]
def about1 : State := aboutOver below0
def p0 : Program := .bare "" "" ""
def e0 : Env := launch0.env 0 0 0
theorem w_frames : about1.frames = Frame.invoking theMethod args0 :: below0 := rfl
set_option maxRecDepth 65536 in
theorem w_args : argsFit about1.vm theMethod args0 = true := by decide +kernel
set_option maxRecDepth 65536 in
theorem w_heap : heapFits about1 = true := by decide +kernel
set_option maxRecDepth 65536 in
theorem w_runnable : about1.curStatus? = some .runnable := by decide +kernel
set_option maxRecDepth 65536 in
theorem w_alone : about1.alone = true := by decide +kernel
set_option maxRecDepth 65536 in
theorem w_named : about1.methodNamed? x = some theMethod := by decide +kernel
set_option maxRecDepth 65536 in
theorem w_hears : about1.hears theMethod below0 = true := by decide +kernel
set_option maxRecDepth 65536 in
theorem w_ripe : about1.ripe theMethod args0 below0 = true := by decide +kernel
theorem w_running : about1.status = .running := rfl
set_option maxRecDepth 65536 in
theorem w_room : about1.hasRoom e0.platform room_1 = true :=
  launch0.hasRoom_least _ room_1 (by decide +kernel) (by decide +kernel) (by decide +kernel) (by decide +kernel) (by decide +kernel) (by decide +kernel)
theorem allAtoms_all (ts : List Jvm.Cond) (a : Array Jvm.Value) (st : Jvm.State) : (allAtoms ts).before a st = ts.all (fun c => c.before a st) := by
  induction ts with
  | nil => rfl
  | cons c t ih =>
    show (Jvm.Cond.and c (allAtoms t)).before a st = _
    rw [Jvm.Cond.before_and, ih, List.all_cons]
def words1 : List Jvm.Cond := Jvm.Cond.code x code maxLocals ret :: tables_1
/-- a 'code' word, met by the world's own term for the bytes: nothing is compared byte by byte -/
theorem code_word {y : MethodName} {bytes : ByteArray} {mx : Nat} {rt : Option FieldType} {a : Array Value} {s : State} {m : MethodId} {meth : Method} {c : Code} (h1 : s.methodNamed? y = some m) (h2 : s.vm.method? m = some meth) (h3 : meth.code = some c) (h4 : c.code = bytes)
    (h5 : (c.maxLocals == mx && c.exceptionTable.isEmpty && decide (c.maxStack ≤ mostOperands) && decide (meth.sig.returnType = rt) && !meth.locks && decide (parseMethodDescriptor y.desc = some meth.sig)) = true) : (Jvm.Cond.code y bytes mx rt).before a s = true := by
  simp only [Bool.and_eq_true, beq_iff_eq, Bool.not_eq_true', decide_eq_true_eq] at h5
  obtain ⟨⟨⟨⟨⟨g1, g2⟩, g3⟩, g4⟩, g5⟩, g6⟩ := h5
  simp [Cond.before, Cond.holds, Cond.value, h1, h2, h3, h4, g1, g2, g3, g4, g5, g6]
def isCode : Jvm.Cond → Bool
  | .code _ _ _ _ => true
  | _ => false
theorem all_split {L : List Jvm.Cond} {P : Jvm.Cond → Bool} (h1 : L.all (fun c => isCode c || P c) = true) (h2 : ∀ c ∈ L.filter isCode, P c = true) : L.all P = true := by
  refine List.all_eq_true.mpr fun c hc => ?_
  have h := List.all_eq_true.mp h1 c hc
  rcases Bool.eq_false_or_eq_true (isCode c) with hi | hi
  · exact h2 c (List.mem_filter.mpr ⟨hc, hi⟩)
  · simpa [hi] using h
set_option maxRecDepth 65536 in
theorem w_c0 : (Jvm.Cond.code x code maxLocals ret).before args0 about1 = true := code_word (m := ⟨1, 1⟩) (meth := k1m1) (c := k1c1) (by decide +kernel) rfl rfl rfl (by decide +kernel)
set_option maxRecDepth 65536 in
theorem w_c1 : (Jvm.Cond.code ({ cls := "com/example/unipar/unipar/PercentEncoding", name := "hexValue", desc := "(C)I" } : Jvm.MethodName) prog_28_method_14_code (2 : Nat) (Option.some Jvm.ClassFile.FieldType.int)).before args0 about1 = true := code_word (m := ⟨8, 1⟩) (meth := k8m1) (c := k8c1) (by decide +kernel) rfl rfl rfl (by decide +kernel)
set_option maxRecDepth 65536 in
theorem w_c2 : (Jvm.Cond.code ({ cls := "java/lang/String", name := "charAt", desc := "(I)C" } : Jvm.MethodName) jdk_42_method_56_code (2 : Nat) (Option.some Jvm.ClassFile.FieldType.char)).before args0 about1 = true := code_word (m := ⟨7, 1⟩) (meth := k7m1) (c := k7c1) (by decide +kernel) rfl rfl rfl (by decide +kernel)
set_option maxRecDepth 65536 in
theorem w_c3 : (Jvm.Cond.code ({ cls := "java/lang/String", name := "isLatin1", desc := "()Z" } : Jvm.MethodName) jdk_42_method_154_code (1 : Nat) (Option.some Jvm.ClassFile.FieldType.boolean)).before args0 about1 = true := code_word (m := ⟨7, 2⟩) (meth := k7m2) (c := k7c2) (by decide +kernel) rfl rfl rfl (by decide +kernel)
set_option maxRecDepth 65536 in
theorem w_c4 : (Jvm.Cond.code ({ cls := "java/lang/StringLatin1", name := "charAt", desc := "([BI)C" } : Jvm.MethodName) jdk_43_method_2_code (2 : Nat) (Option.some Jvm.ClassFile.FieldType.char)).before args0 about1 = true := code_word (m := ⟨9, 1⟩) (meth := k9m1) (c := k9c1) (by decide +kernel) rfl rfl rfl (by decide +kernel)
set_option maxRecDepth 65536 in
theorem w_c5 : (Jvm.Cond.code ({ cls := "java/lang/String", name := "checkIndex", desc := "(II)V" } : Jvm.MethodName) jdk_42_method_155_code (2 : Nat) (Option.none : Option Jvm.ClassFile.FieldType)).before args0 about1 = true := code_word (m := ⟨7, 3⟩) (meth := k7m3) (c := k7c3) (by decide +kernel) rfl rfl rfl (by decide +kernel)
set_option maxRecDepth 65536 in
theorem w_c6 : (Jvm.Cond.code ({ cls := "jdk/internal/util/Preconditions", name := "checkIndex", desc := "(IILjava/util/function/BiFunction;)I" } : Jvm.MethodName) jdk_41_method_11_code (3 : Nat) (Option.some Jvm.ClassFile.FieldType.int)).before args0 about1 = true := code_word (m := ⟨10, 1⟩) (meth := k10m1) (c := k10c1) (by decide +kernel) rfl rfl rfl (by decide +kernel)
def codes1 : List Jvm.Cond := [Jvm.Cond.code x code maxLocals ret, Jvm.Cond.code ({ cls := "com/example/unipar/unipar/PercentEncoding", name := "hexValue", desc := "(C)I" } : Jvm.MethodName) prog_28_method_14_code (2 : Nat) (Option.some Jvm.ClassFile.FieldType.int), Jvm.Cond.code ({ cls := "java/lang/String", name := "charAt", desc := "(I)C" } : Jvm.MethodName) jdk_42_method_56_code (2 : Nat) (Option.some Jvm.ClassFile.FieldType.char), Jvm.Cond.code ({ cls := "java/lang/String", name := "isLatin1", desc := "()Z" } : Jvm.MethodName) jdk_42_method_154_code (1 : Nat) (Option.some Jvm.ClassFile.FieldType.boolean), Jvm.Cond.code ({ cls := "java/lang/StringLatin1", name := "charAt", desc := "([BI)C" } : Jvm.MethodName) jdk_43_method_2_code (2 : Nat) (Option.some Jvm.ClassFile.FieldType.char), Jvm.Cond.code ({ cls := "java/lang/String", name := "checkIndex", desc := "(II)V" } : Jvm.MethodName) jdk_42_method_155_code (2 : Nat) (Option.none : Option Jvm.ClassFile.FieldType), Jvm.Cond.code ({ cls := "jdk/internal/util/Preconditions", name := "checkIndex", desc := "(IILjava/util/function/BiFunction;)I" } : Jvm.MethodName) jdk_41_method_11_code (3 : Nat) (Option.some Jvm.ClassFile.FieldType.int)]
set_option maxRecDepth 65536 in
theorem codes_eq : words1.filter isCode = codes1 := rfl
theorem w_codes : ∀ c ∈ words1.filter isCode, c.before args0 about1 = true := by
  rw [codes_eq]
  intro c hc
  simp only [codes1, List.mem_cons, List.not_mem_nil, or_false] at hc
  rcases hc with rfl | rfl | rfl | rfl | rfl | rfl | rfl
  · exact w_c0
  · exact w_c1
  · exact w_c2
  · exact w_c3
  · exact w_c4
  · exact w_c5
  · exact w_c6
set_option maxRecDepth 65536 in
theorem w_t1 : (words1.take 24).all (fun c => isCode c || c.before args0 about1) = true := by decide +kernel
set_option maxRecDepth 65536 in
theorem w_t2 : (words1.drop 24).all (fun c => isCode c || c.before args0 about1) = true := by decide +kernel
theorem w_tables : (allAtoms (Jvm.Cond.code x code maxLocals ret :: tables_1)).before args0 about1 = true := by
  rw [allAtoms_all]
  show words1.all (fun c => c.before args0 about1) = true
  refine all_split ?_ w_codes
  rw [← List.take_append_drop 24 words1, List.all_append, w_t1, w_t2]
  rfl
set_option maxRecDepth 65536 in
theorem w_rest : rest_1_c.before args0 about1 = true := by decide +kernel
set_option maxRecDepth 65536 in
theorem w_case : (Jvm.Cond.and given_1 narrow_1).before args0 about1 = true := by decide +kernel
set_option maxRecDepth 65536 in
theorem w_consts : constsHeld consts_1 about1 := Jvm.Lit.constsHeldB_iff.mp (by decide +kernel)
theorem w_applies : (headSpec (Jvm.Cond.code x code maxLocals ret :: tables_1) room_1).applies x e0.platform about1 = true :=
  (Spec.applies_iff w_frames).mpr ⟨w_running, w_runnable, w_alone, w_named, w_hears, w_ripe, w_room, w_tables⟩
theorem atStart : AtStart classFile x code maxLocals ret World_1 tables_1 room_1 Calls_1 rest_1 Pre_1 launch0 p0 e0 about1 theMethod args0 below0 :=
  ⟨lists_1, trivial, launch0.admits_env _ _ _, launch0.least_env, fairChoices_fair.cas, fairChoices_fair.clock, w_frames, w_args, w_heap, w_applies, ⟨w_consts, trivial⟩, w_rest, w_case⟩
end start1
theorem witness_1 : WitnessClaimed_1 := ⟨start1.p0, start1.e0, start1.about1, start1.theMethod, start1.args0, start1.below0, start1.atStart⟩
end Jvm.Pilot.@@N@@
