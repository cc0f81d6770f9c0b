import JvmDerived
import JvmDerived.Pilot.@@N@@Statement
import JvmDerived.Pilot.@@N@@Code
set_option linter.unusedVariables false
set_option linter.unusedSimpArgs false
namespace Jvm.RoadKit
open Sem ClassFile Op Lib Jvm.Stand Jvm.Free Jvm.LawKit
section New
variable {p : Program} {l : Launch} {e : Env} {R : Room} {s : State} {m : MethodId} {args : Array Value} {below : List Frame} {meth : Method} {c : Code} {T : State} {locs : List Loc} {cells slots : Nat}
theorem retI (X : Stand p l e R s m args below meth c T locs cells slots) (hx : p.tables.exec = Jvm.exec) {pc : Nat} {Ls : Array Slot} {z : Int32} {rest : List Value} (hret : meth.sig.returnType = some .int) (hd : decode c.code pc = .ok (.ireturn, 1)) {fs : List Frame}
    (hl : ∀ (f : JFrame) (acts : List Action), f.method = m → f.locked = none → f.entered = [] → (doReturn e (T.setTop f) acts (some (.int z))).1 = T.setFrames fs) : Steps p.tables e below (T.setTop (mkF m pc Ls (.int z :: rest))) (T.setFrames fs) := by
  have hm' : T.vm.method? m = some meth := X.method'
  have hn : narrow .int (.int z) = .int z := rfl
  show Steps p.tables e below (T.setTop { method := m, pc := pc, locals := Ls, stack := _ :: rest, locked := none }) _
  jvm_step X.here [X.here.top, hx, hd, hm', hret, hn]
  first | (intro acts; rw [hl _ acts rfl rfl rfl]) | rw [hl _ _ rfl rfl rfl]
  exact Steps.refl _
end New
end Jvm.RoadKit
namespace Jvm.Pilot.@@N@@
open Jvm Jvm.ClassFile Sem Op Lib Jvm.Free Jvm.Stand Jvm.LawKit Jvm.RoadKit Bundle Jvm.Pilot.@@N@@.Jvm.D
/-- the run comes from A to some end of which R holds -/
def Goes (tb : Tables) (e : Env) (below : List Frame) (A : State) (R : State → Outcome → Prop) : Prop := ∃ t o, Steps tb e below A t ∧ R t o
theorem Goes.to {tb : Tables} {e : Env} {below : List Frame} {A B : State} {R : State → Outcome → Prop} (k : ∀ t, Steps tb e below A t → Steps tb e below B t) (h : Goes tb e below A R) : Goes tb e below B R := by
  obtain ⟨t, o, h1, h2⟩ := h
  exact ⟨t, o, k t h1, h2⟩
/-- how a body ends: it has returned, of value and heap Q holds, and no more than that many cells and slots are new -/
def own_R (below : List Frame) (s : State) (Q : Option Value → Heap → List Loc → Prop) (k n : Nat) : State → Outcome → Prop := fun s₂ o => s₂.status = .running ∧ Ended s₂ below o ∧ ∃ v L, o = .returned v ∧ Q v s₂.heap L ∧ FrameEnd s o s₂ L k n
theorem Goes.tr {tb : Tables} {e : Env} {below : List Frame} {A B : State} {R : State → Outcome → Prop} (k : Steps tb e below B A) (h : Goes tb e below A R) : Goes tb e below B R := Goes.to (fun _ z => k.trans z) h


def own_max (x y : Int32) : Int32 := if x < y then y else x
theorem own_max_toInt (x y : Int32) : (x.toInt < y.toInt → (own_max x y).toInt = y.toInt) ∧ (¬ x.toInt < y.toInt → (own_max x y).toInt = x.toInt) := by
  unfold own_max
  rw [← Int32.lt_iff_toInt_lt]
  constructor
  · intro h; rw [if_pos h]
  · intro h; rw [if_neg h]

theorem d5_0 : decode jdk_29_method_65_code 0 = .ok (.iload_n 0, 1) := by decide +kernel
theorem d5_1 : decode jdk_29_method_65_code 1 = .ok (.iload_n 1, 1) := by decide +kernel
theorem d5_2 : decode jdk_29_method_65_code 2 = .ok (.if_icmp .lt 7, 3) := by decide +kernel
theorem d5_5 : decode jdk_29_method_65_code 5 = .ok (.iload_n 0, 1) := by decide +kernel
theorem d5_6 : decode jdk_29_method_65_code 6 = .ok (.goto 4, 3) := by decide +kernel
theorem d5_9 : decode jdk_29_method_65_code 9 = .ok (.iload_n 1, 1) := by decide +kernel
theorem d5_10 : decode jdk_29_method_65_code 10 = .ok (.ireturn, 1) := by decide +kernel
theorem own_ef_own_rm5 (m : MethodId) (x0 : Int32) (x1 : Int32) : entryFrame m #[(.int x0), (.int x1)] 2 = mkF m 0 #[.val (.int x0), .val (.int x1)] [] := by first | (simp [entryFrame, mkF, argsToLocals, Value.category]; done) | rfl
def own_Q_own_rm5 (Z : State) (x0 : Int32) (x1 : Int32)  (h0 : Heap) (n0 : Nat) (v : Option Value) (h : Heap) (L : List Loc) : Prop := v = some (.int (own_max x0 x1)) ∧ Fr n0 L ∧ h = h0
set_option maxRecDepth 65536 in
set_option maxHeartbeats 40000000 in
theorem own_rm5 (l : Launch) (Z : State) (a0 : Array Value) (hw : ∀ d ∈ tables_1, d.before a0 Z = true) (ws : List Jvm.Cond) (x0 : Int32) (x1 : Int32)  (h0 : Heap) (n0 : Nat) (Z0 : n0 ≤ h0.size)  :
    MetFree l (⟨"java/lang/Math", "max", "(II)I"⟩ : MethodName) (head1 (Jvm.Cond.code (⟨"java/lang/Math", "max", "(II)I"⟩ : MethodName) jdk_29_method_65_code 2 (some .int) :: ws) ({ frames := 0, cells := 0, slots := 0, locals := 0 } : Room)) (fun a U => a = #[(.int x0), (.int x1)] ∧ Z.Warmed39 U.vm ∧ U.heap = h0) (fun _ _ _ _ _ => True) (fun _ U o U' => ∃ v L, o = .returned v ∧ own_Q_own_rm5 Z x0 x1 h0 n0 v U'.heap L ∧ FrameEnd U o U' L ({ frames := 0, cells := 0, slots := 0, locals := 0 } : Room).cells ({ frames := 0, cells := 0, slots := 0, locals := 0 } : Room).slots) := by
  refine MetFree.of_bodySF (Jvm.Free.JP.mathPlain rfl (by decide +kernel)) hisR ?_
  intro p e s m args below meth c s₁ Bd hml0 hP hK
  obtain ⟨rfl, hZ, hh⟩ := hP
  have hx := Bd.exec
  have hby := Bd.bytes
  have hml : c.maxLocals = 2 := hml0
  have hown : s.vm.findClass "java/lang/Math" = some m.cls := findClass_of_methodNamed Bd.named
  have hnm := (name_of_methodNamed Bd.named Bd.method).1
  have X0 : Stand p l e ({ frames := 0, cells := 0, slots := 0, locals := 0 } : Room) s m #[(.int x0), (.int x1)] below meth c s₁ [] 0 0 := Stand.of_body Bd
  have e0 : s₁.heap = h0 := by rw [← hh, Bd.state]; rfl
  have N0 := Fr.nil n0
  show Goes p.tables e below _ (own_R below s (own_Q_own_rm5 Z x0 x1 h0 n0) ({ frames := 0, cells := 0, slots := 0, locals := 0 } : Room).cells ({ frames := 0, cells := 0, slots := 0, locals := 0 } : Room).slots)
  refine Goes.to (fun t k => castTop (own_ef_own_rm5 m x0 x1) k) ?_
  show Goes p.tables e below (s₁.setTop (mkF m 0 #[.val (.int x0), .val (.int x1)] [])) _
  refine Goes.to (fun _ k => XS.iloadN X0.here hx rfl (hb hby d5_0) rfl k) ?_
  show Goes p.tables e below (s₁.setTop (mkF m 1 #[.val (.int x0), .val (.int x1)] [(.int x0)])) _
  refine Goes.to (fun _ k => XS.iloadN X0.here hx rfl (hb hby d5_1) rfl k) ?_
  show Goes p.tables e below (s₁.setTop (mkF m 2 #[.val (.int x0), .val (.int x1)] [(.int x1), (.int x0)])) _
  by_cases hc1 : x0 < x1
  · refine Goes.to (fun _ k => XS.icmpYes X0.here hx rfl (pc0 := 2) (pc' := 9) rfl (hb hby d5_2) rfl (tlt hc1).1 (by decide) (by decide) k) ?_
    show Goes p.tables e below (s₁.setTop (mkF m 9 #[.val (.int x0), .val (.int x1)] [])) _
    refine Goes.to (fun _ k => XS.iloadN X0.here hx rfl (hb hby d5_9) rfl k) ?_
    show Goes p.tables e below (s₁.setTop (mkF m 10 #[.val (.int x0), .val (.int x1)] [(.int x1)])) _
    obtain ⟨fs, hr, hrun, hended, hW, hsame⟩ := X0.leave (v := some (.int x1)) (fun h => by rw [Bd.returns] at h; cases h)
    have hv : (some (.int x1) : Option Value) = some (.int (own_max x0 x1)) := by
      rw [own_max, if_pos hc1]
    exact ⟨_, _, retI X0 hx Bd.returns (hb hby d5_10) hr, hrun, hended, _, _, rfl, ⟨hv, N0, e0⟩, ⟨_, rfl⟩, hW, hsame.mono (by decide) (by decide)⟩
  · refine Goes.to (fun _ k => XS.icmpNo X0.here hx rfl (hb hby d5_2) rfl (flt hc1).1 k) ?_
    show Goes p.tables e below (s₁.setTop (mkF m 5 #[.val (.int x0), .val (.int x1)] [])) _
    refine Goes.to (fun _ k => XS.iloadN X0.here hx rfl (hb hby d5_5) rfl k) ?_
    show Goes p.tables e below (s₁.setTop (mkF m 6 #[.val (.int x0), .val (.int x1)] [(.int x0)])) _
    refine Goes.to (fun _ k => XS.goto X0.here hx rfl (pc0 := 6) (pc' := 10) rfl (hb hby d5_6) (by decide) (by decide) k) ?_
    show Goes p.tables e below (s₁.setTop (mkF m 10 #[.val (.int x0), .val (.int x1)] [(.int x0)])) _
    obtain ⟨fs, hr, hrun, hended, hW, hsame⟩ := X0.leave (v := some (.int x0)) (fun h => by rw [Bd.returns] at h; cases h)
    have hv : (some (.int x0) : Option Value) = some (.int (own_max x0 x1)) := by
      rw [own_max, if_neg hc1]
    exact ⟨_, _, retI X0 hx Bd.returns (hb hby d5_10) hr, hrun, hended, _, _, rfl, ⟨hv, N0, e0⟩, ⟨_, rfl⟩, hW, hsame.mono (by decide) (by decide)⟩

theorem d2_0 : decode jdk_30_method_1_code 0 = .ok (.aload_n 0, 1) := by decide +kernel
theorem d2_1 : decode jdk_30_method_1_code 1 = .ok (.invokespecial 1, 3) := by decide +kernel
theorem d2_4 : decode jdk_30_method_1_code 4 = .ok (.return_, 1) := by decide +kernel
theorem own_pn_2 : plainName "java/lang/Record" = true := by first | (simp [plainName, overriddenIn]; done) | decide +kernel
theorem own_ef_own_rm2 (m : MethodId) (x0 : Addr) : entryFrame m #[(.ref x0)] 1 = mkF m 0 #[.val (.ref x0)] [] := by first | (simp [entryFrame, mkF, argsToLocals, Value.category]; done) | rfl
def own_Q_own_rm2 (Z : State) (x0 : Addr)  (h0 : Heap) (n0 : Nat) (v : Option Value) (h : Heap) (L : List Loc) : Prop := v = none ∧ Fr n0 L ∧ h = h0
set_option maxRecDepth 65536 in
set_option maxHeartbeats 40000000 in
theorem own_rm2 (l : Launch) (Z : State) (a0 : Array Value) (hw : ∀ d ∈ tables_1, d.before a0 Z = true) (ws : List Jvm.Cond) (x0 : Addr)  (h0 : Heap) (n0 : Nat) (Z0 : n0 ≤ h0.size)  :
    MetFree l (⟨"java/lang/Record", "<init>", "()V"⟩ : MethodName) (head1 (Jvm.Cond.code (⟨"java/lang/Record", "<init>", "()V"⟩ : MethodName) jdk_30_method_1_code 1 none :: ws) ({ frames := 1, cells := 0, slots := 0, locals := 12 } : Room)) (fun a U => a = #[(.ref x0)] ∧ Z.Warmed39 U.vm ∧ U.heap = h0) (fun _ _ _ _ _ => True) (fun _ U o U' => ∃ v L, o = .returned v ∧ own_Q_own_rm2 Z x0 h0 n0 v U'.heap L ∧ FrameEnd U o U' L ({ frames := 1, cells := 0, slots := 0, locals := 12 } : Room).cells ({ frames := 1, cells := 0, slots := 0, locals := 12 } : Room).slots) := by
  refine MetFree.of_bodySF (plainFor_of_name own_pn_2) hisR ?_
  intro p e s m args below meth c s₁ Bd hml0 hP hK
  obtain ⟨rfl, hZ, hh⟩ := hP
  have hx := Bd.exec
  have hby := Bd.bytes
  have hml : c.maxLocals = 1 := hml0
  have hown : s.vm.findClass "java/lang/Record" = some m.cls := findClass_of_methodNamed Bd.named
  have hnm := (name_of_methodNamed Bd.named Bd.method).1
  have X0 : Stand p l e ({ frames := 1, cells := 0, slots := 0, locals := 12 } : Room) s m #[(.ref x0)] below meth c s₁ [] 0 0 := Stand.of_body Bd
  have e0 : s₁.heap = h0 := by rw [← hh, Bd.state]; rfl
  have N0 := Fr.nil n0
  show Goes p.tables e below _ (own_R below s (own_Q_own_rm2 Z x0 h0 n0) ({ frames := 1, cells := 0, slots := 0, locals := 12 } : Room).cells ({ frames := 1, cells := 0, slots := 0, locals := 12 } : Room).slots)
  refine Goes.to (fun t k => castTop (own_ef_own_rm2 m x0) k) ?_
  show Goes p.tables e below (s₁.setTop (mkF m 0 #[.val (.ref x0)] [])) _
  refine Goes.to (fun _ k => XS.aloadN X0.here hx rfl (hb hby d2_0) rfl rfl k) ?_
  show Goes p.tables e below (s₁.setTop (mkF m 1 #[.val (.ref x0)] [(.ref x0)])) _
  obtain ⟨T1, X1, e1, st1⟩ := initO X0 hx hZ hown (hw _ (List.mem_of_getElem? (i := 12) rfl)) (hw _ (List.mem_of_getElem? (i := 13) rfl)) (hw _ (List.mem_of_getElem? (i := 14) rfl)) e0 (g := (mkF m 1 #[.val (.ref x0)] [(.ref x0)])) rfl (by rw [hml]; rfl) rfl (hb hby d2_1) (by decide) (W := 0) (by show 2 * 0 + _ ≤ _; exact Nat.le_of_eq rfl) (by decide)
  refine Goes.to st1 ?_
  show Goes p.tables e below (T1.setTop (mkF m 4 #[.val (.ref x0)] [])) _
  obtain ⟨fs, hr, hrun, hended, hW, hsame⟩ := X1.leave (v := none) (fun _ => rfl)
  have hv : (none : Option Value) = none := by
    rfl
  exact ⟨_, _, X1.returnOut hx Bd.returns (hb hby d2_4) hr, hrun, hended, _, _, rfl, ⟨hv, N0, e1⟩, ⟨_, rfl⟩, hW, hsame.mono (by decide) (by decide)⟩

theorem d1_0 : decode prog_15_method_1_code 0 = .ok (.aload_n 0, 1) := by decide +kernel
theorem d1_1 : decode prog_15_method_1_code 1 = .ok (.invokespecial 1, 3) := by decide +kernel
theorem d1_4 : decode prog_15_method_1_code 4 = .ok (.iload_n 1, 1) := by decide +kernel
theorem d1_5 : decode prog_15_method_1_code 5 = .ok (.iconst 1, 1) := by decide +kernel
theorem d1_6 : decode prog_15_method_1_code 6 = .ok (.if_icmp .ge 17, 3) := by decide +kernel
theorem d1_23 : decode prog_15_method_1_code 23 = .ok (.iload_n 2, 1) := by decide +kernel
theorem d1_24 : decode prog_15_method_1_code 24 = .ok (.ifCond .ge 17, 3) := by decide +kernel
theorem d1_41 : decode prog_15_method_1_code 41 = .ok (.aload_n 0, 1) := by decide +kernel
theorem d1_42 : decode prog_15_method_1_code 42 = .ok (.iload_n 1, 1) := by decide +kernel
theorem d1_43 : decode prog_15_method_1_code 43 = .ok (.putfield 17, 3) := by decide +kernel
theorem d1_46 : decode prog_15_method_1_code 46 = .ok (.aload_n 0, 1) := by decide +kernel
theorem d1_47 : decode prog_15_method_1_code 47 = .ok (.iload_n 2, 1) := by decide +kernel
theorem d1_48 : decode prog_15_method_1_code 48 = .ok (.putfield 23, 3) := by decide +kernel
theorem d1_51 : decode prog_15_method_1_code 51 = .ok (.return_, 1) := by decide +kernel
theorem own_pd_pqV : parseMethodDescriptor "()V" = some ⟨[], none⟩ := by decide +kernel
theorem own_pn_1 : plainName "com/example/polgen/polgen/mine/PathLimits" = true := by first | (simp [plainName, overriddenIn]; done) | decide +kernel
theorem own_ef_own_rm1 (m : MethodId) (x0 : Addr) (x1 : Int32) (x2 : Int32) : entryFrame m #[(.ref x0), (.int x1), (.int x2)] 3 = mkF m 0 #[.val (.ref x0), .val (.int x1), .val (.int x2)] [] := by first | (simp [entryFrame, mkF, argsToLocals, Value.category]; done) | rfl
def own_Q_own_rm1 (Z : State) (x0 : Addr) (x1 : Int32) (x2 : Int32)  (h0 : Heap) (n0 : Nat) (v : Option Value) (h : Heap) (L : List Loc) : Prop := v = none ∧ Fr n0 L ∧ Keep h0 h [x0] ∧ Exa Z h x0 "com/example/polgen/polgen/mine/PathLimits" ∧ Fld Z h x0 "com/example/polgen/polgen/mine/PathLimits" "maxConditionPath" "I" (.int x1) ∧ Fld Z h x0 "com/example/polgen/polgen/mine/PathLimits" "maxConstraintPath" "I" (.int x2)
set_option maxRecDepth 65536 in
set_option maxHeartbeats 40000000 in
theorem own_rm1 (l : Launch) (Z : State) (a0 : Array Value) (hw : ∀ d ∈ tables_1, d.before a0 Z = true) (ws : List Jvm.Cond) (x0 : Addr) (x1 : Int32) (x2 : Int32)  (h0 : Heap) (n0 : Nat) (Z0 : n0 ≤ h0.size) (E_x0 : Exa Z h0 x0 "com/example/polgen/polgen/mine/PathLimits") (g_x0 : n0 ≤ x0) (F_x0_0 : Fld Z h0 x0 "com/example/polgen/polgen/mine/PathLimits" "maxConditionPath" "I" (.int (0 : Int32))) (F_x0_1 : Fld Z h0 x0 "com/example/polgen/polgen/mine/PathLimits" "maxConstraintPath" "I" (.int (0 : Int32))) (hq1 : ¬ (x1 < (1 : Int32))) (hq2 : ¬ (x2 < (0 : Int32))) :
    MetFree l (⟨"com/example/polgen/polgen/mine/PathLimits", "<init>", "(II)V"⟩ : MethodName) (head1 (Jvm.Cond.code (⟨"com/example/polgen/polgen/mine/PathLimits", "<init>", "(II)V"⟩ : MethodName) prog_15_method_1_code 3 none :: ws) ({ frames := 2, cells := 0, slots := 0, locals := 24 } : Room)) (fun a U => a = #[(.ref x0), (.int x1), (.int x2)] ∧ Z.Warmed39 U.vm ∧ U.heap = h0) (fun _ _ _ _ _ => True) (fun _ U o U' => ∃ v L, o = .returned v ∧ own_Q_own_rm1 Z x0 x1 x2 h0 n0 v U'.heap L ∧ FrameEnd U o U' L ({ frames := 2, cells := 0, slots := 0, locals := 24 } : Room).cells ({ frames := 2, cells := 0, slots := 0, locals := 24 } : Room).slots) := by
  refine MetFree.of_bodySF (plainFor_of_name own_pn_1) hisR ?_
  intro p e s m args below meth c s₁ Bd hml0 hP hK
  obtain ⟨rfl, hZ, hh⟩ := hP
  have hx := Bd.exec
  have hby := Bd.bytes
  have hml : c.maxLocals = 3 := hml0
  have hown : s.vm.findClass "com/example/polgen/polgen/mine/PathLimits" = some m.cls := findClass_of_methodNamed Bd.named
  have hnm := (name_of_methodNamed Bd.named Bd.method).1
  have X0 : Stand p l e ({ frames := 2, cells := 0, slots := 0, locals := 24 } : Room) s m #[(.ref x0), (.int x1), (.int x2)] below meth c s₁ [] 0 0 := Stand.of_body Bd
  have e0 : s₁.heap = h0 := by rw [← hh, Bd.state]; rfl
  have N0 := Fr.nil n0
  show Goes p.tables e below _ (own_R below s (own_Q_own_rm1 Z x0 x1 x2 h0 n0) ({ frames := 2, cells := 0, slots := 0, locals := 24 } : Room).cells ({ frames := 2, cells := 0, slots := 0, locals := 24 } : Room).slots)
  refine Goes.to (fun t k => castTop (own_ef_own_rm1 m x0 x1 x2) k) ?_
  show Goes p.tables e below (s₁.setTop (mkF m 0 #[.val (.ref x0), .val (.int x1), .val (.int x2)] [])) _
  refine Goes.to (fun _ k => XS.aloadN X0.here hx rfl (hb hby d1_0) rfl rfl k) ?_
  show Goes p.tables e below (s₁.setTop (mkF m 1 #[.val (.ref x0), .val (.int x1), .val (.int x2)] [(.ref x0)])) _
  obtain ⟨_, _, ⟨T1, L1, k1, n1⟩, -, X1, ⟨Lc1, hQ1, l1, y1, z1⟩, st1⟩ := X0.specialBack hx (y := (⟨"java/lang/Record", "<init>", "()V"⟩ : MethodName)) rfl hown (mvT hZ (hw _ (List.mem_of_getElem? (i := 7) rfl))) (mvT hZ (hw _ (List.mem_of_getElem? (i := 8) rfl))) (mvT hZ (hw _ (List.mem_of_getElem? (i := 11) rfl))) (by decide) (backOf (W := 0) (own_rm2 l Z a0 hw [] x0 h0 n0 Z0 ) hZ (hw _ (List.mem_of_getElem? (i := 11) rfl)) (hw _ (List.mem_of_getElem? (i := 10) rfl)) (by decide) (by decide)) (g := (mkF m 1 #[.val (.ref x0), .val (.int x1), .val (.int x2)] [(.ref x0)])) rfl (by rw [hml]; rfl) (Steps.refl _) (a := x0) (argsL := []) (rest := []) (lenOf own_pd_pqV rfl) rfl (by show 2 * 0 + _ ≤ _; exact Nat.le_of_eq rfl) (hb hby d1_1) (fun _ _ => ⟨rfl, e0, (by decide : 0 + 0 ≤ _), (by decide : 0 + 0 ≤ _)⟩)
  dsimp only [Pt.U, Pt.locs, Pt.cells, Pt.slots] at X1 l1 y1 z1 st1 hQ1
  subst l1 y1 z1
  obtain ⟨hv1, Nq1, hp1_0⟩ := hQ1
  have N1 := Fr.app N0 Nq1
  subst hv1
  refine Goes.tr st1 ?_
  show Goes p.tables e below (T1.setTop (mkF m 4 #[.val (.ref x0), .val (.int x1), .val (.int x2)] [])) _
  refine Goes.to (fun _ k => XS.iloadN X1.here hx rfl (hb hby d1_4) rfl k) ?_
  show Goes p.tables e below (T1.setTop (mkF m 5 #[.val (.ref x0), .val (.int x1), .val (.int x2)] [(.int x1)])) _
  refine Goes.to (fun _ k => XS.iconst X1.here hx rfl (hb hby d1_5) k) ?_
  show Goes p.tables e below (T1.setTop (mkF m 6 #[.val (.ref x0), .val (.int x1), .val (.int x2)] [(.int (1 : Int32)), (.int x1)])) _
  refine Goes.to (fun _ k => XS.icmpYes X1.here hx rfl (pc0 := 6) (pc' := 23) rfl (hb hby d1_6) rfl (flt hq1).2.1 (by decide) (by decide) k) ?_
  show Goes p.tables e below (T1.setTop (mkF m 23 #[.val (.ref x0), .val (.int x1), .val (.int x2)] [])) _
  refine Goes.to (fun _ k => XS.iloadN X1.here hx rfl (hb hby d1_23) rfl k) ?_
  show Goes p.tables e below (T1.setTop (mkF m 24 #[.val (.ref x0), .val (.int x1), .val (.int x2)] [(.int x2)])) _
  refine Goes.to (fun _ k => XS.ifYes X1.here hx rfl (pc0 := 24) (pc' := 41) rfl (hb hby d1_24) rfl ((if0 _ _).trans (flt hq2).2.1) (by decide) (by decide) k) ?_
  show Goes p.tables e below (T1.setTop (mkF m 41 #[.val (.ref x0), .val (.int x1), .val (.int x2)] [])) _
  refine Goes.to (fun _ k => XS.aloadN X1.here hx rfl (hb hby d1_41) rfl rfl k) ?_
  show Goes p.tables e below (T1.setTop (mkF m 42 #[.val (.ref x0), .val (.int x1), .val (.int x2)] [(.ref x0)])) _
  refine Goes.to (fun _ k => XS.iloadN X1.here hx rfl (hb hby d1_42) rfl k) ?_
  show Goes p.tables e below (T1.setTop (mkF m 43 #[.val (.ref x0), .val (.int x1), .val (.int x2)] [(.int x1), (.ref x0)])) _
  obtain ⟨T2, h2, X2, e2, W2, st2⟩ := putF X1 hx hZ hown (host := "") (Or.inl (hw _ (List.mem_of_getElem? (i := 15) rfl))) Via.refl hp1_0 F_x0_0 E_x0 (Or.inr ⟨(hw _ (List.mem_of_getElem? (i := 16) rfl)), rfl, hnm⟩) (hw _ (List.mem_of_getElem? (i := 2) rfl)) (ty := .int) (by decide) rfl rfl (g := (mkF m 43 #[.val (.ref x0), .val (.int x1), .val (.int x2)] [(.int x1), (.ref x0)])) rfl rfl (hb hby d1_43)
  subst e2
  have F3 := E_x0.wr W2
  have F5 := F_x0_1.other W2 (Or.inr (slot_ne (Or.inr (hw _ (List.mem_of_getElem? (i := 18) rfl))) (Or.inr (hw _ (List.mem_of_getElem? (i := 16) rfl))) (by decide) (t := .int) (t' := .int) (by decide) (by decide)))
  have N2 := Fr.snoc X2 N1 g_x0
  have Z2 : n0 ≤ T2.heap.size := Nat.le_trans Z0 (Nat.le_of_eq W2.size.symm)
  have K2 : Keep h0 T2.heap [x0] := (Keep.refl h0 [x0]).wr W2 (Or.inl (List.mem_of_getElem? (i := 0) rfl))
  have F6 : Fld Z T2.heap x0 "com/example/polgen/polgen/mine/PathLimits" "maxConditionPath" "I" (.int x1) := F_x0_0.same W2
  refine Goes.to st2 ?_
  show Goes p.tables e below (T2.setTop (mkF m 46 #[.val (.ref x0), .val (.int x1), .val (.int x2)] [])) _
  refine Goes.to (fun _ k => XS.aloadN X2.here hx rfl (hb hby d1_46) rfl rfl k) ?_
  show Goes p.tables e below (T2.setTop (mkF m 47 #[.val (.ref x0), .val (.int x1), .val (.int x2)] [(.ref x0)])) _
  refine Goes.to (fun _ k => XS.iloadN X2.here hx rfl (hb hby d1_47) rfl k) ?_
  show Goes p.tables e below (T2.setTop (mkF m 48 #[.val (.ref x0), .val (.int x1), .val (.int x2)] [(.int x2), (.ref x0)])) _
  obtain ⟨T7, h7, X7, e7, W7, st7⟩ := putF X2 hx hZ hown (host := "") (Or.inl (hw _ (List.mem_of_getElem? (i := 17) rfl))) Via.refl rfl F5 F3 (Or.inr ⟨(hw _ (List.mem_of_getElem? (i := 18) rfl)), rfl, hnm⟩) (hw _ (List.mem_of_getElem? (i := 2) rfl)) (ty := .int) (by decide) rfl rfl (g := (mkF m 48 #[.val (.ref x0), .val (.int x1), .val (.int x2)] [(.int x2), (.ref x0)])) rfl rfl (hb hby d1_48)
  subst e7
  have F8 := F3.wr W7
  have F9 := F6.other W7 (Or.inr (slot_ne (Or.inr (hw _ (List.mem_of_getElem? (i := 16) rfl))) (Or.inr (hw _ (List.mem_of_getElem? (i := 18) rfl))) (by decide) (t := .int) (t' := .int) (by decide) (by decide)))
  have N7 := Fr.snoc X7 N2 g_x0
  have Z7 : n0 ≤ T7.heap.size := Nat.le_trans Z2 (Nat.le_of_eq W7.size.symm)
  have K7 : Keep h0 T7.heap [x0] := K2.wr W7 (Or.inl (List.mem_of_getElem? (i := 0) rfl))
  have F11 : Fld Z T7.heap x0 "com/example/polgen/polgen/mine/PathLimits" "maxConstraintPath" "I" (.int x2) := F5.same W7
  refine Goes.to st7 ?_
  show Goes p.tables e below (T7.setTop (mkF m 51 #[.val (.ref x0), .val (.int x1), .val (.int x2)] [])) _
  obtain ⟨fs, hr, hrun, hended, hW, hsame⟩ := X7.leave (v := none) (fun _ => rfl)
  have hv : (none : Option Value) = none := by
    rfl
  exact ⟨_, _, X7.returnOut hx Bd.returns (hb hby d1_51) hr, hrun, hended, _, _, rfl, ⟨hv, N7, (by show Keep h0 T7.heap [x0]; exact K7), (by show Exa Z T7.heap x0 "com/example/polgen/polgen/mine/PathLimits"; exact F8), (by show Fld Z T7.heap x0 "com/example/polgen/polgen/mine/PathLimits" "maxConditionPath" "I" (.int x1); exact F9), (by show Fld Z T7.heap x0 "com/example/polgen/polgen/mine/PathLimits" "maxConstraintPath" "I" (.int x2); exact F11)⟩, ⟨_, rfl⟩, hW, hsame.mono (by decide) (by decide)⟩

theorem d4_0 : decode prog_15_method_2_code 0 = .ok (.aload_n 0, 1) := by decide +kernel
theorem d4_1 : decode prog_15_method_2_code 1 = .ok (.getfield 17, 3) := by decide +kernel
theorem d4_4 : decode prog_15_method_2_code 4 = .ok (.aload_n 0, 1) := by decide +kernel
theorem d4_5 : decode prog_15_method_2_code 5 = .ok (.getfield 23, 3) := by decide +kernel
theorem d4_8 : decode prog_15_method_2_code 8 = .ok (.invokestatic 26, 3) := by decide +kernel
theorem d4_11 : decode prog_15_method_2_code 11 = .ok (.ireturn, 1) := by decide +kernel
theorem own_pd_pIIqI : parseMethodDescriptor "(II)I" = some ⟨[.int, .int], some .int⟩ := by decide +kernel
theorem own_pn_4 : plainName "com/example/polgen/polgen/mine/PathLimits" = true := by first | (simp [plainName, overriddenIn]; done) | decide +kernel
theorem own_ef_own_rm4 (m : MethodId) (x0 : Addr) : entryFrame m #[(.ref x0)] 1 = mkF m 0 #[.val (.ref x0)] [] := by first | (simp [entryFrame, mkF, argsToLocals, Value.category]; done) | rfl
def own_Q_own_rm4 (Z : State) (x0 : Addr) (w1 : Int32) (w2 : Int32) (h0 : Heap) (n0 : Nat) (v : Option Value) (h : Heap) (L : List Loc) : Prop := v = some (.int (own_max w1 w2)) ∧ Fr n0 L ∧ h = h0
set_option maxRecDepth 65536 in
set_option maxHeartbeats 40000000 in
theorem own_rm4 (l : Launch) (Z : State) (a0 : Array Value) (hw : ∀ d ∈ tables_1, d.before a0 Z = true) (ws : List Jvm.Cond) (x0 : Addr) (w1 : Int32) (w2 : Int32) (h0 : Heap) (n0 : Nat) (Z0 : n0 ≤ h0.size) (F1 : Fld Z h0 x0 "com/example/polgen/polgen/mine/PathLimits" "maxConditionPath" "I" (.int w1)) (F2 : Fld Z h0 x0 "com/example/polgen/polgen/mine/PathLimits" "maxConstraintPath" "I" (.int w2)) :
    MetFree l (⟨"com/example/polgen/polgen/mine/PathLimits", "maxPath", "()I"⟩ : MethodName) (head1 (Jvm.Cond.code (⟨"com/example/polgen/polgen/mine/PathLimits", "maxPath", "()I"⟩ : MethodName) prog_15_method_2_code 1 (some .int) :: ws) ({ frames := 1, cells := 0, slots := 0, locals := 13 } : Room)) (fun a U => a = #[(.ref x0)] ∧ Z.Warmed39 U.vm ∧ U.heap = h0) (fun _ _ _ _ _ => True) (fun _ U o U' => ∃ v L, o = .returned v ∧ own_Q_own_rm4 Z x0 w1 w2 h0 n0 v U'.heap L ∧ FrameEnd U o U' L ({ frames := 1, cells := 0, slots := 0, locals := 13 } : Room).cells ({ frames := 1, cells := 0, slots := 0, locals := 13 } : Room).slots) := by
  refine MetFree.of_bodySF (plainFor_of_name own_pn_4) hisR ?_
  intro p e s m args below meth c s₁ Bd hml0 hP hK
  obtain ⟨rfl, hZ, hh⟩ := hP
  have hx := Bd.exec
  have hby := Bd.bytes
  have hml : c.maxLocals = 1 := hml0
  have hown : s.vm.findClass "com/example/polgen/polgen/mine/PathLimits" = some m.cls := findClass_of_methodNamed Bd.named
  have hnm := (name_of_methodNamed Bd.named Bd.method).1
  have X0 : Stand p l e ({ frames := 1, cells := 0, slots := 0, locals := 13 } : Room) s m #[(.ref x0)] below meth c s₁ [] 0 0 := Stand.of_body Bd
  have e0 : s₁.heap = h0 := by rw [← hh, Bd.state]; rfl
  have N0 := Fr.nil n0
  show Goes p.tables e below _ (own_R below s (own_Q_own_rm4 Z x0 w1 w2 h0 n0) ({ frames := 1, cells := 0, slots := 0, locals := 13 } : Room).cells ({ frames := 1, cells := 0, slots := 0, locals := 13 } : Room).slots)
  refine Goes.to (fun t k => castTop (own_ef_own_rm4 m x0) k) ?_
  show Goes p.tables e below (s₁.setTop (mkF m 0 #[.val (.ref x0)] [])) _
  refine Goes.to (fun _ k => XS.aloadN X0.here hx rfl (hb hby d4_0) rfl rfl k) ?_
  show Goes p.tables e below (s₁.setTop (mkF m 1 #[.val (.ref x0)] [(.ref x0)])) _
  obtain ⟨T1, X1, e1, st1⟩ := getF X0 hx hZ hown (host := "") (Or.inl (hw _ (List.mem_of_getElem? (i := 15) rfl))) Via.refl e0 F1 (g := (mkF m 1 #[.val (.ref x0)] [(.ref x0)])) rfl rfl (hb hby d4_1)
  refine Goes.to st1 ?_
  show Goes p.tables e below (T1.setTop (mkF m 4 #[.val (.ref x0)] [(.int w1)])) _
  refine Goes.to (fun _ k => XS.aloadN X1.here hx rfl (hb hby d4_4) rfl rfl k) ?_
  show Goes p.tables e below (T1.setTop (mkF m 5 #[.val (.ref x0)] [(.ref x0), (.int w1)])) _
  obtain ⟨T2, X2, e2, st2⟩ := getF X1 hx hZ hown (host := "") (Or.inl (hw _ (List.mem_of_getElem? (i := 17) rfl))) Via.refl e1 F2 (g := (mkF m 5 #[.val (.ref x0)] [(.ref x0), (.int w1)])) rfl rfl (hb hby d4_5)
  refine Goes.to st2 ?_
  show Goes p.tables e below (T2.setTop (mkF m 8 #[.val (.ref x0)] [(.int w2), (.int w1)])) _
  obtain ⟨_, _, ⟨T3, L3, k3, n3⟩, -, X3, ⟨Lc3, hQ3, l3, y3, z3⟩, st3⟩ := Jvm.LawKit.callS X2 hx (y := (⟨"java/lang/Math", "max", "(II)I"⟩ : MethodName)) hown (mvT hZ (hw _ (List.mem_of_getElem? (i := 24) rfl))) (mvT hZ (hw _ (List.mem_of_getElem? (i := 25) rfl))) (mvT hZ (hw _ (List.mem_of_getElem? (i := 26) rfl))) (mvT hZ (hw _ (List.mem_of_getElem? (i := 27) rfl))) (by decide) (backOf (W := 0) (own_rm5 l Z a0 hw [] w1 w2 h0 n0 Z0 ) hZ (hw _ (List.mem_of_getElem? (i := 27) rfl)) (hw _ (List.mem_of_getElem? (i := 26) rfl)) (by decide) (by decide)) (g := (mkF m 8 #[.val (.ref x0)] [(.int w2), (.int w1)])) rfl (by rw [hml]; rfl) (argsL := [(.int w1), (.int w2)]) (rest := []) (lenOf own_pd_pIIqI rfl) rfl (by show 2 * 0 + _ ≤ _; exact Nat.le_of_eq rfl) (hb hby d4_8) (fun _ _ => ⟨rfl, e2, (by decide : 0 + 0 ≤ _), (by decide : 0 + 0 ≤ _)⟩)
  dsimp only [Pt.U, Pt.locs, Pt.cells, Pt.slots] at X3 l3 y3 z3 st3 hQ3
  subst l3 y3 z3
  obtain ⟨hv3, Nq3, hp3_0⟩ := hQ3
  have N3 := Fr.app N0 Nq3
  subst hv3
  refine Goes.to st3 ?_
  show Goes p.tables e below (T3.setTop (mkF m 11 #[.val (.ref x0)] [(.int (own_max w1 w2))])) _
  obtain ⟨fs, hr, hrun, hended, hW, hsame⟩ := X3.leave (v := some (.int (own_max w1 w2))) (fun h => by rw [Bd.returns] at h; cases h)
  have hv : (some (.int (own_max w1 w2)) : Option Value) = some (.int (own_max w1 w2)) := by
    rfl
  exact ⟨_, _, retI X3 hx Bd.returns (hb hby d4_11) hr, hrun, hended, _, _, rfl, ⟨hv, N3, hp3_0⟩, ⟨_, rfl⟩, hW, hsame.mono (by decide) (by decide)⟩

theorem own_pd_pIIqV : parseMethodDescriptor "(II)V" = some ⟨[.int, .int], none⟩ := by decide +kernel
theorem own_pd_pqI : parseMethodDescriptor "()I" = some ⟨[], some .int⟩ := by decide +kernel
theorem own_pn_0 : plainName "com/example/polgen/polgen/mine/PathLimitsMaxPathPinLaw" = true := by first | (simp [plainName, overriddenIn]; done) | decide +kernel
theorem own_ef_own_rm0 (m : MethodId) (x0 : Int32) (x1 : Int32) : entryFrame m #[(.int x0), (.int x1)] maxLocals = mkF m 0 #[.val (.int x0), .val (.int x1), .unset, .unset, .unset, .unset] [] := by first | (simp [entryFrame, mkF, argsToLocals, Value.category, maxLocals]; done) | rfl
def own_Q_own_rm0 (Z : State) (x0 : Int32) (x1 : Int32)  (h0 : Heap) (n0 : Nat) (v : Option Value) (h : Heap) (L : List Loc) : Prop := v = some (.int (1 : Int32)) ∧ Fr n0 L
set_option maxRecDepth 65536 in
set_option maxHeartbeats 40000000 in
theorem own_rm0 (l : Launch) (Z : State) (a0 : Array Value) (hw : ∀ d ∈ tables_1, d.before a0 Z = true) (ws : List Jvm.Cond) (x0 : Int32) (x1 : Int32)  (h0 : Heap) (n0 : Nat) (Z0 : n0 ≤ h0.size)  :
    MetFree l x (head1 (Jvm.Cond.code x code maxLocals ret :: ws) room_1) (fun a U => a = #[(.int x0), (.int x1)] ∧ Z.Warmed39 U.vm ∧ U.heap = h0) (fun _ _ _ _ _ => True) (fun _ U o U' => ∃ v L, o = .returned v ∧ own_Q_own_rm0 Z x0 x1 h0 n0 v U'.heap L ∧ FrameEnd U o U' L 1 2) := by
  refine MetFree.of_bodySF (plainFor_of_name own_pn_0) hisR ?_
  intro p e s m args below meth c s₁ Bd hml0 hP hK
  obtain ⟨rfl, hZ, hh⟩ := hP
  have hx := Bd.exec
  have hby := Bd.bytes
  have hml : c.maxLocals = 6 := hml0
  have hown : s.vm.findClass "com/example/polgen/polgen/mine/PathLimitsMaxPathPinLaw" = some m.cls := findClass_of_methodNamed Bd.named
  have hnm := (name_of_methodNamed Bd.named Bd.method).1
  have X0 : Stand p l e room_1 s m #[(.int x0), (.int x1)] below meth c s₁ [] 0 0 := Stand.of_body Bd
  have e0 : s₁.heap = h0 := by rw [← hh, Bd.state]; rfl
  have N0 := Fr.nil n0
  show Goes p.tables e below _ (own_R below s (own_Q_own_rm0 Z x0 x1 h0 n0) 1 2)
  refine Goes.to (fun t k => castTop (own_ef_own_rm0 m x0 x1) k) ?_
  show Goes p.tables e below (s₁.setTop (mkF m 0 #[.val (.int x0), .val (.int x1), .unset, .unset, .unset, .unset] [])) _
  refine Goes.to (fun _ k => XS.iloadN X0.here hx rfl (hb hby at_0) rfl k) ?_
  show Goes p.tables e below (s₁.setTop (mkF m 1 #[.val (.int x0), .val (.int x1), .unset, .unset, .unset, .unset] [(.int x0)])) _
  refine Goes.to (fun _ k => X0.ldcInt hx hown (mvT hZ (hw _ (List.mem_of_getElem? (i := 0) rfl))) (g := (mkF m 1 #[.val (.int x0), .val (.int x1), .unset, .unset, .unset, .unset] [(.int x0)])) rfl (hb hby at_1) _ k) ?_
  show Goes p.tables e below (s₁.setTop (mkF m 3 #[.val (.int x0), .val (.int x1), .unset, .unset, .unset, .unset] [(.int (2147483647 : Int32)), (.int x0)])) _
  refine Goes.to (fun _ k => XS.iand X0.here hx rfl (hb hby at_3) rfl k) ?_
  show Goes p.tables e below (s₁.setTop (mkF m 4 #[.val (.int x0), .val (.int x1), .unset, .unset, .unset, .unset] [(.int (x0 &&& (2147483647 : Int32)))])) _
  refine Goes.to (fun _ k => XS.istoreN X0.here hx rfl (hb hby at_4) rfl (l' := #[.val (.int x0), .val (.int x1), .val (.int (x0 &&& (2147483647 : Int32))), .unset, .unset, .unset]) rfl k) ?_
  show Goes p.tables e below (s₁.setTop (mkF m 5 #[.val (.int x0), .val (.int x1), .val (.int (x0 &&& (2147483647 : Int32))), .unset, .unset, .unset] [])) _
  refine Goes.to (fun _ k => XS.iloadN X0.here hx rfl (hb hby at_5) rfl k) ?_
  show Goes p.tables e below (s₁.setTop (mkF m 6 #[.val (.int x0), .val (.int x1), .val (.int (x0 &&& (2147483647 : Int32))), .unset, .unset, .unset] [(.int (x0 &&& (2147483647 : Int32)))])) _
  refine Goes.to (fun _ k => XS.iconst X0.here hx rfl (hb hby at_6) k) ?_
  show Goes p.tables e below (s₁.setTop (mkF m 7 #[.val (.int x0), .val (.int x1), .val (.int (x0 &&& (2147483647 : Int32))), .unset, .unset, .unset] [(.int (1 : Int32)), (.int (x0 &&& (2147483647 : Int32)))])) _
  by_cases hc1 : (x0 &&& (2147483647 : Int32)) < (1 : Int32)
  · refine Goes.to (fun _ k => XS.icmpNo X0.here hx rfl (hb hby at_7) rfl (tlt hc1).2.1 k) ?_
    show Goes p.tables e below (s₁.setTop (mkF m 10 #[.val (.int x0), .val (.int x1), .val (.int (x0 &&& (2147483647 : Int32))), .unset, .unset, .unset] [])) _
    refine Goes.to (fun _ k => XS.iconst X0.here hx rfl (hb hby at_10) k) ?_
    show Goes p.tables e below (s₁.setTop (mkF m 11 #[.val (.int x0), .val (.int x1), .val (.int (x0 &&& (2147483647 : Int32))), .unset, .unset, .unset] [(.int (1 : Int32))])) _
    refine Goes.to (fun _ k => XS.istoreN X0.here hx rfl (hb hby at_11) rfl (l' := #[.val (.int x0), .val (.int x1), .val (.int (1 : Int32)), .unset, .unset, .unset]) rfl k) ?_
    show Goes p.tables e below (s₁.setTop (mkF m 12 #[.val (.int x0), .val (.int x1), .val (.int (1 : Int32)), .unset, .unset, .unset] [])) _
    refine Goes.to (fun _ k => XS.iloadN X0.here hx rfl (hb hby at_12) rfl k) ?_
    show Goes p.tables e below (s₁.setTop (mkF m 13 #[.val (.int x0), .val (.int x1), .val (.int (1 : Int32)), .unset, .unset, .unset] [(.int x1)])) _
    refine Goes.to (fun _ k => X0.ldcInt hx hown (mvT hZ (hw _ (List.mem_of_getElem? (i := 0) rfl))) (g := (mkF m 13 #[.val (.int x0), .val (.int x1), .val (.int (1 : Int32)), .unset, .unset, .unset] [(.int x1)])) rfl (hb hby at_13) _ k) ?_
    show Goes p.tables e below (s₁.setTop (mkF m 15 #[.val (.int x0), .val (.int x1), .val (.int (1 : Int32)), .unset, .unset, .unset] [(.int (2147483647 : Int32)), (.int x1)])) _
    refine Goes.to (fun _ k => XS.iand X0.here hx rfl (hb hby at_15) rfl k) ?_
    show Goes p.tables e below (s₁.setTop (mkF m 16 #[.val (.int x0), .val (.int x1), .val (.int (1 : Int32)), .unset, .unset, .unset] [(.int (x1 &&& (2147483647 : Int32)))])) _
    refine Goes.to (fun _ k => XS.istoreN X0.here hx rfl (hb hby at_16) rfl (l' := #[.val (.int x0), .val (.int x1), .val (.int (1 : Int32)), .val (.int (x1 &&& (2147483647 : Int32))), .unset, .unset]) rfl k) ?_
    show Goes p.tables e below (s₁.setTop (mkF m 17 #[.val (.int x0), .val (.int x1), .val (.int (1 : Int32)), .val (.int (x1 &&& (2147483647 : Int32))), .unset, .unset] [])) _
    obtain ⟨T2, h2, X2, e2, E2, A2, D2, -, st2⟩ := newO X0 hx hZ hown (hw _ (List.mem_of_getElem? (i := 1) rfl)) (hw _ (List.mem_of_getElem? (i := 2) rfl)) (hw _ (List.mem_of_getElem? (i := 3) rfl)) e0 (g := (mkF m 17 #[.val (.int x0), .val (.int x1), .val (.int (1 : Int32)), .val (.int (x1 &&& (2147483647 : Int32))), .unset, .unset] [])) rfl (hb hby at_17) (by decide) (by decide)
    obtain ⟨b2, g2⟩ : ∃ z, z = h0.size := ⟨_, rfl⟩
    rw [← g2] at A2 D2 st2
    subst e2
    have g_b2 : n0 ≤ b2 := Nat.le_trans Z0 (Nat.le_of_eq g2.symm)
    have Z2 : n0 ≤ T2.heap.size := Nat.le_trans Z0 E2.1
    have F3 : Fld Z T2.heap b2 "com/example/polgen/polgen/mine/PathLimits" "maxConditionPath" "I" (.int (0 : Int32)) := D2 (Or.inr (hw _ (List.mem_of_getElem? (i := 16) rfl))) (ty := .int) (by decide)
    have F4 : Fld Z T2.heap b2 "com/example/polgen/polgen/mine/PathLimits" "maxConstraintPath" "I" (.int (0 : Int32)) := D2 (Or.inr (hw _ (List.mem_of_getElem? (i := 18) rfl))) (ty := .int) (by decide)
    refine Goes.to st2 ?_
    show Goes p.tables e below (T2.setTop (mkF m 20 #[.val (.int x0), .val (.int x1), .val (.int (1 : Int32)), .val (.int (x1 &&& (2147483647 : Int32))), .unset, .unset] [(.ref b2)])) _
    refine Goes.to (fun _ k => XS.dup X2.here hx rfl (hb hby at_20) rfl rfl k) ?_
    show Goes p.tables e below (T2.setTop (mkF m 21 #[.val (.int x0), .val (.int x1), .val (.int (1 : Int32)), .val (.int (x1 &&& (2147483647 : Int32))), .unset, .unset] [(.ref b2), (.ref b2)])) _
    refine Goes.to (fun _ k => XS.iloadN X2.here hx rfl (hb hby at_21) rfl k) ?_
    show Goes p.tables e below (T2.setTop (mkF m 22 #[.val (.int x0), .val (.int x1), .val (.int (1 : Int32)), .val (.int (x1 &&& (2147483647 : Int32))), .unset, .unset] [(.int (1 : Int32)), (.ref b2), (.ref b2)])) _
    refine Goes.to (fun _ k => XS.iloadN X2.here hx rfl (hb hby at_22) rfl k) ?_
    show Goes p.tables e below (T2.setTop (mkF m 23 #[.val (.int x0), .val (.int x1), .val (.int (1 : Int32)), .val (.int (x1 &&& (2147483647 : Int32))), .unset, .unset] [(.int (x1 &&& (2147483647 : Int32))), (.int (1 : Int32)), (.ref b2), (.ref b2)])) _
    have hpr5 : ¬ ((1 : Int32) < (1 : Int32)) := by
      intro hq
      have k1 := rng32 x0
      have k2 : (x0 &&& (2147483647 : Int32)).toInt = x0.toInt % 2147483648 := c_mask x0 (2147483647 : Int32) 31 (by decide) (by decide)
      have k3 : (1 : Int32).toInt = 1 := rfl
      have k4 : (x0 &&& (2147483647 : Int32)).toInt < (1 : Int32).toInt := Int32.lt_iff_toInt_lt.mp hc1
      have k5 : (1 : Int32).toInt < (1 : Int32).toInt := Int32.lt_iff_toInt_lt.mp hq
      omega
    have hpr6 : ¬ ((x1 &&& (2147483647 : Int32)) < (0 : Int32)) := by
      intro hq
      have k1 := rng32 x0
      have k2 : (x0 &&& (2147483647 : Int32)).toInt = x0.toInt % 2147483648 := c_mask x0 (2147483647 : Int32) 31 (by decide) (by decide)
      have k3 : (1 : Int32).toInt = 1 := rfl
      have k4 : (x0 &&& (2147483647 : Int32)).toInt < (1 : Int32).toInt := Int32.lt_iff_toInt_lt.mp hc1
      have k5 := rng32 x1
      have k6 : (x1 &&& (2147483647 : Int32)).toInt = x1.toInt % 2147483648 := c_mask x1 (2147483647 : Int32) 31 (by decide) (by decide)
      have k7 : (0 : Int32).toInt = 0 := rfl
      have k8 : (x1 &&& (2147483647 : Int32)).toInt < (0 : Int32).toInt := Int32.lt_iff_toInt_lt.mp hq
      omega
    obtain ⟨_, _, ⟨T7, L7, k7, n7⟩, -, X7, ⟨Lc7, hQ7, l7, y7, z7⟩, st7⟩ := X2.specialBack hx (y := (⟨"com/example/polgen/polgen/mine/PathLimits", "<init>", "(II)V"⟩ : MethodName)) rfl hown (mvT hZ (hw _ (List.mem_of_getElem? (i := 4) rfl))) (mvT hZ (hw _ (List.mem_of_getElem? (i := 5) rfl))) (mvT hZ (hw _ (List.mem_of_getElem? (i := 6) rfl))) (by decide) (backOf (W := 1) (own_rm1 l Z a0 hw [] b2 (1 : Int32) (x1 &&& (2147483647 : Int32)) T2.heap n0 Z2 A2 g_b2 F3 F4 hpr5 hpr6) hZ (hw _ (List.mem_of_getElem? (i := 6) rfl)) (hw _ (List.mem_of_getElem? (i := 3) rfl)) (by decide) (by decide)) (g := (mkF m 23 #[.val (.int x0), .val (.int x1), .val (.int (1 : Int32)), .val (.int (x1 &&& (2147483647 : Int32))), .unset, .unset] [(.int (x1 &&& (2147483647 : Int32))), (.int (1 : Int32)), (.ref b2), (.ref b2)])) rfl (by rw [hml]; rfl) (Steps.refl _) (a := b2) (argsL := [(.int (1 : Int32)), (.int (x1 &&& (2147483647 : Int32)))]) (rest := [(.ref b2)]) (lenOf own_pd_pIIqV rfl) rfl (by show 2 * 0 + _ ≤ _; exact Nat.le_of_eq rfl) (hb hby at_23) (fun _ _ => ⟨rfl, rfl, (by decide : 1 + 0 ≤ _), (by decide : 2 + 0 ≤ _)⟩)
    dsimp only [Pt.U, Pt.locs, Pt.cells, Pt.slots] at X7 l7 y7 z7 st7 hQ7
    subst l7 y7 z7
    obtain ⟨hv7, Nq7, hp7_0, hp7_1, hp7_2, hp7_3⟩ := hQ7
    have N7 := Fr.app N0 Nq7
    have F8 := A2.keep hp7_0
    have Zk7 : n0 ≤ T7.heap.size := Nat.le_trans Z2 hp7_0.1
    subst hv7
    refine Goes.tr st7 ?_
    show Goes p.tables e below (T7.setTop (mkF m 26 #[.val (.int x0), .val (.int x1), .val (.int (1 : Int32)), .val (.int (x1 &&& (2147483647 : Int32))), .unset, .unset] [(.ref b2)])) _
    refine Goes.to (fun _ k => XS.astore X7.here hx rfl (hb hby at_26) rfl rfl (l' := #[.val (.int x0), .val (.int x1), .val (.int (1 : Int32)), .val (.int (x1 &&& (2147483647 : Int32))), .val (.ref b2), .unset]) rfl k) ?_
    show Goes p.tables e below (T7.setTop (mkF m 28 #[.val (.int x0), .val (.int x1), .val (.int (1 : Int32)), .val (.int (x1 &&& (2147483647 : Int32))), .val (.ref b2), .unset] [])) _
    refine Goes.to (fun _ k => XS.aload X7.here hx rfl (hb hby at_28) rfl rfl k) ?_
    show Goes p.tables e below (T7.setTop (mkF m 30 #[.val (.int x0), .val (.int x1), .val (.int (1 : Int32)), .val (.int (x1 &&& (2147483647 : Int32))), .val (.ref b2), .unset] [(.ref b2)])) _
    obtain ⟨cq11, kq11, q11a, q11b, q11c⟩ := isOf hZ rfl hp7_1
    obtain ⟨_, _, ⟨T11, L11, k11, n11⟩, -, X11, ⟨Lc11, hQ11, l11, y11, z11⟩, st11⟩ := X7.virtualBack hx (y := (⟨"com/example/polgen/polgen/mine/PathLimits", "maxPath", "()I"⟩ : MethodName)) (z := (⟨"com/example/polgen/polgen/mine/PathLimits", "maxPath", "()I"⟩ : MethodName)) hown (mvT hZ (hw _ (List.mem_of_getElem? (i := 19) rfl))) (mvT hZ (hw _ (List.mem_of_getElem? (i := 20) rfl))) (notFace_of_selects (args := #[]) (mvT hZ (hw _ (List.mem_of_getElem? (i := 22) rfl)))) (mvT hZ (hw _ (List.mem_of_getElem? (i := 22) rfl))) (mvT hZ (hw _ (List.mem_of_getElem? (i := 21) rfl))) (by decide) (backOf (W := 0) (own_rm4 l Z a0 hw [] b2 (1 : Int32) (x1 &&& (2147483647 : Int32)) T7.heap n0 Zk7 hp7_2 hp7_3) hZ (hw _ (List.mem_of_getElem? (i := 23) rfl)) (hw _ (List.mem_of_getElem? (i := 3) rfl)) (by decide) (by decide)) q11a q11c (g := (mkF m 30 #[.val (.int x0), .val (.int x1), .val (.int (1 : Int32)), .val (.int (x1 &&& (2147483647 : Int32))), .val (.ref b2), .unset] [(.ref b2)])) rfl (by rw [hml]; rfl) (Steps.refl _) (argsL := []) (rest := []) (lenOf own_pd_pqI rfl) rfl (by show 2 * 0 + _ ≤ _; exact Nat.le_of_eq rfl) (hb hby at_30) (fun _ _ => ⟨rfl, rfl, (by decide : 1 + 0 ≤ _), (by decide : 2 + 0 ≤ _)⟩)
    dsimp only [Pt.U, Pt.locs, Pt.cells, Pt.slots] at X11 l11 y11 z11 st11 hQ11
    subst l11 y11 z11
    obtain ⟨hv11, Nq11, hp11_0⟩ := hQ11
    have N11 := Fr.app N7 Nq11
    subst hv11
    refine Goes.tr st11 ?_
    show Goes p.tables e below (T11.setTop (mkF m 33 #[.val (.int x0), .val (.int x1), .val (.int (1 : Int32)), .val (.int (x1 &&& (2147483647 : Int32))), .val (.ref b2), .unset] [(.int (own_max (1 : Int32) (x1 &&& (2147483647 : Int32))))])) _
    refine Goes.to (fun _ k => XS.istore X11.here hx rfl (hb hby at_33) rfl (l' := #[.val (.int x0), .val (.int x1), .val (.int (1 : Int32)), .val (.int (x1 &&& (2147483647 : Int32))), .val (.ref b2), .val (.int (own_max (1 : Int32) (x1 &&& (2147483647 : Int32))))]) rfl k) ?_
    show Goes p.tables e below (T11.setTop (mkF m 35 #[.val (.int x0), .val (.int x1), .val (.int (1 : Int32)), .val (.int (x1 &&& (2147483647 : Int32))), .val (.ref b2), .val (.int (own_max (1 : Int32) (x1 &&& (2147483647 : Int32))))] [])) _
    refine Goes.to (fun _ k => XS.iload X11.here hx rfl (hb hby at_35) rfl k) ?_
    show Goes p.tables e below (T11.setTop (mkF m 37 #[.val (.int x0), .val (.int x1), .val (.int (1 : Int32)), .val (.int (x1 &&& (2147483647 : Int32))), .val (.ref b2), .val (.int (own_max (1 : Int32) (x1 &&& (2147483647 : Int32))))] [(.int (own_max (1 : Int32) (x1 &&& (2147483647 : Int32))))])) _
    refine Goes.to (fun _ k => XS.iloadN X11.here hx rfl (hb hby at_37) rfl k) ?_
    show Goes p.tables e below (T11.setTop (mkF m 38 #[.val (.int x0), .val (.int x1), .val (.int (1 : Int32)), .val (.int (x1 &&& (2147483647 : Int32))), .val (.ref b2), .val (.int (own_max (1 : Int32) (x1 &&& (2147483647 : Int32))))] [(.int (1 : Int32)), (.int (own_max (1 : Int32) (x1 &&& (2147483647 : Int32))))])) _
    by_cases hc12 : (own_max (1 : Int32) (x1 &&& (2147483647 : Int32))) < (1 : Int32)
    · refine Goes.to (fun _ k => XS.icmpYes X11.here hx rfl (pc0 := 38) (pc' := 63) rfl (hb hby at_38) rfl (tlt hc12).1 (by decide) (by decide) k) ?_
      show Goes p.tables e below (T11.setTop (mkF m 63 #[.val (.int x0), .val (.int x1), .val (.int (1 : Int32)), .val (.int (x1 &&& (2147483647 : Int32))), .val (.ref b2), .val (.int (own_max (1 : Int32) (x1 &&& (2147483647 : Int32))))] [])) _
      refine Goes.to (fun _ k => XS.iconst X11.here hx rfl (hb hby at_63) k) ?_
      show Goes p.tables e below (T11.setTop (mkF m 64 #[.val (.int x0), .val (.int x1), .val (.int (1 : Int32)), .val (.int (x1 &&& (2147483647 : Int32))), .val (.ref b2), .val (.int (own_max (1 : Int32) (x1 &&& (2147483647 : Int32))))] [(.int (0 : Int32))])) _
      obtain ⟨fs, hr, hrun, hended, hW, hsame⟩ := X11.leave (v := some (.int (0 : Int32))) (fun h => by rw [Bd.returns] at h; cases h)
      have hv : (some (.int (0 : Int32)) : Option Value) = some (.int (1 : Int32)) := by
        exfalso
        have k1 := rng32 x0
        have k2 : (x0 &&& (2147483647 : Int32)).toInt = x0.toInt % 2147483648 := c_mask x0 (2147483647 : Int32) 31 (by decide) (by decide)
        have k3 : (1 : Int32).toInt = 1 := rfl
        have k4 : (x0 &&& (2147483647 : Int32)).toInt < (1 : Int32).toInt := Int32.lt_iff_toInt_lt.mp hc1
        have k5 := rng32 (own_max (1 : Int32) (x1 &&& (2147483647 : Int32)))
        have k6 : (own_max (1 : Int32) (x1 &&& (2147483647 : Int32))).toInt < (1 : Int32).toInt := Int32.lt_iff_toInt_lt.mp hc12
        have km := own_max_toInt (1 : Int32) (x1 &&& (2147483647 : Int32))
        omega
      exact ⟨_, _, retN X11 hx (t := .boolean) Bd.returns (by simp) (hb hby at_64) hr, hrun, hended, _, _, rfl, ⟨hv, N11⟩, ⟨_, rfl⟩, hW, hsame.mono (by decide) (by decide)⟩
    · refine Goes.to (fun _ k => XS.icmpNo X11.here hx rfl (hb hby at_38) rfl (flt hc12).1 k) ?_
      show Goes p.tables e below (T11.setTop (mkF m 41 #[.val (.int x0), .val (.int x1), .val (.int (1 : Int32)), .val (.int (x1 &&& (2147483647 : Int32))), .val (.ref b2), .val (.int (own_max (1 : Int32) (x1 &&& (2147483647 : Int32))))] [])) _
      refine Goes.to (fun _ k => XS.iload X11.here hx rfl (hb hby at_41) rfl k) ?_
      show Goes p.tables e below (T11.setTop (mkF m 43 #[.val (.int x0), .val (.int x1), .val (.int (1 : Int32)), .val (.int (x1 &&& (2147483647 : Int32))), .val (.ref b2), .val (.int (own_max (1 : Int32) (x1 &&& (2147483647 : Int32))))] [(.int (own_max (1 : Int32) (x1 &&& (2147483647 : Int32))))])) _
      refine Goes.to (fun _ k => XS.iloadN X11.here hx rfl (hb hby at_43) rfl k) ?_
      show Goes p.tables e below (T11.setTop (mkF m 44 #[.val (.int x0), .val (.int x1), .val (.int (1 : Int32)), .val (.int (x1 &&& (2147483647 : Int32))), .val (.ref b2), .val (.int (own_max (1 : Int32) (x1 &&& (2147483647 : Int32))))] [(.int (x1 &&& (2147483647 : Int32))), (.int (own_max (1 : Int32) (x1 &&& (2147483647 : Int32))))])) _
      by_cases hc13 : (own_max (1 : Int32) (x1 &&& (2147483647 : Int32))) < (x1 &&& (2147483647 : Int32))
      · refine Goes.to (fun _ k => XS.icmpYes X11.here hx rfl (pc0 := 44) (pc' := 63) rfl (hb hby at_44) rfl (tlt hc13).1 (by decide) (by decide) k) ?_
        show Goes p.tables e below (T11.setTop (mkF m 63 #[.val (.int x0), .val (.int x1), .val (.int (1 : Int32)), .val (.int (x1 &&& (2147483647 : Int32))), .val (.ref b2), .val (.int (own_max (1 : Int32) (x1 &&& (2147483647 : Int32))))] [])) _
        refine Goes.to (fun _ k => XS.iconst X11.here hx rfl (hb hby at_63) k) ?_
        show Goes p.tables e below (T11.setTop (mkF m 64 #[.val (.int x0), .val (.int x1), .val (.int (1 : Int32)), .val (.int (x1 &&& (2147483647 : Int32))), .val (.ref b2), .val (.int (own_max (1 : Int32) (x1 &&& (2147483647 : Int32))))] [(.int (0 : Int32))])) _
        obtain ⟨fs, hr, hrun, hended, hW, hsame⟩ := X11.leave (v := some (.int (0 : Int32))) (fun h => by rw [Bd.returns] at h; cases h)
        have hv : (some (.int (0 : Int32)) : Option Value) = some (.int (1 : Int32)) := by
          exfalso
          have k1 := rng32 x0
          have k2 : (x0 &&& (2147483647 : Int32)).toInt = x0.toInt % 2147483648 := c_mask x0 (2147483647 : Int32) 31 (by decide) (by decide)
          have k3 : (1 : Int32).toInt = 1 := rfl
          have k4 : (x0 &&& (2147483647 : Int32)).toInt < (1 : Int32).toInt := Int32.lt_iff_toInt_lt.mp hc1
          have k5 := rng32 (own_max (1 : Int32) (x1 &&& (2147483647 : Int32)))
          have k6 : ¬ (own_max (1 : Int32) (x1 &&& (2147483647 : Int32))).toInt < (1 : Int32).toInt := fun z => hc12 (Int32.lt_iff_toInt_lt.mpr z)
          have k7 := rng32 x1
          have k8 : (x1 &&& (2147483647 : Int32)).toInt = x1.toInt % 2147483648 := c_mask x1 (2147483647 : Int32) 31 (by decide) (by decide)
          have k9 : (own_max (1 : Int32) (x1 &&& (2147483647 : Int32))).toInt < (x1 &&& (2147483647 : Int32)).toInt := Int32.lt_iff_toInt_lt.mp hc13
          have km := own_max_toInt (1 : Int32) (x1 &&& (2147483647 : Int32))
          omega
        exact ⟨_, _, retN X11 hx (t := .boolean) Bd.returns (by simp) (hb hby at_64) hr, hrun, hended, _, _, rfl, ⟨hv, N11⟩, ⟨_, rfl⟩, hW, hsame.mono (by decide) (by decide)⟩
      · refine Goes.to (fun _ k => XS.icmpNo X11.here hx rfl (hb hby at_44) rfl (flt hc13).1 k) ?_
        show Goes p.tables e below (T11.setTop (mkF m 47 #[.val (.int x0), .val (.int x1), .val (.int (1 : Int32)), .val (.int (x1 &&& (2147483647 : Int32))), .val (.ref b2), .val (.int (own_max (1 : Int32) (x1 &&& (2147483647 : Int32))))] [])) _
        refine Goes.to (fun _ k => XS.iload X11.here hx rfl (hb hby at_47) rfl k) ?_
        show Goes p.tables e below (T11.setTop (mkF m 49 #[.val (.int x0), .val (.int x1), .val (.int (1 : Int32)), .val (.int (x1 &&& (2147483647 : Int32))), .val (.ref b2), .val (.int (own_max (1 : Int32) (x1 &&& (2147483647 : Int32))))] [(.int (own_max (1 : Int32) (x1 &&& (2147483647 : Int32))))])) _
        refine Goes.to (fun _ k => XS.iloadN X11.here hx rfl (hb hby at_49) rfl k) ?_
        show Goes p.tables e below (T11.setTop (mkF m 50 #[.val (.int x0), .val (.int x1), .val (.int (1 : Int32)), .val (.int (x1 &&& (2147483647 : Int32))), .val (.ref b2), .val (.int (own_max (1 : Int32) (x1 &&& (2147483647 : Int32))))] [(.int (1 : Int32)), (.int (own_max (1 : Int32) (x1 &&& (2147483647 : Int32))))])) _
        by_cases hc14 : (own_max (1 : Int32) (x1 &&& (2147483647 : Int32))) = (1 : Int32)
        · refine Goes.to (fun _ k => XS.icmpYes X11.here hx rfl (pc0 := 50) (pc' := 59) rfl (hb hby at_50) rfl (teq hc14).1 (by decide) (by decide) k) ?_
          show Goes p.tables e below (T11.setTop (mkF m 59 #[.val (.int x0), .val (.int x1), .val (.int (1 : Int32)), .val (.int (x1 &&& (2147483647 : Int32))), .val (.ref b2), .val (.int (own_max (1 : Int32) (x1 &&& (2147483647 : Int32))))] [])) _
          refine Goes.to (fun _ k => XS.iconst X11.here hx rfl (hb hby at_59) k) ?_
          show Goes p.tables e below (T11.setTop (mkF m 60 #[.val (.int x0), .val (.int x1), .val (.int (1 : Int32)), .val (.int (x1 &&& (2147483647 : Int32))), .val (.ref b2), .val (.int (own_max (1 : Int32) (x1 &&& (2147483647 : Int32))))] [(.int (1 : Int32))])) _
          refine Goes.to (fun _ k => XS.goto X11.here hx rfl (pc0 := 60) (pc' := 64) rfl (hb hby at_60) (by decide) (by decide) k) ?_
          show Goes p.tables e below (T11.setTop (mkF m 64 #[.val (.int x0), .val (.int x1), .val (.int (1 : Int32)), .val (.int (x1 &&& (2147483647 : Int32))), .val (.ref b2), .val (.int (own_max (1 : Int32) (x1 &&& (2147483647 : Int32))))] [(.int (1 : Int32))])) _
          obtain ⟨fs, hr, hrun, hended, hW, hsame⟩ := X11.leave (v := some (.int (1 : Int32))) (fun h => by rw [Bd.returns] at h; cases h)
          have hv : (some (.int (1 : Int32)) : Option Value) = some (.int (1 : Int32)) := by
            rfl
          exact ⟨_, _, retN X11 hx (t := .boolean) Bd.returns (by simp) (hb hby at_64) hr, hrun, hended, _, _, rfl, ⟨hv, N11⟩, ⟨_, rfl⟩, hW, hsame.mono (by decide) (by decide)⟩
        · refine Goes.to (fun _ k => XS.icmpNo X11.here hx rfl (hb hby at_50) rfl (feq hc14).1 k) ?_
          show Goes p.tables e below (T11.setTop (mkF m 53 #[.val (.int x0), .val (.int x1), .val (.int (1 : Int32)), .val (.int (x1 &&& (2147483647 : Int32))), .val (.ref b2), .val (.int (own_max (1 : Int32) (x1 &&& (2147483647 : Int32))))] [])) _
          refine Goes.to (fun _ k => XS.iload X11.here hx rfl (hb hby at_53) rfl k) ?_
          show Goes p.tables e below (T11.setTop (mkF m 55 #[.val (.int x0), .val (.int x1), .val (.int (1 : Int32)), .val (.int (x1 &&& (2147483647 : Int32))), .val (.ref b2), .val (.int (own_max (1 : Int32) (x1 &&& (2147483647 : Int32))))] [(.int (own_max (1 : Int32) (x1 &&& (2147483647 : Int32))))])) _
          refine Goes.to (fun _ k => XS.iloadN X11.here hx rfl (hb hby at_55) rfl k) ?_
          show Goes p.tables e below (T11.setTop (mkF m 56 #[.val (.int x0), .val (.int x1), .val (.int (1 : Int32)), .val (.int (x1 &&& (2147483647 : Int32))), .val (.ref b2), .val (.int (own_max (1 : Int32) (x1 &&& (2147483647 : Int32))))] [(.int (x1 &&& (2147483647 : Int32))), (.int (own_max (1 : Int32) (x1 &&& (2147483647 : Int32))))])) _
          by_cases hc15 : (own_max (1 : Int32) (x1 &&& (2147483647 : Int32))) = (x1 &&& (2147483647 : Int32))
          · refine Goes.to (fun _ k => XS.icmpNo X11.here hx rfl (hb hby at_56) rfl (teq hc15).2 k) ?_
            show Goes p.tables e below (T11.setTop (mkF m 59 #[.val (.int x0), .val (.int x1), .val (.int (1 : Int32)), .val (.int (x1 &&& (2147483647 : Int32))), .val (.ref b2), .val (.int (own_max (1 : Int32) (x1 &&& (2147483647 : Int32))))] [])) _
            refine Goes.to (fun _ k => XS.iconst X11.here hx rfl (hb hby at_59) k) ?_
            show Goes p.tables e below (T11.setTop (mkF m 60 #[.val (.int x0), .val (.int x1), .val (.int (1 : Int32)), .val (.int (x1 &&& (2147483647 : Int32))), .val (.ref b2), .val (.int (own_max (1 : Int32) (x1 &&& (2147483647 : Int32))))] [(.int (1 : Int32))])) _
            refine Goes.to (fun _ k => XS.goto X11.here hx rfl (pc0 := 60) (pc' := 64) rfl (hb hby at_60) (by decide) (by decide) k) ?_
            show Goes p.tables e below (T11.setTop (mkF m 64 #[.val (.int x0), .val (.int x1), .val (.int (1 : Int32)), .val (.int (x1 &&& (2147483647 : Int32))), .val (.ref b2), .val (.int (own_max (1 : Int32) (x1 &&& (2147483647 : Int32))))] [(.int (1 : Int32))])) _
            obtain ⟨fs, hr, hrun, hended, hW, hsame⟩ := X11.leave (v := some (.int (1 : Int32))) (fun h => by rw [Bd.returns] at h; cases h)
            have hv : (some (.int (1 : Int32)) : Option Value) = some (.int (1 : Int32)) := by
              rfl
            exact ⟨_, _, retN X11 hx (t := .boolean) Bd.returns (by simp) (hb hby at_64) hr, hrun, hended, _, _, rfl, ⟨hv, N11⟩, ⟨_, rfl⟩, hW, hsame.mono (by decide) (by decide)⟩
          · refine Goes.to (fun _ k => XS.icmpYes X11.here hx rfl (pc0 := 56) (pc' := 63) rfl (hb hby at_56) rfl (feq hc15).2 (by decide) (by decide) k) ?_
            show Goes p.tables e below (T11.setTop (mkF m 63 #[.val (.int x0), .val (.int x1), .val (.int (1 : Int32)), .val (.int (x1 &&& (2147483647 : Int32))), .val (.ref b2), .val (.int (own_max (1 : Int32) (x1 &&& (2147483647 : Int32))))] [])) _
            refine Goes.to (fun _ k => XS.iconst X11.here hx rfl (hb hby at_63) k) ?_
            show Goes p.tables e below (T11.setTop (mkF m 64 #[.val (.int x0), .val (.int x1), .val (.int (1 : Int32)), .val (.int (x1 &&& (2147483647 : Int32))), .val (.ref b2), .val (.int (own_max (1 : Int32) (x1 &&& (2147483647 : Int32))))] [(.int (0 : Int32))])) _
            obtain ⟨fs, hr, hrun, hended, hW, hsame⟩ := X11.leave (v := some (.int (0 : Int32))) (fun h => by rw [Bd.returns] at h; cases h)
            have hv : (some (.int (0 : Int32)) : Option Value) = some (.int (1 : Int32)) := by
              exfalso
              have k1 := rng32 x0
              have k2 : (x0 &&& (2147483647 : Int32)).toInt = x0.toInt % 2147483648 := c_mask x0 (2147483647 : Int32) 31 (by decide) (by decide)
              have k3 : (1 : Int32).toInt = 1 := rfl
              have k4 : (x0 &&& (2147483647 : Int32)).toInt < (1 : Int32).toInt := Int32.lt_iff_toInt_lt.mp hc1
              have k5 := rng32 (own_max (1 : Int32) (x1 &&& (2147483647 : Int32)))
              have k6 : ¬ (own_max (1 : Int32) (x1 &&& (2147483647 : Int32))).toInt < (1 : Int32).toInt := fun z => hc12 (Int32.lt_iff_toInt_lt.mpr z)
              have k7 := rng32 x1
              have k8 : (x1 &&& (2147483647 : Int32)).toInt = x1.toInt % 2147483648 := c_mask x1 (2147483647 : Int32) 31 (by decide) (by decide)
              have k9 : ¬ (own_max (1 : Int32) (x1 &&& (2147483647 : Int32))).toInt < (x1 &&& (2147483647 : Int32)).toInt := fun z => hc13 (Int32.lt_iff_toInt_lt.mpr z)
              have k10 : ¬ (own_max (1 : Int32) (x1 &&& (2147483647 : Int32))).toInt = (1 : Int32).toInt := fun z => hc14 (Int32.toInt_inj.mp z)
              have k11 : ¬ (own_max (1 : Int32) (x1 &&& (2147483647 : Int32))).toInt = (x1 &&& (2147483647 : Int32)).toInt := fun z => hc15 (Int32.toInt_inj.mp z)
              have km := own_max_toInt (1 : Int32) (x1 &&& (2147483647 : Int32))
              omega
            exact ⟨_, _, retN X11 hx (t := .boolean) Bd.returns (by simp) (hb hby at_64) hr, hrun, hended, _, _, rfl, ⟨hv, N11⟩, ⟨_, rfl⟩, hW, hsame.mono (by decide) (by decide)⟩
  · refine Goes.to (fun _ k => XS.icmpYes X0.here hx rfl (pc0 := 7) (pc' := 12) rfl (hb hby at_7) rfl (flt hc1).2.1 (by decide) (by decide) k) ?_
    show Goes p.tables e below (s₁.setTop (mkF m 12 #[.val (.int x0), .val (.int x1), .val (.int (x0 &&& (2147483647 : Int32))), .unset, .unset, .unset] [])) _
    refine Goes.to (fun _ k => XS.iloadN X0.here hx rfl (hb hby at_12) rfl k) ?_
    show Goes p.tables e below (s₁.setTop (mkF m 13 #[.val (.int x0), .val (.int x1), .val (.int (x0 &&& (2147483647 : Int32))), .unset, .unset, .unset] [(.int x1)])) _
    refine Goes.to (fun _ k => X0.ldcInt hx hown (mvT hZ (hw _ (List.mem_of_getElem? (i := 0) rfl))) (g := (mkF m 13 #[.val (.int x0), .val (.int x1), .val (.int (x0 &&& (2147483647 : Int32))), .unset, .unset, .unset] [(.int x1)])) rfl (hb hby at_13) _ k) ?_
    show Goes p.tables e below (s₁.setTop (mkF m 15 #[.val (.int x0), .val (.int x1), .val (.int (x0 &&& (2147483647 : Int32))), .unset, .unset, .unset] [(.int (2147483647 : Int32)), (.int x1)])) _
    refine Goes.to (fun _ k => XS.iand X0.here hx rfl (hb hby at_15) rfl k) ?_
    show Goes p.tables e below (s₁.setTop (mkF m 16 #[.val (.int x0), .val (.int x1), .val (.int (x0 &&& (2147483647 : Int32))), .unset, .unset, .unset] [(.int (x1 &&& (2147483647 : Int32)))])) _
    refine Goes.to (fun _ k => XS.istoreN X0.here hx rfl (hb hby at_16) rfl (l' := #[.val (.int x0), .val (.int x1), .val (.int (x0 &&& (2147483647 : Int32))), .val (.int (x1 &&& (2147483647 : Int32))), .unset, .unset]) rfl k) ?_
    show Goes p.tables e below (s₁.setTop (mkF m 17 #[.val (.int x0), .val (.int x1), .val (.int (x0 &&& (2147483647 : Int32))), .val (.int (x1 &&& (2147483647 : Int32))), .unset, .unset] [])) _
    obtain ⟨T16, h16, X16, e16, E16, A16, D16, -, st16⟩ := newO X0 hx hZ hown (hw _ (List.mem_of_getElem? (i := 1) rfl)) (hw _ (List.mem_of_getElem? (i := 2) rfl)) (hw _ (List.mem_of_getElem? (i := 3) rfl)) e0 (g := (mkF m 17 #[.val (.int x0), .val (.int x1), .val (.int (x0 &&& (2147483647 : Int32))), .val (.int (x1 &&& (2147483647 : Int32))), .unset, .unset] [])) rfl (hb hby at_17) (by decide) (by decide)
    obtain ⟨b16, g16⟩ : ∃ z, z = h0.size := ⟨_, rfl⟩
    rw [← g16] at A16 D16 st16
    subst e16
    have g_b16 : n0 ≤ b16 := Nat.le_trans Z0 (Nat.le_of_eq g16.symm)
    have Z16 : n0 ≤ T16.heap.size := Nat.le_trans Z0 E16.1
    have F17 : Fld Z T16.heap b16 "com/example/polgen/polgen/mine/PathLimits" "maxConditionPath" "I" (.int (0 : Int32)) := D16 (Or.inr (hw _ (List.mem_of_getElem? (i := 16) rfl))) (ty := .int) (by decide)
    have F18 : Fld Z T16.heap b16 "com/example/polgen/polgen/mine/PathLimits" "maxConstraintPath" "I" (.int (0 : Int32)) := D16 (Or.inr (hw _ (List.mem_of_getElem? (i := 18) rfl))) (ty := .int) (by decide)
    refine Goes.to st16 ?_
    show Goes p.tables e below (T16.setTop (mkF m 20 #[.val (.int x0), .val (.int x1), .val (.int (x0 &&& (2147483647 : Int32))), .val (.int (x1 &&& (2147483647 : Int32))), .unset, .unset] [(.ref b16)])) _
    refine Goes.to (fun _ k => XS.dup X16.here hx rfl (hb hby at_20) rfl rfl k) ?_
    show Goes p.tables e below (T16.setTop (mkF m 21 #[.val (.int x0), .val (.int x1), .val (.int (x0 &&& (2147483647 : Int32))), .val (.int (x1 &&& (2147483647 : Int32))), .unset, .unset] [(.ref b16), (.ref b16)])) _
    refine Goes.to (fun _ k => XS.iloadN X16.here hx rfl (hb hby at_21) rfl k) ?_
    show Goes p.tables e below (T16.setTop (mkF m 22 #[.val (.int x0), .val (.int x1), .val (.int (x0 &&& (2147483647 : Int32))), .val (.int (x1 &&& (2147483647 : Int32))), .unset, .unset] [(.int (x0 &&& (2147483647 : Int32))), (.ref b16), (.ref b16)])) _
    refine Goes.to (fun _ k => XS.iloadN X16.here hx rfl (hb hby at_22) rfl k) ?_
    show Goes p.tables e below (T16.setTop (mkF m 23 #[.val (.int x0), .val (.int x1), .val (.int (x0 &&& (2147483647 : Int32))), .val (.int (x1 &&& (2147483647 : Int32))), .unset, .unset] [(.int (x1 &&& (2147483647 : Int32))), (.int (x0 &&& (2147483647 : Int32))), (.ref b16), (.ref b16)])) _
    have hpr19 : ¬ ((x0 &&& (2147483647 : Int32)) < (1 : Int32)) := by
      intro hq
      have k1 := rng32 x0
      have k2 : (x0 &&& (2147483647 : Int32)).toInt = x0.toInt % 2147483648 := c_mask x0 (2147483647 : Int32) 31 (by decide) (by decide)
      have k3 : (1 : Int32).toInt = 1 := rfl
      have k4 : ¬ (x0 &&& (2147483647 : Int32)).toInt < (1 : Int32).toInt := fun z => hc1 (Int32.lt_iff_toInt_lt.mpr z)
      have k5 : (x0 &&& (2147483647 : Int32)).toInt < (1 : Int32).toInt := Int32.lt_iff_toInt_lt.mp hq
      omega
    have hpr20 : ¬ ((x1 &&& (2147483647 : Int32)) < (0 : Int32)) := by
      intro hq
      have k1 := rng32 x0
      have k2 : (x0 &&& (2147483647 : Int32)).toInt = x0.toInt % 2147483648 := c_mask x0 (2147483647 : Int32) 31 (by decide) (by decide)
      have k3 : (1 : Int32).toInt = 1 := rfl
      have k4 : ¬ (x0 &&& (2147483647 : Int32)).toInt < (1 : Int32).toInt := fun z => hc1 (Int32.lt_iff_toInt_lt.mpr z)
      have k5 := rng32 x1
      have k6 : (x1 &&& (2147483647 : Int32)).toInt = x1.toInt % 2147483648 := c_mask x1 (2147483647 : Int32) 31 (by decide) (by decide)
      have k7 : (0 : Int32).toInt = 0 := rfl
      have k8 : (x1 &&& (2147483647 : Int32)).toInt < (0 : Int32).toInt := Int32.lt_iff_toInt_lt.mp hq
      omega
    obtain ⟨_, _, ⟨T21, L21, k21, n21⟩, -, X21, ⟨Lc21, hQ21, l21, y21, z21⟩, st21⟩ := X16.specialBack hx (y := (⟨"com/example/polgen/polgen/mine/PathLimits", "<init>", "(II)V"⟩ : MethodName)) rfl hown (mvT hZ (hw _ (List.mem_of_getElem? (i := 4) rfl))) (mvT hZ (hw _ (List.mem_of_getElem? (i := 5) rfl))) (mvT hZ (hw _ (List.mem_of_getElem? (i := 6) rfl))) (by decide) (backOf (W := 1) (own_rm1 l Z a0 hw [] b16 (x0 &&& (2147483647 : Int32)) (x1 &&& (2147483647 : Int32)) T16.heap n0 Z16 A16 g_b16 F17 F18 hpr19 hpr20) hZ (hw _ (List.mem_of_getElem? (i := 6) rfl)) (hw _ (List.mem_of_getElem? (i := 3) rfl)) (by decide) (by decide)) (g := (mkF m 23 #[.val (.int x0), .val (.int x1), .val (.int (x0 &&& (2147483647 : Int32))), .val (.int (x1 &&& (2147483647 : Int32))), .unset, .unset] [(.int (x1 &&& (2147483647 : Int32))), (.int (x0 &&& (2147483647 : Int32))), (.ref b16), (.ref b16)])) rfl (by rw [hml]; rfl) (Steps.refl _) (a := b16) (argsL := [(.int (x0 &&& (2147483647 : Int32))), (.int (x1 &&& (2147483647 : Int32)))]) (rest := [(.ref b16)]) (lenOf own_pd_pIIqV rfl) rfl (by show 2 * 0 + _ ≤ _; exact Nat.le_of_eq rfl) (hb hby at_23) (fun _ _ => ⟨rfl, rfl, (by decide : 1 + 0 ≤ _), (by decide : 2 + 0 ≤ _)⟩)
    dsimp only [Pt.U, Pt.locs, Pt.cells, Pt.slots] at X21 l21 y21 z21 st21 hQ21
    subst l21 y21 z21
    obtain ⟨hv21, Nq21, hp21_0, hp21_1, hp21_2, hp21_3⟩ := hQ21
    have N21 := Fr.app N0 Nq21
    have F22 := A16.keep hp21_0
    have Zk21 : n0 ≤ T21.heap.size := Nat.le_trans Z16 hp21_0.1
    subst hv21
    refine Goes.tr st21 ?_
    show Goes p.tables e below (T21.setTop (mkF m 26 #[.val (.int x0), .val (.int x1), .val (.int (x0 &&& (2147483647 : Int32))), .val (.int (x1 &&& (2147483647 : Int32))), .unset, .unset] [(.ref b16)])) _
    refine Goes.to (fun _ k => XS.astore X21.here hx rfl (hb hby at_26) rfl rfl (l' := #[.val (.int x0), .val (.int x1), .val (.int (x0 &&& (2147483647 : Int32))), .val (.int (x1 &&& (2147483647 : Int32))), .val (.ref b16), .unset]) rfl k) ?_
    show Goes p.tables e below (T21.setTop (mkF m 28 #[.val (.int x0), .val (.int x1), .val (.int (x0 &&& (2147483647 : Int32))), .val (.int (x1 &&& (2147483647 : Int32))), .val (.ref b16), .unset] [])) _
    refine Goes.to (fun _ k => XS.aload X21.here hx rfl (hb hby at_28) rfl rfl k) ?_
    show Goes p.tables e below (T21.setTop (mkF m 30 #[.val (.int x0), .val (.int x1), .val (.int (x0 &&& (2147483647 : Int32))), .val (.int (x1 &&& (2147483647 : Int32))), .val (.ref b16), .unset] [(.ref b16)])) _
    obtain ⟨cq25, kq25, q25a, q25b, q25c⟩ := isOf hZ rfl hp21_1
    obtain ⟨_, _, ⟨T25, L25, k25, n25⟩, -, X25, ⟨Lc25, hQ25, l25, y25, z25⟩, st25⟩ := X21.virtualBack hx (y := (⟨"com/example/polgen/polgen/mine/PathLimits", "maxPath", "()I"⟩ : MethodName)) (z := (⟨"com/example/polgen/polgen/mine/PathLimits", "maxPath", "()I"⟩ : MethodName)) hown (mvT hZ (hw _ (List.mem_of_getElem? (i := 19) rfl))) (mvT hZ (hw _ (List.mem_of_getElem? (i := 20) rfl))) (notFace_of_selects (args := #[]) (mvT hZ (hw _ (List.mem_of_getElem? (i := 22) rfl)))) (mvT hZ (hw _ (List.mem_of_getElem? (i := 22) rfl))) (mvT hZ (hw _ (List.mem_of_getElem? (i := 21) rfl))) (by decide) (backOf (W := 0) (own_rm4 l Z a0 hw [] b16 (x0 &&& (2147483647 : Int32)) (x1 &&& (2147483647 : Int32)) T21.heap n0 Zk21 hp21_2 hp21_3) hZ (hw _ (List.mem_of_getElem? (i := 23) rfl)) (hw _ (List.mem_of_getElem? (i := 3) rfl)) (by decide) (by decide)) q25a q25c (g := (mkF m 30 #[.val (.int x0), .val (.int x1), .val (.int (x0 &&& (2147483647 : Int32))), .val (.int (x1 &&& (2147483647 : Int32))), .val (.ref b16), .unset] [(.ref b16)])) rfl (by rw [hml]; rfl) (Steps.refl _) (argsL := []) (rest := []) (lenOf own_pd_pqI rfl) rfl (by show 2 * 0 + _ ≤ _; exact Nat.le_of_eq rfl) (hb hby at_30) (fun _ _ => ⟨rfl, rfl, (by decide : 1 + 0 ≤ _), (by decide : 2 + 0 ≤ _)⟩)
    dsimp only [Pt.U, Pt.locs, Pt.cells, Pt.slots] at X25 l25 y25 z25 st25 hQ25
    subst l25 y25 z25
    obtain ⟨hv25, Nq25, hp25_0⟩ := hQ25
    have N25 := Fr.app N21 Nq25
    subst hv25
    refine Goes.tr st25 ?_
    show Goes p.tables e below (T25.setTop (mkF m 33 #[.val (.int x0), .val (.int x1), .val (.int (x0 &&& (2147483647 : Int32))), .val (.int (x1 &&& (2147483647 : Int32))), .val (.ref b16), .unset] [(.int (own_max (x0 &&& (2147483647 : Int32)) (x1 &&& (2147483647 : Int32))))])) _
    refine Goes.to (fun _ k => XS.istore X25.here hx rfl (hb hby at_33) rfl (l' := #[.val (.int x0), .val (.int x1), .val (.int (x0 &&& (2147483647 : Int32))), .val (.int (x1 &&& (2147483647 : Int32))), .val (.ref b16), .val (.int (own_max (x0 &&& (2147483647 : Int32)) (x1 &&& (2147483647 : Int32))))]) rfl k) ?_
    show Goes p.tables e below (T25.setTop (mkF m 35 #[.val (.int x0), .val (.int x1), .val (.int (x0 &&& (2147483647 : Int32))), .val (.int (x1 &&& (2147483647 : Int32))), .val (.ref b16), .val (.int (own_max (x0 &&& (2147483647 : Int32)) (x1 &&& (2147483647 : Int32))))] [])) _
    refine Goes.to (fun _ k => XS.iload X25.here hx rfl (hb hby at_35) rfl k) ?_
    show Goes p.tables e below (T25.setTop (mkF m 37 #[.val (.int x0), .val (.int x1), .val (.int (x0 &&& (2147483647 : Int32))), .val (.int (x1 &&& (2147483647 : Int32))), .val (.ref b16), .val (.int (own_max (x0 &&& (2147483647 : Int32)) (x1 &&& (2147483647 : Int32))))] [(.int (own_max (x0 &&& (2147483647 : Int32)) (x1 &&& (2147483647 : Int32))))])) _
    refine Goes.to (fun _ k => XS.iloadN X25.here hx rfl (hb hby at_37) rfl k) ?_
    show Goes p.tables e below (T25.setTop (mkF m 38 #[.val (.int x0), .val (.int x1), .val (.int (x0 &&& (2147483647 : Int32))), .val (.int (x1 &&& (2147483647 : Int32))), .val (.ref b16), .val (.int (own_max (x0 &&& (2147483647 : Int32)) (x1 &&& (2147483647 : Int32))))] [(.int (x0 &&& (2147483647 : Int32))), (.int (own_max (x0 &&& (2147483647 : Int32)) (x1 &&& (2147483647 : Int32))))])) _
    by_cases hc26 : (own_max (x0 &&& (2147483647 : Int32)) (x1 &&& (2147483647 : Int32))) < (x0 &&& (2147483647 : Int32))
    · refine Goes.to (fun _ k => XS.icmpYes X25.here hx rfl (pc0 := 38) (pc' := 63) rfl (hb hby at_38) rfl (tlt hc26).1 (by decide) (by decide) k) ?_
      show Goes p.tables e below (T25.setTop (mkF m 63 #[.val (.int x0), .val (.int x1), .val (.int (x0 &&& (2147483647 : Int32))), .val (.int (x1 &&& (2147483647 : Int32))), .val (.ref b16), .val (.int (own_max (x0 &&& (2147483647 : Int32)) (x1 &&& (2147483647 : Int32))))] [])) _
      refine Goes.to (fun _ k => XS.iconst X25.here hx rfl (hb hby at_63) k) ?_
      show Goes p.tables e below (T25.setTop (mkF m 64 #[.val (.int x0), .val (.int x1), .val (.int (x0 &&& (2147483647 : Int32))), .val (.int (x1 &&& (2147483647 : Int32))), .val (.ref b16), .val (.int (own_max (x0 &&& (2147483647 : Int32)) (x1 &&& (2147483647 : Int32))))] [(.int (0 : Int32))])) _
      obtain ⟨fs, hr, hrun, hended, hW, hsame⟩ := X25.leave (v := some (.int (0 : Int32))) (fun h => by rw [Bd.returns] at h; cases h)
      have hv : (some (.int (0 : Int32)) : Option Value) = some (.int (1 : Int32)) := by
        exfalso
        have k1 := rng32 x0
        have k2 : (x0 &&& (2147483647 : Int32)).toInt = x0.toInt % 2147483648 := c_mask x0 (2147483647 : Int32) 31 (by decide) (by decide)
        have k3 : (1 : Int32).toInt = 1 := rfl
        have k4 : ¬ (x0 &&& (2147483647 : Int32)).toInt < (1 : Int32).toInt := fun z => hc1 (Int32.lt_iff_toInt_lt.mpr z)
        have k5 := rng32 (own_max (x0 &&& (2147483647 : Int32)) (x1 &&& (2147483647 : Int32)))
        have k6 : (own_max (x0 &&& (2147483647 : Int32)) (x1 &&& (2147483647 : Int32))).toInt < (x0 &&& (2147483647 : Int32)).toInt := Int32.lt_iff_toInt_lt.mp hc26
        have km := own_max_toInt (x0 &&& (2147483647 : Int32)) (x1 &&& (2147483647 : Int32))
        omega
      exact ⟨_, _, retN X25 hx (t := .boolean) Bd.returns (by simp) (hb hby at_64) hr, hrun, hended, _, _, rfl, ⟨hv, N25⟩, ⟨_, rfl⟩, hW, hsame.mono (by decide) (by decide)⟩
    · refine Goes.to (fun _ k => XS.icmpNo X25.here hx rfl (hb hby at_38) rfl (flt hc26).1 k) ?_
      show Goes p.tables e below (T25.setTop (mkF m 41 #[.val (.int x0), .val (.int x1), .val (.int (x0 &&& (2147483647 : Int32))), .val (.int (x1 &&& (2147483647 : Int32))), .val (.ref b16), .val (.int (own_max (x0 &&& (2147483647 : Int32)) (x1 &&& (2147483647 : Int32))))] [])) _
      refine Goes.to (fun _ k => XS.iload X25.here hx rfl (hb hby at_41) rfl k) ?_
      show Goes p.tables e below (T25.setTop (mkF m 43 #[.val (.int x0), .val (.int x1), .val (.int (x0 &&& (2147483647 : Int32))), .val (.int (x1 &&& (2147483647 : Int32))), .val (.ref b16), .val (.int (own_max (x0 &&& (2147483647 : Int32)) (x1 &&& (2147483647 : Int32))))] [(.int (own_max (x0 &&& (2147483647 : Int32)) (x1 &&& (2147483647 : Int32))))])) _
      refine Goes.to (fun _ k => XS.iloadN X25.here hx rfl (hb hby at_43) rfl k) ?_
      show Goes p.tables e below (T25.setTop (mkF m 44 #[.val (.int x0), .val (.int x1), .val (.int (x0 &&& (2147483647 : Int32))), .val (.int (x1 &&& (2147483647 : Int32))), .val (.ref b16), .val (.int (own_max (x0 &&& (2147483647 : Int32)) (x1 &&& (2147483647 : Int32))))] [(.int (x1 &&& (2147483647 : Int32))), (.int (own_max (x0 &&& (2147483647 : Int32)) (x1 &&& (2147483647 : Int32))))])) _
      by_cases hc27 : (own_max (x0 &&& (2147483647 : Int32)) (x1 &&& (2147483647 : Int32))) < (x1 &&& (2147483647 : Int32))
      · refine Goes.to (fun _ k => XS.icmpYes X25.here hx rfl (pc0 := 44) (pc' := 63) rfl (hb hby at_44) rfl (tlt hc27).1 (by decide) (by decide) k) ?_
        show Goes p.tables e below (T25.setTop (mkF m 63 #[.val (.int x0), .val (.int x1), .val (.int (x0 &&& (2147483647 : Int32))), .val (.int (x1 &&& (2147483647 : Int32))), .val (.ref b16), .val (.int (own_max (x0 &&& (2147483647 : Int32)) (x1 &&& (2147483647 : Int32))))] [])) _
        refine Goes.to (fun _ k => XS.iconst X25.here hx rfl (hb hby at_63) k) ?_
        show Goes p.tables e below (T25.setTop (mkF m 64 #[.val (.int x0), .val (.int x1), .val (.int (x0 &&& (2147483647 : Int32))), .val (.int (x1 &&& (2147483647 : Int32))), .val (.ref b16), .val (.int (own_max (x0 &&& (2147483647 : Int32)) (x1 &&& (2147483647 : Int32))))] [(.int (0 : Int32))])) _
        obtain ⟨fs, hr, hrun, hended, hW, hsame⟩ := X25.leave (v := some (.int (0 : Int32))) (fun h => by rw [Bd.returns] at h; cases h)
        have hv : (some (.int (0 : Int32)) : Option Value) = some (.int (1 : Int32)) := by
          exfalso
          have k1 := rng32 x0
          have k2 : (x0 &&& (2147483647 : Int32)).toInt = x0.toInt % 2147483648 := c_mask x0 (2147483647 : Int32) 31 (by decide) (by decide)
          have k3 : (1 : Int32).toInt = 1 := rfl
          have k4 : ¬ (x0 &&& (2147483647 : Int32)).toInt < (1 : Int32).toInt := fun z => hc1 (Int32.lt_iff_toInt_lt.mpr z)
          have k5 := rng32 (own_max (x0 &&& (2147483647 : Int32)) (x1 &&& (2147483647 : Int32)))
          have k6 : ¬ (own_max (x0 &&& (2147483647 : Int32)) (x1 &&& (2147483647 : Int32))).toInt < (x0 &&& (2147483647 : Int32)).toInt := fun z => hc26 (Int32.lt_iff_toInt_lt.mpr z)
          have k7 := rng32 x1
          have k8 : (x1 &&& (2147483647 : Int32)).toInt = x1.toInt % 2147483648 := c_mask x1 (2147483647 : Int32) 31 (by decide) (by decide)
          have k9 : (own_max (x0 &&& (2147483647 : Int32)) (x1 &&& (2147483647 : Int32))).toInt < (x1 &&& (2147483647 : Int32)).toInt := Int32.lt_iff_toInt_lt.mp hc27
          have km := own_max_toInt (x0 &&& (2147483647 : Int32)) (x1 &&& (2147483647 : Int32))
          omega
        exact ⟨_, _, retN X25 hx (t := .boolean) Bd.returns (by simp) (hb hby at_64) hr, hrun, hended, _, _, rfl, ⟨hv, N25⟩, ⟨_, rfl⟩, hW, hsame.mono (by decide) (by decide)⟩
      · refine Goes.to (fun _ k => XS.icmpNo X25.here hx rfl (hb hby at_44) rfl (flt hc27).1 k) ?_
        show Goes p.tables e below (T25.setTop (mkF m 47 #[.val (.int x0), .val (.int x1), .val (.int (x0 &&& (2147483647 : Int32))), .val (.int (x1 &&& (2147483647 : Int32))), .val (.ref b16), .val (.int (own_max (x0 &&& (2147483647 : Int32)) (x1 &&& (2147483647 : Int32))))] [])) _
        refine Goes.to (fun _ k => XS.iload X25.here hx rfl (hb hby at_47) rfl k) ?_
        show Goes p.tables e below (T25.setTop (mkF m 49 #[.val (.int x0), .val (.int x1), .val (.int (x0 &&& (2147483647 : Int32))), .val (.int (x1 &&& (2147483647 : Int32))), .val (.ref b16), .val (.int (own_max (x0 &&& (2147483647 : Int32)) (x1 &&& (2147483647 : Int32))))] [(.int (own_max (x0 &&& (2147483647 : Int32)) (x1 &&& (2147483647 : Int32))))])) _
        refine Goes.to (fun _ k => XS.iloadN X25.here hx rfl (hb hby at_49) rfl k) ?_
        show Goes p.tables e below (T25.setTop (mkF m 50 #[.val (.int x0), .val (.int x1), .val (.int (x0 &&& (2147483647 : Int32))), .val (.int (x1 &&& (2147483647 : Int32))), .val (.ref b16), .val (.int (own_max (x0 &&& (2147483647 : Int32)) (x1 &&& (2147483647 : Int32))))] [(.int (x0 &&& (2147483647 : Int32))), (.int (own_max (x0 &&& (2147483647 : Int32)) (x1 &&& (2147483647 : Int32))))])) _
        by_cases hc28 : (own_max (x0 &&& (2147483647 : Int32)) (x1 &&& (2147483647 : Int32))) = (x0 &&& (2147483647 : Int32))
        · refine Goes.to (fun _ k => XS.icmpYes X25.here hx rfl (pc0 := 50) (pc' := 59) rfl (hb hby at_50) rfl (teq hc28).1 (by decide) (by decide) k) ?_
          show Goes p.tables e below (T25.setTop (mkF m 59 #[.val (.int x0), .val (.int x1), .val (.int (x0 &&& (2147483647 : Int32))), .val (.int (x1 &&& (2147483647 : Int32))), .val (.ref b16), .val (.int (own_max (x0 &&& (2147483647 : Int32)) (x1 &&& (2147483647 : Int32))))] [])) _
          refine Goes.to (fun _ k => XS.iconst X25.here hx rfl (hb hby at_59) k) ?_
          show Goes p.tables e below (T25.setTop (mkF m 60 #[.val (.int x0), .val (.int x1), .val (.int (x0 &&& (2147483647 : Int32))), .val (.int (x1 &&& (2147483647 : Int32))), .val (.ref b16), .val (.int (own_max (x0 &&& (2147483647 : Int32)) (x1 &&& (2147483647 : Int32))))] [(.int (1 : Int32))])) _
          refine Goes.to (fun _ k => XS.goto X25.here hx rfl (pc0 := 60) (pc' := 64) rfl (hb hby at_60) (by decide) (by decide) k) ?_
          show Goes p.tables e below (T25.setTop (mkF m 64 #[.val (.int x0), .val (.int x1), .val (.int (x0 &&& (2147483647 : Int32))), .val (.int (x1 &&& (2147483647 : Int32))), .val (.ref b16), .val (.int (own_max (x0 &&& (2147483647 : Int32)) (x1 &&& (2147483647 : Int32))))] [(.int (1 : Int32))])) _
          obtain ⟨fs, hr, hrun, hended, hW, hsame⟩ := X25.leave (v := some (.int (1 : Int32))) (fun h => by rw [Bd.returns] at h; cases h)
          have hv : (some (.int (1 : Int32)) : Option Value) = some (.int (1 : Int32)) := by
            rfl
          exact ⟨_, _, retN X25 hx (t := .boolean) Bd.returns (by simp) (hb hby at_64) hr, hrun, hended, _, _, rfl, ⟨hv, N25⟩, ⟨_, rfl⟩, hW, hsame.mono (by decide) (by decide)⟩
        · refine Goes.to (fun _ k => XS.icmpNo X25.here hx rfl (hb hby at_50) rfl (feq hc28).1 k) ?_
          show Goes p.tables e below (T25.setTop (mkF m 53 #[.val (.int x0), .val (.int x1), .val (.int (x0 &&& (2147483647 : Int32))), .val (.int (x1 &&& (2147483647 : Int32))), .val (.ref b16), .val (.int (own_max (x0 &&& (2147483647 : Int32)) (x1 &&& (2147483647 : Int32))))] [])) _
          refine Goes.to (fun _ k => XS.iload X25.here hx rfl (hb hby at_53) rfl k) ?_
          show Goes p.tables e below (T25.setTop (mkF m 55 #[.val (.int x0), .val (.int x1), .val (.int (x0 &&& (2147483647 : Int32))), .val (.int (x1 &&& (2147483647 : Int32))), .val (.ref b16), .val (.int (own_max (x0 &&& (2147483647 : Int32)) (x1 &&& (2147483647 : Int32))))] [(.int (own_max (x0 &&& (2147483647 : Int32)) (x1 &&& (2147483647 : Int32))))])) _
          refine Goes.to (fun _ k => XS.iloadN X25.here hx rfl (hb hby at_55) rfl k) ?_
          show Goes p.tables e below (T25.setTop (mkF m 56 #[.val (.int x0), .val (.int x1), .val (.int (x0 &&& (2147483647 : Int32))), .val (.int (x1 &&& (2147483647 : Int32))), .val (.ref b16), .val (.int (own_max (x0 &&& (2147483647 : Int32)) (x1 &&& (2147483647 : Int32))))] [(.int (x1 &&& (2147483647 : Int32))), (.int (own_max (x0 &&& (2147483647 : Int32)) (x1 &&& (2147483647 : Int32))))])) _
          by_cases hc29 : (own_max (x0 &&& (2147483647 : Int32)) (x1 &&& (2147483647 : Int32))) = (x1 &&& (2147483647 : Int32))
          · refine Goes.to (fun _ k => XS.icmpNo X25.here hx rfl (hb hby at_56) rfl (teq hc29).2 k) ?_
            show Goes p.tables e below (T25.setTop (mkF m 59 #[.val (.int x0), .val (.int x1), .val (.int (x0 &&& (2147483647 : Int32))), .val (.int (x1 &&& (2147483647 : Int32))), .val (.ref b16), .val (.int (own_max (x0 &&& (2147483647 : Int32)) (x1 &&& (2147483647 : Int32))))] [])) _
            refine Goes.to (fun _ k => XS.iconst X25.here hx rfl (hb hby at_59) k) ?_
            show Goes p.tables e below (T25.setTop (mkF m 60 #[.val (.int x0), .val (.int x1), .val (.int (x0 &&& (2147483647 : Int32))), .val (.int (x1 &&& (2147483647 : Int32))), .val (.ref b16), .val (.int (own_max (x0 &&& (2147483647 : Int32)) (x1 &&& (2147483647 : Int32))))] [(.int (1 : Int32))])) _
            refine Goes.to (fun _ k => XS.goto X25.here hx rfl (pc0 := 60) (pc' := 64) rfl (hb hby at_60) (by decide) (by decide) k) ?_
            show Goes p.tables e below (T25.setTop (mkF m 64 #[.val (.int x0), .val (.int x1), .val (.int (x0 &&& (2147483647 : Int32))), .val (.int (x1 &&& (2147483647 : Int32))), .val (.ref b16), .val (.int (own_max (x0 &&& (2147483647 : Int32)) (x1 &&& (2147483647 : Int32))))] [(.int (1 : Int32))])) _
            obtain ⟨fs, hr, hrun, hended, hW, hsame⟩ := X25.leave (v := some (.int (1 : Int32))) (fun h => by rw [Bd.returns] at h; cases h)
            have hv : (some (.int (1 : Int32)) : Option Value) = some (.int (1 : Int32)) := by
              rfl
            exact ⟨_, _, retN X25 hx (t := .boolean) Bd.returns (by simp) (hb hby at_64) hr, hrun, hended, _, _, rfl, ⟨hv, N25⟩, ⟨_, rfl⟩, hW, hsame.mono (by decide) (by decide)⟩
          · refine Goes.to (fun _ k => XS.icmpYes X25.here hx rfl (pc0 := 56) (pc' := 63) rfl (hb hby at_56) rfl (feq hc29).2 (by decide) (by decide) k) ?_
            show Goes p.tables e below (T25.setTop (mkF m 63 #[.val (.int x0), .val (.int x1), .val (.int (x0 &&& (2147483647 : Int32))), .val (.int (x1 &&& (2147483647 : Int32))), .val (.ref b16), .val (.int (own_max (x0 &&& (2147483647 : Int32)) (x1 &&& (2147483647 : Int32))))] [])) _
            refine Goes.to (fun _ k => XS.iconst X25.here hx rfl (hb hby at_63) k) ?_
            show Goes p.tables e below (T25.setTop (mkF m 64 #[.val (.int x0), .val (.int x1), .val (.int (x0 &&& (2147483647 : Int32))), .val (.int (x1 &&& (2147483647 : Int32))), .val (.ref b16), .val (.int (own_max (x0 &&& (2147483647 : Int32)) (x1 &&& (2147483647 : Int32))))] [(.int (0 : Int32))])) _
            obtain ⟨fs, hr, hrun, hended, hW, hsame⟩ := X25.leave (v := some (.int (0 : Int32))) (fun h => by rw [Bd.returns] at h; cases h)
            have hv : (some (.int (0 : Int32)) : Option Value) = some (.int (1 : Int32)) := by
              exfalso
              have k1 := rng32 x0
              have k2 : (x0 &&& (2147483647 : Int32)).toInt = x0.toInt % 2147483648 := c_mask x0 (2147483647 : Int32) 31 (by decide) (by decide)
              have k3 : (1 : Int32).toInt = 1 := rfl
              have k4 : ¬ (x0 &&& (2147483647 : Int32)).toInt < (1 : Int32).toInt := fun z => hc1 (Int32.lt_iff_toInt_lt.mpr z)
              have k5 := rng32 (own_max (x0 &&& (2147483647 : Int32)) (x1 &&& (2147483647 : Int32)))
              have k6 : ¬ (own_max (x0 &&& (2147483647 : Int32)) (x1 &&& (2147483647 : Int32))).toInt < (x0 &&& (2147483647 : Int32)).toInt := fun z => hc26 (Int32.lt_iff_toInt_lt.mpr z)
              have k7 := rng32 x1
              have k8 : (x1 &&& (2147483647 : Int32)).toInt = x1.toInt % 2147483648 := c_mask x1 (2147483647 : Int32) 31 (by decide) (by decide)
              have k9 : ¬ (own_max (x0 &&& (2147483647 : Int32)) (x1 &&& (2147483647 : Int32))).toInt < (x1 &&& (2147483647 : Int32)).toInt := fun z => hc27 (Int32.lt_iff_toInt_lt.mpr z)
              have k10 : ¬ (own_max (x0 &&& (2147483647 : Int32)) (x1 &&& (2147483647 : Int32))).toInt = (x0 &&& (2147483647 : Int32)).toInt := fun z => hc28 (Int32.toInt_inj.mp z)
              have k11 : ¬ (own_max (x0 &&& (2147483647 : Int32)) (x1 &&& (2147483647 : Int32))).toInt = (x1 &&& (2147483647 : Int32)).toInt := fun z => hc29 (Int32.toInt_inj.mp z)
              have km := own_max_toInt (x0 &&& (2147483647 : Int32)) (x1 &&& (2147483647 : Int32))
              omega
            exact ⟨_, _, retN X25 hx (t := .boolean) Bd.returns (by simp) (hb hby at_64) hr, hrun, hended, _, _, rfl, ⟨hv, N25⟩, ⟨_, rfl⟩, hW, hsame.mono (by decide) (by decide)⟩

set_option maxRecDepth 65536 in
set_option maxHeartbeats 40000000 in
theorem comes_1 {Post : Tables → Env → Array Value → State → Outcome → State → Prop} (hpost : ∀ tb e args s v u, (limb_1_1.after args s (.returned v) u = true ∧ limb_1_2.after args s (.returned v) u = true ∧ True) → FrameEnd s (.returned v) u (Jvm.fieldLocs frame_1_writes args s ++ Jvm.arrayLocs frame_1_arrays args s ++ Jvm.staticLocs frame_1_statics s) 16 128 → Post tb e args s (.returned v) u) :
    ArmFor flags0 classFile x code maxLocals ret World_1 tables_1 room_1 Calls_1 rest_1 Pre_1 Post := by
  intro l hfl _ _ p e ha hc hk s m args below hf hA hF happ hP
  obtain ⟨hcalls, hrest, hpre⟩ := hP
  obtain ⟨-, -, -, hnamed, -, -, -, hat⟩ := (Spec.applies_iff hf).mp happ
  obtain ⟨hg, hn⟩ := and_e (Cond.before_iff.mp (show (Jvm.Cond.and given_1 narrow_1).before args s = true from hpre))
  obtain ⟨hg0, hgr0⟩ := and_e hg
  obtain ⟨hg1, hgr1⟩ := and_e hgr0
  obtain ⟨w0, w1, rfl⟩ : ∃ w0 w1 : Value, args = #[w0, w1] := by
    have hs : args.size = 2 := by simpa [Cond.value, given_1] using hg0
    obtain ⟨L⟩ := args
    match L, hs with
    | [w0, w1], _ => exact ⟨w0, w1, rfl⟩
  have hw := fun d (hd : d ∈ tables_1) => atoms_spec (ws := Jvm.Cond.code x code maxLocals ret :: tables_1) hat d (List.mem_cons_of_mem _ hd)
  have hfit : Fit s := fun {y c} hc i hi => by
    obtain ⟨ha, rfl⟩ := Array.getElem?_eq_some_iff.mp hc
    have q := List.all_eq_true.mp ((Array.all_eq_true_iff_forall_mem.mp hF) _ (Array.getElem_mem ha)) i (List.mem_range.mpr hi)
    simpa [Array.getElem?_eq_getElem hi] using q
  obtain ⟨i0, ei0⟩ := is_v hg1
  obtain rfl : w0 = (.int i0) := Option.some.inj ei0
  obtain ⟨i1, ei1⟩ := is_v hgr1
  obtain rfl : w1 = (.int i1) := Option.some.inj ei1
  obtain ⟨n, o, h1, h2, h3, _, L, rfl, ⟨rfl, N⟩, hq⟩ := own_rm0 l s _ hw tables_1 i0 i1  s.heap s.heap.size (Nat.le_refl _)  p e ha hc hk s m _ below hf ((Spec.applies_iff_loose hf).mp happ).1 ⟨rfl, State.Warmed39.refl s, rfl⟩ trivial
  refine ⟨n, _, h1, h2, h3, hpost _ _ _ _ _ _ ⟨Cond.after_iff.mpr rfl, Cond.after_iff.mpr (eq_i res_at (Term.int_eval (1)) rfl), trivial⟩ ⟨hq.1, hq.2.1, (hq.2.2.sift fun y hy => Or.inr (N y hy)).mono (by decide) (by decide)⟩⟩
theorem main_1_1 : Claimed_1_1 := comes_1 fun _ _ _ _ _ _ h hF => ⟨h.1, hF⟩
theorem main_1_2 : Claimed_1_2 := comes_1 fun _ _ _ _ _ _ h hF => ⟨h.2.1, hF⟩
end Jvm.Pilot.@@N@@
namespace Jvm.Pilot.@@N@@
open Jvm Jvm.ClassFile Sem Op Lib Jvm.Free Jvm.Stand Jvm.Pilot.@@N@@.Jvm.D
/-! MADE BY PROGRAM (witnessworld.py) out of the Statement's table words and the real class files: 11 classes; the members and pool entries that the words name. The judged class is class 1, her method 1. -/
namespace start1
open Jvm.ClassFile
def u (s : String) : CpInfo := .utf8 (stringToUtf16 s)
/-- a pool by its gaps: so many unusable entries, then the entry; so many at the end -/
def gap : Nat → List CpInfo → List CpInfo
  | 0, r => r
  | n + 1, r => .unusable :: gap n r
def poolList (es : List (Nat × CpInfo)) (last : Nat) : List CpInfo := es.foldr (fun e r => gap e.1 (e.2 :: r)) (gap last [])
def pool (es : List (Nat × CpInfo)) (last : Nat) : Array CpInfo := ⟨poolList es last⟩
def fileOf (pool : Array CpInfo) (this : Nat) (attrs : Array Attribute := #[]) (ms : Array MethodInfo := #[]) (fl : Nat := 33) (sup : Nat := 0) (ifs : Array Nat := #[]) (fds : Array FieldInfo := #[]) : ClassFile where
  minorVersion := 0
  majorVersion := 65
  constantPool := pool
  accessFlags := fl
  thisClass := this
  superClass := sup
  interfaces := ifs
  fields := fds
  methods := ms
  attributes := attrs
def plain (name : String) (sup : Option ClassId) : Class where
  name := name
  kind := .ordinary
  loader := none
  accessFlags := 33
  super := sup
  interfaces := #[]
  cf := none
  fields := #[]
  methods := #[]
  instanceTypes := #[]
  staticTypes := #[]
  resolved := #[]
  callSites := []
  init := .initialized
  statics := none
  mirror := none

def pool0 : Array CpInfo := pool [(5, u "<init>"), (0, u "()V"), (1, .class_ 10), (1, u "java/lang/Object")] 113

def k0c0 : Code := { maxStack := 0, maxLocals := 1, code := object_method_1_code, exceptionTable := #[], attributes := #[] }
def k0m0 : Method := { name := "<init>", desc := "()V", sig := { parameters := [], returnType := none }, accessFlags := 1, code := some k0c0 }
/-- java/lang/Object -/
def k0 : Class := { plain "java/lang/Object" none with
  accessFlags := 33
  interfaces := #[]
  cf := some (fileOf pool0 8 #[] #[{ accessFlags := 1, nameIndex := 5, descriptorIndex := 6, attributes := #[] }] 33 0 #[] #[])
  fields := #[]
  methods := #[k0m0]
  instanceTypes := #[]
  staticTypes := #[]
  resolved := Array.replicate 124 none
  statics := none }

def pool1 : Array CpInfo := pool [(2, .class_ 4), (1, u "java/lang/Object"), (0, u "<init>"), (0, u "()V"), (0, .integer 2147483647), (0, .class_ 9), (0, u "com/example/polgen/polgen/mine/PathLimits"), (0, .methodref 8 11), (0, .nameAndType 5 12), (0, u "(II)V"), (0, .methodref 8 14), (0, .nameAndType 15 16), (0, u "maxPath"), (0, u "()I"), (0, .class_ 18), (0, u "com/example/polgen/polgen/mine/PathLimitsMaxPathPinLaw"), (2, u "law"), (0, u "(II)Z")] 3

def k1m0 : Method := { name := "<init>", desc := "()V", sig := { parameters := [], returnType := none }, accessFlags := 1, code := none }
def k1c1 : Code := { maxStack := 4, maxLocals := 6, code := code, exceptionTable := #[], attributes := #[] }
def k1m1 : Method := { name := "law", desc := "(II)Z", sig := { parameters := [.int, .int], returnType := some .boolean }, accessFlags := 9, code := some k1c1 }
/-- com/example/polgen/polgen/mine/PathLimitsMaxPathPinLaw -/
def k1 : Class := { plain "com/example/polgen/polgen/mine/PathLimitsMaxPathPinLaw" (some 0) with
  accessFlags := 49
  interfaces := #[]
  cf := some (fileOf pool1 17 #[] #[{ accessFlags := 1, nameIndex := 5, descriptorIndex := 6, attributes := #[] }, { accessFlags := 9, nameIndex := 21, descriptorIndex := 22, attributes := #[] }] 49 2 #[] #[])
  fields := #[]
  methods := #[k1m0, k1m1]
  instanceTypes := #[]
  staticTypes := #[]
  resolved := Array.replicate 26 none
  statics := none }

def pool2 : Array CpInfo := pool [(1, .methodref 2 3), (0, .class_ 4), (0, .nameAndType 5 6), (0, u "java/lang/Object"), (0, u "<init>"), (0, u "()V"), (0, .class_ 8), (0, u "java/lang/Record")] 13

def k2c0 : Code := { maxStack := 1, maxLocals := 1, code := jdk_30_method_1_code, exceptionTable := #[], attributes := #[] }
def k2m0 : Method := { name := "<init>", desc := "()V", sig := { parameters := [], returnType := none }, accessFlags := 4, code := some k2c0 }
/-- java/lang/Record -/
def k2 : Class := { plain "java/lang/Record" (some 0) with
  accessFlags := 1057
  interfaces := #[]
  cf := some (fileOf pool2 7 #[] #[{ accessFlags := 4, nameIndex := 5, descriptorIndex := 6, attributes := #[] }] 1057 2 #[] #[])
  fields := #[]
  methods := #[k2m0]
  instanceTypes := #[]
  staticTypes := #[]
  resolved := Array.replicate 22 none
  statics := none }

def pool3 : Array CpInfo := pool [(1, .methodref 2 3), (0, .class_ 4), (0, .nameAndType 5 6), (0, u "java/lang/Record"), (0, u "<init>"), (0, u "()V"), (10, .fieldref 18 19), (0, .class_ 20), (0, .nameAndType 21 22), (0, u "com/example/polgen/polgen/mine/PathLimits"), (0, u "maxConditionPath"), (0, u "I"), (0, .fieldref 18 24), (0, .nameAndType 25 22), (0, u "maxConstraintPath"), (0, .methodref 27 28), (0, .class_ 29), (0, .nameAndType 30 31), (0, u "java/lang/Math"), (0, u "max"), (0, u "(II)I"), (14, u "(II)V"), (2, u "DEFAULT"), (0, u "Lcom/example/polgen/polgen/mine/PathLimits;"), (0, u "DEFAULT_MAX_CONDITION_PATH"), (2, u "DEFAULT_MAX_CONSTRAINT_PATH"), (5, u "maxPath"), (0, u "()I")] 34

def k3c0 : Code := { maxStack := 3, maxLocals := 3, code := prog_15_method_1_code, exceptionTable := #[], attributes := #[] }
def k3m0 : Method := { name := "<init>", desc := "(II)V", sig := { parameters := [.int, .int], returnType := none }, accessFlags := 1, code := some k3c0 }
def k3c1 : Code := { maxStack := 2, maxLocals := 1, code := prog_15_method_2_code, exceptionTable := #[], attributes := #[] }
def k3m1 : Method := { name := "maxPath", desc := "()I", sig := { parameters := [], returnType := some .int }, accessFlags := 0, code := some k3c1 }
/-- com/example/polgen/polgen/mine/PathLimits -/
def k3 : Class := { plain "com/example/polgen/polgen/mine/PathLimits" (some 2) with
  accessFlags := 49
  interfaces := #[]
  cf := some (fileOf pool3 18 #[] #[{ accessFlags := 1, nameIndex := 5, descriptorIndex := 46, attributes := #[] }, { accessFlags := 0, nameIndex := 60, descriptorIndex := 61, attributes := #[] }] 49 2 #[] #[{ accessFlags := 18, nameIndex := 21, descriptorIndex := 22, attributes := #[] }, { accessFlags := 18, nameIndex := 25, descriptorIndex := 22, attributes := #[] }, { accessFlags := 25, nameIndex := 51, descriptorIndex := 22, attributes := #[] }, { accessFlags := 25, nameIndex := 54, descriptorIndex := 22, attributes := #[] }, { accessFlags := 25, nameIndex := 49, descriptorIndex := 50, attributes := #[] }])
  fields := #[{ name := "maxConditionPath", type := .int, accessFlags := 18, slot := 0, constantValue := 0 }, { name := "maxConstraintPath", type := .int, accessFlags := 18, slot := 1, constantValue := 0 }, { name := "DEFAULT_MAX_CONDITION_PATH", type := .int, accessFlags := 25, slot := 0, constantValue := 0 }, { name := "DEFAULT_MAX_CONSTRAINT_PATH", type := .int, accessFlags := 25, slot := 1, constantValue := 0 }, { name := "DEFAULT", type := (.object "com/example/polgen/polgen/mine/PathLimits"), accessFlags := 25, slot := 2, constantValue := 0 }]
  methods := #[k3m0, k3m1]
  instanceTypes := #[.int, .int]
  staticTypes := #[.int, .int, (.object "com/example/polgen/polgen/mine/PathLimits")]
  resolved := Array.replicate 96 none
  statics := none }

def pool4 : Array CpInfo := pool [(1, .class_ 2), (0, u "java/lang/Math"), (1, .class_ 6), (1, u "java/lang/Object"), (0, u "<init>"), (0, u "()V"), (89, .class_ 100), (1, u "java/lang/Math$RandomNumberGeneratorHolder"), (71, u "negativeZeroFloatBits"), (0, u "J"), (2, u "negativeZeroDoubleBits"), (21, u "max"), (46, u "$assertionsDisabled"), (0, u "Z"), (88, u "(II)I"), (2, u "twoToTheDoubleScaleDown"), (0, u "D"), (4, u "twoToTheDoubleScaleUp"), (9, u "E"), (3, u "PI"), (2, u "TAU"), (2, u "DEGREES_TO_RADIANS"), (0, u "RADIANS_TO_DEGREES")] 94

def k4m0 : Method := { name := "<init>", desc := "()V", sig := { parameters := [], returnType := none }, accessFlags := 2, code := none }
def k4c1 : Code := { maxStack := 2, maxLocals := 2, code := jdk_29_method_65_code, exceptionTable := #[], attributes := #[] }
def k4m1 : Method := { name := "max", desc := "(II)I", sig := { parameters := [.int, .int], returnType := some .int }, accessFlags := 9, code := some k4c1 }
/-- java/lang/Math -/
def k4 : Class := { plain "java/lang/Math" (some 0) with
  accessFlags := 49
  interfaces := #[]
  cf := some (fileOf pool4 1 #[.nestMembers #[98]] #[{ accessFlags := 2, nameIndex := 7, descriptorIndex := 8, attributes := #[] }, { accessFlags := 9, nameIndex := 198, descriptorIndex := 335, attributes := #[] }] 49 4 #[] #[{ accessFlags := 25, nameIndex := 354, descriptorIndex := 339, attributes := #[] }, { accessFlags := 25, nameIndex := 358, descriptorIndex := 339, attributes := #[] }, { accessFlags := 25, nameIndex := 361, descriptorIndex := 339, attributes := #[] }, { accessFlags := 26, nameIndex := 364, descriptorIndex := 339, attributes := #[] }, { accessFlags := 26, nameIndex := 365, descriptorIndex := 339, attributes := #[] }, { accessFlags := 26, nameIndex := 172, descriptorIndex := 173, attributes := #[] }, { accessFlags := 26, nameIndex := 176, descriptorIndex := 173, attributes := #[] }, { accessFlags := 8, nameIndex := 344, descriptorIndex := 339, attributes := #[] }, { accessFlags := 8, nameIndex := 338, descriptorIndex := 339, attributes := #[] }, { accessFlags := 4120, nameIndex := 245, descriptorIndex := 246, attributes := #[] }])
  fields := #[{ name := "E", type := .double, accessFlags := 25, slot := 0, constantValue := 0 }, { name := "PI", type := .double, accessFlags := 25, slot := 1, constantValue := 0 }, { name := "TAU", type := .double, accessFlags := 25, slot := 2, constantValue := 0 }, { name := "DEGREES_TO_RADIANS", type := .double, accessFlags := 26, slot := 3, constantValue := 0 }, { name := "RADIANS_TO_DEGREES", type := .double, accessFlags := 26, slot := 4, constantValue := 0 }, { name := "negativeZeroFloatBits", type := .long, accessFlags := 26, slot := 5, constantValue := 0 }, { name := "negativeZeroDoubleBits", type := .long, accessFlags := 26, slot := 6, constantValue := 0 }, { name := "twoToTheDoubleScaleUp", type := .double, accessFlags := 8, slot := 7, constantValue := 0 }, { name := "twoToTheDoubleScaleDown", type := .double, accessFlags := 8, slot := 8, constantValue := 0 }, { name := "$assertionsDisabled", type := .boolean, accessFlags := 4120, slot := 9, constantValue := 0 }]
  methods := #[k4m0, k4m1]
  instanceTypes := #[]
  staticTypes := #[.double, .double, .double, .double, .double, .long, .long, .double, .double, .boolean]
  resolved := Array.replicate 460 none
  statics := none }

def pool5 : Array CpInfo := pool [(1, u "java/lang/Cloneable"), (0, .class_ 1), (0, u "java/lang/Object"), (0, .class_ 3)] 3

/-- java/lang/Cloneable -/
def k5 : Class := { plain "java/lang/Cloneable" (some 0) with
  accessFlags := 1537
  interfaces := #[]
  cf := some (fileOf pool5 2 #[] #[] 1537 4 #[] #[])
  fields := #[]
  methods := #[]
  instanceTypes := #[]
  staticTypes := #[]
  resolved := Array.replicate 8 none
  statics := none }

def pool6 : Array CpInfo := pool [(1, u "java/io/Serializable"), (0, .class_ 1), (0, u "java/lang/Object"), (0, .class_ 3)] 3

/-- java/io/Serializable -/
def k6 : Class := { plain "java/io/Serializable" (some 0) with
  accessFlags := 1537
  interfaces := #[]
  cf := some (fileOf pool6 2 #[] #[] 1537 4 #[] #[])
  fields := #[]
  methods := #[]
  instanceTypes := #[]
  staticTypes := #[]
  resolved := Array.replicate 8 none
  statics := none }

/-- the primitive byte -/
def k7 : Class := { plain "byte" none with kind := .primitive 'B', accessFlags := 0x411 }
/-- [B -/
def k8 : Class := { plain "[B" (some 0) with kind := .array 7 .byte, interfaces := #[5, 6], accessFlags := 1041 }

/-- the primitive int -/
def k9 : Class := { plain "int" none with kind := .primitive 'I', accessFlags := 0x411 }
/-- [I -/
def k10 : Class := { plain "[I" (some 0) with kind := .array 9 .int, interfaces := #[5, 6], accessFlags := 1041 }

def heap : Heap := #[]
def classes : Array Class := #[k0, k1, k2, k3, k4, k5, k6, k7, k8, k9, k10]
def interned : List (Array UInt16 × Addr) := []
def slotsUsed : Nat := 0
def theMethod : MethodId := ⟨1, 1⟩
def args0 : Array Value := #[.int 5, .int 7]
def aboutOver (below : List Frame) : State where
  vm := { classes := classes, interned := interned.toArray }
  heap := heap
  slotsUsed := slotsUsed
  threads := #[{ frames := .invoking theMethod args0 :: below }]
def below0 : List Frame := [.native { method := ⟨0, 0⟩, args := #[] }]
def about1 : State := aboutOver below0
def p0 : Program := .bare "" "" ""
def e0 : Env := launch0.env 0 0 0
theorem w_frames : about1.frames = Frame.invoking theMethod args0 :: below0 := rfl
set_option maxRecDepth 65536 in
theorem w_args : argsFit about1.vm theMethod args0 = true := by decide +kernel
set_option maxRecDepth 65536 in
theorem w_heap : heapFits about1 = true := by decide +kernel
set_option maxRecDepth 65536 in
theorem w_runnable : about1.curStatus? = some .runnable := by decide +kernel
set_option maxRecDepth 65536 in
theorem w_alone : about1.alone = true := by decide +kernel
set_option maxRecDepth 65536 in
theorem w_named : about1.methodNamed? x = some theMethod := by decide +kernel
set_option maxRecDepth 65536 in
theorem w_hears : about1.hears theMethod below0 = true := by decide +kernel
set_option maxRecDepth 65536 in
theorem w_ripe : about1.ripe theMethod args0 below0 = true := by decide +kernel
theorem w_running : about1.status = .running := rfl
set_option maxRecDepth 65536 in
theorem w_room : about1.hasRoom e0.platform room_1 = true :=
  launch0.hasRoom_least _ room_1 (by decide +kernel) (by decide +kernel) (by decide +kernel) (by decide +kernel) (by decide +kernel) (by decide +kernel)
theorem allAtoms_all (ts : List Jvm.Cond) (a : Array Jvm.Value) (st : Jvm.State) : (allAtoms ts).before a st = ts.all (fun c => c.before a st) := by
  induction ts with
  | nil => rfl
  | cons c t ih =>
    show (Jvm.Cond.and c (allAtoms t)).before a st = _
    rw [Jvm.Cond.before_and, ih, List.all_cons]
def words1 : List Jvm.Cond := Jvm.Cond.code x code maxLocals ret :: tables_1
/-- a 'code' word, met by the world's own term for the bytes: nothing is compared byte by byte -/
theorem code_word {y : MethodName} {bytes : ByteArray} {mx : Nat} {rt : Option FieldType} {a : Array Value} {s : State} {m : MethodId} {meth : Method} {c : Code} (h1 : s.methodNamed? y = some m) (h2 : s.vm.method? m = some meth) (h3 : meth.code = some c) (h4 : c.code = bytes)
    (h5 : (c.maxLocals == mx && c.exceptionTable.isEmpty && decide (c.maxStack ≤ mostOperands) && decide (meth.sig.returnType = rt) && !meth.locks && decide (parseMethodDescriptor y.desc = some meth.sig)) = true) : (Jvm.Cond.code y bytes mx rt).before a s = true := by
  simp only [Bool.and_eq_true, beq_iff_eq, Bool.not_eq_true', decide_eq_true_eq] at h5
  obtain ⟨⟨⟨⟨⟨g1, g2⟩, g3⟩, g4⟩, g5⟩, g6⟩ := h5
  simp [Cond.before, Cond.holds, Cond.value, h1, h2, h3, h4, g1, g2, g3, g4, g5, g6]
def isCode : Jvm.Cond → Bool
  | .code _ _ _ _ => true
  | _ => false
theorem all_split {L : List Jvm.Cond} {P : Jvm.Cond → Bool} (h1 : L.all (fun c => isCode c || P c) = true) (h2 : ∀ c ∈ L.filter isCode, P c = true) : L.all P = true := by
  refine List.all_eq_true.mpr fun c hc => ?_
  have h := List.all_eq_true.mp h1 c hc
  rcases Bool.eq_false_or_eq_true (isCode c) with hi | hi
  · exact h2 c (List.mem_filter.mpr ⟨hc, hi⟩)
  · simpa [hi] using h
set_option maxRecDepth 65536 in
theorem w_c0 : (Jvm.Cond.code x code maxLocals ret).before args0 about1 = true := code_word (m := ⟨1, 1⟩) (meth := k1m1) (c := k1c1) (by decide +kernel) rfl rfl rfl (by decide +kernel)
set_option maxRecDepth 65536 in
theorem w_c1 : (Jvm.Cond.code ({ cls := "com/example/polgen/polgen/mine/PathLimits", name := "<init>", desc := "(II)V" } : Jvm.MethodName) prog_15_method_1_code (3 : Nat) (Option.none : Option Jvm.ClassFile.FieldType)).before args0 about1 = true := code_word (m := ⟨3, 0⟩) (meth := k3m0) (c := k3c0) (by decide +kernel) rfl rfl rfl (by decide +kernel)
set_option maxRecDepth 65536 in
theorem w_c2 : (Jvm.Cond.code ({ cls := "java/lang/Record", name := "<init>", desc := "()V" } : Jvm.MethodName) jdk_30_method_1_code (1 : Nat) (Option.none : Option Jvm.ClassFile.FieldType)).before args0 about1 = true := code_word (m := ⟨2, 0⟩) (meth := k2m0) (c := k2c0) (by decide +kernel) rfl rfl rfl (by decide +kernel)
set_option maxRecDepth 65536 in
theorem w_c3 : (Jvm.Cond.code ({ cls := "java/lang/Object", name := "<init>", desc := "()V" } : Jvm.MethodName) object_method_1_code (1 : Nat) (Option.none : Option Jvm.ClassFile.FieldType)).before args0 about1 = true := code_word (m := ⟨0, 0⟩) (meth := k0m0) (c := k0c0) (by decide +kernel) rfl rfl rfl (by decide +kernel)
set_option maxRecDepth 65536 in
theorem w_c4 : (Jvm.Cond.code ({ cls := "com/example/polgen/polgen/mine/PathLimits", name := "maxPath", desc := "()I" } : Jvm.MethodName) prog_15_method_2_code (1 : Nat) (Option.some Jvm.ClassFile.FieldType.int)).before args0 about1 = true := code_word (m := ⟨3, 1⟩) (meth := k3m1) (c := k3c1) (by decide +kernel) rfl rfl rfl (by decide +kernel)
set_option maxRecDepth 65536 in
theorem w_c5 : (Jvm.Cond.code ({ cls := "java/lang/Math", name := "max", desc := "(II)I" } : Jvm.MethodName) jdk_29_method_65_code (2 : Nat) (Option.some Jvm.ClassFile.FieldType.int)).before args0 about1 = true := code_word (m := ⟨4, 1⟩) (meth := k4m1) (c := k4c1) (by decide +kernel) rfl rfl rfl (by decide +kernel)
def codes1 : List Jvm.Cond := [Jvm.Cond.code x code maxLocals ret, Jvm.Cond.code ({ cls := "com/example/polgen/polgen/mine/PathLimits", name := "<init>", desc := "(II)V" } : Jvm.MethodName) prog_15_method_1_code (3 : Nat) (Option.none : Option Jvm.ClassFile.FieldType), Jvm.Cond.code ({ cls := "java/lang/Record", name := "<init>", desc := "()V" } : Jvm.MethodName) jdk_30_method_1_code (1 : Nat) (Option.none : Option Jvm.ClassFile.FieldType), Jvm.Cond.code ({ cls := "java/lang/Object", name := "<init>", desc := "()V" } : Jvm.MethodName) object_method_1_code (1 : Nat) (Option.none : Option Jvm.ClassFile.FieldType), Jvm.Cond.code ({ cls := "com/example/polgen/polgen/mine/PathLimits", name := "maxPath", desc := "()I" } : Jvm.MethodName) prog_15_method_2_code (1 : Nat) (Option.some Jvm.ClassFile.FieldType.int), Jvm.Cond.code ({ cls := "java/lang/Math", name := "max", desc := "(II)I" } : Jvm.MethodName) jdk_29_method_65_code (2 : Nat) (Option.some Jvm.ClassFile.FieldType.int)]
set_option maxRecDepth 65536 in
theorem codes_eq : words1.filter isCode = codes1 := rfl
theorem w_codes : ∀ c ∈ words1.filter isCode, c.before args0 about1 = true := by
  rw [codes_eq]
  intro c hc
  simp only [codes1, List.mem_cons, List.not_mem_nil, or_false] at hc
  rcases hc with rfl | rfl | rfl | rfl | rfl | rfl
  · exact w_c0
  · exact w_c1
  · exact w_c2
  · exact w_c3
  · exact w_c4
  · exact w_c5
set_option maxRecDepth 65536 in
theorem w_t1 : (words1.take 24).all (fun c => isCode c || c.before args0 about1) = true := by decide +kernel
set_option maxRecDepth 65536 in
theorem w_t2 : (words1.drop 24).all (fun c => isCode c || c.before args0 about1) = true := by decide +kernel
theorem w_tables : (allAtoms (Jvm.Cond.code x code maxLocals ret :: tables_1)).before args0 about1 = true := by
  rw [allAtoms_all]
  show words1.all (fun c => c.before args0 about1) = true
  refine all_split ?_ w_codes
  rw [← List.take_append_drop 24 words1, List.all_append, w_t1, w_t2]
  rfl
set_option maxRecDepth 65536 in
theorem w_case : (Jvm.Cond.and given_1 narrow_1).before args0 about1 = true := by decide +kernel
theorem w_applies : (headSpec (Jvm.Cond.code x code maxLocals ret :: tables_1) room_1).applies x e0.platform about1 = true :=
  (Spec.applies_iff w_frames).mpr ⟨w_running, w_runnable, w_alone, w_named, w_hears, w_ripe, w_room, w_tables⟩
theorem atStart : AtStart classFile x code maxLocals ret World_1 tables_1 room_1 Calls_1 rest_1 Pre_1 launch0 p0 e0 about1 theMethod args0 below0 :=
  ⟨lists_1, trivial, launch0.admits_env _ _ _, launch0.least_env, fairChoices_fair.cas, fairChoices_fair.clock, w_frames, w_args, w_heap, w_applies, trivial, trivial, w_case⟩
end start1
theorem witness_1 : WitnessClaimed_1 := ⟨start1.p0, start1.e0, start1.about1, start1.theMethod, start1.args0, start1.below0, start1.atStart⟩
end Jvm.Pilot.@@N@@
