import JvmDerived
import JvmDerived.Pilot.@@N@@Statement
import JvmDerived.Pilot.@@N@@Code
set_option linter.unusedVariables false
set_option linter.unusedSimpArgs false
namespace Jvm.RoadKit
open Sem ClassFile Op Lib Jvm.Stand Jvm.Free Jvm.LawKit
section New
variable {p : Program} {l : Launch} {e : Env} {R : Room} {s : State} {m : MethodId} {args : Array Value} {below : List Frame} {meth : Method} {c : Code} {T : State} {locs : List Loc} {cells slots : Nat}
theorem retI (X : Stand p l e R s m args below meth c T locs cells slots) (hx : p.tables.exec = Jvm.exec) {pc : Nat} {Ls : Array Slot} {z : Int32} {rest : List Value} (hret : meth.sig.returnType = some .int) (hd : decode c.code pc = .ok (.ireturn, 1)) {fs : List Frame}
    (hl : ∀ (f : JFrame) (acts : List Action), f.method = m → f.locked = none → f.entered = [] → (doReturn e (T.setTop f) acts (some (.int z))).1 = T.setFrames fs) : Steps p.tables e below (T.setTop (mkF m pc Ls (.int z :: rest))) (T.setFrames fs) := by
  have hm' : T.vm.method? m = some meth := X.method'
  have hn : narrow .int (.int z) = .int z := rfl
  show Steps p.tables e below (T.setTop { method := m, pc := pc, locals := Ls, stack := _ :: rest, locked := none }) _
  jvm_step X.here [X.here.top, hx, hd, hm', hret, hn]
  first | (intro acts; rw [hl _ acts rfl rfl rfl]) | rw [hl _ _ rfl rfl rfl]
  exact Steps.refl _
end New
end Jvm.RoadKit
namespace Jvm.Pilot.@@N@@
open Jvm Jvm.ClassFile Sem Op Lib Jvm.Free Jvm.Stand Jvm.LawKit Jvm.RoadKit Bundle Jvm.Pilot.@@N@@.Jvm.D
/-- the run comes from A to some end of which R holds -/
def Goes (tb : Tables) (e : Env) (below : List Frame) (A : State) (R : State → Outcome → Prop) : Prop := ∃ t o, Steps tb e below A t ∧ R t o
theorem Goes.to {tb : Tables} {e : Env} {below : List Frame} {A B : State} {R : State → Outcome → Prop} (k : ∀ t, Steps tb e below A t → Steps tb e below B t) (h : Goes tb e below A R) : Goes tb e below B R := by
  obtain ⟨t, o, h1, h2⟩ := h
  exact ⟨t, o, k t h1, h2⟩
/-- how a body ends: it has returned, of value and heap Q holds, and no more than that many cells and slots are new -/
def own_R (below : List Frame) (s : State) (Q : Option Value → Heap → List Loc → Prop) (k n : Nat) : State → Outcome → Prop := fun s₂ o => s₂.status = .running ∧ Ended s₂ below o ∧ ∃ v L, o = .returned v ∧ Q v s₂.heap L ∧ FrameEnd s o s₂ L k n
theorem Goes.tr {tb : Tables} {e : Env} {below : List Frame} {A B : State} {R : State → Outcome → Prop} (k : Steps tb e below B A) (h : Goes tb e below A R) : Goes tb e below B R := Goes.to (fun _ z => k.trans z) h


def own_max (x y : Int32) : Int32 := if x < y then y else x
theorem own_max_toInt (x y : Int32) : (x.toInt < y.toInt → (own_max x y).toInt = y.toInt) ∧ (¬ x.toInt < y.toInt → (own_max x y).toInt = x.toInt) := by
  unfold own_max
  rw [← Int32.lt_iff_toInt_lt]
  constructor
  · intro h; rw [if_pos h]
  · intro h; rw [if_neg h]

theorem d1_0 : decode jdk_29_method_65_code 0 = .ok (.iload_n 0, 1) := by decide +kernel
theorem d1_1 : decode jdk_29_method_65_code 1 = .ok (.iload_n 1, 1) := by decide +kernel
theorem d1_2 : decode jdk_29_method_65_code 2 = .ok (.if_icmp .lt 7, 3) := by decide +kernel
theorem d1_5 : decode jdk_29_method_65_code 5 = .ok (.iload_n 0, 1) := by decide +kernel
theorem d1_6 : decode jdk_29_method_65_code 6 = .ok (.goto 4, 3) := by decide +kernel
theorem d1_9 : decode jdk_29_method_65_code 9 = .ok (.iload_n 1, 1) := by decide +kernel
theorem d1_10 : decode jdk_29_method_65_code 10 = .ok (.ireturn, 1) := by decide +kernel
theorem own_ef_own_rm1 (m : MethodId) (x0 : Int32) (x1 : Int32) : entryFrame m #[(.int x0), (.int x1)] 2 = mkF m 0 #[.val (.int x0), .val (.int x1)] [] := by first | (simp [entryFrame, mkF, argsToLocals, Value.category]; done) | rfl
def own_Q_own_rm1 (Z : State) (x0 : Int32) (x1 : Int32)  (h0 : Heap) (n0 : Nat) (v : Option Value) (h : Heap) (L : List Loc) : Prop := v = some (.int (own_max x0 x1)) ∧ Fr n0 L ∧ h = h0
set_option maxRecDepth 65536 in
set_option maxHeartbeats 40000000 in
theorem own_rm1 (l : Launch) (Z : State) (a0 : Array Value) (hw : ∀ d ∈ tables_1, d.before a0 Z = true) (ws : List Jvm.Cond) (x0 : Int32) (x1 : Int32)  (h0 : Heap) (n0 : Nat) (Z0 : n0 ≤ h0.size)  :
    MetFree l (⟨"java/lang/Math", "max", "(II)I"⟩ : MethodName) (head1 (Jvm.Cond.code (⟨"java/lang/Math", "max", "(II)I"⟩ : MethodName) jdk_29_method_65_code 2 (some .int) :: ws) ({ frames := 0, cells := 0, slots := 0, locals := 0 } : Room)) (fun a U => a = #[(.int x0), (.int x1)] ∧ Z.Warmed39 U.vm ∧ U.heap = h0) (fun _ _ _ _ _ => True) (fun _ U o U' => ∃ v L, o = .returned v ∧ own_Q_own_rm1 Z x0 x1 h0 n0 v U'.heap L ∧ FrameEnd U o U' L ({ frames := 0, cells := 0, slots := 0, locals := 0 } : Room).cells ({ frames := 0, cells := 0, slots := 0, locals := 0 } : Room).slots) := by
  refine MetFree.of_bodySF (Jvm.Free.JP.mathPlain rfl (by decide +kernel)) hisR ?_
  intro p e s m args below meth c s₁ Bd hml0 hP hK
  obtain ⟨rfl, hZ, hh⟩ := hP
  have hx := Bd.exec
  have hby := Bd.bytes
  have hml : c.maxLocals = 2 := hml0
  have hown : s.vm.findClass "java/lang/Math" = some m.cls := findClass_of_methodNamed Bd.named
  have hnm := (name_of_methodNamed Bd.named Bd.method).1
  have X0 : Stand p l e ({ frames := 0, cells := 0, slots := 0, locals := 0 } : Room) s m #[(.int x0), (.int x1)] below meth c s₁ [] 0 0 := Stand.of_body Bd
  have e0 : s₁.heap = h0 := by rw [← hh, Bd.state]; rfl
  have N0 := Fr.nil n0
  show Goes p.tables e below _ (own_R below s (own_Q_own_rm1 Z x0 x1 h0 n0) ({ frames := 0, cells := 0, slots := 0, locals := 0 } : Room).cells ({ frames := 0, cells := 0, slots := 0, locals := 0 } : Room).slots)
  refine Goes.to (fun t k => castTop (own_ef_own_rm1 m x0 x1) k) ?_
  show Goes p.tables e below (s₁.setTop (mkF m 0 #[.val (.int x0), .val (.int x1)] [])) _
  refine Goes.to (fun _ k => XS.iloadN X0.here hx rfl (hb hby d1_0) rfl k) ?_
  show Goes p.tables e below (s₁.setTop (mkF m 1 #[.val (.int x0), .val (.int x1)] [(.int x0)])) _
  refine Goes.to (fun _ k => XS.iloadN X0.here hx rfl (hb hby d1_1) rfl k) ?_
  show Goes p.tables e below (s₁.setTop (mkF m 2 #[.val (.int x0), .val (.int x1)] [(.int x1), (.int x0)])) _
  by_cases hc1 : x0 < x1
  · refine Goes.to (fun _ k => XS.icmpYes X0.here hx rfl (pc0 := 2) (pc' := 9) rfl (hb hby d1_2) rfl (tlt hc1).1 (by decide) (by decide) k) ?_
    show Goes p.tables e below (s₁.setTop (mkF m 9 #[.val (.int x0), .val (.int x1)] [])) _
    refine Goes.to (fun _ k => XS.iloadN X0.here hx rfl (hb hby d1_9) rfl k) ?_
    show Goes p.tables e below (s₁.setTop (mkF m 10 #[.val (.int x0), .val (.int x1)] [(.int x1)])) _
    obtain ⟨fs, hr, hrun, hended, hW, hsame⟩ := X0.leave (v := some (.int x1)) (fun h => by rw [Bd.returns] at h; cases h)
    have hv : (some (.int x1) : Option Value) = some (.int (own_max x0 x1)) := by
      rw [own_max, if_pos hc1]
    exact ⟨_, _, retI X0 hx Bd.returns (hb hby d1_10) hr, hrun, hended, _, _, rfl, ⟨hv, N0, e0⟩, ⟨_, rfl⟩, hW, hsame.mono (by decide) (by decide)⟩
  · refine Goes.to (fun _ k => XS.icmpNo X0.here hx rfl (hb hby d1_2) rfl (flt hc1).1 k) ?_
    show Goes p.tables e below (s₁.setTop (mkF m 5 #[.val (.int x0), .val (.int x1)] [])) _
    refine Goes.to (fun _ k => XS.iloadN X0.here hx rfl (hb hby d1_5) rfl k) ?_
    show Goes p.tables e below (s₁.setTop (mkF m 6 #[.val (.int x0), .val (.int x1)] [(.int x0)])) _
    refine Goes.to (fun _ k => XS.goto X0.here hx rfl (pc0 := 6) (pc' := 10) rfl (hb hby d1_6) (by decide) (by decide) k) ?_
    show Goes p.tables e below (s₁.setTop (mkF m 10 #[.val (.int x0), .val (.int x1)] [(.int x0)])) _
    obtain ⟨fs, hr, hrun, hended, hW, hsame⟩ := X0.leave (v := some (.int x0)) (fun h => by rw [Bd.returns] at h; cases h)
    have hv : (some (.int x0) : Option Value) = some (.int (own_max x0 x1)) := by
      rw [own_max, if_neg hc1]
    exact ⟨_, _, retI X0 hx Bd.returns (hb hby d1_10) hr, hrun, hended, _, _, rfl, ⟨hv, N0, e0⟩, ⟨_, rfl⟩, hW, hsame.mono (by decide) (by decide)⟩

theorem d3_0 : decode jdk_30_method_1_code 0 = .ok (.aload_n 0, 1) := by decide +kernel
theorem d3_1 : decode jdk_30_method_1_code 1 = .ok (.invokespecial 1, 3) := by decide +kernel
theorem d3_4 : decode jdk_30_method_1_code 4 = .ok (.return_, 1) := by decide +kernel
theorem own_pn_3 : plainName "java/lang/Record" = true := by first | (simp [plainName, overriddenIn]; done) | decide +kernel
theorem own_ef_own_rm3 (m : MethodId) (x0 : Addr) : entryFrame m #[(.ref x0)] 1 = mkF m 0 #[.val (.ref x0)] [] := by first | (simp [entryFrame, mkF, argsToLocals, Value.category]; done) | rfl
def own_Q_own_rm3 (Z : State) (x0 : Addr)  (h0 : Heap) (n0 : Nat) (v : Option Value) (h : Heap) (L : List Loc) : Prop := v = none ∧ Fr n0 L ∧ h = h0
set_option maxRecDepth 65536 in
set_option maxHeartbeats 40000000 in
theorem own_rm3 (l : Launch) (Z : State) (a0 : Array Value) (hw : ∀ d ∈ tables_1, d.before a0 Z = true) (ws : List Jvm.Cond) (x0 : Addr)  (h0 : Heap) (n0 : Nat) (Z0 : n0 ≤ h0.size)  :
    MetFree l (⟨"java/lang/Record", "<init>", "()V"⟩ : MethodName) (head1 (Jvm.Cond.code (⟨"java/lang/Record", "<init>", "()V"⟩ : MethodName) jdk_30_method_1_code 1 none :: ws) ({ frames := 1, cells := 0, slots := 0, locals := 12 } : Room)) (fun a U => a = #[(.ref x0)] ∧ Z.Warmed39 U.vm ∧ U.heap = h0) (fun _ _ _ _ _ => True) (fun _ U o U' => ∃ v L, o = .returned v ∧ own_Q_own_rm3 Z x0 h0 n0 v U'.heap L ∧ FrameEnd U o U' L ({ frames := 1, cells := 0, slots := 0, locals := 12 } : Room).cells ({ frames := 1, cells := 0, slots := 0, locals := 12 } : Room).slots) := by
  refine MetFree.of_bodySF (plainFor_of_name own_pn_3) hisR ?_
  intro p e s m args below meth c s₁ Bd hml0 hP hK
  obtain ⟨rfl, hZ, hh⟩ := hP
  have hx := Bd.exec
  have hby := Bd.bytes
  have hml : c.maxLocals = 1 := hml0
  have hown : s.vm.findClass "java/lang/Record" = some m.cls := findClass_of_methodNamed Bd.named
  have hnm := (name_of_methodNamed Bd.named Bd.method).1
  have X0 : Stand p l e ({ frames := 1, cells := 0, slots := 0, locals := 12 } : Room) s m #[(.ref x0)] below meth c s₁ [] 0 0 := Stand.of_body Bd
  have e0 : s₁.heap = h0 := by rw [← hh, Bd.state]; rfl
  have N0 := Fr.nil n0
  show Goes p.tables e below _ (own_R below s (own_Q_own_rm3 Z x0 h0 n0) ({ frames := 1, cells := 0, slots := 0, locals := 12 } : Room).cells ({ frames := 1, cells := 0, slots := 0, locals := 12 } : Room).slots)
  refine Goes.to (fun t k => castTop (own_ef_own_rm3 m x0) k) ?_
  show Goes p.tables e below (s₁.setTop (mkF m 0 #[.val (.ref x0)] [])) _
  refine Goes.to (fun _ k => XS.aloadN X0.here hx rfl (hb hby d3_0) rfl rfl k) ?_
  show Goes p.tables e below (s₁.setTop (mkF m 1 #[.val (.ref x0)] [(.ref x0)])) _
  obtain ⟨T1, X1, e1, st1⟩ := initO X0 hx hZ hown (hw _ (List.mem_of_getElem? (i := 16) rfl)) (hw _ (List.mem_of_getElem? (i := 17) rfl)) (hw _ (List.mem_of_getElem? (i := 18) rfl)) e0 (g := (mkF m 1 #[.val (.ref x0)] [(.ref x0)])) rfl (by rw [hml]; rfl) rfl (hb hby d3_1) (by decide) (W := 0) (by show 2 * 0 + _ ≤ _; exact Nat.le_of_eq rfl) (by decide)
  refine Goes.to st1 ?_
  show Goes p.tables e below (T1.setTop (mkF m 4 #[.val (.ref x0)] [])) _
  obtain ⟨fs, hr, hrun, hended, hW, hsame⟩ := X1.leave (v := none) (fun _ => rfl)
  have hv : (none : Option Value) = none := by
    rfl
  exact ⟨_, _, X1.returnOut hx Bd.returns (hb hby d3_4) hr, hrun, hended, _, _, rfl, ⟨hv, N0, e1⟩, ⟨_, rfl⟩, hW, hsame.mono (by decide) (by decide)⟩

theorem d2_0 : decode prog_15_method_1_code 0 = .ok (.aload_n 0, 1) := by decide +kernel
theorem d2_1 : decode prog_15_method_1_code 1 = .ok (.invokespecial 1, 3) := by decide +kernel
theorem d2_4 : decode prog_15_method_1_code 4 = .ok (.iload_n 1, 1) := by decide +kernel
theorem d2_5 : decode prog_15_method_1_code 5 = .ok (.iconst 1, 1) := by decide +kernel
theorem d2_6 : decode prog_15_method_1_code 6 = .ok (.if_icmp .ge 13, 3) := by decide +kernel
theorem d2_19 : decode prog_15_method_1_code 19 = .ok (.aload_n 0, 1) := by decide +kernel
theorem d2_20 : decode prog_15_method_1_code 20 = .ok (.iload_n 1, 1) := by decide +kernel
theorem d2_21 : decode prog_15_method_1_code 21 = .ok (.putfield 14, 3) := by decide +kernel
theorem d2_24 : decode prog_15_method_1_code 24 = .ok (.return_, 1) := by decide +kernel
theorem own_pd_pqV : parseMethodDescriptor "()V" = some ⟨[], none⟩ := by decide +kernel
theorem own_pn_2 : plainName "com/example/wee_table/weetable/model/GcRule$MaxVersions" = true := by first | (simp [plainName, overriddenIn]; done) | decide +kernel
theorem own_ef_own_rm2 (m : MethodId) (x0 : Addr) (x1 : Int32) : entryFrame m #[(.ref x0), (.int x1)] 2 = mkF m 0 #[.val (.ref x0), .val (.int x1)] [] := by first | (simp [entryFrame, mkF, argsToLocals, Value.category]; done) | rfl
def own_Q_own_rm2 (Z : State) (x0 : Addr) (x1 : Int32)  (h0 : Heap) (n0 : Nat) (v : Option Value) (h : Heap) (L : List Loc) : Prop := v = none ∧ Fr n0 L ∧ Keep h0 h [x0] ∧ Exa Z h x0 "com/example/wee_table/weetable/model/GcRule$MaxVersions" ∧ Fld Z h x0 "com/example/wee_table/weetable/model/GcRule$MaxVersions" "count" "I" (.int x1)
set_option maxRecDepth 65536 in
set_option maxHeartbeats 40000000 in
theorem own_rm2 (l : Launch) (Z : State) (a0 : Array Value) (hw : ∀ d ∈ tables_1, d.before a0 Z = true) (ws : List Jvm.Cond) (x0 : Addr) (x1 : Int32)  (h0 : Heap) (n0 : Nat) (Z0 : n0 ≤ h0.size) (E_x0 : Exa Z h0 x0 "com/example/wee_table/weetable/model/GcRule$MaxVersions") (g_x0 : n0 ≤ x0) (F_x0_0 : Fld Z h0 x0 "com/example/wee_table/weetable/model/GcRule$MaxVersions" "count" "I" (.int (0 : Int32))) (hq1 : ¬ (x1 < (1 : Int32))) :
    MetFree l (⟨"com/example/wee_table/weetable/model/GcRule$MaxVersions", "<init>", "(I)V"⟩ : MethodName) (head1 (Jvm.Cond.code (⟨"com/example/wee_table/weetable/model/GcRule$MaxVersions", "<init>", "(I)V"⟩ : MethodName) prog_15_method_1_code 2 none :: ws) ({ frames := 2, cells := 0, slots := 0, locals := 24 } : Room)) (fun a U => a = #[(.ref x0), (.int x1)] ∧ Z.Warmed39 U.vm ∧ U.heap = h0) (fun _ _ _ _ _ => True) (fun _ U o U' => ∃ v L, o = .returned v ∧ own_Q_own_rm2 Z x0 x1 h0 n0 v U'.heap L ∧ FrameEnd U o U' L ({ frames := 2, cells := 0, slots := 0, locals := 24 } : Room).cells ({ frames := 2, cells := 0, slots := 0, locals := 24 } : Room).slots) := by
  refine MetFree.of_bodySF (plainFor_of_name own_pn_2) hisR ?_
  intro p e s m args below meth c s₁ Bd hml0 hP hK
  obtain ⟨rfl, hZ, hh⟩ := hP
  have hx := Bd.exec
  have hby := Bd.bytes
  have hml : c.maxLocals = 2 := hml0
  have hown : s.vm.findClass "com/example/wee_table/weetable/model/GcRule$MaxVersions" = some m.cls := findClass_of_methodNamed Bd.named
  have hnm := (name_of_methodNamed Bd.named Bd.method).1
  have X0 : Stand p l e ({ frames := 2, cells := 0, slots := 0, locals := 24 } : Room) s m #[(.ref x0), (.int x1)] below meth c s₁ [] 0 0 := Stand.of_body Bd
  have e0 : s₁.heap = h0 := by rw [← hh, Bd.state]; rfl
  have N0 := Fr.nil n0
  show Goes p.tables e below _ (own_R below s (own_Q_own_rm2 Z x0 x1 h0 n0) ({ frames := 2, cells := 0, slots := 0, locals := 24 } : Room).cells ({ frames := 2, cells := 0, slots := 0, locals := 24 } : Room).slots)
  refine Goes.to (fun t k => castTop (own_ef_own_rm2 m x0 x1) k) ?_
  show Goes p.tables e below (s₁.setTop (mkF m 0 #[.val (.ref x0), .val (.int x1)] [])) _
  refine Goes.to (fun _ k => XS.aloadN X0.here hx rfl (hb hby d2_0) rfl rfl k) ?_
  show Goes p.tables e below (s₁.setTop (mkF m 1 #[.val (.ref x0), .val (.int x1)] [(.ref x0)])) _
  obtain ⟨_, _, ⟨T1, L1, k1, n1⟩, -, X1, ⟨Lc1, hQ1, l1, y1, z1⟩, st1⟩ := X0.specialBack hx (y := (⟨"java/lang/Record", "<init>", "()V"⟩ : MethodName)) rfl hown (mvT hZ (hw _ (List.mem_of_getElem? (i := 11) rfl))) (mvT hZ (hw _ (List.mem_of_getElem? (i := 12) rfl))) (mvT hZ (hw _ (List.mem_of_getElem? (i := 15) rfl))) (by decide) (backOf (W := 0) (own_rm3 l Z a0 hw [] x0 h0 n0 Z0 ) hZ (hw _ (List.mem_of_getElem? (i := 15) rfl)) (hw _ (List.mem_of_getElem? (i := 14) rfl)) (by decide) (by decide)) (g := (mkF m 1 #[.val (.ref x0), .val (.int x1)] [(.ref x0)])) rfl (by rw [hml]; rfl) (Steps.refl _) (a := x0) (argsL := []) (rest := []) (lenOf own_pd_pqV rfl) rfl (by show 2 * 0 + _ ≤ _; exact Nat.le_of_eq rfl) (hb hby d2_1) (fun _ _ => ⟨rfl, e0, (by decide : 0 + 0 ≤ _), (by decide : 0 + 0 ≤ _)⟩)
  dsimp only [Pt.U, Pt.locs, Pt.cells, Pt.slots] at X1 l1 y1 z1 st1 hQ1
  subst l1 y1 z1
  obtain ⟨hv1, Nq1, hp1_0⟩ := hQ1
  have N1 := Fr.app N0 Nq1
  subst hv1
  refine Goes.tr st1 ?_
  show Goes p.tables e below (T1.setTop (mkF m 4 #[.val (.ref x0), .val (.int x1)] [])) _
  refine Goes.to (fun _ k => XS.iloadN X1.here hx rfl (hb hby d2_4) rfl k) ?_
  show Goes p.tables e below (T1.setTop (mkF m 5 #[.val (.ref x0), .val (.int x1)] [(.int x1)])) _
  refine Goes.to (fun _ k => XS.iconst X1.here hx rfl (hb hby d2_5) k) ?_
  show Goes p.tables e below (T1.setTop (mkF m 6 #[.val (.ref x0), .val (.int x1)] [(.int (1 : Int32)), (.int x1)])) _
  refine Goes.to (fun _ k => XS.icmpYes X1.here hx rfl (pc0 := 6) (pc' := 19) rfl (hb hby d2_6) rfl (flt hq1).2.1 (by decide) (by decide) k) ?_
  show Goes p.tables e below (T1.setTop (mkF m 19 #[.val (.ref x0), .val (.int x1)] [])) _
  refine Goes.to (fun _ k => XS.aloadN X1.here hx rfl (hb hby d2_19) rfl rfl k) ?_
  show Goes p.tables e below (T1.setTop (mkF m 20 #[.val (.ref x0), .val (.int x1)] [(.ref x0)])) _
  refine Goes.to (fun _ k => XS.iloadN X1.here hx rfl (hb hby d2_20) rfl k) ?_
  show Goes p.tables e below (T1.setTop (mkF m 21 #[.val (.ref x0), .val (.int x1)] [(.int x1), (.ref x0)])) _
  obtain ⟨T2, h2, X2, e2, W2, st2⟩ := putF X1 hx hZ hown (host := "") (Or.inl (hw _ (List.mem_of_getElem? (i := 19) rfl))) Via.refl hp1_0 F_x0_0 E_x0 (Or.inr ⟨(hw _ (List.mem_of_getElem? (i := 20) rfl)), rfl, hnm⟩) (hw _ (List.mem_of_getElem? (i := 6) rfl)) (ty := .int) (by decide) rfl rfl (g := (mkF m 21 #[.val (.ref x0), .val (.int x1)] [(.int x1), (.ref x0)])) rfl rfl (hb hby d2_21)
  subst e2
  have F3 := E_x0.wr W2
  have N2 := Fr.snoc X2 N1 g_x0
  have Z2 : n0 ≤ T2.heap.size := Nat.le_trans Z0 (Nat.le_of_eq W2.size.symm)
  have K2 : Keep h0 T2.heap [x0] := (Keep.refl h0 [x0]).wr W2 (Or.inl (List.mem_of_getElem? (i := 0) rfl))
  have F5 : Fld Z T2.heap x0 "com/example/wee_table/weetable/model/GcRule$MaxVersions" "count" "I" (.int x1) := F_x0_0.same W2
  refine Goes.to st2 ?_
  show Goes p.tables e below (T2.setTop (mkF m 24 #[.val (.ref x0), .val (.int x1)] [])) _
  obtain ⟨fs, hr, hrun, hended, hW, hsame⟩ := X2.leave (v := none) (fun _ => rfl)
  have hv : (none : Option Value) = none := by
    rfl
  exact ⟨_, _, X2.returnOut hx Bd.returns (hb hby d2_24) hr, hrun, hended, _, _, rfl, ⟨hv, N2, (by show Keep h0 T2.heap [x0]; exact K2), (by show Exa Z T2.heap x0 "com/example/wee_table/weetable/model/GcRule$MaxVersions"; exact F3), (by show Fld Z T2.heap x0 "com/example/wee_table/weetable/model/GcRule$MaxVersions" "count" "I" (.int x1); exact F5)⟩, ⟨_, rfl⟩, hW, hsame.mono (by decide) (by decide)⟩

theorem d5_0 : decode prog_15_method_2_code 0 = .ok (.iload_n 1, 1) := by decide +kernel
theorem d5_1 : decode prog_15_method_2_code 1 = .ok (.aload_n 0, 1) := by decide +kernel
theorem d5_2 : decode prog_15_method_2_code 2 = .ok (.getfield 14, 3) := by decide +kernel
theorem d5_5 : decode prog_15_method_2_code 5 = .ok (.if_icmp .lt 7, 3) := by decide +kernel
theorem d5_8 : decode prog_15_method_2_code 8 = .ok (.iconst 1, 1) := by decide +kernel
theorem d5_9 : decode prog_15_method_2_code 9 = .ok (.goto 4, 3) := by decide +kernel
theorem d5_12 : decode prog_15_method_2_code 12 = .ok (.iconst 0, 1) := by decide +kernel
theorem d5_13 : decode prog_15_method_2_code 13 = .ok (.ireturn, 1) := by decide +kernel
theorem own_pn_5 : plainName "com/example/wee_table/weetable/model/GcRule$MaxVersions" = true := by first | (simp [plainName, overriddenIn]; done) | decide +kernel
theorem own_ef_own_rm5 (m : MethodId) (x0 : Addr) (x1 : Int32) (x2 : Int64) (x3 : Int64) : entryFrame m #[(.ref x0), (.int x1), (.long x2), (.long x3)] 6 = mkF m 0 #[.val (.ref x0), .val (.int x1), .val (.long x2), .second, .val (.long x3), .second] [] := by first | (simp [entryFrame, mkF, argsToLocals, Value.category]; done) | rfl
def own_Q_own_rm5 (Z : State) (x0 : Addr) (x1 : Int32) (x2 : Int64) (x3 : Int64) (w1 : Int32) (h0 : Heap) (n0 : Nat) (v : Option Value) (h : Heap) (L : List Loc) : Prop := v = some (.int (if x1 < w1 then (0 : Int32) else (1 : Int32))) ∧ Fr n0 L ∧ h = h0
set_option maxRecDepth 65536 in
set_option maxHeartbeats 40000000 in
theorem own_rm5 (l : Launch) (Z : State) (a0 : Array Value) (hw : ∀ d ∈ tables_1, d.before a0 Z = true) (ws : List Jvm.Cond) (x0 : Addr) (x1 : Int32) (x2 : Int64) (x3 : Int64) (w1 : Int32) (h0 : Heap) (n0 : Nat) (Z0 : n0 ≤ h0.size) (F1 : Fld Z h0 x0 "com/example/wee_table/weetable/model/GcRule$MaxVersions" "count" "I" (.int w1)) :
    MetFree l (⟨"com/example/wee_table/weetable/model/GcRule$MaxVersions", "expires", "(IJJ)Z"⟩ : MethodName) (head1 (Jvm.Cond.code (⟨"com/example/wee_table/weetable/model/GcRule$MaxVersions", "expires", "(IJJ)Z"⟩ : MethodName) prog_15_method_2_code 6 (some .boolean) :: ws) ({ frames := 0, cells := 0, slots := 0, locals := 0 } : Room)) (fun a U => a = #[(.ref x0), (.int x1), (.long x2), (.long x3)] ∧ Z.Warmed39 U.vm ∧ U.heap = h0) (fun _ _ _ _ _ => True) (fun _ U o U' => ∃ v L, o = .returned v ∧ own_Q_own_rm5 Z x0 x1 x2 x3 w1 h0 n0 v U'.heap L ∧ FrameEnd U o U' L ({ frames := 0, cells := 0, slots := 0, locals := 0 } : Room).cells ({ frames := 0, cells := 0, slots := 0, locals := 0 } : Room).slots) := by
  refine MetFree.of_bodySF (plainFor_of_name own_pn_5) hisR ?_
  intro p e s m args below meth c s₁ Bd hml0 hP hK
  obtain ⟨rfl, hZ, hh⟩ := hP
  have hx := Bd.exec
  have hby := Bd.bytes
  have hml : c.maxLocals = 6 := hml0
  have hown : s.vm.findClass "com/example/wee_table/weetable/model/GcRule$MaxVersions" = some m.cls := findClass_of_methodNamed Bd.named
  have hnm := (name_of_methodNamed Bd.named Bd.method).1
  have X0 : Stand p l e ({ frames := 0, cells := 0, slots := 0, locals := 0 } : Room) s m #[(.ref x0), (.int x1), (.long x2), (.long x3)] below meth c s₁ [] 0 0 := Stand.of_body Bd
  have e0 : s₁.heap = h0 := by rw [← hh, Bd.state]; rfl
  have N0 := Fr.nil n0
  show Goes p.tables e below _ (own_R below s (own_Q_own_rm5 Z x0 x1 x2 x3 w1 h0 n0) ({ frames := 0, cells := 0, slots := 0, locals := 0 } : Room).cells ({ frames := 0, cells := 0, slots := 0, locals := 0 } : Room).slots)
  refine Goes.to (fun t k => castTop (own_ef_own_rm5 m x0 x1 x2 x3) k) ?_
  show Goes p.tables e below (s₁.setTop (mkF m 0 #[.val (.ref x0), .val (.int x1), .val (.long x2), .second, .val (.long x3), .second] [])) _
  refine Goes.to (fun _ k => XS.iloadN X0.here hx rfl (hb hby d5_0) rfl k) ?_
  show Goes p.tables e below (s₁.setTop (mkF m 1 #[.val (.ref x0), .val (.int x1), .val (.long x2), .second, .val (.long x3), .second] [(.int x1)])) _
  refine Goes.to (fun _ k => XS.aloadN X0.here hx rfl (hb hby d5_1) rfl rfl k) ?_
  show Goes p.tables e below (s₁.setTop (mkF m 2 #[.val (.ref x0), .val (.int x1), .val (.long x2), .second, .val (.long x3), .second] [(.ref x0), (.int x1)])) _
  obtain ⟨T1, X1, e1, st1⟩ := getF X0 hx hZ hown (host := "") (Or.inl (hw _ (List.mem_of_getElem? (i := 19) rfl))) Via.refl e0 F1 (g := (mkF m 2 #[.val (.ref x0), .val (.int x1), .val (.long x2), .second, .val (.long x3), .second] [(.ref x0), (.int x1)])) rfl rfl (hb hby d5_2)
  refine Goes.to st1 ?_
  show Goes p.tables e below (T1.setTop (mkF m 5 #[.val (.ref x0), .val (.int x1), .val (.long x2), .second, .val (.long x3), .second] [(.int w1), (.int x1)])) _
  by_cases hc2 : x1 < w1
  · refine Goes.to (fun _ k => XS.icmpYes X1.here hx rfl (pc0 := 5) (pc' := 12) rfl (hb hby d5_5) rfl (tlt hc2).1 (by decide) (by decide) k) ?_
    show Goes p.tables e below (T1.setTop (mkF m 12 #[.val (.ref x0), .val (.int x1), .val (.long x2), .second, .val (.long x3), .second] [])) _
    refine Goes.to (fun _ k => XS.iconst X1.here hx rfl (hb hby d5_12) k) ?_
    show Goes p.tables e below (T1.setTop (mkF m 13 #[.val (.ref x0), .val (.int x1), .val (.long x2), .second, .val (.long x3), .second] [(.int (0 : Int32))])) _
    obtain ⟨fs, hr, hrun, hended, hW, hsame⟩ := X1.leave (v := some (.int (0 : Int32))) (fun h => by rw [Bd.returns] at h; cases h)
    have hv : (some (.int (0 : Int32)) : Option Value) = some (.int (if x1 < w1 then (0 : Int32) else (1 : Int32))) := by
      rw [if_pos hc2]
    exact ⟨_, _, retN X1 hx (t := .boolean) Bd.returns (by simp) (hb hby d5_13) hr, hrun, hended, _, _, rfl, ⟨hv, N0, e1⟩, ⟨_, rfl⟩, hW, hsame.mono (by decide) (by decide)⟩
  · refine Goes.to (fun _ k => XS.icmpNo X1.here hx rfl (hb hby d5_5) rfl (flt hc2).1 k) ?_
    show Goes p.tables e below (T1.setTop (mkF m 8 #[.val (.ref x0), .val (.int x1), .val (.long x2), .second, .val (.long x3), .second] [])) _
    refine Goes.to (fun _ k => XS.iconst X1.here hx rfl (hb hby d5_8) k) ?_
    show Goes p.tables e below (T1.setTop (mkF m 9 #[.val (.ref x0), .val (.int x1), .val (.long x2), .second, .val (.long x3), .second] [(.int (1 : Int32))])) _
    refine Goes.to (fun _ k => XS.goto X1.here hx rfl (pc0 := 9) (pc' := 13) rfl (hb hby d5_9) (by decide) (by decide) k) ?_
    show Goes p.tables e below (T1.setTop (mkF m 13 #[.val (.ref x0), .val (.int x1), .val (.long x2), .second, .val (.long x3), .second] [(.int (1 : Int32))])) _
    obtain ⟨fs, hr, hrun, hended, hW, hsame⟩ := X1.leave (v := some (.int (1 : Int32))) (fun h => by rw [Bd.returns] at h; cases h)
    have hv : (some (.int (1 : Int32)) : Option Value) = some (.int (if x1 < w1 then (0 : Int32) else (1 : Int32))) := by
      rw [if_neg hc2]
    exact ⟨_, _, retN X1 hx (t := .boolean) Bd.returns (by simp) (hb hby d5_13) hr, hrun, hended, _, _, rfl, ⟨hv, N0, e1⟩, ⟨_, rfl⟩, hW, hsame.mono (by decide) (by decide)⟩

theorem own_pd_pIIqI : parseMethodDescriptor "(II)I" = some ⟨[.int, .int], some .int⟩ := by decide +kernel
theorem own_pd_pIqV : parseMethodDescriptor "(I)V" = some ⟨[.int], none⟩ := by decide +kernel
theorem own_pd_pIJJqZ : parseMethodDescriptor "(IJJ)Z" = some ⟨[.int, .long, .long], some .boolean⟩ := by decide +kernel
theorem own_pn_0 : plainName "com/example/wee_table/weetable/model/MaxVersionsExpiresPinLaw" = true := by first | (simp [plainName, overriddenIn]; done) | decide +kernel
theorem own_ef_own_rm0 (m : MethodId) (x0 : Int32) (x1 : Int32) (x2 : Int64) (x3 : Int64) (x4 : Int64) (x5 : Int64) : entryFrame m #[(.int x0), (.int x1), (.long x2), (.long x3), (.long x4), (.long x5)] maxLocals = mkF m 0 #[.val (.int x0), .val (.int x1), .val (.long x2), .second, .val (.long x3), .second, .val (.long x4), .second, .val (.long x5), .second, .unset, .unset, .unset, .unset, .unset, .unset, .unset, .unset] [] := by first | (simp [entryFrame, mkF, argsToLocals, Value.category, maxLocals]; done) | rfl
def own_Q_own_rm0 (Z : State) (x0 : Int32) (x1 : Int32) (x2 : Int64) (x3 : Int64) (x4 : Int64) (x5 : Int64)  (h0 : Heap) (n0 : Nat) (v : Option Value) (h : Heap) (L : List Loc) : Prop := v = some (.int (1 : Int32)) ∧ Fr n0 L
set_option maxRecDepth 65536 in
set_option maxHeartbeats 40000000 in
theorem own_rm0 (l : Launch) (Z : State) (a0 : Array Value) (hw : ∀ d ∈ tables_1, d.before a0 Z = true) (ws : List Jvm.Cond) (x0 : Int32) (x1 : Int32) (x2 : Int64) (x3 : Int64) (x4 : Int64) (x5 : Int64)  (h0 : Heap) (n0 : Nat) (Z0 : n0 ≤ h0.size)  :
    MetFree l x (head1 (Jvm.Cond.code x code maxLocals ret :: ws) room_1) (fun a U => a = #[(.int x0), (.int x1), (.long x2), (.long x3), (.long x4), (.long x5)] ∧ Z.Warmed39 U.vm ∧ U.heap = h0) (fun _ _ _ _ _ => True) (fun _ U o U' => ∃ v L, o = .returned v ∧ own_Q_own_rm0 Z x0 x1 x2 x3 x4 x5 h0 n0 v U'.heap L ∧ FrameEnd U o U' L 1 1) := by
  refine MetFree.of_bodySF (plainFor_of_name own_pn_0) hisR ?_
  intro p e s m args below meth c s₁ Bd hml0 hP hK
  obtain ⟨rfl, hZ, hh⟩ := hP
  have hx := Bd.exec
  have hby := Bd.bytes
  have hml : c.maxLocals = 18 := hml0
  have hown : s.vm.findClass "com/example/wee_table/weetable/model/MaxVersionsExpiresPinLaw" = some m.cls := findClass_of_methodNamed Bd.named
  have hnm := (name_of_methodNamed Bd.named Bd.method).1
  have X0 : Stand p l e room_1 s m #[(.int x0), (.int x1), (.long x2), (.long x3), (.long x4), (.long x5)] below meth c s₁ [] 0 0 := Stand.of_body Bd
  have e0 : s₁.heap = h0 := by rw [← hh, Bd.state]; rfl
  have N0 := Fr.nil n0
  show Goes p.tables e below _ (own_R below s (own_Q_own_rm0 Z x0 x1 x2 x3 x4 x5 h0 n0) 1 1)
  refine Goes.to (fun t k => castTop (own_ef_own_rm0 m x0 x1 x2 x3 x4 x5) k) ?_
  show Goes p.tables e below (s₁.setTop (mkF m 0 #[.val (.int x0), .val (.int x1), .val (.long x2), .second, .val (.long x3), .second, .val (.long x4), .second, .val (.long x5), .second, .unset, .unset, .unset, .unset, .unset, .unset, .unset, .unset] [])) _
  refine Goes.to (fun _ k => XS.iconst X0.here hx rfl (hb hby at_0) k) ?_
  show Goes p.tables e below (s₁.setTop (mkF m 1 #[.val (.int x0), .val (.int x1), .val (.long x2), .second, .val (.long x3), .second, .val (.long x4), .second, .val (.long x5), .second, .unset, .unset, .unset, .unset, .unset, .unset, .unset, .unset] [(.int (1 : Int32))])) _
  refine Goes.to (fun _ k => XS.iloadN X0.here hx rfl (hb hby at_1) rfl k) ?_
  show Goes p.tables e below (s₁.setTop (mkF m 2 #[.val (.int x0), .val (.int x1), .val (.long x2), .second, .val (.long x3), .second, .val (.long x4), .second, .val (.long x5), .second, .unset, .unset, .unset, .unset, .unset, .unset, .unset, .unset] [(.int x0), (.int (1 : Int32))])) _
  refine Goes.to (fun _ k => X0.ldcInt hx hown (mvT hZ (hw _ (List.mem_of_getElem? (i := 0) rfl))) (g := (mkF m 2 #[.val (.int x0), .val (.int x1), .val (.long x2), .second, .val (.long x3), .second, .val (.long x4), .second, .val (.long x5), .second, .unset, .unset, .unset, .unset, .unset, .unset, .unset, .unset] [(.int x0), (.int (1 : Int32))])) rfl (hb hby at_2) _ k) ?_
  show Goes p.tables e below (s₁.setTop (mkF m 4 #[.val (.int x0), .val (.int x1), .val (.long x2), .second, .val (.long x3), .second, .val (.long x4), .second, .val (.long x5), .second, .unset, .unset, .unset, .unset, .unset, .unset, .unset, .unset] [(.int (2147483647 : Int32)), (.int x0), (.int (1 : Int32))])) _
  refine Goes.to (fun _ k => XS.iand X0.here hx rfl (hb hby at_4) rfl k) ?_
  show Goes p.tables e below (s₁.setTop (mkF m 5 #[.val (.int x0), .val (.int x1), .val (.long x2), .second, .val (.long x3), .second, .val (.long x4), .second, .val (.long x5), .second, .unset, .unset, .unset, .unset, .unset, .unset, .unset, .unset] [(.int (x0 &&& (2147483647 : Int32))), (.int (1 : Int32))])) _
  obtain ⟨_, _, ⟨T1, L1, k1, n1⟩, -, X1, ⟨Lc1, hQ1, l1, y1, z1⟩, st1⟩ := Jvm.LawKit.callS X0 hx (y := (⟨"java/lang/Math", "max", "(II)I"⟩ : MethodName)) hown (mvT hZ (hw _ (List.mem_of_getElem? (i := 1) rfl))) (mvT hZ (hw _ (List.mem_of_getElem? (i := 2) rfl))) (mvT hZ (hw _ (List.mem_of_getElem? (i := 3) rfl))) (mvT hZ (hw _ (List.mem_of_getElem? (i := 4) rfl))) (by decide) (backOf (W := 0) (own_rm1 l Z a0 hw [] (1 : Int32) (x0 &&& (2147483647 : Int32)) h0 n0 Z0 ) hZ (hw _ (List.mem_of_getElem? (i := 4) rfl)) (hw _ (List.mem_of_getElem? (i := 3) rfl)) (by decide) (by decide)) (g := (mkF m 5 #[.val (.int x0), .val (.int x1), .val (.long x2), .second, .val (.long x3), .second, .val (.long x4), .second, .val (.long x5), .second, .unset, .unset, .unset, .unset, .unset, .unset, .unset, .unset] [(.int (x0 &&& (2147483647 : Int32))), (.int (1 : Int32))])) rfl (by rw [hml]; rfl) (argsL := [(.int (1 : Int32)), (.int (x0 &&& (2147483647 : Int32)))]) (rest := []) (lenOf own_pd_pIIqI rfl) rfl (by show 2 * 0 + _ ≤ _; exact Nat.le_of_eq rfl) (hb hby at_5) (fun _ _ => ⟨rfl, e0, (by decide : 0 + 0 ≤ _), (by decide : 0 + 0 ≤ _)⟩)
  dsimp only [Pt.U, Pt.locs, Pt.cells, Pt.slots] at X1 l1 y1 z1 st1 hQ1
  subst l1 y1 z1
  obtain ⟨hv1, Nq1, hp1_0⟩ := hQ1
  have N1 := Fr.app N0 Nq1
  subst hv1
  refine Goes.to st1 ?_
  show Goes p.tables e below (T1.setTop (mkF m 8 #[.val (.int x0), .val (.int x1), .val (.long x2), .second, .val (.long x3), .second, .val (.long x4), .second, .val (.long x5), .second, .unset, .unset, .unset, .unset, .unset, .unset, .unset, .unset] [(.int (own_max (1 : Int32) (x0 &&& (2147483647 : Int32))))])) _
  refine Goes.to (fun _ k => XS.istore X1.here hx rfl (hb hby at_8) rfl (l' := #[.val (.int x0), .val (.int x1), .val (.long x2), .second, .val (.long x3), .second, .val (.long x4), .second, .val (.long x5), .second, .val (.int (own_max (1 : Int32) (x0 &&& (2147483647 : Int32)))), .unset, .unset, .unset, .unset, .unset, .unset, .unset]) rfl k) ?_
  show Goes p.tables e below (T1.setTop (mkF m 10 #[.val (.int x0), .val (.int x1), .val (.long x2), .second, .val (.long x3), .second, .val (.long x4), .second, .val (.long x5), .second, .val (.int (own_max (1 : Int32) (x0 &&& (2147483647 : Int32)))), .unset, .unset, .unset, .unset, .unset, .unset, .unset] [])) _
  refine Goes.to (fun _ k => XS.iloadN X1.here hx rfl (hb hby at_10) rfl k) ?_
  show Goes p.tables e below (T1.setTop (mkF m 11 #[.val (.int x0), .val (.int x1), .val (.long x2), .second, .val (.long x3), .second, .val (.long x4), .second, .val (.long x5), .second, .val (.int (own_max (1 : Int32) (x0 &&& (2147483647 : Int32)))), .unset, .unset, .unset, .unset, .unset, .unset, .unset] [(.int x1)])) _
  refine Goes.to (fun _ k => X1.ldcInt hx hown (mvT hZ (hw _ (List.mem_of_getElem? (i := 0) rfl))) (g := (mkF m 11 #[.val (.int x0), .val (.int x1), .val (.long x2), .second, .val (.long x3), .second, .val (.long x4), .second, .val (.long x5), .second, .val (.int (own_max (1 : Int32) (x0 &&& (2147483647 : Int32)))), .unset, .unset, .unset, .unset, .unset, .unset, .unset] [(.int x1)])) rfl (hb hby at_11) _ k) ?_
  show Goes p.tables e below (T1.setTop (mkF m 13 #[.val (.int x0), .val (.int x1), .val (.long x2), .second, .val (.long x3), .second, .val (.long x4), .second, .val (.long x5), .second, .val (.int (own_max (1 : Int32) (x0 &&& (2147483647 : Int32)))), .unset, .unset, .unset, .unset, .unset, .unset, .unset] [(.int (2147483647 : Int32)), (.int x1)])) _
  refine Goes.to (fun _ k => XS.iand X1.here hx rfl (hb hby at_13) rfl k) ?_
  show Goes p.tables e below (T1.setTop (mkF m 14 #[.val (.int x0), .val (.int x1), .val (.long x2), .second, .val (.long x3), .second, .val (.long x4), .second, .val (.long x5), .second, .val (.int (own_max (1 : Int32) (x0 &&& (2147483647 : Int32)))), .unset, .unset, .unset, .unset, .unset, .unset, .unset] [(.int (x1 &&& (2147483647 : Int32)))])) _
  refine Goes.to (fun _ k => XS.istore X1.here hx rfl (hb hby at_14) rfl (l' := #[.val (.int x0), .val (.int x1), .val (.long x2), .second, .val (.long x3), .second, .val (.long x4), .second, .val (.long x5), .second, .val (.int (own_max (1 : Int32) (x0 &&& (2147483647 : Int32)))), .val (.int (x1 &&& (2147483647 : Int32))), .unset, .unset, .unset, .unset, .unset, .unset]) rfl k) ?_
  show Goes p.tables e below (T1.setTop (mkF m 16 #[.val (.int x0), .val (.int x1), .val (.long x2), .second, .val (.long x3), .second, .val (.long x4), .second, .val (.long x5), .second, .val (.int (own_max (1 : Int32) (x0 &&& (2147483647 : Int32)))), .val (.int (x1 &&& (2147483647 : Int32))), .unset, .unset, .unset, .unset, .unset, .unset] [])) _
  obtain ⟨T2, h2, X2, e2, E2, A2, D2, -, st2⟩ := newO X1 hx hZ hown (hw _ (List.mem_of_getElem? (i := 5) rfl)) (hw _ (List.mem_of_getElem? (i := 6) rfl)) (hw _ (List.mem_of_getElem? (i := 7) rfl)) hp1_0 (g := (mkF m 16 #[.val (.int x0), .val (.int x1), .val (.long x2), .second, .val (.long x3), .second, .val (.long x4), .second, .val (.long x5), .second, .val (.int (own_max (1 : Int32) (x0 &&& (2147483647 : Int32)))), .val (.int (x1 &&& (2147483647 : Int32))), .unset, .unset, .unset, .unset, .unset, .unset] [])) rfl (hb hby at_16) (by decide) (by decide)
  obtain ⟨b2, g2⟩ : ∃ z, z = h0.size := ⟨_, rfl⟩
  rw [← g2] at A2 D2 st2
  subst e2
  have g_b2 : n0 ≤ b2 := Nat.le_trans Z0 (Nat.le_of_eq g2.symm)
  have Z2 : n0 ≤ T2.heap.size := Nat.le_trans Z0 E2.1
  have F3 : Fld Z T2.heap b2 "com/example/wee_table/weetable/model/GcRule$MaxVersions" "count" "I" (.int (0 : Int32)) := D2 (Or.inr (hw _ (List.mem_of_getElem? (i := 20) rfl))) (ty := .int) (by decide)
  refine Goes.to st2 ?_
  show Goes p.tables e below (T2.setTop (mkF m 19 #[.val (.int x0), .val (.int x1), .val (.long x2), .second, .val (.long x3), .second, .val (.long x4), .second, .val (.long x5), .second, .val (.int (own_max (1 : Int32) (x0 &&& (2147483647 : Int32)))), .val (.int (x1 &&& (2147483647 : Int32))), .unset, .unset, .unset, .unset, .unset, .unset] [(.ref b2)])) _
  refine Goes.to (fun _ k => XS.dup X2.here hx rfl (hb hby at_19) rfl rfl k) ?_
  show Goes p.tables e below (T2.setTop (mkF m 20 #[.val (.int x0), .val (.int x1), .val (.long x2), .second, .val (.long x3), .second, .val (.long x4), .second, .val (.long x5), .second, .val (.int (own_max (1 : Int32) (x0 &&& (2147483647 : Int32)))), .val (.int (x1 &&& (2147483647 : Int32))), .unset, .unset, .unset, .unset, .unset, .unset] [(.ref b2), (.ref b2)])) _
  refine Goes.to (fun _ k => XS.iload X2.here hx rfl (hb hby at_20) rfl k) ?_
  show Goes p.tables e below (T2.setTop (mkF m 22 #[.val (.int x0), .val (.int x1), .val (.long x2), .second, .val (.long x3), .second, .val (.long x4), .second, .val (.long x5), .second, .val (.int (own_max (1 : Int32) (x0 &&& (2147483647 : Int32)))), .val (.int (x1 &&& (2147483647 : Int32))), .unset, .unset, .unset, .unset, .unset, .unset] [(.int (own_max (1 : Int32) (x0 &&& (2147483647 : Int32)))), (.ref b2), (.ref b2)])) _
  have hpr4 : ¬ ((own_max (1 : Int32) (x0 &&& (2147483647 : Int32))) < (1 : Int32)) := by
    intro hq
    have k1 := rng32 (own_max (1 : Int32) (x0 &&& (2147483647 : Int32)))
    have k2 : (1 : Int32).toInt = 1 := rfl
    have k3 : (own_max (1 : Int32) (x0 &&& (2147483647 : Int32))).toInt < (1 : Int32).toInt := Int32.lt_iff_toInt_lt.mp hq
    have km := own_max_toInt (1 : Int32) (x0 &&& (2147483647 : Int32))
    omega
  obtain ⟨_, _, ⟨T5, L5, k5, n5⟩, -, X5, ⟨Lc5, hQ5, l5, y5, z5⟩, st5⟩ := X2.specialBack hx (y := (⟨"com/example/wee_table/weetable/model/GcRule$MaxVersions", "<init>", "(I)V"⟩ : MethodName)) rfl hown (mvT hZ (hw _ (List.mem_of_getElem? (i := 8) rfl))) (mvT hZ (hw _ (List.mem_of_getElem? (i := 9) rfl))) (mvT hZ (hw _ (List.mem_of_getElem? (i := 10) rfl))) (by decide) (backOf (W := 1) (own_rm2 l Z a0 hw [] b2 (own_max (1 : Int32) (x0 &&& (2147483647 : Int32))) T2.heap n0 Z2 A2 g_b2 F3 hpr4) hZ (hw _ (List.mem_of_getElem? (i := 10) rfl)) (hw _ (List.mem_of_getElem? (i := 7) rfl)) (by decide) (by decide)) (g := (mkF m 22 #[.val (.int x0), .val (.int x1), .val (.long x2), .second, .val (.long x3), .second, .val (.long x4), .second, .val (.long x5), .second, .val (.int (own_max (1 : Int32) (x0 &&& (2147483647 : Int32)))), .val (.int (x1 &&& (2147483647 : Int32))), .unset, .unset, .unset, .unset, .unset, .unset] [(.int (own_max (1 : Int32) (x0 &&& (2147483647 : Int32)))), (.ref b2), (.ref b2)])) rfl (by rw [hml]; rfl) (Steps.refl _) (a := b2) (argsL := [(.int (own_max (1 : Int32) (x0 &&& (2147483647 : Int32))))]) (rest := [(.ref b2)]) (lenOf own_pd_pIqV rfl) rfl (by show 2 * 0 + _ ≤ _; exact Nat.le_of_eq rfl) (hb hby at_22) (fun _ _ => ⟨rfl, rfl, (by decide : 1 + 0 ≤ _), (by decide : 1 + 0 ≤ _)⟩)
  dsimp only [Pt.U, Pt.locs, Pt.cells, Pt.slots] at X5 l5 y5 z5 st5 hQ5
  subst l5 y5 z5
  obtain ⟨hv5, Nq5, hp5_0, hp5_1, hp5_2⟩ := hQ5
  have N5 := Fr.app N1 Nq5
  have F6 := A2.keep hp5_0
  have Zk5 : n0 ≤ T5.heap.size := Nat.le_trans Z2 hp5_0.1
  subst hv5
  refine Goes.tr st5 ?_
  show Goes p.tables e below (T5.setTop (mkF m 25 #[.val (.int x0), .val (.int x1), .val (.long x2), .second, .val (.long x3), .second, .val (.long x4), .second, .val (.long x5), .second, .val (.int (own_max (1 : Int32) (x0 &&& (2147483647 : Int32)))), .val (.int (x1 &&& (2147483647 : Int32))), .unset, .unset, .unset, .unset, .unset, .unset] [(.ref b2)])) _
  refine Goes.to (fun _ k => XS.astore X5.here hx rfl (hb hby at_25) rfl rfl (l' := #[.val (.int x0), .val (.int x1), .val (.long x2), .second, .val (.long x3), .second, .val (.long x4), .second, .val (.long x5), .second, .val (.int (own_max (1 : Int32) (x0 &&& (2147483647 : Int32)))), .val (.int (x1 &&& (2147483647 : Int32))), .val (.ref b2), .unset, .unset, .unset, .unset, .unset]) rfl k) ?_
  show Goes p.tables e below (T5.setTop (mkF m 27 #[.val (.int x0), .val (.int x1), .val (.long x2), .second, .val (.long x3), .second, .val (.long x4), .second, .val (.long x5), .second, .val (.int (own_max (1 : Int32) (x0 &&& (2147483647 : Int32)))), .val (.int (x1 &&& (2147483647 : Int32))), .val (.ref b2), .unset, .unset, .unset, .unset, .unset] [])) _
  refine Goes.to (fun _ k => XS.aload X5.here hx rfl (hb hby at_27) rfl rfl k) ?_
  show Goes p.tables e below (T5.setTop (mkF m 29 #[.val (.int x0), .val (.int x1), .val (.long x2), .second, .val (.long x3), .second, .val (.long x4), .second, .val (.long x5), .second, .val (.int (own_max (1 : Int32) (x0 &&& (2147483647 : Int32)))), .val (.int (x1 &&& (2147483647 : Int32))), .val (.ref b2), .unset, .unset, .unset, .unset, .unset] [(.ref b2)])) _
  refine Goes.to (fun _ k => XS.iload X5.here hx rfl (hb hby at_29) rfl k) ?_
  show Goes p.tables e below (T5.setTop (mkF m 31 #[.val (.int x0), .val (.int x1), .val (.long x2), .second, .val (.long x3), .second, .val (.long x4), .second, .val (.long x5), .second, .val (.int (own_max (1 : Int32) (x0 &&& (2147483647 : Int32)))), .val (.int (x1 &&& (2147483647 : Int32))), .val (.ref b2), .unset, .unset, .unset, .unset, .unset] [(.int (x1 &&& (2147483647 : Int32))), (.ref b2)])) _
  refine Goes.to (fun _ k => XS.lloadN X5.here hx rfl (hb hby at_31) rfl k) ?_
  show Goes p.tables e below (T5.setTop (mkF m 32 #[.val (.int x0), .val (.int x1), .val (.long x2), .second, .val (.long x3), .second, .val (.long x4), .second, .val (.long x5), .second, .val (.int (own_max (1 : Int32) (x0 &&& (2147483647 : Int32)))), .val (.int (x1 &&& (2147483647 : Int32))), .val (.ref b2), .unset, .unset, .unset, .unset, .unset] [(.long x2), (.int (x1 &&& (2147483647 : Int32))), (.ref b2)])) _
  refine Goes.to (fun _ k => XS.lload X5.here hx rfl (hb hby at_32) rfl k) ?_
  show Goes p.tables e below (T5.setTop (mkF m 34 #[.val (.int x0), .val (.int x1), .val (.long x2), .second, .val (.long x3), .second, .val (.long x4), .second, .val (.long x5), .second, .val (.int (own_max (1 : Int32) (x0 &&& (2147483647 : Int32)))), .val (.int (x1 &&& (2147483647 : Int32))), .val (.ref b2), .unset, .unset, .unset, .unset, .unset] [(.long x3), (.long x2), (.int (x1 &&& (2147483647 : Int32))), (.ref b2)])) _
  obtain ⟨cq8, kq8, q8a, q8b, q8c⟩ := isOf hZ rfl hp5_1
  obtain ⟨_, _, ⟨T8, L8, k8, n8⟩, -, X8, ⟨Lc8, hQ8, l8, y8, z8⟩, st8⟩ := X5.virtualBack hx (y := (⟨"com/example/wee_table/weetable/model/GcRule$MaxVersions", "expires", "(IJJ)Z"⟩ : MethodName)) (z := (⟨"com/example/wee_table/weetable/model/GcRule$MaxVersions", "expires", "(IJJ)Z"⟩ : MethodName)) hown (mvT hZ (hw _ (List.mem_of_getElem? (i := 21) rfl))) (mvT hZ (hw _ (List.mem_of_getElem? (i := 22) rfl))) (notFace_of_selects (args := #[]) (mvT hZ (hw _ (List.mem_of_getElem? (i := 24) rfl)))) (mvT hZ (hw _ (List.mem_of_getElem? (i := 24) rfl))) (mvT hZ (hw _ (List.mem_of_getElem? (i := 23) rfl))) (by decide) (backOf (W := 0) (own_rm5 l Z a0 hw [] b2 (x1 &&& (2147483647 : Int32)) x2 x3 (own_max (1 : Int32) (x0 &&& (2147483647 : Int32))) T5.heap n0 Zk5 hp5_2) hZ (hw _ (List.mem_of_getElem? (i := 25) rfl)) (hw _ (List.mem_of_getElem? (i := 7) rfl)) (by decide) (by decide)) q8a q8c (g := (mkF m 34 #[.val (.int x0), .val (.int x1), .val (.long x2), .second, .val (.long x3), .second, .val (.long x4), .second, .val (.long x5), .second, .val (.int (own_max (1 : Int32) (x0 &&& (2147483647 : Int32)))), .val (.int (x1 &&& (2147483647 : Int32))), .val (.ref b2), .unset, .unset, .unset, .unset, .unset] [(.long x3), (.long x2), (.int (x1 &&& (2147483647 : Int32))), (.ref b2)])) rfl (by rw [hml]; rfl) (Steps.refl _) (argsL := [(.int (x1 &&& (2147483647 : Int32))), (.long x2), (.long x3)]) (rest := []) (lenOf own_pd_pIJJqZ rfl) rfl (by show 2 * 0 + _ ≤ _; exact Nat.le_of_eq rfl) (hb hby at_34) (fun _ _ => ⟨rfl, rfl, (by decide : 1 + 0 ≤ _), (by decide : 1 + 0 ≤ _)⟩)
  dsimp only [Pt.U, Pt.locs, Pt.cells, Pt.slots] at X8 l8 y8 z8 st8 hQ8
  subst l8 y8 z8
  obtain ⟨hv8, Nq8, hp8_0⟩ := hQ8
  have N8 := Fr.app N5 Nq8
  by_cases hc9 : (x1 &&& (2147483647 : Int32)) < (own_max (1 : Int32) (x0 &&& (2147483647 : Int32)))
  · rw [if_pos hc9] at hv8
    subst hv8
    refine Goes.tr st8 ?_
    show Goes p.tables e below (T8.setTop (mkF m 37 #[.val (.int x0), .val (.int x1), .val (.long x2), .second, .val (.long x3), .second, .val (.long x4), .second, .val (.long x5), .second, .val (.int (own_max (1 : Int32) (x0 &&& (2147483647 : Int32)))), .val (.int (x1 &&& (2147483647 : Int32))), .val (.ref b2), .unset, .unset, .unset, .unset, .unset] [(.int (0 : Int32))])) _
    refine Goes.to (fun _ k => XS.istore X8.here hx rfl (hb hby at_37) rfl (l' := #[.val (.int x0), .val (.int x1), .val (.long x2), .second, .val (.long x3), .second, .val (.long x4), .second, .val (.long x5), .second, .val (.int (own_max (1 : Int32) (x0 &&& (2147483647 : Int32)))), .val (.int (x1 &&& (2147483647 : Int32))), .val (.ref b2), .val (.int (0 : Int32)), .unset, .unset, .unset, .unset]) rfl k) ?_
    show Goes p.tables e below (T8.setTop (mkF m 39 #[.val (.int x0), .val (.int x1), .val (.long x2), .second, .val (.long x3), .second, .val (.long x4), .second, .val (.long x5), .second, .val (.int (own_max (1 : Int32) (x0 &&& (2147483647 : Int32)))), .val (.int (x1 &&& (2147483647 : Int32))), .val (.ref b2), .val (.int (0 : Int32)), .unset, .unset, .unset, .unset] [])) _
    refine Goes.to (fun _ k => XS.aload X8.here hx rfl (hb hby at_39) rfl rfl k) ?_
    show Goes p.tables e below (T8.setTop (mkF m 41 #[.val (.int x0), .val (.int x1), .val (.long x2), .second, .val (.long x3), .second, .val (.long x4), .second, .val (.long x5), .second, .val (.int (own_max (1 : Int32) (x0 &&& (2147483647 : Int32)))), .val (.int (x1 &&& (2147483647 : Int32))), .val (.ref b2), .val (.int (0 : Int32)), .unset, .unset, .unset, .unset] [(.ref b2)])) _
    refine Goes.to (fun _ k => XS.iload X8.here hx rfl (hb hby at_41) rfl k) ?_
    show Goes p.tables e below (T8.setTop (mkF m 43 #[.val (.int x0), .val (.int x1), .val (.long x2), .second, .val (.long x3), .second, .val (.long x4), .second, .val (.long x5), .second, .val (.int (own_max (1 : Int32) (x0 &&& (2147483647 : Int32)))), .val (.int (x1 &&& (2147483647 : Int32))), .val (.ref b2), .val (.int (0 : Int32)), .unset, .unset, .unset, .unset] [(.int (x1 &&& (2147483647 : Int32))), (.ref b2)])) _
    refine Goes.to (fun _ k => XS.lload X8.here hx rfl (hb hby at_43) rfl k) ?_
    show Goes p.tables e below (T8.setTop (mkF m 45 #[.val (.int x0), .val (.int x1), .val (.long x2), .second, .val (.long x3), .second, .val (.long x4), .second, .val (.long x5), .second, .val (.int (own_max (1 : Int32) (x0 &&& (2147483647 : Int32)))), .val (.int (x1 &&& (2147483647 : Int32))), .val (.ref b2), .val (.int (0 : Int32)), .unset, .unset, .unset, .unset] [(.long x4), (.int (x1 &&& (2147483647 : Int32))), (.ref b2)])) _
    refine Goes.to (fun _ k => XS.lload X8.here hx rfl (hb hby at_45) rfl k) ?_
    show Goes p.tables e below (T8.setTop (mkF m 47 #[.val (.int x0), .val (.int x1), .val (.long x2), .second, .val (.long x3), .second, .val (.long x4), .second, .val (.long x5), .second, .val (.int (own_max (1 : Int32) (x0 &&& (2147483647 : Int32)))), .val (.int (x1 &&& (2147483647 : Int32))), .val (.ref b2), .val (.int (0 : Int32)), .unset, .unset, .unset, .unset] [(.long x5), (.long x4), (.int (x1 &&& (2147483647 : Int32))), (.ref b2)])) _
    obtain ⟨cq10, kq10, q10a, q10b, q10c⟩ := isOf hZ hp8_0 hp5_1
    obtain ⟨_, _, ⟨T10, L10, k10, n10⟩, -, X10, ⟨Lc10, hQ10, l10, y10, z10⟩, st10⟩ := X8.virtualBack hx (y := (⟨"com/example/wee_table/weetable/model/GcRule$MaxVersions", "expires", "(IJJ)Z"⟩ : MethodName)) (z := (⟨"com/example/wee_table/weetable/model/GcRule$MaxVersions", "expires", "(IJJ)Z"⟩ : MethodName)) hown (mvT hZ (hw _ (List.mem_of_getElem? (i := 21) rfl))) (mvT hZ (hw _ (List.mem_of_getElem? (i := 22) rfl))) (notFace_of_selects (args := #[]) (mvT hZ (hw _ (List.mem_of_getElem? (i := 24) rfl)))) (mvT hZ (hw _ (List.mem_of_getElem? (i := 24) rfl))) (mvT hZ (hw _ (List.mem_of_getElem? (i := 23) rfl))) (by decide) (backOf (W := 0) (own_rm5 l Z a0 hw [] b2 (x1 &&& (2147483647 : Int32)) x4 x5 (own_max (1 : Int32) (x0 &&& (2147483647 : Int32))) T5.heap n0 Zk5 hp5_2) hZ (hw _ (List.mem_of_getElem? (i := 25) rfl)) (hw _ (List.mem_of_getElem? (i := 7) rfl)) (by decide) (by decide)) q10a q10c (g := (mkF m 47 #[.val (.int x0), .val (.int x1), .val (.long x2), .second, .val (.long x3), .second, .val (.long x4), .second, .val (.long x5), .second, .val (.int (own_max (1 : Int32) (x0 &&& (2147483647 : Int32)))), .val (.int (x1 &&& (2147483647 : Int32))), .val (.ref b2), .val (.int (0 : Int32)), .unset, .unset, .unset, .unset] [(.long x5), (.long x4), (.int (x1 &&& (2147483647 : Int32))), (.ref b2)])) rfl (by rw [hml]; rfl) (Steps.refl _) (argsL := [(.int (x1 &&& (2147483647 : Int32))), (.long x4), (.long x5)]) (rest := []) (lenOf own_pd_pIJJqZ rfl) rfl (by show 2 * 0 + _ ≤ _; exact Nat.le_of_eq rfl) (hb hby at_47) (fun _ _ => ⟨rfl, hp8_0, (by decide : 1 + 0 ≤ _), (by decide : 1 + 0 ≤ _)⟩)
    dsimp only [Pt.U, Pt.locs, Pt.cells, Pt.slots] at X10 l10 y10 z10 st10 hQ10
    subst l10 y10 z10
    obtain ⟨hv10, Nq10, hp10_0⟩ := hQ10
    have N10 := Fr.app N8 Nq10
    rw [if_pos hc9] at hv10
    subst hv10
    refine Goes.tr st10 ?_
    show Goes p.tables e below (T10.setTop (mkF m 50 #[.val (.int x0), .val (.int x1), .val (.long x2), .second, .val (.long x3), .second, .val (.long x4), .second, .val (.long x5), .second, .val (.int (own_max (1 : Int32) (x0 &&& (2147483647 : Int32)))), .val (.int (x1 &&& (2147483647 : Int32))), .val (.ref b2), .val (.int (0 : Int32)), .unset, .unset, .unset, .unset] [(.int (0 : Int32))])) _
    refine Goes.to (fun _ k => XS.istore X10.here hx rfl (hb hby at_50) rfl (l' := #[.val (.int x0), .val (.int x1), .val (.long x2), .second, .val (.long x3), .second, .val (.long x4), .second, .val (.long x5), .second, .val (.int (own_max (1 : Int32) (x0 &&& (2147483647 : Int32)))), .val (.int (x1 &&& (2147483647 : Int32))), .val (.ref b2), .val (.int (0 : Int32)), .val (.int (0 : Int32)), .unset, .unset, .unset]) rfl k) ?_
    show Goes p.tables e below (T10.setTop (mkF m 52 #[.val (.int x0), .val (.int x1), .val (.long x2), .second, .val (.long x3), .second, .val (.long x4), .second, .val (.long x5), .second, .val (.int (own_max (1 : Int32) (x0 &&& (2147483647 : Int32)))), .val (.int (x1 &&& (2147483647 : Int32))), .val (.ref b2), .val (.int (0 : Int32)), .val (.int (0 : Int32)), .unset, .unset, .unset] [])) _
    refine Goes.to (fun _ k => XS.aload X10.here hx rfl (hb hby at_52) rfl rfl k) ?_
    show Goes p.tables e below (T10.setTop (mkF m 54 #[.val (.int x0), .val (.int x1), .val (.long x2), .second, .val (.long x3), .second, .val (.long x4), .second, .val (.long x5), .second, .val (.int (own_max (1 : Int32) (x0 &&& (2147483647 : Int32)))), .val (.int (x1 &&& (2147483647 : Int32))), .val (.ref b2), .val (.int (0 : Int32)), .val (.int (0 : Int32)), .unset, .unset, .unset] [(.ref b2)])) _
    refine Goes.to (fun _ k => XS.iload X10.here hx rfl (hb hby at_54) rfl k) ?_
    show Goes p.tables e below (T10.setTop (mkF m 56 #[.val (.int x0), .val (.int x1), .val (.long x2), .second, .val (.long x3), .second, .val (.long x4), .second, .val (.long x5), .second, .val (.int (own_max (1 : Int32) (x0 &&& (2147483647 : Int32)))), .val (.int (x1 &&& (2147483647 : Int32))), .val (.ref b2), .val (.int (0 : Int32)), .val (.int (0 : Int32)), .unset, .unset, .unset] [(.int (own_max (1 : Int32) (x0 &&& (2147483647 : Int32)))), (.ref b2)])) _
    refine Goes.to (fun _ k => XS.iconst X10.here hx rfl (hb hby at_56) k) ?_
    show Goes p.tables e below (T10.setTop (mkF m 57 #[.val (.int x0), .val (.int x1), .val (.long x2), .second, .val (.long x3), .second, .val (.long x4), .second, .val (.long x5), .second, .val (.int (own_max (1 : Int32) (x0 &&& (2147483647 : Int32)))), .val (.int (x1 &&& (2147483647 : Int32))), .val (.ref b2), .val (.int (0 : Int32)), .val (.int (0 : Int32)), .unset, .unset, .unset] [(.int (1 : Int32)), (.int (own_max (1 : Int32) (x0 &&& (2147483647 : Int32)))), (.ref b2)])) _
    refine Goes.to (fun _ k => XS.isub X10.here hx rfl (hb hby at_57) rfl k) ?_
    show Goes p.tables e below (T10.setTop (mkF m 58 #[.val (.int x0), .val (.int x1), .val (.long x2), .second, .val (.long x3), .second, .val (.long x4), .second, .val (.long x5), .second, .val (.int (own_max (1 : Int32) (x0 &&& (2147483647 : Int32)))), .val (.int (x1 &&& (2147483647 : Int32))), .val (.ref b2), .val (.int (0 : Int32)), .val (.int (0 : Int32)), .unset, .unset, .unset] [(.int ((own_max (1 : Int32) (x0 &&& (2147483647 : Int32))) - (1 : Int32))), (.ref b2)])) _
    refine Goes.to (fun _ k => XS.lloadN X10.here hx rfl (hb hby at_58) rfl k) ?_
    show Goes p.tables e below (T10.setTop (mkF m 59 #[.val (.int x0), .val (.int x1), .val (.long x2), .second, .val (.long x3), .second, .val (.long x4), .second, .val (.long x5), .second, .val (.int (own_max (1 : Int32) (x0 &&& (2147483647 : Int32)))), .val (.int (x1 &&& (2147483647 : Int32))), .val (.ref b2), .val (.int (0 : Int32)), .val (.int (0 : Int32)), .unset, .unset, .unset] [(.long x2), (.int ((own_max (1 : Int32) (x0 &&& (2147483647 : Int32))) - (1 : Int32))), (.ref b2)])) _
    refine Goes.to (fun _ k => XS.lload X10.here hx rfl (hb hby at_59) rfl k) ?_
    show Goes p.tables e below (T10.setTop (mkF m 61 #[.val (.int x0), .val (.int x1), .val (.long x2), .second, .val (.long x3), .second, .val (.long x4), .second, .val (.long x5), .second, .val (.int (own_max (1 : Int32) (x0 &&& (2147483647 : Int32)))), .val (.int (x1 &&& (2147483647 : Int32))), .val (.ref b2), .val (.int (0 : Int32)), .val (.int (0 : Int32)), .unset, .unset, .unset] [(.long x3), (.long x2), (.int ((own_max (1 : Int32) (x0 &&& (2147483647 : Int32))) - (1 : Int32))), (.ref b2)])) _
    obtain ⟨cq11, kq11, q11a, q11b, q11c⟩ := isOf hZ hp10_0 hp5_1
    obtain ⟨_, _, ⟨T11, L11, k11, n11⟩, -, X11, ⟨Lc11, hQ11, l11, y11, z11⟩, st11⟩ := X10.virtualBack hx (y := (⟨"com/example/wee_table/weetable/model/GcRule$MaxVersions", "expires", "(IJJ)Z"⟩ : MethodName)) (z := (⟨"com/example/wee_table/weetable/model/GcRule$MaxVersions", "expires", "(IJJ)Z"⟩ : MethodName)) hown (mvT hZ (hw _ (List.mem_of_getElem? (i := 21) rfl))) (mvT hZ (hw _ (List.mem_of_getElem? (i := 22) rfl))) (notFace_of_selects (args := #[]) (mvT hZ (hw _ (List.mem_of_getElem? (i := 24) rfl)))) (mvT hZ (hw _ (List.mem_of_getElem? (i := 24) rfl))) (mvT hZ (hw _ (List.mem_of_getElem? (i := 23) rfl))) (by decide) (backOf (W := 0) (own_rm5 l Z a0 hw [] b2 ((own_max (1 : Int32) (x0 &&& (2147483647 : Int32))) - (1 : Int32)) x2 x3 (own_max (1 : Int32) (x0 &&& (2147483647 : Int32))) T5.heap n0 Zk5 hp5_2) hZ (hw _ (List.mem_of_getElem? (i := 25) rfl)) (hw _ (List.mem_of_getElem? (i := 7) rfl)) (by decide) (by decide)) q11a q11c (g := (mkF m 61 #[.val (.int x0), .val (.int x1), .val (.long x2), .second, .val (.long x3), .second, .val (.long x4), .second, .val (.long x5), .second, .val (.int (own_max (1 : Int32) (x0 &&& (2147483647 : Int32)))), .val (.int (x1 &&& (2147483647 : Int32))), .val (.ref b2), .val (.int (0 : Int32)), .val (.int (0 : Int32)), .unset, .unset, .unset] [(.long x3), (.long x2), (.int ((own_max (1 : Int32) (x0 &&& (2147483647 : Int32))) - (1 : Int32))), (.ref b2)])) rfl (by rw [hml]; rfl) (Steps.refl _) (argsL := [(.int ((own_max (1 : Int32) (x0 &&& (2147483647 : Int32))) - (1 : Int32))), (.long x2), (.long x3)]) (rest := []) (lenOf own_pd_pIJJqZ rfl) rfl (by show 2 * 0 + _ ≤ _; exact Nat.le_of_eq rfl) (hb hby at_61) (fun _ _ => ⟨rfl, hp10_0, (by decide : 1 + 0 ≤ _), (by decide : 1 + 0 ≤ _)⟩)
    dsimp only [Pt.U, Pt.locs, Pt.cells, Pt.slots] at X11 l11 y11 z11 st11 hQ11
    subst l11 y11 z11
    obtain ⟨hv11, Nq11, hp11_0⟩ := hQ11
    have N11 := Fr.app N10 Nq11
    by_cases hc12 : ((own_max (1 : Int32) (x0 &&& (2147483647 : Int32))) - (1 : Int32)) < (own_max (1 : Int32) (x0 &&& (2147483647 : Int32)))
    · rw [if_pos hc12] at hv11
      subst hv11
      refine Goes.tr st11 ?_
      show Goes p.tables e below (T11.setTop (mkF m 64 #[.val (.int x0), .val (.int x1), .val (.long x2), .second, .val (.long x3), .second, .val (.long x4), .second, .val (.long x5), .second, .val (.int (own_max (1 : Int32) (x0 &&& (2147483647 : Int32)))), .val (.int (x1 &&& (2147483647 : Int32))), .val (.ref b2), .val (.int (0 : Int32)), .val (.int (0 : Int32)), .unset, .unset, .unset] [(.int (0 : Int32))])) _
      refine Goes.to (fun _ k => XS.istore X11.here hx rfl (hb hby at_64) rfl (l' := #[.val (.int x0), .val (.int x1), .val (.long x2), .second, .val (.long x3), .second, .val (.long x4), .second, .val (.long x5), .second, .val (.int (own_max (1 : Int32) (x0 &&& (2147483647 : Int32)))), .val (.int (x1 &&& (2147483647 : Int32))), .val (.ref b2), .val (.int (0 : Int32)), .val (.int (0 : Int32)), .val (.int (0 : Int32)), .unset, .unset]) rfl k) ?_
      show Goes p.tables e below (T11.setTop (mkF m 66 #[.val (.int x0), .val (.int x1), .val (.long x2), .second, .val (.long x3), .second, .val (.long x4), .second, .val (.long x5), .second, .val (.int (own_max (1 : Int32) (x0 &&& (2147483647 : Int32)))), .val (.int (x1 &&& (2147483647 : Int32))), .val (.ref b2), .val (.int (0 : Int32)), .val (.int (0 : Int32)), .val (.int (0 : Int32)), .unset, .unset] [])) _
      refine Goes.to (fun _ k => XS.aload X11.here hx rfl (hb hby at_66) rfl rfl k) ?_
      show Goes p.tables e below (T11.setTop (mkF m 68 #[.val (.int x0), .val (.int x1), .val (.long x2), .second, .val (.long x3), .second, .val (.long x4), .second, .val (.long x5), .second, .val (.int (own_max (1 : Int32) (x0 &&& (2147483647 : Int32)))), .val (.int (x1 &&& (2147483647 : Int32))), .val (.ref b2), .val (.int (0 : Int32)), .val (.int (0 : Int32)), .val (.int (0 : Int32)), .unset, .unset] [(.ref b2)])) _
      refine Goes.to (fun _ k => XS.iload X11.here hx rfl (hb hby at_68) rfl k) ?_
      show Goes p.tables e below (T11.setTop (mkF m 70 #[.val (.int x0), .val (.int x1), .val (.long x2), .second, .val (.long x3), .second, .val (.long x4), .second, .val (.long x5), .second, .val (.int (own_max (1 : Int32) (x0 &&& (2147483647 : Int32)))), .val (.int (x1 &&& (2147483647 : Int32))), .val (.ref b2), .val (.int (0 : Int32)), .val (.int (0 : Int32)), .val (.int (0 : Int32)), .unset, .unset] [(.int (own_max (1 : Int32) (x0 &&& (2147483647 : Int32)))), (.ref b2)])) _
      refine Goes.to (fun _ k => XS.lload X11.here hx rfl (hb hby at_70) rfl k) ?_
      show Goes p.tables e below (T11.setTop (mkF m 72 #[.val (.int x0), .val (.int x1), .val (.long x2), .second, .val (.long x3), .second, .val (.long x4), .second, .val (.long x5), .second, .val (.int (own_max (1 : Int32) (x0 &&& (2147483647 : Int32)))), .val (.int (x1 &&& (2147483647 : Int32))), .val (.ref b2), .val (.int (0 : Int32)), .val (.int (0 : Int32)), .val (.int (0 : Int32)), .unset, .unset] [(.long x4), (.int (own_max (1 : Int32) (x0 &&& (2147483647 : Int32)))), (.ref b2)])) _
      refine Goes.to (fun _ k => XS.lload X11.here hx rfl (hb hby at_72) rfl k) ?_
      show Goes p.tables e below (T11.setTop (mkF m 74 #[.val (.int x0), .val (.int x1), .val (.long x2), .second, .val (.long x3), .second, .val (.long x4), .second, .val (.long x5), .second, .val (.int (own_max (1 : Int32) (x0 &&& (2147483647 : Int32)))), .val (.int (x1 &&& (2147483647 : Int32))), .val (.ref b2), .val (.int (0 : Int32)), .val (.int (0 : Int32)), .val (.int (0 : Int32)), .unset, .unset] [(.long x5), (.long x4), (.int (own_max (1 : Int32) (x0 &&& (2147483647 : Int32)))), (.ref b2)])) _
      obtain ⟨cq13, kq13, q13a, q13b, q13c⟩ := isOf hZ hp11_0 hp5_1
      obtain ⟨_, _, ⟨T13, L13, k13, n13⟩, -, X13, ⟨Lc13, hQ13, l13, y13, z13⟩, st13⟩ := X11.virtualBack hx (y := (⟨"com/example/wee_table/weetable/model/GcRule$MaxVersions", "expires", "(IJJ)Z"⟩ : MethodName)) (z := (⟨"com/example/wee_table/weetable/model/GcRule$MaxVersions", "expires", "(IJJ)Z"⟩ : MethodName)) hown (mvT hZ (hw _ (List.mem_of_getElem? (i := 21) rfl))) (mvT hZ (hw _ (List.mem_of_getElem? (i := 22) rfl))) (notFace_of_selects (args := #[]) (mvT hZ (hw _ (List.mem_of_getElem? (i := 24) rfl)))) (mvT hZ (hw _ (List.mem_of_getElem? (i := 24) rfl))) (mvT hZ (hw _ (List.mem_of_getElem? (i := 23) rfl))) (by decide) (backOf (W := 0) (own_rm5 l Z a0 hw [] b2 (own_max (1 : Int32) (x0 &&& (2147483647 : Int32))) x4 x5 (own_max (1 : Int32) (x0 &&& (2147483647 : Int32))) T5.heap n0 Zk5 hp5_2) hZ (hw _ (List.mem_of_getElem? (i := 25) rfl)) (hw _ (List.mem_of_getElem? (i := 7) rfl)) (by decide) (by decide)) q13a q13c (g := (mkF m 74 #[.val (.int x0), .val (.int x1), .val (.long x2), .second, .val (.long x3), .second, .val (.long x4), .second, .val (.long x5), .second, .val (.int (own_max (1 : Int32) (x0 &&& (2147483647 : Int32)))), .val (.int (x1 &&& (2147483647 : Int32))), .val (.ref b2), .val (.int (0 : Int32)), .val (.int (0 : Int32)), .val (.int (0 : Int32)), .unset, .unset] [(.long x5), (.long x4), (.int (own_max (1 : Int32) (x0 &&& (2147483647 : Int32)))), (.ref b2)])) rfl (by rw [hml]; rfl) (Steps.refl _) (argsL := [(.int (own_max (1 : Int32) (x0 &&& (2147483647 : Int32)))), (.long x4), (.long x5)]) (rest := []) (lenOf own_pd_pIJJqZ rfl) rfl (by show 2 * 0 + _ ≤ _; exact Nat.le_of_eq rfl) (hb hby at_74) (fun _ _ => ⟨rfl, hp11_0, (by decide : 1 + 0 ≤ _), (by decide : 1 + 0 ≤ _)⟩)
      dsimp only [Pt.U, Pt.locs, Pt.cells, Pt.slots] at X13 l13 y13 z13 st13 hQ13
      subst l13 y13 z13
      obtain ⟨hv13, Nq13, hp13_0⟩ := hQ13
      have N13 := Fr.app N11 Nq13
      by_cases hc14 : (own_max (1 : Int32) (x0 &&& (2147483647 : Int32))) < (own_max (1 : Int32) (x0 &&& (2147483647 : Int32)))
      · exfalso
        have k1 := rng32 x1
        have k2 : (x1 &&& (2147483647 : Int32)).toInt = x1.toInt % 2147483648 := c_mask x1 (2147483647 : Int32) 31 (by decide) (by decide)
        have k3 := rng32 (own_max (1 : Int32) (x0 &&& (2147483647 : Int32)))
        have k4 : (x1 &&& (2147483647 : Int32)).toInt < (own_max (1 : Int32) (x0 &&& (2147483647 : Int32))).toInt := Int32.lt_iff_toInt_lt.mp hc9
        have k5 : (1 : Int32).toInt = 1 := rfl
        have k6 := c_isub (own_max (1 : Int32) (x0 &&& (2147483647 : Int32))) (1 : Int32)
        have k7 := rng32 ((own_max (1 : Int32) (x0 &&& (2147483647 : Int32))) - (1 : Int32))
        have k8 : ((own_max (1 : Int32) (x0 &&& (2147483647 : Int32))) - (1 : Int32)).toInt < (own_max (1 : Int32) (x0 &&& (2147483647 : Int32))).toInt := Int32.lt_iff_toInt_lt.mp hc12
        have k9 : (own_max (1 : Int32) (x0 &&& (2147483647 : Int32))).toInt < (own_max (1 : Int32) (x0 &&& (2147483647 : Int32))).toInt := Int32.lt_iff_toInt_lt.mp hc14
        have km := own_max_toInt (1 : Int32) (x0 &&& (2147483647 : Int32))
        omega
      · rw [if_neg hc14] at hv13
        subst hv13
        refine Goes.tr st13 ?_
        show Goes p.tables e below (T13.setTop (mkF m 77 #[.val (.int x0), .val (.int x1), .val (.long x2), .second, .val (.long x3), .second, .val (.long x4), .second, .val (.long x5), .second, .val (.int (own_max (1 : Int32) (x0 &&& (2147483647 : Int32)))), .val (.int (x1 &&& (2147483647 : Int32))), .val (.ref b2), .val (.int (0 : Int32)), .val (.int (0 : Int32)), .val (.int (0 : Int32)), .unset, .unset] [(.int (1 : Int32))])) _
        refine Goes.to (fun _ k => XS.istore X13.here hx rfl (hb hby at_77) rfl (l' := #[.val (.int x0), .val (.int x1), .val (.long x2), .second, .val (.long x3), .second, .val (.long x4), .second, .val (.long x5), .second, .val (.int (own_max (1 : Int32) (x0 &&& (2147483647 : Int32)))), .val (.int (x1 &&& (2147483647 : Int32))), .val (.ref b2), .val (.int (0 : Int32)), .val (.int (0 : Int32)), .val (.int (0 : Int32)), .val (.int (1 : Int32)), .unset]) rfl k) ?_
        show Goes p.tables e below (T13.setTop (mkF m 79 #[.val (.int x0), .val (.int x1), .val (.long x2), .second, .val (.long x3), .second, .val (.long x4), .second, .val (.long x5), .second, .val (.int (own_max (1 : Int32) (x0 &&& (2147483647 : Int32)))), .val (.int (x1 &&& (2147483647 : Int32))), .val (.ref b2), .val (.int (0 : Int32)), .val (.int (0 : Int32)), .val (.int (0 : Int32)), .val (.int (1 : Int32)), .unset] [])) _
        refine Goes.to (fun _ k => XS.iload X13.here hx rfl (hb hby at_79) rfl k) ?_
        show Goes p.tables e below (T13.setTop (mkF m 81 #[.val (.int x0), .val (.int x1), .val (.long x2), .second, .val (.long x3), .second, .val (.long x4), .second, .val (.long x5), .second, .val (.int (own_max (1 : Int32) (x0 &&& (2147483647 : Int32)))), .val (.int (x1 &&& (2147483647 : Int32))), .val (.ref b2), .val (.int (0 : Int32)), .val (.int (0 : Int32)), .val (.int (0 : Int32)), .val (.int (1 : Int32)), .unset] [(.int (x1 &&& (2147483647 : Int32)))])) _
        refine Goes.to (fun _ k => XS.iload X13.here hx rfl (hb hby at_81) rfl k) ?_
        show Goes p.tables e below (T13.setTop (mkF m 83 #[.val (.int x0), .val (.int x1), .val (.long x2), .second, .val (.long x3), .second, .val (.long x4), .second, .val (.long x5), .second, .val (.int (own_max (1 : Int32) (x0 &&& (2147483647 : Int32)))), .val (.int (x1 &&& (2147483647 : Int32))), .val (.ref b2), .val (.int (0 : Int32)), .val (.int (0 : Int32)), .val (.int (0 : Int32)), .val (.int (1 : Int32)), .unset] [(.int (own_max (1 : Int32) (x0 &&& (2147483647 : Int32)))), (.int (x1 &&& (2147483647 : Int32)))])) _
        refine Goes.to (fun _ k => XS.icmpNo X13.here hx rfl (hb hby at_83) rfl (tlt hc9).2.1 k) ?_
        show Goes p.tables e below (T13.setTop (mkF m 86 #[.val (.int x0), .val (.int x1), .val (.long x2), .second, .val (.long x3), .second, .val (.long x4), .second, .val (.long x5), .second, .val (.int (own_max (1 : Int32) (x0 &&& (2147483647 : Int32)))), .val (.int (x1 &&& (2147483647 : Int32))), .val (.ref b2), .val (.int (0 : Int32)), .val (.int (0 : Int32)), .val (.int (0 : Int32)), .val (.int (1 : Int32)), .unset] [])) _
        refine Goes.to (fun _ k => XS.iconst X13.here hx rfl (hb hby at_86) k) ?_
        show Goes p.tables e below (T13.setTop (mkF m 87 #[.val (.int x0), .val (.int x1), .val (.long x2), .second, .val (.long x3), .second, .val (.long x4), .second, .val (.long x5), .second, .val (.int (own_max (1 : Int32) (x0 &&& (2147483647 : Int32)))), .val (.int (x1 &&& (2147483647 : Int32))), .val (.ref b2), .val (.int (0 : Int32)), .val (.int (0 : Int32)), .val (.int (0 : Int32)), .val (.int (1 : Int32)), .unset] [(.int (1 : Int32))])) _
        refine Goes.to (fun _ k => XS.goto X13.here hx rfl (pc0 := 87) (pc' := 91) rfl (hb hby at_87) (by decide) (by decide) k) ?_
        show Goes p.tables e below (T13.setTop (mkF m 91 #[.val (.int x0), .val (.int x1), .val (.long x2), .second, .val (.long x3), .second, .val (.long x4), .second, .val (.long x5), .second, .val (.int (own_max (1 : Int32) (x0 &&& (2147483647 : Int32)))), .val (.int (x1 &&& (2147483647 : Int32))), .val (.ref b2), .val (.int (0 : Int32)), .val (.int (0 : Int32)), .val (.int (0 : Int32)), .val (.int (1 : Int32)), .unset] [(.int (1 : Int32))])) _
        refine Goes.to (fun _ k => XS.istore X13.here hx rfl (hb hby at_91) rfl (l' := #[.val (.int x0), .val (.int x1), .val (.long x2), .second, .val (.long x3), .second, .val (.long x4), .second, .val (.long x5), .second, .val (.int (own_max (1 : Int32) (x0 &&& (2147483647 : Int32)))), .val (.int (x1 &&& (2147483647 : Int32))), .val (.ref b2), .val (.int (0 : Int32)), .val (.int (0 : Int32)), .val (.int (0 : Int32)), .val (.int (1 : Int32)), .val (.int (1 : Int32))]) rfl k) ?_
        show Goes p.tables e below (T13.setTop (mkF m 93 #[.val (.int x0), .val (.int x1), .val (.long x2), .second, .val (.long x3), .second, .val (.long x4), .second, .val (.long x5), .second, .val (.int (own_max (1 : Int32) (x0 &&& (2147483647 : Int32)))), .val (.int (x1 &&& (2147483647 : Int32))), .val (.ref b2), .val (.int (0 : Int32)), .val (.int (0 : Int32)), .val (.int (0 : Int32)), .val (.int (1 : Int32)), .val (.int (1 : Int32))] [])) _
        refine Goes.to (fun _ k => XS.iload X13.here hx rfl (hb hby at_93) rfl k) ?_
        show Goes p.tables e below (T13.setTop (mkF m 95 #[.val (.int x0), .val (.int x1), .val (.long x2), .second, .val (.long x3), .second, .val (.long x4), .second, .val (.long x5), .second, .val (.int (own_max (1 : Int32) (x0 &&& (2147483647 : Int32)))), .val (.int (x1 &&& (2147483647 : Int32))), .val (.ref b2), .val (.int (0 : Int32)), .val (.int (0 : Int32)), .val (.int (0 : Int32)), .val (.int (1 : Int32)), .val (.int (1 : Int32))] [(.int (0 : Int32))])) _
        refine Goes.to (fun _ k => XS.iload X13.here hx rfl (hb hby at_95) rfl k) ?_
        show Goes p.tables e below (T13.setTop (mkF m 97 #[.val (.int x0), .val (.int x1), .val (.long x2), .second, .val (.long x3), .second, .val (.long x4), .second, .val (.long x5), .second, .val (.int (own_max (1 : Int32) (x0 &&& (2147483647 : Int32)))), .val (.int (x1 &&& (2147483647 : Int32))), .val (.ref b2), .val (.int (0 : Int32)), .val (.int (0 : Int32)), .val (.int (0 : Int32)), .val (.int (1 : Int32)), .val (.int (1 : Int32))] [(.int (1 : Int32)), (.int (0 : Int32))])) _
        refine Goes.to (fun _ k => XS.ifYes X13.here hx rfl (pc0 := 97) (pc' := 104) rfl (hb hby at_97) rfl ((if0 _ _).trans (feq (by decide : ¬ ((1 : Int32) = (0 : Int32)))).2) (by decide) (by decide) k) ?_
        show Goes p.tables e below (T13.setTop (mkF m 104 #[.val (.int x0), .val (.int x1), .val (.long x2), .second, .val (.long x3), .second, .val (.long x4), .second, .val (.long x5), .second, .val (.int (own_max (1 : Int32) (x0 &&& (2147483647 : Int32)))), .val (.int (x1 &&& (2147483647 : Int32))), .val (.ref b2), .val (.int (0 : Int32)), .val (.int (0 : Int32)), .val (.int (0 : Int32)), .val (.int (1 : Int32)), .val (.int (1 : Int32))] [(.int (0 : Int32))])) _
        refine Goes.to (fun _ k => XS.iconst X13.here hx rfl (hb hby at_104) k) ?_
        show Goes p.tables e below (T13.setTop (mkF m 105 #[.val (.int x0), .val (.int x1), .val (.long x2), .second, .val (.long x3), .second, .val (.long x4), .second, .val (.long x5), .second, .val (.int (own_max (1 : Int32) (x0 &&& (2147483647 : Int32)))), .val (.int (x1 &&& (2147483647 : Int32))), .val (.ref b2), .val (.int (0 : Int32)), .val (.int (0 : Int32)), .val (.int (0 : Int32)), .val (.int (1 : Int32)), .val (.int (1 : Int32))] [(.int (0 : Int32)), (.int (0 : Int32))])) _
        refine Goes.to (fun _ k => XS.icmpNo X13.here hx rfl (hb hby at_105) rfl (teq (by decide : (0 : Int32) = (0 : Int32))).2 k) ?_
        show Goes p.tables e below (T13.setTop (mkF m 108 #[.val (.int x0), .val (.int x1), .val (.long x2), .second, .val (.long x3), .second, .val (.long x4), .second, .val (.long x5), .second, .val (.int (own_max (1 : Int32) (x0 &&& (2147483647 : Int32)))), .val (.int (x1 &&& (2147483647 : Int32))), .val (.ref b2), .val (.int (0 : Int32)), .val (.int (0 : Int32)), .val (.int (0 : Int32)), .val (.int (1 : Int32)), .val (.int (1 : Int32))] [])) _
        refine Goes.to (fun _ k => XS.iload X13.here hx rfl (hb hby at_108) rfl k) ?_
        show Goes p.tables e below (T13.setTop (mkF m 110 #[.val (.int x0), .val (.int x1), .val (.long x2), .second, .val (.long x3), .second, .val (.long x4), .second, .val (.long x5), .second, .val (.int (own_max (1 : Int32) (x0 &&& (2147483647 : Int32)))), .val (.int (x1 &&& (2147483647 : Int32))), .val (.ref b2), .val (.int (0 : Int32)), .val (.int (0 : Int32)), .val (.int (0 : Int32)), .val (.int (1 : Int32)), .val (.int (1 : Int32))] [(.int (0 : Int32))])) _
        refine Goes.to (fun _ k => XS.iload X13.here hx rfl (hb hby at_110) rfl k) ?_
        show Goes p.tables e below (T13.setTop (mkF m 112 #[.val (.int x0), .val (.int x1), .val (.long x2), .second, .val (.long x3), .second, .val (.long x4), .second, .val (.long x5), .second, .val (.int (own_max (1 : Int32) (x0 &&& (2147483647 : Int32)))), .val (.int (x1 &&& (2147483647 : Int32))), .val (.ref b2), .val (.int (0 : Int32)), .val (.int (0 : Int32)), .val (.int (0 : Int32)), .val (.int (1 : Int32)), .val (.int (1 : Int32))] [(.int (0 : Int32)), (.int (0 : Int32))])) _
        refine Goes.to (fun _ k => XS.icmpNo X13.here hx rfl (hb hby at_112) rfl (teq (by decide : (0 : Int32) = (0 : Int32))).2 k) ?_
        show Goes p.tables e below (T13.setTop (mkF m 115 #[.val (.int x0), .val (.int x1), .val (.long x2), .second, .val (.long x3), .second, .val (.long x4), .second, .val (.long x5), .second, .val (.int (own_max (1 : Int32) (x0 &&& (2147483647 : Int32)))), .val (.int (x1 &&& (2147483647 : Int32))), .val (.ref b2), .val (.int (0 : Int32)), .val (.int (0 : Int32)), .val (.int (0 : Int32)), .val (.int (1 : Int32)), .val (.int (1 : Int32))] [])) _
        refine Goes.to (fun _ k => XS.iload X13.here hx rfl (hb hby at_115) rfl k) ?_
        show Goes p.tables e below (T13.setTop (mkF m 117 #[.val (.int x0), .val (.int x1), .val (.long x2), .second, .val (.long x3), .second, .val (.long x4), .second, .val (.long x5), .second, .val (.int (own_max (1 : Int32) (x0 &&& (2147483647 : Int32)))), .val (.int (x1 &&& (2147483647 : Int32))), .val (.ref b2), .val (.int (0 : Int32)), .val (.int (0 : Int32)), .val (.int (0 : Int32)), .val (.int (1 : Int32)), .val (.int (1 : Int32))] [(.int (0 : Int32))])) _
        refine Goes.to (fun _ k => XS.ifNo X13.here hx rfl (hb hby at_117) rfl ((if0 _ _).trans (teq (by decide : (0 : Int32) = (0 : Int32))).2) k) ?_
        show Goes p.tables e below (T13.setTop (mkF m 120 #[.val (.int x0), .val (.int x1), .val (.long x2), .second, .val (.long x3), .second, .val (.long x4), .second, .val (.long x5), .second, .val (.int (own_max (1 : Int32) (x0 &&& (2147483647 : Int32)))), .val (.int (x1 &&& (2147483647 : Int32))), .val (.ref b2), .val (.int (0 : Int32)), .val (.int (0 : Int32)), .val (.int (0 : Int32)), .val (.int (1 : Int32)), .val (.int (1 : Int32))] [])) _
        refine Goes.to (fun _ k => XS.iload X13.here hx rfl (hb hby at_120) rfl k) ?_
        show Goes p.tables e below (T13.setTop (mkF m 122 #[.val (.int x0), .val (.int x1), .val (.long x2), .second, .val (.long x3), .second, .val (.long x4), .second, .val (.long x5), .second, .val (.int (own_max (1 : Int32) (x0 &&& (2147483647 : Int32)))), .val (.int (x1 &&& (2147483647 : Int32))), .val (.ref b2), .val (.int (0 : Int32)), .val (.int (0 : Int32)), .val (.int (0 : Int32)), .val (.int (1 : Int32)), .val (.int (1 : Int32))] [(.int (1 : Int32))])) _
        refine Goes.to (fun _ k => XS.ifNo X13.here hx rfl (hb hby at_122) rfl ((if0 _ _).trans (feq (by decide : ¬ ((1 : Int32) = (0 : Int32)))).1) k) ?_
        show Goes p.tables e below (T13.setTop (mkF m 125 #[.val (.int x0), .val (.int x1), .val (.long x2), .second, .val (.long x3), .second, .val (.long x4), .second, .val (.long x5), .second, .val (.int (own_max (1 : Int32) (x0 &&& (2147483647 : Int32)))), .val (.int (x1 &&& (2147483647 : Int32))), .val (.ref b2), .val (.int (0 : Int32)), .val (.int (0 : Int32)), .val (.int (0 : Int32)), .val (.int (1 : Int32)), .val (.int (1 : Int32))] [])) _
        refine Goes.to (fun _ k => XS.iconst X13.here hx rfl (hb hby at_125) k) ?_
        show Goes p.tables e below (T13.setTop (mkF m 126 #[.val (.int x0), .val (.int x1), .val (.long x2), .second, .val (.long x3), .second, .val (.long x4), .second, .val (.long x5), .second, .val (.int (own_max (1 : Int32) (x0 &&& (2147483647 : Int32)))), .val (.int (x1 &&& (2147483647 : Int32))), .val (.ref b2), .val (.int (0 : Int32)), .val (.int (0 : Int32)), .val (.int (0 : Int32)), .val (.int (1 : Int32)), .val (.int (1 : Int32))] [(.int (1 : Int32))])) _
        refine Goes.to (fun _ k => XS.goto X13.here hx rfl (pc0 := 126) (pc' := 130) rfl (hb hby at_126) (by decide) (by decide) k) ?_
        show Goes p.tables e below (T13.setTop (mkF m 130 #[.val (.int x0), .val (.int x1), .val (.long x2), .second, .val (.long x3), .second, .val (.long x4), .second, .val (.long x5), .second, .val (.int (own_max (1 : Int32) (x0 &&& (2147483647 : Int32)))), .val (.int (x1 &&& (2147483647 : Int32))), .val (.ref b2), .val (.int (0 : Int32)), .val (.int (0 : Int32)), .val (.int (0 : Int32)), .val (.int (1 : Int32)), .val (.int (1 : Int32))] [(.int (1 : Int32))])) _
        obtain ⟨fs, hr, hrun, hended, hW, hsame⟩ := X13.leave (v := some (.int (1 : Int32))) (fun h => by rw [Bd.returns] at h; cases h)
        have hv : (some (.int (1 : Int32)) : Option Value) = some (.int (1 : Int32)) := by
          rfl
        exact ⟨_, _, retN X13 hx (t := .boolean) Bd.returns (by simp) (hb hby at_130) hr, hrun, hended, _, _, rfl, ⟨hv, N13⟩, ⟨_, rfl⟩, hW, hsame.mono (by decide) (by decide)⟩
    · exfalso
      have k1 := rng32 x1
      have k2 : (x1 &&& (2147483647 : Int32)).toInt = x1.toInt % 2147483648 := c_mask x1 (2147483647 : Int32) 31 (by decide) (by decide)
      have k3 := rng32 (own_max (1 : Int32) (x0 &&& (2147483647 : Int32)))
      have k4 : (x1 &&& (2147483647 : Int32)).toInt < (own_max (1 : Int32) (x0 &&& (2147483647 : Int32))).toInt := Int32.lt_iff_toInt_lt.mp hc9
      have k5 : (1 : Int32).toInt = 1 := rfl
      have k6 := c_isub (own_max (1 : Int32) (x0 &&& (2147483647 : Int32))) (1 : Int32)
      have k7 := rng32 ((own_max (1 : Int32) (x0 &&& (2147483647 : Int32))) - (1 : Int32))
      have k8 : ¬ ((own_max (1 : Int32) (x0 &&& (2147483647 : Int32))) - (1 : Int32)).toInt < (own_max (1 : Int32) (x0 &&& (2147483647 : Int32))).toInt := fun z => hc12 (Int32.lt_iff_toInt_lt.mpr z)
      have km := own_max_toInt (1 : Int32) (x0 &&& (2147483647 : Int32))
      omega
  · rw [if_neg hc9] at hv8
    subst hv8
    refine Goes.tr st8 ?_
    show Goes p.tables e below (T8.setTop (mkF m 37 #[.val (.int x0), .val (.int x1), .val (.long x2), .second, .val (.long x3), .second, .val (.long x4), .second, .val (.long x5), .second, .val (.int (own_max (1 : Int32) (x0 &&& (2147483647 : Int32)))), .val (.int (x1 &&& (2147483647 : Int32))), .val (.ref b2), .unset, .unset, .unset, .unset, .unset] [(.int (1 : Int32))])) _
    refine Goes.to (fun _ k => XS.istore X8.here hx rfl (hb hby at_37) rfl (l' := #[.val (.int x0), .val (.int x1), .val (.long x2), .second, .val (.long x3), .second, .val (.long x4), .second, .val (.long x5), .second, .val (.int (own_max (1 : Int32) (x0 &&& (2147483647 : Int32)))), .val (.int (x1 &&& (2147483647 : Int32))), .val (.ref b2), .val (.int (1 : Int32)), .unset, .unset, .unset, .unset]) rfl k) ?_
    show Goes p.tables e below (T8.setTop (mkF m 39 #[.val (.int x0), .val (.int x1), .val (.long x2), .second, .val (.long x3), .second, .val (.long x4), .second, .val (.long x5), .second, .val (.int (own_max (1 : Int32) (x0 &&& (2147483647 : Int32)))), .val (.int (x1 &&& (2147483647 : Int32))), .val (.ref b2), .val (.int (1 : Int32)), .unset, .unset, .unset, .unset] [])) _
    refine Goes.to (fun _ k => XS.aload X8.here hx rfl (hb hby at_39) rfl rfl k) ?_
    show Goes p.tables e below (T8.setTop (mkF m 41 #[.val (.int x0), .val (.int x1), .val (.long x2), .second, .val (.long x3), .second, .val (.long x4), .second, .val (.long x5), .second, .val (.int (own_max (1 : Int32) (x0 &&& (2147483647 : Int32)))), .val (.int (x1 &&& (2147483647 : Int32))), .val (.ref b2), .val (.int (1 : Int32)), .unset, .unset, .unset, .unset] [(.ref b2)])) _
    refine Goes.to (fun _ k => XS.iload X8.here hx rfl (hb hby at_41) rfl k) ?_
    show Goes p.tables e below (T8.setTop (mkF m 43 #[.val (.int x0), .val (.int x1), .val (.long x2), .second, .val (.long x3), .second, .val (.long x4), .second, .val (.long x5), .second, .val (.int (own_max (1 : Int32) (x0 &&& (2147483647 : Int32)))), .val (.int (x1 &&& (2147483647 : Int32))), .val (.ref b2), .val (.int (1 : Int32)), .unset, .unset, .unset, .unset] [(.int (x1 &&& (2147483647 : Int32))), (.ref b2)])) _
    refine Goes.to (fun _ k => XS.lload X8.here hx rfl (hb hby at_43) rfl k) ?_
    show Goes p.tables e below (T8.setTop (mkF m 45 #[.val (.int x0), .val (.int x1), .val (.long x2), .second, .val (.long x3), .second, .val (.long x4), .second, .val (.long x5), .second, .val (.int (own_max (1 : Int32) (x0 &&& (2147483647 : Int32)))), .val (.int (x1 &&& (2147483647 : Int32))), .val (.ref b2), .val (.int (1 : Int32)), .unset, .unset, .unset, .unset] [(.long x4), (.int (x1 &&& (2147483647 : Int32))), (.ref b2)])) _
    refine Goes.to (fun _ k => XS.lload X8.here hx rfl (hb hby at_45) rfl k) ?_
    show Goes p.tables e below (T8.setTop (mkF m 47 #[.val (.int x0), .val (.int x1), .val (.long x2), .second, .val (.long x3), .second, .val (.long x4), .second, .val (.long x5), .second, .val (.int (own_max (1 : Int32) (x0 &&& (2147483647 : Int32)))), .val (.int (x1 &&& (2147483647 : Int32))), .val (.ref b2), .val (.int (1 : Int32)), .unset, .unset, .unset, .unset] [(.long x5), (.long x4), (.int (x1 &&& (2147483647 : Int32))), (.ref b2)])) _
    obtain ⟨cq15, kq15, q15a, q15b, q15c⟩ := isOf hZ hp8_0 hp5_1
    obtain ⟨_, _, ⟨T15, L15, k15, n15⟩, -, X15, ⟨Lc15, hQ15, l15, y15, z15⟩, st15⟩ := X8.virtualBack hx (y := (⟨"com/example/wee_table/weetable/model/GcRule$MaxVersions", "expires", "(IJJ)Z"⟩ : MethodName)) (z := (⟨"com/example/wee_table/weetable/model/GcRule$MaxVersions", "expires", "(IJJ)Z"⟩ : MethodName)) hown (mvT hZ (hw _ (List.mem_of_getElem? (i := 21) rfl))) (mvT hZ (hw _ (List.mem_of_getElem? (i := 22) rfl))) (notFace_of_selects (args := #[]) (mvT hZ (hw _ (List.mem_of_getElem? (i := 24) rfl)))) (mvT hZ (hw _ (List.mem_of_getElem? (i := 24) rfl))) (mvT hZ (hw _ (List.mem_of_getElem? (i := 23) rfl))) (by decide) (backOf (W := 0) (own_rm5 l Z a0 hw [] b2 (x1 &&& (2147483647 : Int32)) x4 x5 (own_max (1 : Int32) (x0 &&& (2147483647 : Int32))) T5.heap n0 Zk5 hp5_2) hZ (hw _ (List.mem_of_getElem? (i := 25) rfl)) (hw _ (List.mem_of_getElem? (i := 7) rfl)) (by decide) (by decide)) q15a q15c (g := (mkF m 47 #[.val (.int x0), .val (.int x1), .val (.long x2), .second, .val (.long x3), .second, .val (.long x4), .second, .val (.long x5), .second, .val (.int (own_max (1 : Int32) (x0 &&& (2147483647 : Int32)))), .val (.int (x1 &&& (2147483647 : Int32))), .val (.ref b2), .val (.int (1 : Int32)), .unset, .unset, .unset, .unset] [(.long x5), (.long x4), (.int (x1 &&& (2147483647 : Int32))), (.ref b2)])) rfl (by rw [hml]; rfl) (Steps.refl _) (argsL := [(.int (x1 &&& (2147483647 : Int32))), (.long x4), (.long x5)]) (rest := []) (lenOf own_pd_pIJJqZ rfl) rfl (by show 2 * 0 + _ ≤ _; exact Nat.le_of_eq rfl) (hb hby at_47) (fun _ _ => ⟨rfl, hp8_0, (by decide : 1 + 0 ≤ _), (by decide : 1 + 0 ≤ _)⟩)
    dsimp only [Pt.U, Pt.locs, Pt.cells, Pt.slots] at X15 l15 y15 z15 st15 hQ15
    subst l15 y15 z15
    obtain ⟨hv15, Nq15, hp15_0⟩ := hQ15
    have N15 := Fr.app N8 Nq15
    rw [if_neg hc9] at hv15
    subst hv15
    refine Goes.tr st15 ?_
    show Goes p.tables e below (T15.setTop (mkF m 50 #[.val (.int x0), .val (.int x1), .val (.long x2), .second, .val (.long x3), .second, .val (.long x4), .second, .val (.long x5), .second, .val (.int (own_max (1 : Int32) (x0 &&& (2147483647 : Int32)))), .val (.int (x1 &&& (2147483647 : Int32))), .val (.ref b2), .val (.int (1 : Int32)), .unset, .unset, .unset, .unset] [(.int (1 : Int32))])) _
    refine Goes.to (fun _ k => XS.istore X15.here hx rfl (hb hby at_50) rfl (l' := #[.val (.int x0), .val (.int x1), .val (.long x2), .second, .val (.long x3), .second, .val (.long x4), .second, .val (.long x5), .second, .val (.int (own_max (1 : Int32) (x0 &&& (2147483647 : Int32)))), .val (.int (x1 &&& (2147483647 : Int32))), .val (.ref b2), .val (.int (1 : Int32)), .val (.int (1 : Int32)), .unset, .unset, .unset]) rfl k) ?_
    show Goes p.tables e below (T15.setTop (mkF m 52 #[.val (.int x0), .val (.int x1), .val (.long x2), .second, .val (.long x3), .second, .val (.long x4), .second, .val (.long x5), .second, .val (.int (own_max (1 : Int32) (x0 &&& (2147483647 : Int32)))), .val (.int (x1 &&& (2147483647 : Int32))), .val (.ref b2), .val (.int (1 : Int32)), .val (.int (1 : Int32)), .unset, .unset, .unset] [])) _
    refine Goes.to (fun _ k => XS.aload X15.here hx rfl (hb hby at_52) rfl rfl k) ?_
    show Goes p.tables e below (T15.setTop (mkF m 54 #[.val (.int x0), .val (.int x1), .val (.long x2), .second, .val (.long x3), .second, .val (.long x4), .second, .val (.long x5), .second, .val (.int (own_max (1 : Int32) (x0 &&& (2147483647 : Int32)))), .val (.int (x1 &&& (2147483647 : Int32))), .val (.ref b2), .val (.int (1 : Int32)), .val (.int (1 : Int32)), .unset, .unset, .unset] [(.ref b2)])) _
    refine Goes.to (fun _ k => XS.iload X15.here hx rfl (hb hby at_54) rfl k) ?_
    show Goes p.tables e below (T15.setTop (mkF m 56 #[.val (.int x0), .val (.int x1), .val (.long x2), .second, .val (.long x3), .second, .val (.long x4), .second, .val (.long x5), .second, .val (.int (own_max (1 : Int32) (x0 &&& (2147483647 : Int32)))), .val (.int (x1 &&& (2147483647 : Int32))), .val (.ref b2), .val (.int (1 : Int32)), .val (.int (1 : Int32)), .unset, .unset, .unset] [(.int (own_max (1 : Int32) (x0 &&& (2147483647 : Int32)))), (.ref b2)])) _
    refine Goes.to (fun _ k => XS.iconst X15.here hx rfl (hb hby at_56) k) ?_
    show Goes p.tables e below (T15.setTop (mkF m 57 #[.val (.int x0), .val (.int x1), .val (.long x2), .second, .val (.long x3), .second, .val (.long x4), .second, .val (.long x5), .second, .val (.int (own_max (1 : Int32) (x0 &&& (2147483647 : Int32)))), .val (.int (x1 &&& (2147483647 : Int32))), .val (.ref b2), .val (.int (1 : Int32)), .val (.int (1 : Int32)), .unset, .unset, .unset] [(.int (1 : Int32)), (.int (own_max (1 : Int32) (x0 &&& (2147483647 : Int32)))), (.ref b2)])) _
    refine Goes.to (fun _ k => XS.isub X15.here hx rfl (hb hby at_57) rfl k) ?_
    show Goes p.tables e below (T15.setTop (mkF m 58 #[.val (.int x0), .val (.int x1), .val (.long x2), .second, .val (.long x3), .second, .val (.long x4), .second, .val (.long x5), .second, .val (.int (own_max (1 : Int32) (x0 &&& (2147483647 : Int32)))), .val (.int (x1 &&& (2147483647 : Int32))), .val (.ref b2), .val (.int (1 : Int32)), .val (.int (1 : Int32)), .unset, .unset, .unset] [(.int ((own_max (1 : Int32) (x0 &&& (2147483647 : Int32))) - (1 : Int32))), (.ref b2)])) _
    refine Goes.to (fun _ k => XS.lloadN X15.here hx rfl (hb hby at_58) rfl k) ?_
    show Goes p.tables e below (T15.setTop (mkF m 59 #[.val (.int x0), .val (.int x1), .val (.long x2), .second, .val (.long x3), .second, .val (.long x4), .second, .val (.long x5), .second, .val (.int (own_max (1 : Int32) (x0 &&& (2147483647 : Int32)))), .val (.int (x1 &&& (2147483647 : Int32))), .val (.ref b2), .val (.int (1 : Int32)), .val (.int (1 : Int32)), .unset, .unset, .unset] [(.long x2), (.int ((own_max (1 : Int32) (x0 &&& (2147483647 : Int32))) - (1 : Int32))), (.ref b2)])) _
    refine Goes.to (fun _ k => XS.lload X15.here hx rfl (hb hby at_59) rfl k) ?_
    show Goes p.tables e below (T15.setTop (mkF m 61 #[.val (.int x0), .val (.int x1), .val (.long x2), .second, .val (.long x3), .second, .val (.long x4), .second, .val (.long x5), .second, .val (.int (own_max (1 : Int32) (x0 &&& (2147483647 : Int32)))), .val (.int (x1 &&& (2147483647 : Int32))), .val (.ref b2), .val (.int (1 : Int32)), .val (.int (1 : Int32)), .unset, .unset, .unset] [(.long x3), (.long x2), (.int ((own_max (1 : Int32) (x0 &&& (2147483647 : Int32))) - (1 : Int32))), (.ref b2)])) _
    obtain ⟨cq16, kq16, q16a, q16b, q16c⟩ := isOf hZ hp15_0 hp5_1
    obtain ⟨_, _, ⟨T16, L16, k16, n16⟩, -, X16, ⟨Lc16, hQ16, l16, y16, z16⟩, st16⟩ := X15.virtualBack hx (y := (⟨"com/example/wee_table/weetable/model/GcRule$MaxVersions", "expires", "(IJJ)Z"⟩ : MethodName)) (z := (⟨"com/example/wee_table/weetable/model/GcRule$MaxVersions", "expires", "(IJJ)Z"⟩ : MethodName)) hown (mvT hZ (hw _ (List.mem_of_getElem? (i := 21) rfl))) (mvT hZ (hw _ (List.mem_of_getElem? (i := 22) rfl))) (notFace_of_selects (args := #[]) (mvT hZ (hw _ (List.mem_of_getElem? (i := 24) rfl)))) (mvT hZ (hw _ (List.mem_of_getElem? (i := 24) rfl))) (mvT hZ (hw _ (List.mem_of_getElem? (i := 23) rfl))) (by decide) (backOf (W := 0) (own_rm5 l Z a0 hw [] b2 ((own_max (1 : Int32) (x0 &&& (2147483647 : Int32))) - (1 : Int32)) x2 x3 (own_max (1 : Int32) (x0 &&& (2147483647 : Int32))) T5.heap n0 Zk5 hp5_2) hZ (hw _ (List.mem_of_getElem? (i := 25) rfl)) (hw _ (List.mem_of_getElem? (i := 7) rfl)) (by decide) (by decide)) q16a q16c (g := (mkF m 61 #[.val (.int x0), .val (.int x1), .val (.long x2), .second, .val (.long x3), .second, .val (.long x4), .second, .val (.long x5), .second, .val (.int (own_max (1 : Int32) (x0 &&& (2147483647 : Int32)))), .val (.int (x1 &&& (2147483647 : Int32))), .val (.ref b2), .val (.int (1 : Int32)), .val (.int (1 : Int32)), .unset, .unset, .unset] [(.long x3), (.long x2), (.int ((own_max (1 : Int32) (x0 &&& (2147483647 : Int32))) - (1 : Int32))), (.ref b2)])) rfl (by rw [hml]; rfl) (Steps.refl _) (argsL := [(.int ((own_max (1 : Int32) (x0 &&& (2147483647 : Int32))) - (1 : Int32))), (.long x2), (.long x3)]) (rest := []) (lenOf own_pd_pIJJqZ rfl) rfl (by show 2 * 0 + _ ≤ _; exact Nat.le_of_eq rfl) (hb hby at_61) (fun _ _ => ⟨rfl, hp15_0, (by decide : 1 + 0 ≤ _), (by decide : 1 + 0 ≤ _)⟩)
    dsimp only [Pt.U, Pt.locs, Pt.cells, Pt.slots] at X16 l16 y16 z16 st16 hQ16
    subst l16 y16 z16
    obtain ⟨hv16, Nq16, hp16_0⟩ := hQ16
    have N16 := Fr.app N15 Nq16
    by_cases hc17 : ((own_max (1 : Int32) (x0 &&& (2147483647 : Int32))) - (1 : Int32)) < (own_max (1 : Int32) (x0 &&& (2147483647 : Int32)))
    · rw [if_pos hc17] at hv16
      subst hv16
      refine Goes.tr st16 ?_
      show Goes p.tables e below (T16.setTop (mkF m 64 #[.val (.int x0), .val (.int x1), .val (.long x2), .second, .val (.long x3), .second, .val (.long x4), .second, .val (.long x5), .second, .val (.int (own_max (1 : Int32) (x0 &&& (2147483647 : Int32)))), .val (.int (x1 &&& (2147483647 : Int32))), .val (.ref b2), .val (.int (1 : Int32)), .val (.int (1 : Int32)), .unset, .unset, .unset] [(.int (0 : Int32))])) _
      refine Goes.to (fun _ k => XS.istore X16.here hx rfl (hb hby at_64) rfl (l' := #[.val (.int x0), .val (.int x1), .val (.long x2), .second, .val (.long x3), .second, .val (.long x4), .second, .val (.long x5), .second, .val (.int (own_max (1 : Int32) (x0 &&& (2147483647 : Int32)))), .val (.int (x1 &&& (2147483647 : Int32))), .val (.ref b2), .val (.int (1 : Int32)), .val (.int (1 : Int32)), .val (.int (0 : Int32)), .unset, .unset]) rfl k) ?_
      show Goes p.tables e below (T16.setTop (mkF m 66 #[.val (.int x0), .val (.int x1), .val (.long x2), .second, .val (.long x3), .second, .val (.long x4), .second, .val (.long x5), .second, .val (.int (own_max (1 : Int32) (x0 &&& (2147483647 : Int32)))), .val (.int (x1 &&& (2147483647 : Int32))), .val (.ref b2), .val (.int (1 : Int32)), .val (.int (1 : Int32)), .val (.int (0 : Int32)), .unset, .unset] [])) _
      refine Goes.to (fun _ k => XS.aload X16.here hx rfl (hb hby at_66) rfl rfl k) ?_
      show Goes p.tables e below (T16.setTop (mkF m 68 #[.val (.int x0), .val (.int x1), .val (.long x2), .second, .val (.long x3), .second, .val (.long x4), .second, .val (.long x5), .second, .val (.int (own_max (1 : Int32) (x0 &&& (2147483647 : Int32)))), .val (.int (x1 &&& (2147483647 : Int32))), .val (.ref b2), .val (.int (1 : Int32)), .val (.int (1 : Int32)), .val (.int (0 : Int32)), .unset, .unset] [(.ref b2)])) _
      refine Goes.to (fun _ k => XS.iload X16.here hx rfl (hb hby at_68) rfl k) ?_
      show Goes p.tables e below (T16.setTop (mkF m 70 #[.val (.int x0), .val (.int x1), .val (.long x2), .second, .val (.long x3), .second, .val (.long x4), .second, .val (.long x5), .second, .val (.int (own_max (1 : Int32) (x0 &&& (2147483647 : Int32)))), .val (.int (x1 &&& (2147483647 : Int32))), .val (.ref b2), .val (.int (1 : Int32)), .val (.int (1 : Int32)), .val (.int (0 : Int32)), .unset, .unset] [(.int (own_max (1 : Int32) (x0 &&& (2147483647 : Int32)))), (.ref b2)])) _
      refine Goes.to (fun _ k => XS.lload X16.here hx rfl (hb hby at_70) rfl k) ?_
      show Goes p.tables e below (T16.setTop (mkF m 72 #[.val (.int x0), .val (.int x1), .val (.long x2), .second, .val (.long x3), .second, .val (.long x4), .second, .val (.long x5), .second, .val (.int (own_max (1 : Int32) (x0 &&& (2147483647 : Int32)))), .val (.int (x1 &&& (2147483647 : Int32))), .val (.ref b2), .val (.int (1 : Int32)), .val (.int (1 : Int32)), .val (.int (0 : Int32)), .unset, .unset] [(.long x4), (.int (own_max (1 : Int32) (x0 &&& (2147483647 : Int32)))), (.ref b2)])) _
      refine Goes.to (fun _ k => XS.lload X16.here hx rfl (hb hby at_72) rfl k) ?_
      show Goes p.tables e below (T16.setTop (mkF m 74 #[.val (.int x0), .val (.int x1), .val (.long x2), .second, .val (.long x3), .second, .val (.long x4), .second, .val (.long x5), .second, .val (.int (own_max (1 : Int32) (x0 &&& (2147483647 : Int32)))), .val (.int (x1 &&& (2147483647 : Int32))), .val (.ref b2), .val (.int (1 : Int32)), .val (.int (1 : Int32)), .val (.int (0 : Int32)), .unset, .unset] [(.long x5), (.long x4), (.int (own_max (1 : Int32) (x0 &&& (2147483647 : Int32)))), (.ref b2)])) _
      obtain ⟨cq18, kq18, q18a, q18b, q18c⟩ := isOf hZ hp16_0 hp5_1
      obtain ⟨_, _, ⟨T18, L18, k18, n18⟩, -, X18, ⟨Lc18, hQ18, l18, y18, z18⟩, st18⟩ := X16.virtualBack hx (y := (⟨"com/example/wee_table/weetable/model/GcRule$MaxVersions", "expires", "(IJJ)Z"⟩ : MethodName)) (z := (⟨"com/example/wee_table/weetable/model/GcRule$MaxVersions", "expires", "(IJJ)Z"⟩ : MethodName)) hown (mvT hZ (hw _ (List.mem_of_getElem? (i := 21) rfl))) (mvT hZ (hw _ (List.mem_of_getElem? (i := 22) rfl))) (notFace_of_selects (args := #[]) (mvT hZ (hw _ (List.mem_of_getElem? (i := 24) rfl)))) (mvT hZ (hw _ (List.mem_of_getElem? (i := 24) rfl))) (mvT hZ (hw _ (List.mem_of_getElem? (i := 23) rfl))) (by decide) (backOf (W := 0) (own_rm5 l Z a0 hw [] b2 (own_max (1 : Int32) (x0 &&& (2147483647 : Int32))) x4 x5 (own_max (1 : Int32) (x0 &&& (2147483647 : Int32))) T5.heap n0 Zk5 hp5_2) hZ (hw _ (List.mem_of_getElem? (i := 25) rfl)) (hw _ (List.mem_of_getElem? (i := 7) rfl)) (by decide) (by decide)) q18a q18c (g := (mkF m 74 #[.val (.int x0), .val (.int x1), .val (.long x2), .second, .val (.long x3), .second, .val (.long x4), .second, .val (.long x5), .second, .val (.int (own_max (1 : Int32) (x0 &&& (2147483647 : Int32)))), .val (.int (x1 &&& (2147483647 : Int32))), .val (.ref b2), .val (.int (1 : Int32)), .val (.int (1 : Int32)), .val (.int (0 : Int32)), .unset, .unset] [(.long x5), (.long x4), (.int (own_max (1 : Int32) (x0 &&& (2147483647 : Int32)))), (.ref b2)])) rfl (by rw [hml]; rfl) (Steps.refl _) (argsL := [(.int (own_max (1 : Int32) (x0 &&& (2147483647 : Int32)))), (.long x4), (.long x5)]) (rest := []) (lenOf own_pd_pIJJqZ rfl) rfl (by show 2 * 0 + _ ≤ _; exact Nat.le_of_eq rfl) (hb hby at_74) (fun _ _ => ⟨rfl, hp16_0, (by decide : 1 + 0 ≤ _), (by decide : 1 + 0 ≤ _)⟩)
      dsimp only [Pt.U, Pt.locs, Pt.cells, Pt.slots] at X18 l18 y18 z18 st18 hQ18
      subst l18 y18 z18
      obtain ⟨hv18, Nq18, hp18_0⟩ := hQ18
      have N18 := Fr.app N16 Nq18
      by_cases hc19 : (own_max (1 : Int32) (x0 &&& (2147483647 : Int32))) < (own_max (1 : Int32) (x0 &&& (2147483647 : Int32)))
      · exfalso
        have k1 := rng32 x1
        have k2 : (x1 &&& (2147483647 : Int32)).toInt = x1.toInt % 2147483648 := c_mask x1 (2147483647 : Int32) 31 (by decide) (by decide)
        have k3 := rng32 (own_max (1 : Int32) (x0 &&& (2147483647 : Int32)))
        have k4 : ¬ (x1 &&& (2147483647 : Int32)).toInt < (own_max (1 : Int32) (x0 &&& (2147483647 : Int32))).toInt := fun z => hc9 (Int32.lt_iff_toInt_lt.mpr z)
        have k5 : (1 : Int32).toInt = 1 := rfl
        have k6 := c_isub (own_max (1 : Int32) (x0 &&& (2147483647 : Int32))) (1 : Int32)
        have k7 := rng32 ((own_max (1 : Int32) (x0 &&& (2147483647 : Int32))) - (1 : Int32))
        have k8 : ((own_max (1 : Int32) (x0 &&& (2147483647 : Int32))) - (1 : Int32)).toInt < (own_max (1 : Int32) (x0 &&& (2147483647 : Int32))).toInt := Int32.lt_iff_toInt_lt.mp hc17
        have k9 : (own_max (1 : Int32) (x0 &&& (2147483647 : Int32))).toInt < (own_max (1 : Int32) (x0 &&& (2147483647 : Int32))).toInt := Int32.lt_iff_toInt_lt.mp hc19
        have km := own_max_toInt (1 : Int32) (x0 &&& (2147483647 : Int32))
        omega
      · rw [if_neg hc19] at hv18
        subst hv18
        refine Goes.tr st18 ?_
        show Goes p.tables e below (T18.setTop (mkF m 77 #[.val (.int x0), .val (.int x1), .val (.long x2), .second, .val (.long x3), .second, .val (.long x4), .second, .val (.long x5), .second, .val (.int (own_max (1 : Int32) (x0 &&& (2147483647 : Int32)))), .val (.int (x1 &&& (2147483647 : Int32))), .val (.ref b2), .val (.int (1 : Int32)), .val (.int (1 : Int32)), .val (.int (0 : Int32)), .unset, .unset] [(.int (1 : Int32))])) _
        refine Goes.to (fun _ k => XS.istore X18.here hx rfl (hb hby at_77) rfl (l' := #[.val (.int x0), .val (.int x1), .val (.long x2), .second, .val (.long x3), .second, .val (.long x4), .second, .val (.long x5), .second, .val (.int (own_max (1 : Int32) (x0 &&& (2147483647 : Int32)))), .val (.int (x1 &&& (2147483647 : Int32))), .val (.ref b2), .val (.int (1 : Int32)), .val (.int (1 : Int32)), .val (.int (0 : Int32)), .val (.int (1 : Int32)), .unset]) rfl k) ?_
        show Goes p.tables e below (T18.setTop (mkF m 79 #[.val (.int x0), .val (.int x1), .val (.long x2), .second, .val (.long x3), .second, .val (.long x4), .second, .val (.long x5), .second, .val (.int (own_max (1 : Int32) (x0 &&& (2147483647 : Int32)))), .val (.int (x1 &&& (2147483647 : Int32))), .val (.ref b2), .val (.int (1 : Int32)), .val (.int (1 : Int32)), .val (.int (0 : Int32)), .val (.int (1 : Int32)), .unset] [])) _
        refine Goes.to (fun _ k => XS.iload X18.here hx rfl (hb hby at_79) rfl k) ?_
        show Goes p.tables e below (T18.setTop (mkF m 81 #[.val (.int x0), .val (.int x1), .val (.long x2), .second, .val (.long x3), .second, .val (.long x4), .second, .val (.long x5), .second, .val (.int (own_max (1 : Int32) (x0 &&& (2147483647 : Int32)))), .val (.int (x1 &&& (2147483647 : Int32))), .val (.ref b2), .val (.int (1 : Int32)), .val (.int (1 : Int32)), .val (.int (0 : Int32)), .val (.int (1 : Int32)), .unset] [(.int (x1 &&& (2147483647 : Int32)))])) _
        refine Goes.to (fun _ k => XS.iload X18.here hx rfl (hb hby at_81) rfl k) ?_
        show Goes p.tables e below (T18.setTop (mkF m 83 #[.val (.int x0), .val (.int x1), .val (.long x2), .second, .val (.long x3), .second, .val (.long x4), .second, .val (.long x5), .second, .val (.int (own_max (1 : Int32) (x0 &&& (2147483647 : Int32)))), .val (.int (x1 &&& (2147483647 : Int32))), .val (.ref b2), .val (.int (1 : Int32)), .val (.int (1 : Int32)), .val (.int (0 : Int32)), .val (.int (1 : Int32)), .unset] [(.int (own_max (1 : Int32) (x0 &&& (2147483647 : Int32)))), (.int (x1 &&& (2147483647 : Int32)))])) _
        refine Goes.to (fun _ k => XS.icmpYes X18.here hx rfl (pc0 := 83) (pc' := 90) rfl (hb hby at_83) rfl (flt hc9).2.1 (by decide) (by decide) k) ?_
        show Goes p.tables e below (T18.setTop (mkF m 90 #[.val (.int x0), .val (.int x1), .val (.long x2), .second, .val (.long x3), .second, .val (.long x4), .second, .val (.long x5), .second, .val (.int (own_max (1 : Int32) (x0 &&& (2147483647 : Int32)))), .val (.int (x1 &&& (2147483647 : Int32))), .val (.ref b2), .val (.int (1 : Int32)), .val (.int (1 : Int32)), .val (.int (0 : Int32)), .val (.int (1 : Int32)), .unset] [])) _
        refine Goes.to (fun _ k => XS.iconst X18.here hx rfl (hb hby at_90) k) ?_
        show Goes p.tables e below (T18.setTop (mkF m 91 #[.val (.int x0), .val (.int x1), .val (.long x2), .second, .val (.long x3), .second, .val (.long x4), .second, .val (.long x5), .second, .val (.int (own_max (1 : Int32) (x0 &&& (2147483647 : Int32)))), .val (.int (x1 &&& (2147483647 : Int32))), .val (.ref b2), .val (.int (1 : Int32)), .val (.int (1 : Int32)), .val (.int (0 : Int32)), .val (.int (1 : Int32)), .unset] [(.int (0 : Int32))])) _
        refine Goes.to (fun _ k => XS.istore X18.here hx rfl (hb hby at_91) rfl (l' := #[.val (.int x0), .val (.int x1), .val (.long x2), .second, .val (.long x3), .second, .val (.long x4), .second, .val (.long x5), .second, .val (.int (own_max (1 : Int32) (x0 &&& (2147483647 : Int32)))), .val (.int (x1 &&& (2147483647 : Int32))), .val (.ref b2), .val (.int (1 : Int32)), .val (.int (1 : Int32)), .val (.int (0 : Int32)), .val (.int (1 : Int32)), .val (.int (0 : Int32))]) rfl k) ?_
        show Goes p.tables e below (T18.setTop (mkF m 93 #[.val (.int x0), .val (.int x1), .val (.long x2), .second, .val (.long x3), .second, .val (.long x4), .second, .val (.long x5), .second, .val (.int (own_max (1 : Int32) (x0 &&& (2147483647 : Int32)))), .val (.int (x1 &&& (2147483647 : Int32))), .val (.ref b2), .val (.int (1 : Int32)), .val (.int (1 : Int32)), .val (.int (0 : Int32)), .val (.int (1 : Int32)), .val (.int (0 : Int32))] [])) _
        refine Goes.to (fun _ k => XS.iload X18.here hx rfl (hb hby at_93) rfl k) ?_
        show Goes p.tables e below (T18.setTop (mkF m 95 #[.val (.int x0), .val (.int x1), .val (.long x2), .second, .val (.long x3), .second, .val (.long x4), .second, .val (.long x5), .second, .val (.int (own_max (1 : Int32) (x0 &&& (2147483647 : Int32)))), .val (.int (x1 &&& (2147483647 : Int32))), .val (.ref b2), .val (.int (1 : Int32)), .val (.int (1 : Int32)), .val (.int (0 : Int32)), .val (.int (1 : Int32)), .val (.int (0 : Int32))] [(.int (1 : Int32))])) _
        refine Goes.to (fun _ k => XS.iload X18.here hx rfl (hb hby at_95) rfl k) ?_
        show Goes p.tables e below (T18.setTop (mkF m 97 #[.val (.int x0), .val (.int x1), .val (.long x2), .second, .val (.long x3), .second, .val (.long x4), .second, .val (.long x5), .second, .val (.int (own_max (1 : Int32) (x0 &&& (2147483647 : Int32)))), .val (.int (x1 &&& (2147483647 : Int32))), .val (.ref b2), .val (.int (1 : Int32)), .val (.int (1 : Int32)), .val (.int (0 : Int32)), .val (.int (1 : Int32)), .val (.int (0 : Int32))] [(.int (0 : Int32)), (.int (1 : Int32))])) _
        refine Goes.to (fun _ k => XS.ifNo X18.here hx rfl (hb hby at_97) rfl ((if0 _ _).trans (teq (by decide : (0 : Int32) = (0 : Int32))).2) k) ?_
        show Goes p.tables e below (T18.setTop (mkF m 100 #[.val (.int x0), .val (.int x1), .val (.long x2), .second, .val (.long x3), .second, .val (.long x4), .second, .val (.long x5), .second, .val (.int (own_max (1 : Int32) (x0 &&& (2147483647 : Int32)))), .val (.int (x1 &&& (2147483647 : Int32))), .val (.ref b2), .val (.int (1 : Int32)), .val (.int (1 : Int32)), .val (.int (0 : Int32)), .val (.int (1 : Int32)), .val (.int (0 : Int32))] [(.int (1 : Int32))])) _
        refine Goes.to (fun _ k => XS.iconst X18.here hx rfl (hb hby at_100) k) ?_
        show Goes p.tables e below (T18.setTop (mkF m 101 #[.val (.int x0), .val (.int x1), .val (.long x2), .second, .val (.long x3), .second, .val (.long x4), .second, .val (.long x5), .second, .val (.int (own_max (1 : Int32) (x0 &&& (2147483647 : Int32)))), .val (.int (x1 &&& (2147483647 : Int32))), .val (.ref b2), .val (.int (1 : Int32)), .val (.int (1 : Int32)), .val (.int (0 : Int32)), .val (.int (1 : Int32)), .val (.int (0 : Int32))] [(.int (1 : Int32)), (.int (1 : Int32))])) _
        refine Goes.to (fun _ k => XS.goto X18.here hx rfl (pc0 := 101) (pc' := 105) rfl (hb hby at_101) (by decide) (by decide) k) ?_
        show Goes p.tables e below (T18.setTop (mkF m 105 #[.val (.int x0), .val (.int x1), .val (.long x2), .second, .val (.long x3), .second, .val (.long x4), .second, .val (.long x5), .second, .val (.int (own_max (1 : Int32) (x0 &&& (2147483647 : Int32)))), .val (.int (x1 &&& (2147483647 : Int32))), .val (.ref b2), .val (.int (1 : Int32)), .val (.int (1 : Int32)), .val (.int (0 : Int32)), .val (.int (1 : Int32)), .val (.int (0 : Int32))] [(.int (1 : Int32)), (.int (1 : Int32))])) _
        refine Goes.to (fun _ k => XS.icmpNo X18.here hx rfl (hb hby at_105) rfl (teq (by decide : (1 : Int32) = (1 : Int32))).2 k) ?_
        show Goes p.tables e below (T18.setTop (mkF m 108 #[.val (.int x0), .val (.int x1), .val (.long x2), .second, .val (.long x3), .second, .val (.long x4), .second, .val (.long x5), .second, .val (.int (own_max (1 : Int32) (x0 &&& (2147483647 : Int32)))), .val (.int (x1 &&& (2147483647 : Int32))), .val (.ref b2), .val (.int (1 : Int32)), .val (.int (1 : Int32)), .val (.int (0 : Int32)), .val (.int (1 : Int32)), .val (.int (0 : Int32))] [])) _
        refine Goes.to (fun _ k => XS.iload X18.here hx rfl (hb hby at_108) rfl k) ?_
        show Goes p.tables e below (T18.setTop (mkF m 110 #[.val (.int x0), .val (.int x1), .val (.long x2), .second, .val (.long x3), .second, .val (.long x4), .second, .val (.long x5), .second, .val (.int (own_max (1 : Int32) (x0 &&& (2147483647 : Int32)))), .val (.int (x1 &&& (2147483647 : Int32))), .val (.ref b2), .val (.int (1 : Int32)), .val (.int (1 : Int32)), .val (.int (0 : Int32)), .val (.int (1 : Int32)), .val (.int (0 : Int32))] [(.int (1 : Int32))])) _
        refine Goes.to (fun _ k => XS.iload X18.here hx rfl (hb hby at_110) rfl k) ?_
        show Goes p.tables e below (T18.setTop (mkF m 112 #[.val (.int x0), .val (.int x1), .val (.long x2), .second, .val (.long x3), .second, .val (.long x4), .second, .val (.long x5), .second, .val (.int (own_max (1 : Int32) (x0 &&& (2147483647 : Int32)))), .val (.int (x1 &&& (2147483647 : Int32))), .val (.ref b2), .val (.int (1 : Int32)), .val (.int (1 : Int32)), .val (.int (0 : Int32)), .val (.int (1 : Int32)), .val (.int (0 : Int32))] [(.int (1 : Int32)), (.int (1 : Int32))])) _
        refine Goes.to (fun _ k => XS.icmpNo X18.here hx rfl (hb hby at_112) rfl (teq (by decide : (1 : Int32) = (1 : Int32))).2 k) ?_
        show Goes p.tables e below (T18.setTop (mkF m 115 #[.val (.int x0), .val (.int x1), .val (.long x2), .second, .val (.long x3), .second, .val (.long x4), .second, .val (.long x5), .second, .val (.int (own_max (1 : Int32) (x0 &&& (2147483647 : Int32)))), .val (.int (x1 &&& (2147483647 : Int32))), .val (.ref b2), .val (.int (1 : Int32)), .val (.int (1 : Int32)), .val (.int (0 : Int32)), .val (.int (1 : Int32)), .val (.int (0 : Int32))] [])) _
        refine Goes.to (fun _ k => XS.iload X18.here hx rfl (hb hby at_115) rfl k) ?_
        show Goes p.tables e below (T18.setTop (mkF m 117 #[.val (.int x0), .val (.int x1), .val (.long x2), .second, .val (.long x3), .second, .val (.long x4), .second, .val (.long x5), .second, .val (.int (own_max (1 : Int32) (x0 &&& (2147483647 : Int32)))), .val (.int (x1 &&& (2147483647 : Int32))), .val (.ref b2), .val (.int (1 : Int32)), .val (.int (1 : Int32)), .val (.int (0 : Int32)), .val (.int (1 : Int32)), .val (.int (0 : Int32))] [(.int (0 : Int32))])) _
        refine Goes.to (fun _ k => XS.ifNo X18.here hx rfl (hb hby at_117) rfl ((if0 _ _).trans (teq (by decide : (0 : Int32) = (0 : Int32))).2) k) ?_
        show Goes p.tables e below (T18.setTop (mkF m 120 #[.val (.int x0), .val (.int x1), .val (.long x2), .second, .val (.long x3), .second, .val (.long x4), .second, .val (.long x5), .second, .val (.int (own_max (1 : Int32) (x0 &&& (2147483647 : Int32)))), .val (.int (x1 &&& (2147483647 : Int32))), .val (.ref b2), .val (.int (1 : Int32)), .val (.int (1 : Int32)), .val (.int (0 : Int32)), .val (.int (1 : Int32)), .val (.int (0 : Int32))] [])) _
        refine Goes.to (fun _ k => XS.iload X18.here hx rfl (hb hby at_120) rfl k) ?_
        show Goes p.tables e below (T18.setTop (mkF m 122 #[.val (.int x0), .val (.int x1), .val (.long x2), .second, .val (.long x3), .second, .val (.long x4), .second, .val (.long x5), .second, .val (.int (own_max (1 : Int32) (x0 &&& (2147483647 : Int32)))), .val (.int (x1 &&& (2147483647 : Int32))), .val (.ref b2), .val (.int (1 : Int32)), .val (.int (1 : Int32)), .val (.int (0 : Int32)), .val (.int (1 : Int32)), .val (.int (0 : Int32))] [(.int (1 : Int32))])) _
        refine Goes.to (fun _ k => XS.ifNo X18.here hx rfl (hb hby at_122) rfl ((if0 _ _).trans (feq (by decide : ¬ ((1 : Int32) = (0 : Int32)))).1) k) ?_
        show Goes p.tables e below (T18.setTop (mkF m 125 #[.val (.int x0), .val (.int x1), .val (.long x2), .second, .val (.long x3), .second, .val (.long x4), .second, .val (.long x5), .second, .val (.int (own_max (1 : Int32) (x0 &&& (2147483647 : Int32)))), .val (.int (x1 &&& (2147483647 : Int32))), .val (.ref b2), .val (.int (1 : Int32)), .val (.int (1 : Int32)), .val (.int (0 : Int32)), .val (.int (1 : Int32)), .val (.int (0 : Int32))] [])) _
        refine Goes.to (fun _ k => XS.iconst X18.here hx rfl (hb hby at_125) k) ?_
        show Goes p.tables e below (T18.setTop (mkF m 126 #[.val (.int x0), .val (.int x1), .val (.long x2), .second, .val (.long x3), .second, .val (.long x4), .second, .val (.long x5), .second, .val (.int (own_max (1 : Int32) (x0 &&& (2147483647 : Int32)))), .val (.int (x1 &&& (2147483647 : Int32))), .val (.ref b2), .val (.int (1 : Int32)), .val (.int (1 : Int32)), .val (.int (0 : Int32)), .val (.int (1 : Int32)), .val (.int (0 : Int32))] [(.int (1 : Int32))])) _
        refine Goes.to (fun _ k => XS.goto X18.here hx rfl (pc0 := 126) (pc' := 130) rfl (hb hby at_126) (by decide) (by decide) k) ?_
        show Goes p.tables e below (T18.setTop (mkF m 130 #[.val (.int x0), .val (.int x1), .val (.long x2), .second, .val (.long x3), .second, .val (.long x4), .second, .val (.long x5), .second, .val (.int (own_max (1 : Int32) (x0 &&& (2147483647 : Int32)))), .val (.int (x1 &&& (2147483647 : Int32))), .val (.ref b2), .val (.int (1 : Int32)), .val (.int (1 : Int32)), .val (.int (0 : Int32)), .val (.int (1 : Int32)), .val (.int (0 : Int32))] [(.int (1 : Int32))])) _
        obtain ⟨fs, hr, hrun, hended, hW, hsame⟩ := X18.leave (v := some (.int (1 : Int32))) (fun h => by rw [Bd.returns] at h; cases h)
        have hv : (some (.int (1 : Int32)) : Option Value) = some (.int (1 : Int32)) := by
          rfl
        exact ⟨_, _, retN X18 hx (t := .boolean) Bd.returns (by simp) (hb hby at_130) hr, hrun, hended, _, _, rfl, ⟨hv, N18⟩, ⟨_, rfl⟩, hW, hsame.mono (by decide) (by decide)⟩
    · exfalso
      have k1 := rng32 x1
      have k2 : (x1 &&& (2147483647 : Int32)).toInt = x1.toInt % 2147483648 := c_mask x1 (2147483647 : Int32) 31 (by decide) (by decide)
      have k3 := rng32 (own_max (1 : Int32) (x0 &&& (2147483647 : Int32)))
      have k4 : ¬ (x1 &&& (2147483647 : Int32)).toInt < (own_max (1 : Int32) (x0 &&& (2147483647 : Int32))).toInt := fun z => hc9 (Int32.lt_iff_toInt_lt.mpr z)
      have k5 : (1 : Int32).toInt = 1 := rfl
      have k6 := c_isub (own_max (1 : Int32) (x0 &&& (2147483647 : Int32))) (1 : Int32)
      have k7 := rng32 ((own_max (1 : Int32) (x0 &&& (2147483647 : Int32))) - (1 : Int32))
      have k8 : ¬ ((own_max (1 : Int32) (x0 &&& (2147483647 : Int32))) - (1 : Int32)).toInt < (own_max (1 : Int32) (x0 &&& (2147483647 : Int32))).toInt := fun z => hc17 (Int32.lt_iff_toInt_lt.mpr z)
      have km := own_max_toInt (1 : Int32) (x0 &&& (2147483647 : Int32))
      omega

set_option maxRecDepth 65536 in
set_option maxHeartbeats 40000000 in
theorem comes_1 {Post : Tables → Env → Array Value → State → Outcome → State → Prop} (hpost : ∀ tb e args s v u, (limb_1_1.after args s (.returned v) u = true ∧ limb_1_2.after args s (.returned v) u = true ∧ True) → FrameEnd s (.returned v) u (Jvm.fieldLocs frame_1_writes args s ++ Jvm.arrayLocs frame_1_arrays args s ++ Jvm.staticLocs frame_1_statics s) 16 128 → Post tb e args s (.returned v) u) :
    ArmFor flags0 classFile x code maxLocals ret World_1 tables_1 room_1 Calls_1 rest_1 Pre_1 Post := by
  intro l hfl _ _ p e ha hc hk s m args below hf hA hF happ hP
  obtain ⟨hcalls, hrest, hpre⟩ := hP
  obtain ⟨-, -, -, hnamed, -, -, -, hat⟩ := (Spec.applies_iff hf).mp happ
  obtain ⟨hg, hn⟩ := and_e (Cond.before_iff.mp (show (Jvm.Cond.and given_1 narrow_1).before args s = true from hpre))
  obtain ⟨hg0, hgr0⟩ := and_e hg
  obtain ⟨hg1, hgr1⟩ := and_e hgr0
  obtain ⟨hg2, hgr2⟩ := and_e hgr1
  obtain ⟨hg3, hgr3⟩ := and_e hgr2
  obtain ⟨hg4, hgr4⟩ := and_e hgr3
  obtain ⟨hg5, hgr5⟩ := and_e hgr4
  obtain ⟨w0, w1, w2, w3, w4, w5, rfl⟩ : ∃ w0 w1 w2 w3 w4 w5 : Value, args = #[w0, w1, w2, w3, w4, w5] := by
    have hs : args.size = 6 := by simpa [Cond.value, given_1] using hg0
    obtain ⟨L⟩ := args
    match L, hs with
    | [w0, w1, w2, w3, w4, w5], _ => exact ⟨w0, w1, w2, w3, w4, w5, rfl⟩
  have hw := fun d (hd : d ∈ tables_1) => atoms_spec (ws := Jvm.Cond.code x code maxLocals ret :: tables_1) hat d (List.mem_cons_of_mem _ hd)
  have hfit : Fit s := fun {y c} hc i hi => by
    obtain ⟨ha, rfl⟩ := Array.getElem?_eq_some_iff.mp hc
    have q := List.all_eq_true.mp ((Array.all_eq_true_iff_forall_mem.mp hF) _ (Array.getElem_mem ha)) i (List.mem_range.mpr hi)
    simpa [Array.getElem?_eq_getElem hi] using q
  obtain ⟨i0, ei0⟩ := is_v hg1
  obtain rfl : w0 = (.int i0) := Option.some.inj ei0
  obtain ⟨i1, ei1⟩ := is_v hg2
  obtain rfl : w1 = (.int i1) := Option.some.inj ei1
  obtain ⟨i2, ei2⟩ := isL_v hg3
  obtain rfl : w2 = (.long i2) := Option.some.inj ei2
  obtain ⟨i3, ei3⟩ := isL_v hg4
  obtain rfl : w3 = (.long i3) := Option.some.inj ei3
  obtain ⟨i4, ei4⟩ := isL_v hg5
  obtain rfl : w4 = (.long i4) := Option.some.inj ei4
  obtain ⟨i5, ei5⟩ := isL_v hgr5
  obtain rfl : w5 = (.long i5) := Option.some.inj ei5
  obtain ⟨n, o, h1, h2, h3, _, L, rfl, ⟨rfl, N⟩, hq⟩ := own_rm0 l s _ hw tables_1 i0 i1 i2 i3 i4 i5  s.heap s.heap.size (Nat.le_refl _)  p e ha hc hk s m _ below hf ((Spec.applies_iff_loose hf).mp happ).1 ⟨rfl, State.Warmed39.refl s, rfl⟩ trivial
  refine ⟨n, _, h1, h2, h3, hpost _ _ _ _ _ _ ⟨Cond.after_iff.mpr rfl, Cond.after_iff.mpr (eq_i res_at (Term.int_eval (1)) rfl), trivial⟩ ⟨hq.1, hq.2.1, (hq.2.2.sift fun y hy => Or.inr (N y hy)).mono (by decide) (by decide)⟩⟩
theorem main_1_1 : Claimed_1_1 := comes_1 fun _ _ _ _ _ _ h hF => ⟨h.1, hF⟩
theorem main_1_2 : Claimed_1_2 := comes_1 fun _ _ _ _ _ _ h hF => ⟨h.2.1, hF⟩
end Jvm.Pilot.@@N@@
namespace Jvm.Pilot.@@N@@
open Jvm Jvm.ClassFile Sem Op Lib Jvm.Free Jvm.Stand Jvm.Pilot.@@N@@.Jvm.D
/-! MADE BY PROGRAM (witnessworld.py) out of the Statement's table words and the real class files: 12 classes; the members and pool entries that the words name. The judged class is class 1, her method 1. -/
namespace start1
open Jvm.ClassFile
def u (s : String) : CpInfo := .utf8 (stringToUtf16 s)
/-- a pool by its gaps: so many unusable entries, then the entry; so many at the end -/
def gap : Nat → List CpInfo → List CpInfo
  | 0, r => r
  | n + 1, r => .unusable :: gap n r
def poolList (es : List (Nat × CpInfo)) (last : Nat) : List CpInfo := es.foldr (fun e r => gap e.1 (e.2 :: r)) (gap last [])
def pool (es : List (Nat × CpInfo)) (last : Nat) : Array CpInfo := ⟨poolList es last⟩
def fileOf (pool : Array CpInfo) (this : Nat) (attrs : Array Attribute := #[]) (ms : Array MethodInfo := #[]) (fl : Nat := 33) (sup : Nat := 0) (ifs : Array Nat := #[]) (fds : Array FieldInfo := #[]) : ClassFile where
  minorVersion := 0
  majorVersion := 65
  constantPool := pool
  accessFlags := fl
  thisClass := this
  superClass := sup
  interfaces := ifs
  fields := fds
  methods := ms
  attributes := attrs
def plain (name : String) (sup : Option ClassId) : Class where
  name := name
  kind := .ordinary
  loader := none
  accessFlags := 33
  super := sup
  interfaces := #[]
  cf := none
  fields := #[]
  methods := #[]
  instanceTypes := #[]
  staticTypes := #[]
  resolved := #[]
  callSites := []
  init := .initialized
  statics := none
  mirror := none

def pool0 : Array CpInfo := pool [(5, u "<init>"), (0, u "()V"), (1, .class_ 10), (1, u "java/lang/Object")] 113

def k0c0 : Code := { maxStack := 0, maxLocals := 1, code := object_method_1_code, exceptionTable := #[], attributes := #[] }
def k0m0 : Method := { name := "<init>", desc := "()V", sig := { parameters := [], returnType := none }, accessFlags := 1, code := some k0c0 }
/-- java/lang/Object -/
def k0 : Class := { plain "java/lang/Object" none with
  accessFlags := 33
  interfaces := #[]
  cf := some (fileOf pool0 8 #[] #[{ accessFlags := 1, nameIndex := 5, descriptorIndex := 6, attributes := #[] }] 33 0 #[] #[])
  fields := #[]
  methods := #[k0m0]
  instanceTypes := #[]
  staticTypes := #[]
  resolved := Array.replicate 124 none
  statics := none }

def pool1 : Array CpInfo := pool [(2, .class_ 4), (1, u "java/lang/Object"), (0, u "<init>"), (0, u "()V"), (0, .integer 2147483647), (0, .methodref 9 10), (0, .class_ 11), (0, .nameAndType 12 13), (0, u "java/lang/Math"), (0, u "max"), (0, u "(II)I"), (0, .class_ 15), (0, u "com/example/wee_table/weetable/model/GcRule$MaxVersions"), (0, .methodref 14 17), (0, .nameAndType 5 18), (0, u "(I)V"), (0, .methodref 14 20), (0, .nameAndType 21 22), (0, u "expires"), (0, u "(IJJ)Z"), (0, .class_ 24), (0, u "com/example/wee_table/weetable/model/MaxVersionsExpiresPinLaw"), (2, u "law"), (0, u "(IIJJJJ)Z")] 7

def k1m0 : Method := { name := "<init>", desc := "()V", sig := { parameters := [], returnType := none }, accessFlags := 1, code := none }
def k1c1 : Code := { maxStack := 6, maxLocals := 18, code := code, exceptionTable := #[], attributes := #[] }
def k1m1 : Method := { name := "law", desc := "(IIJJJJ)Z", sig := { parameters := [.int, .int, .long, .long, .long, .long], returnType := some .boolean }, accessFlags := 9, code := some k1c1 }
/-- com/example/wee_table/weetable/model/MaxVersionsExpiresPinLaw -/
def k1 : Class := { plain "com/example/wee_table/weetable/model/MaxVersionsExpiresPinLaw" (some 0) with
  accessFlags := 49
  interfaces := #[]
  cf := some (fileOf pool1 23 #[] #[{ accessFlags := 1, nameIndex := 5, descriptorIndex := 6, attributes := #[] }, { accessFlags := 9, nameIndex := 27, descriptorIndex := 28, attributes := #[] }] 49 2 #[] #[])
  fields := #[]
  methods := #[k1m0, k1m1]
  instanceTypes := #[]
  staticTypes := #[]
  resolved := Array.replicate 36 none
  statics := none }

def pool2 : Array CpInfo := pool [(1, .class_ 2), (0, u "java/lang/Math"), (1, .class_ 6), (1, u "java/lang/Object"), (0, u "<init>"), (0, u "()V"), (89, .class_ 100), (1, u "java/lang/Math$RandomNumberGeneratorHolder"), (71, u "negativeZeroFloatBits"), (0, u "J"), (2, u "negativeZeroDoubleBits"), (21, u "max"), (46, u "$assertionsDisabled"), (0, u "Z"), (88, u "(II)I"), (2, u "twoToTheDoubleScaleDown"), (0, u "D"), (4, u "twoToTheDoubleScaleUp"), (9, u "E"), (3, u "PI"), (2, u "TAU"), (2, u "DEGREES_TO_RADIANS"), (0, u "RADIANS_TO_DEGREES")] 94

def k2m0 : Method := { name := "<init>", desc := "()V", sig := { parameters := [], returnType := none }, accessFlags := 2, code := none }
def k2c1 : Code := { maxStack := 2, maxLocals := 2, code := jdk_29_method_65_code, exceptionTable := #[], attributes := #[] }
def k2m1 : Method := { name := "max", desc := "(II)I", sig := { parameters := [.int, .int], returnType := some .int }, accessFlags := 9, code := some k2c1 }
/-- java/lang/Math -/
def k2 : Class := { plain "java/lang/Math" (some 0) with
  accessFlags := 49
  interfaces := #[]
  cf := some (fileOf pool2 1 #[.nestMembers #[98]] #[{ accessFlags := 2, nameIndex := 7, descriptorIndex := 8, attributes := #[] }, { accessFlags := 9, nameIndex := 198, descriptorIndex := 335, attributes := #[] }] 49 4 #[] #[{ accessFlags := 25, nameIndex := 354, descriptorIndex := 339, attributes := #[] }, { accessFlags := 25, nameIndex := 358, descriptorIndex := 339, attributes := #[] }, { accessFlags := 25, nameIndex := 361, descriptorIndex := 339, attributes := #[] }, { accessFlags := 26, nameIndex := 364, descriptorIndex := 339, attributes := #[] }, { accessFlags := 26, nameIndex := 365, descriptorIndex := 339, attributes := #[] }, { accessFlags := 26, nameIndex := 172, descriptorIndex := 173, attributes := #[] }, { accessFlags := 26, nameIndex := 176, descriptorIndex := 173, attributes := #[] }, { accessFlags := 8, nameIndex := 344, descriptorIndex := 339, attributes := #[] }, { accessFlags := 8, nameIndex := 338, descriptorIndex := 339, attributes := #[] }, { accessFlags := 4120, nameIndex := 245, descriptorIndex := 246, attributes := #[] }])
  fields := #[{ name := "E", type := .double, accessFlags := 25, slot := 0, constantValue := 0 }, { name := "PI", type := .double, accessFlags := 25, slot := 1, constantValue := 0 }, { name := "TAU", type := .double, accessFlags := 25, slot := 2, constantValue := 0 }, { name := "DEGREES_TO_RADIANS", type := .double, accessFlags := 26, slot := 3, constantValue := 0 }, { name := "RADIANS_TO_DEGREES", type := .double, accessFlags := 26, slot := 4, constantValue := 0 }, { name := "negativeZeroFloatBits", type := .long, accessFlags := 26, slot := 5, constantValue := 0 }, { name := "negativeZeroDoubleBits", type := .long, accessFlags := 26, slot := 6, constantValue := 0 }, { name := "twoToTheDoubleScaleUp", type := .double, accessFlags := 8, slot := 7, constantValue := 0 }, { name := "twoToTheDoubleScaleDown", type := .double, accessFlags := 8, slot := 8, constantValue := 0 }, { name := "$assertionsDisabled", type := .boolean, accessFlags := 4120, slot := 9, constantValue := 0 }]
  methods := #[k2m0, k2m1]
  instanceTypes := #[]
  staticTypes := #[.double, .double, .double, .double, .double, .long, .long, .double, .double, .boolean]
  resolved := Array.replicate 460 none
  statics := none }

def pool3 : Array CpInfo := pool [(1, .methodref 2 3), (0, .class_ 4), (0, .nameAndType 5 6), (0, u "java/lang/Object"), (0, u "<init>"), (0, u "()V"), (0, .class_ 8), (0, u "java/lang/Record")] 13

def k3c0 : Code := { maxStack := 1, maxLocals := 1, code := jdk_30_method_1_code, exceptionTable := #[], attributes := #[] }
def k3m0 : Method := { name := "<init>", desc := "()V", sig := { parameters := [], returnType := none }, accessFlags := 4, code := some k3c0 }
/-- java/lang/Record -/
def k3 : Class := { plain "java/lang/Record" (some 0) with
  accessFlags := 1057
  interfaces := #[]
  cf := some (fileOf pool3 7 #[] #[{ accessFlags := 4, nameIndex := 5, descriptorIndex := 6, attributes := #[] }] 1057 2 #[] #[])
  fields := #[]
  methods := #[k3m0]
  instanceTypes := #[]
  staticTypes := #[]
  resolved := Array.replicate 22 none
  statics := none }

def pool4 : Array CpInfo := pool [(21, .class_ 22), (0, u "com/example/wee_table/weetable/model/GcRule$None"), (4, .class_ 29), (1, u "com/example/wee_table/weetable/model/GcRule"), (0, u "NONE"), (0, u "Lcom/example/wee_table/weetable/model/GcRule;"), (0, .class_ 33), (0, u "java/lang/Object"), (13, .class_ 48), (0, u "com/example/wee_table/weetable/model/GcRule$Union"), (0, .class_ 50), (0, u "com/example/wee_table/weetable/model/GcRule$Intersection"), (0, .class_ 52), (0, u "com/example/wee_table/weetable/model/GcRule$MaxAge"), (0, .class_ 54), (0, u "com/example/wee_table/weetable/model/GcRule$MaxVersions")] 21

/-- com/example/wee_table/weetable/model/GcRule -/
def k4 : Class := { plain "com/example/wee_table/weetable/model/GcRule" (some 0) with
  accessFlags := 1537
  interfaces := #[]
  cf := some (fileOf pool4 27 #[.nestMembers #[47, 49, 51, 53, 21]] #[] 1537 32 #[] #[{ accessFlags := 25, nameIndex := 30, descriptorIndex := 31, attributes := #[] }])
  fields := #[{ name := "NONE", type := (.object "com/example/wee_table/weetable/model/GcRule"), accessFlags := 25, slot := 0, constantValue := 0 }]
  methods := #[]
  instanceTypes := #[]
  staticTypes := #[(.object "com/example/wee_table/weetable/model/GcRule")]
  resolved := Array.replicate 76 none
  statics := none }

def pool5 : Array CpInfo := pool [(1, .methodref 2 3), (0, .class_ 4), (0, .nameAndType 5 6), (0, u "java/lang/Record"), (0, u "<init>"), (0, u "()V"), (7, .fieldref 15 16), (0, .class_ 17), (0, .nameAndType 18 19), (0, u "com/example/wee_table/weetable/model/GcRule$MaxVersions"), (0, u "count"), (0, u "I"), (12, .class_ 33), (0, u "com/example/wee_table/weetable/model/GcRule"), (0, u "(I)V"), (4, u "expires"), (0, u "(IJJ)Z")] 24

def k5c0 : Code := { maxStack := 3, maxLocals := 2, code := prog_15_method_1_code, exceptionTable := #[], attributes := #[] }
def k5m0 : Method := { name := "<init>", desc := "(I)V", sig := { parameters := [.int], returnType := none }, accessFlags := 1, code := some k5c0 }
def k5c1 : Code := { maxStack := 2, maxLocals := 6, code := prog_15_method_2_code, exceptionTable := #[], attributes := #[] }
def k5m1 : Method := { name := "expires", desc := "(IJJ)Z", sig := { parameters := [.int, .long, .long], returnType := some .boolean }, accessFlags := 1, code := some k5c1 }
/-- com/example/wee_table/weetable/model/GcRule$MaxVersions -/
def k5 : Class := { plain "com/example/wee_table/weetable/model/GcRule$MaxVersions" (some 3) with
  accessFlags := 49
  interfaces := #[4]
  cf := some (fileOf pool5 15 #[.nestHost 32] #[{ accessFlags := 1, nameIndex := 5, descriptorIndex := 34, attributes := #[] }, { accessFlags := 1, nameIndex := 39, descriptorIndex := 40, attributes := #[] }] 49 2 #[32] #[{ accessFlags := 18, nameIndex := 18, descriptorIndex := 19, attributes := #[] }])
  fields := #[{ name := "count", type := .int, accessFlags := 18, slot := 0, constantValue := 0 }]
  methods := #[k5m0, k5m1]
  instanceTypes := #[.int]
  staticTypes := #[]
  resolved := Array.replicate 65 none
  statics := none }

def pool6 : Array CpInfo := pool [(1, u "java/lang/Cloneable"), (0, .class_ 1), (0, u "java/lang/Object"), (0, .class_ 3)] 3

/-- java/lang/Cloneable -/
def k6 : Class := { plain "java/lang/Cloneable" (some 0) with
  accessFlags := 1537
  interfaces := #[]
  cf := some (fileOf pool6 2 #[] #[] 1537 4 #[] #[])
  fields := #[]
  methods := #[]
  instanceTypes := #[]
  staticTypes := #[]
  resolved := Array.replicate 8 none
  statics := none }

def pool7 : Array CpInfo := pool [(1, u "java/io/Serializable"), (0, .class_ 1), (0, u "java/lang/Object"), (0, .class_ 3)] 3

/-- java/io/Serializable -/
def k7 : Class := { plain "java/io/Serializable" (some 0) with
  accessFlags := 1537
  interfaces := #[]
  cf := some (fileOf pool7 2 #[] #[] 1537 4 #[] #[])
  fields := #[]
  methods := #[]
  instanceTypes := #[]
  staticTypes := #[]
  resolved := Array.replicate 8 none
  statics := none }

/-- the primitive byte -/
def k8 : Class := { plain "byte" none with kind := .primitive 'B', accessFlags := 0x411 }
/-- [B -/
def k9 : Class := { plain "[B" (some 0) with kind := .array 8 .byte, interfaces := #[6, 7], accessFlags := 1041 }

/-- the primitive int -/
def k10 : Class := { plain "int" none with kind := .primitive 'I', accessFlags := 0x411 }
/-- [I -/
def k11 : Class := { plain "[I" (some 0) with kind := .array 10 .int, interfaces := #[6, 7], accessFlags := 1041 }

def heap : Heap := #[]
def classes : Array Class := #[k0, k1, k2, k3, k4, k5, k6, k7, k8, k9, k10, k11]
def interned : List (Array UInt16 × Addr) := []
def slotsUsed : Nat := 0
def theMethod : MethodId := ⟨1, 1⟩
def args0 : Array Value := #[.int 5, .int 7, .long 1, .long 2, .long 3, .long 4]
def aboutOver (below : List Frame) : State where
  vm := { classes := classes, interned := interned.toArray }
  heap := heap
  slotsUsed := slotsUsed
  threads := #[{ frames := .invoking theMethod args0 :: below }]
def below0 : List Frame := [.native { method := ⟨0, 0⟩, args := #[] }]
def about1 : State := aboutOver below0
def p0 : Program := .bare "" "" ""
def e0 : Env := launch0.env 0 0 0
theorem w_frames : about1.frames = Frame.invoking theMethod args0 :: below0 := rfl
set_option maxRecDepth 65536 in
theorem w_args : argsFit about1.vm theMethod args0 = true := by decide +kernel
set_option maxRecDepth 65536 in
theorem w_heap : heapFits about1 = true := by decide +kernel
set_option maxRecDepth 65536 in
theorem w_runnable : about1.curStatus? = some .runnable := by decide +kernel
set_option maxRecDepth 65536 in
theorem w_alone : about1.alone = true := by decide +kernel
set_option maxRecDepth 65536 in
theorem w_named : about1.methodNamed? x = some theMethod := by decide +kernel
set_option maxRecDepth 65536 in
theorem w_hears : about1.hears theMethod below0 = true := by decide +kernel
set_option maxRecDepth 65536 in
theorem w_ripe : about1.ripe theMethod args0 below0 = true := by decide +kernel
theorem w_running : about1.status = .running := rfl
set_option maxRecDepth 65536 in
theorem w_room : about1.hasRoom e0.platform room_1 = true :=
  launch0.hasRoom_least _ room_1 (by decide +kernel) (by decide +kernel) (by decide +kernel) (by decide +kernel) (by decide +kernel) (by decide +kernel)
theorem allAtoms_all (ts : List Jvm.Cond) (a : Array Jvm.Value) (st : Jvm.State) : (allAtoms ts).before a st = ts.all (fun c => c.before a st) := by
  induction ts with
  | nil => rfl
  | cons c t ih =>
    show (Jvm.Cond.and c (allAtoms t)).before a st = _
    rw [Jvm.Cond.before_and, ih, List.all_cons]
def words1 : List Jvm.Cond := Jvm.Cond.code x code maxLocals ret :: tables_1
/-- a 'code' word, met by the world's own term for the bytes: nothing is compared byte by byte -/
theorem code_word {y : MethodName} {bytes : ByteArray} {mx : Nat} {rt : Option FieldType} {a : Array Value} {s : State} {m : MethodId} {meth : Method} {c : Code} (h1 : s.methodNamed? y = some m) (h2 : s.vm.method? m = some meth) (h3 : meth.code = some c) (h4 : c.code = bytes)
    (h5 : (c.maxLocals == mx && c.exceptionTable.isEmpty && decide (c.maxStack ≤ mostOperands) && decide (meth.sig.returnType = rt) && !meth.locks && decide (parseMethodDescriptor y.desc = some meth.sig)) = true) : (Jvm.Cond.code y bytes mx rt).before a s = true := by
  simp only [Bool.and_eq_true, beq_iff_eq, Bool.not_eq_true', decide_eq_true_eq] at h5
  obtain ⟨⟨⟨⟨⟨g1, g2⟩, g3⟩, g4⟩, g5⟩, g6⟩ := h5
  simp [Cond.before, Cond.holds, Cond.value, h1, h2, h3, h4, g1, g2, g3, g4, g5, g6]
def isCode : Jvm.Cond → Bool
  | .code _ _ _ _ => true
  | _ => false
theorem all_split {L : List Jvm.Cond} {P : Jvm.Cond → Bool} (h1 : L.all (fun c => isCode c || P c) = true) (h2 : ∀ c ∈ L.filter isCode, P c = true) : L.all P = true := by
  refine List.all_eq_true.mpr fun c hc => ?_
  have h := List.all_eq_true.mp h1 c hc
  rcases Bool.eq_false_or_eq_true (isCode c) with hi | hi
  · exact h2 c (List.mem_filter.mpr ⟨hc, hi⟩)
  · simpa [hi] using h
set_option maxRecDepth 65536 in
theorem w_c0 : (Jvm.Cond.code x code maxLocals ret).before args0 about1 = true := code_word (m := ⟨1, 1⟩) (meth := k1m1) (c := k1c1) (by decide +kernel) rfl rfl rfl (by decide +kernel)
set_option maxRecDepth 65536 in
theorem w_c1 : (Jvm.Cond.code ({ cls := "java/lang/Math", name := "max", desc := "(II)I" } : Jvm.MethodName) jdk_29_method_65_code (2 : Nat) (Option.some Jvm.ClassFile.FieldType.int)).before args0 about1 = true := code_word (m := ⟨2, 1⟩) (meth := k2m1) (c := k2c1) (by decide +kernel) rfl rfl rfl (by decide +kernel)
set_option maxRecDepth 65536 in
theorem w_c2 : (Jvm.Cond.code ({ cls := "com/example/wee_table/weetable/model/GcRule$MaxVersions", name := "<init>", desc := "(I)V" } : Jvm.MethodName) prog_15_method_1_code (2 : Nat) (Option.none : Option Jvm.ClassFile.FieldType)).before args0 about1 = true := code_word (m := ⟨5, 0⟩) (meth := k5m0) (c := k5c0) (by decide +kernel) rfl rfl rfl (by decide +kernel)
set_option maxRecDepth 65536 in
theorem w_c3 : (Jvm.Cond.code ({ cls := "java/lang/Record", name := "<init>", desc := "()V" } : Jvm.MethodName) jdk_30_method_1_code (1 : Nat) (Option.none : Option Jvm.ClassFile.FieldType)).before args0 about1 = true := code_word (m := ⟨3, 0⟩) (meth := k3m0) (c := k3c0) (by decide +kernel) rfl rfl rfl (by decide +kernel)
set_option maxRecDepth 65536 in
theorem w_c4 : (Jvm.Cond.code ({ cls := "java/lang/Object", name := "<init>", desc := "()V" } : Jvm.MethodName) object_method_1_code (1 : Nat) (Option.none : Option Jvm.ClassFile.FieldType)).before args0 about1 = true := code_word (m := ⟨0, 0⟩) (meth := k0m0) (c := k0c0) (by decide +kernel) rfl rfl rfl (by decide +kernel)
set_option maxRecDepth 65536 in
theorem w_c5 : (Jvm.Cond.code ({ cls := "com/example/wee_table/weetable/model/GcRule$MaxVersions", name := "expires", desc := "(IJJ)Z" } : Jvm.MethodName) prog_15_method_2_code (6 : Nat) (Option.some Jvm.ClassFile.FieldType.boolean)).before args0 about1 = true := code_word (m := ⟨5, 1⟩) (meth := k5m1) (c := k5c1) (by decide +kernel) rfl rfl rfl (by decide +kernel)
def codes1 : List Jvm.Cond := [Jvm.Cond.code x code maxLocals ret, Jvm.Cond.code ({ cls := "java/lang/Math", name := "max", desc := "(II)I" } : Jvm.MethodName) jdk_29_method_65_code (2 : Nat) (Option.some Jvm.ClassFile.FieldType.int), Jvm.Cond.code ({ cls := "com/example/wee_table/weetable/model/GcRule$MaxVersions", name := "<init>", desc := "(I)V" } : Jvm.MethodName) prog_15_method_1_code (2 : Nat) (Option.none : Option Jvm.ClassFile.FieldType), Jvm.Cond.code ({ cls := "java/lang/Record", name := "<init>", desc := "()V" } : Jvm.MethodName) jdk_30_method_1_code (1 : Nat) (Option.none : Option Jvm.ClassFile.FieldType), Jvm.Cond.code ({ cls := "java/lang/Object", name := "<init>", desc := "()V" } : Jvm.MethodName) object_method_1_code (1 : Nat) (Option.none : Option Jvm.ClassFile.FieldType), Jvm.Cond.code ({ cls := "com/example/wee_table/weetable/model/GcRule$MaxVersions", name := "expires", desc := "(IJJ)Z" } : Jvm.MethodName) prog_15_method_2_code (6 : Nat) (Option.some Jvm.ClassFile.FieldType.boolean)]
set_option maxRecDepth 65536 in
theorem codes_eq : words1.filter isCode = codes1 := rfl
theorem w_codes : ∀ c ∈ words1.filter isCode, c.before args0 about1 = true := by
  rw [codes_eq]
  intro c hc
  simp only [codes1, List.mem_cons, List.not_mem_nil, or_false] at hc
  rcases hc with rfl | rfl | rfl | rfl | rfl | rfl
  · exact w_c0
  · exact w_c1
  · exact w_c2
  · exact w_c3
  · exact w_c4
  · exact w_c5
set_option maxRecDepth 65536 in
theorem w_t1 : (words1.take 24).all (fun c => isCode c || c.before args0 about1) = true := by decide +kernel
set_option maxRecDepth 65536 in
theorem w_t2 : (words1.drop 24).all (fun c => isCode c || c.before args0 about1) = true := by decide +kernel
theorem w_tables : (allAtoms (Jvm.Cond.code x code maxLocals ret :: tables_1)).before args0 about1 = true := by
  rw [allAtoms_all]
  show words1.all (fun c => c.before args0 about1) = true
  refine all_split ?_ w_codes
  rw [← List.take_append_drop 24 words1, List.all_append, w_t1, w_t2]
  rfl
set_option maxRecDepth 65536 in
theorem w_case : (Jvm.Cond.and given_1 narrow_1).before args0 about1 = true := by decide +kernel
theorem w_applies : (headSpec (Jvm.Cond.code x code maxLocals ret :: tables_1) room_1).applies x e0.platform about1 = true :=
  (Spec.applies_iff w_frames).mpr ⟨w_running, w_runnable, w_alone, w_named, w_hears, w_ripe, w_room, w_tables⟩
theorem atStart : AtStart classFile x code maxLocals ret World_1 tables_1 room_1 Calls_1 rest_1 Pre_1 launch0 p0 e0 about1 theMethod args0 below0 :=
  ⟨lists_1, trivial, launch0.admits_env _ _ _, launch0.least_env, fairChoices_fair.cas, fairChoices_fair.clock, w_frames, w_args, w_heap, w_applies, trivial, trivial, w_case⟩
end start1
theorem witness_1 : WitnessClaimed_1 := ⟨start1.p0, start1.e0, start1.about1, start1.theMethod, start1.args0, start1.below0, start1.atStart⟩
end Jvm.Pilot.@@N@@
