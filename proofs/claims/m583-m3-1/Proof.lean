import JvmDerived
import JvmDerived.Pilot.@@N@@Statement
import JvmDerived.Pilot.@@N@@Code
set_option linter.unusedVariables false
set_option linter.unusedSimpArgs false
namespace Jvm.RoadKit
open Sem ClassFile Op Lib Jvm.Stand Jvm.Free Jvm.LawKit
section New
variable {p : Program} {l : Launch} {e : Env} {R : Room} {s : State} {m : MethodId} {args : Array Value} {below : List Frame} {meth : Method} {c : Code} {T : State} {locs : List Loc} {cells slots : Nat}
theorem retI (X : Stand p l e R s m args below meth c T locs cells slots) (hx : p.tables.exec = Jvm.exec) {pc : Nat} {Ls : Array Slot} {z : Int32} {rest : List Value} (hret : meth.sig.returnType = some .int) (hd : decode c.code pc = .ok (.ireturn, 1)) {fs : List Frame}
    (hl : ∀ (f : JFrame) (acts : List Action), f.method = m → f.locked = none → f.entered = [] → (doReturn e (T.setTop f) acts (some (.int z))).1 = T.setFrames fs) : Steps p.tables e below (T.setTop (mkF m pc Ls (.int z :: rest))) (T.setFrames fs) := by
  have hm' : T.vm.method? m = some meth := X.method'
  have hn : narrow .int (.int z) = .int z := rfl
  show Steps p.tables e below (T.setTop { method := m, pc := pc, locals := Ls, stack := _ :: rest, locked := none }) _
  jvm_step X.here [X.here.top, hx, hd, hm', hret, hn]
  first | (intro acts; rw [hl _ acts rfl rfl rfl]) | rw [hl _ _ rfl rfl rfl]
  exact Steps.refl _
end New
end Jvm.RoadKit
namespace Jvm.Pilot.@@N@@
open Jvm Jvm.ClassFile Sem Op Lib Jvm.Free Jvm.Stand Jvm.LawKit Jvm.RoadKit Bundle Jvm.Pilot.@@N@@.Jvm.D
/-- the run comes from A to some end of which R holds -/
def Goes (tb : Tables) (e : Env) (below : List Frame) (A : State) (R : State → Outcome → Prop) : Prop := ∃ t o, Steps tb e below A t ∧ R t o
theorem Goes.to {tb : Tables} {e : Env} {below : List Frame} {A B : State} {R : State → Outcome → Prop} (k : ∀ t, Steps tb e below A t → Steps tb e below B t) (h : Goes tb e below A R) : Goes tb e below B R := by
  obtain ⟨t, o, h1, h2⟩ := h
  exact ⟨t, o, k t h1, h2⟩
/-- how a body ends: it has returned, of value and heap Q holds, and no more than that many cells and slots are new -/
def own_R (below : List Frame) (s : State) (Q : Option Value → Heap → List Loc → Prop) (k n : Nat) : State → Outcome → Prop := fun s₂ o => s₂.status = .running ∧ Ended s₂ below o ∧ ∃ v L, o = .returned v ∧ Q v s₂.heap L ∧ FrameEnd s o s₂ L k n
theorem Goes.tr {tb : Tables} {e : Env} {below : List Frame} {A B : State} {R : State → Outcome → Prop} (k : Steps tb e below B A) (h : Goes tb e below A R) : Goes tb e below B R := Goes.to (fun _ z => k.trans z) h


theorem own_eqv {args : Array Value} {first s : State} {o : Option Outcome} {idx : List Nat} {t : Term} {k : Int32} (h : (Jvm.Cond.eq t (.int k)).value args first o s idx = some true) : t.eval args first o idx s = some (.int k) := by
  obtain ⟨x, y, h1, h2, k1, k2⟩ := cmp_v (Or.inl h)
  cases (Option.some.inj (h2.symm.trans (Term.int_eval k)))
  obtain ⟨z, rfl⟩ := k2
  have e : z = k := by
    have q := h
    simp [Jvm.Cond.value, h1, h2] at q
    exact q
  rw [h1, e]

theorem d1_0 : decode prog_11_method_11_code 0 = .ok (.iload_n 1, 1) := by decide +kernel
theorem d1_1 : decode prog_11_method_11_code 1 = .ok (.iconst 4, 1) := by decide +kernel
theorem d1_2 : decode prog_11_method_11_code 2 = .ok (.if_icmp .eq 9, 3) := by decide +kernel
theorem d1_5 : decode prog_11_method_11_code 5 = .ok (.iload_n 1, 1) := by decide +kernel
theorem d1_6 : decode prog_11_method_11_code 6 = .ok (.bipush 8, 2) := by decide +kernel
theorem d1_8 : decode prog_11_method_11_code 8 = .ok (.if_icmp .ne 7, 3) := by decide +kernel
theorem d1_11 : decode prog_11_method_11_code 11 = .ok (.iconst 1, 1) := by decide +kernel
theorem d1_12 : decode prog_11_method_11_code 12 = .ok (.goto 4, 3) := by decide +kernel
theorem d1_15 : decode prog_11_method_11_code 15 = .ok (.iconst 0, 1) := by decide +kernel
theorem d1_16 : decode prog_11_method_11_code 16 = .ok (.ireturn, 1) := by decide +kernel
theorem own_pn_1 : plainName "com/example/mulligan/mulligan/Database" = true := by first | (simp [plainName, overriddenIn]; done) | decide +kernel
theorem own_ef_own_rm1 (m : MethodId) (x0 : Addr) (x1 : Int32) : entryFrame m #[(.ref x0), (.int x1)] 2 = mkF m 0 #[.val (.ref x0), .val (.int x1)] [] := by first | (simp [entryFrame, mkF, argsToLocals, Value.category]; done) | rfl
def own_Q_own_rm1 (Z : State) (x0 : Addr) (x1 : Int32)  (h0 : Heap) (n0 : Nat) (v : Option Value) (h : Heap) (L : List Loc) : Prop := v = some (.int (if x1 = (4 : Int32) ∨ x1 = (8 : Int32) then (1 : Int32) else (0 : Int32))) ∧ Fr n0 L ∧ h = h0
set_option maxRecDepth 65536 in
set_option maxHeartbeats 40000000 in
theorem own_rm1 (l : Launch) (Z : State) (a0 : Array Value) (hw : ∀ d ∈ tables_1, d.before a0 Z = true) (ws : List Jvm.Cond) (x0 : Addr) (x1 : Int32)  (h0 : Heap) (n0 : Nat) (Z0 : n0 ≤ h0.size)  :
    MetFree l (⟨"com/example/mulligan/mulligan/Database", "keepsFirstSnapshot", "(I)Z"⟩ : MethodName) (head1 (Jvm.Cond.code (⟨"com/example/mulligan/mulligan/Database", "keepsFirstSnapshot", "(I)Z"⟩ : MethodName) prog_11_method_11_code 2 (some .boolean) :: ws) ({ frames := 0, cells := 0, slots := 0, locals := 0 } : Room)) (fun a U => a = #[(.ref x0), (.int x1)] ∧ Z.Warmed39 U.vm ∧ U.heap = h0) (fun _ _ _ _ _ => True) (fun _ U o U' => ∃ v L, o = .returned v ∧ own_Q_own_rm1 Z x0 x1 h0 n0 v U'.heap L ∧ FrameEnd U o U' L ({ frames := 0, cells := 0, slots := 0, locals := 0 } : Room).cells ({ frames := 0, cells := 0, slots := 0, locals := 0 } : Room).slots) := by
  refine MetFree.of_bodySF (plainFor_of_name own_pn_1) hisR ?_
  intro p e s m args below meth c s₁ Bd hml0 hP hK
  obtain ⟨rfl, hZ, hh⟩ := hP
  have hx := Bd.exec
  have hby := Bd.bytes
  have hml : c.maxLocals = 2 := hml0
  have hown : s.vm.findClass "com/example/mulligan/mulligan/Database" = some m.cls := findClass_of_methodNamed Bd.named
  have hnm := (name_of_methodNamed Bd.named Bd.method).1
  have X0 : Stand p l e ({ frames := 0, cells := 0, slots := 0, locals := 0 } : Room) s m #[(.ref x0), (.int x1)] below meth c s₁ [] 0 0 := Stand.of_body Bd
  have e0 : s₁.heap = h0 := by rw [← hh, Bd.state]; rfl
  have N0 := Fr.nil n0
  show Goes p.tables e below _ (own_R below s (own_Q_own_rm1 Z x0 x1 h0 n0) ({ frames := 0, cells := 0, slots := 0, locals := 0 } : Room).cells ({ frames := 0, cells := 0, slots := 0, locals := 0 } : Room).slots)
  refine Goes.to (fun t k => castTop (own_ef_own_rm1 m x0 x1) k) ?_
  show Goes p.tables e below (s₁.setTop (mkF m 0 #[.val (.ref x0), .val (.int x1)] [])) _
  refine Goes.to (fun _ k => XS.iloadN X0.here hx rfl (hb hby d1_0) rfl k) ?_
  show Goes p.tables e below (s₁.setTop (mkF m 1 #[.val (.ref x0), .val (.int x1)] [(.int x1)])) _
  refine Goes.to (fun _ k => XS.iconst X0.here hx rfl (hb hby d1_1) k) ?_
  show Goes p.tables e below (s₁.setTop (mkF m 2 #[.val (.ref x0), .val (.int x1)] [(.int (4 : Int32)), (.int x1)])) _
  by_cases hc1 : x1 = (4 : Int32)
  · refine Goes.to (fun _ k => XS.icmpYes X0.here hx rfl (pc0 := 2) (pc' := 11) rfl (hb hby d1_2) rfl (teq hc1).1 (by decide) (by decide) k) ?_
    show Goes p.tables e below (s₁.setTop (mkF m 11 #[.val (.ref x0), .val (.int x1)] [])) _
    refine Goes.to (fun _ k => XS.iconst X0.here hx rfl (hb hby d1_11) k) ?_
    show Goes p.tables e below (s₁.setTop (mkF m 12 #[.val (.ref x0), .val (.int x1)] [(.int (1 : Int32))])) _
    refine Goes.to (fun _ k => XS.goto X0.here hx rfl (pc0 := 12) (pc' := 16) rfl (hb hby d1_12) (by decide) (by decide) k) ?_
    show Goes p.tables e below (s₁.setTop (mkF m 16 #[.val (.ref x0), .val (.int x1)] [(.int (1 : Int32))])) _
    obtain ⟨fs, hr, hrun, hended, hW, hsame⟩ := X0.leave (v := some (.int (1 : Int32))) (fun h => by rw [Bd.returns] at h; cases h)
    have hv : (some (.int (1 : Int32)) : Option Value) = some (.int (if x1 = (4 : Int32) ∨ x1 = (8 : Int32) then (1 : Int32) else (0 : Int32))) := by
      rw [if_pos (Or.inl hc1)]
    exact ⟨_, _, retN X0 hx (t := .boolean) Bd.returns (by simp) (hb hby d1_16) hr, hrun, hended, _, _, rfl, ⟨hv, N0, e0⟩, ⟨_, rfl⟩, hW, hsame.mono (by decide) (by decide)⟩
  · refine Goes.to (fun _ k => XS.icmpNo X0.here hx rfl (hb hby d1_2) rfl (feq hc1).1 k) ?_
    show Goes p.tables e below (s₁.setTop (mkF m 5 #[.val (.ref x0), .val (.int x1)] [])) _
    refine Goes.to (fun _ k => XS.iloadN X0.here hx rfl (hb hby d1_5) rfl k) ?_
    show Goes p.tables e below (s₁.setTop (mkF m 6 #[.val (.ref x0), .val (.int x1)] [(.int x1)])) _
    refine Goes.to (fun _ k => XS.bipush X0.here hx rfl (hb hby d1_6) k) ?_
    show Goes p.tables e below (s₁.setTop (mkF m 8 #[.val (.ref x0), .val (.int x1)] [(.int (8 : Int32)), (.int x1)])) _
    by_cases hc2 : x1 = (8 : Int32)
    · refine Goes.to (fun _ k => XS.icmpNo X0.here hx rfl (hb hby d1_8) rfl (teq hc2).2 k) ?_
      show Goes p.tables e below (s₁.setTop (mkF m 11 #[.val (.ref x0), .val (.int x1)] [])) _
      refine Goes.to (fun _ k => XS.iconst X0.here hx rfl (hb hby d1_11) k) ?_
      show Goes p.tables e below (s₁.setTop (mkF m 12 #[.val (.ref x0), .val (.int x1)] [(.int (1 : Int32))])) _
      refine Goes.to (fun _ k => XS.goto X0.here hx rfl (pc0 := 12) (pc' := 16) rfl (hb hby d1_12) (by decide) (by decide) k) ?_
      show Goes p.tables e below (s₁.setTop (mkF m 16 #[.val (.ref x0), .val (.int x1)] [(.int (1 : Int32))])) _
      obtain ⟨fs, hr, hrun, hended, hW, hsame⟩ := X0.leave (v := some (.int (1 : Int32))) (fun h => by rw [Bd.returns] at h; cases h)
      have hv : (some (.int (1 : Int32)) : Option Value) = some (.int (if x1 = (4 : Int32) ∨ x1 = (8 : Int32) then (1 : Int32) else (0 : Int32))) := by
        rw [if_pos (Or.inr hc2)]
      exact ⟨_, _, retN X0 hx (t := .boolean) Bd.returns (by simp) (hb hby d1_16) hr, hrun, hended, _, _, rfl, ⟨hv, N0, e0⟩, ⟨_, rfl⟩, hW, hsame.mono (by decide) (by decide)⟩
    · refine Goes.to (fun _ k => XS.icmpYes X0.here hx rfl (pc0 := 8) (pc' := 15) rfl (hb hby d1_8) rfl (feq hc2).2 (by decide) (by decide) k) ?_
      show Goes p.tables e below (s₁.setTop (mkF m 15 #[.val (.ref x0), .val (.int x1)] [])) _
      refine Goes.to (fun _ k => XS.iconst X0.here hx rfl (hb hby d1_15) k) ?_
      show Goes p.tables e below (s₁.setTop (mkF m 16 #[.val (.ref x0), .val (.int x1)] [(.int (0 : Int32))])) _
      obtain ⟨fs, hr, hrun, hended, hW, hsame⟩ := X0.leave (v := some (.int (0 : Int32))) (fun h => by rw [Bd.returns] at h; cases h)
      have hv : (some (.int (0 : Int32)) : Option Value) = some (.int (if x1 = (4 : Int32) ∨ x1 = (8 : Int32) then (1 : Int32) else (0 : Int32))) := by
        rw [if_neg (fun q => q.elim hc1 hc2)]
      exact ⟨_, _, retN X0 hx (t := .boolean) Bd.returns (by simp) (hb hby d1_16) hr, hrun, hended, _, _, rfl, ⟨hv, N0, e0⟩, ⟨_, rfl⟩, hW, hsame.mono (by decide) (by decide)⟩

theorem d2_0 : decode prog_13_method_2_code 0 = .ok (.iload_n 1, 1) := by decide +kernel
theorem d2_1 : decode prog_13_method_2_code 1 = .ok (.iconst 4, 1) := by decide +kernel
theorem d2_2 : decode prog_13_method_2_code 2 = .ok (.if_icmp .ne 7, 3) := by decide +kernel
theorem d2_5 : decode prog_13_method_2_code 5 = .ok (.iconst 1, 1) := by decide +kernel
theorem d2_6 : decode prog_13_method_2_code 6 = .ok (.goto 4, 3) := by decide +kernel
theorem d2_9 : decode prog_13_method_2_code 9 = .ok (.iconst 0, 1) := by decide +kernel
theorem d2_10 : decode prog_13_method_2_code 10 = .ok (.ireturn, 1) := by decide +kernel
theorem own_pn_2 : plainName "com/example/mulligan/mulligan/Database$2" = true := by first | (simp [plainName, overriddenIn]; done) | decide +kernel
theorem own_ef_own_rm2 (m : MethodId) (x0 : Addr) (x1 : Int32) : entryFrame m #[(.ref x0), (.int x1)] 2 = mkF m 0 #[.val (.ref x0), .val (.int x1)] [] := by first | (simp [entryFrame, mkF, argsToLocals, Value.category]; done) | rfl
def own_Q_own_rm2 (Z : State) (x0 : Addr) (x1 : Int32)  (h0 : Heap) (n0 : Nat) (v : Option Value) (h : Heap) (L : List Loc) : Prop := v = some (.int (if x1 = (4 : Int32) then (1 : Int32) else (0 : Int32))) ∧ Fr n0 L ∧ h = h0
set_option maxRecDepth 65536 in
set_option maxHeartbeats 40000000 in
theorem own_rm2 (l : Launch) (Z : State) (a0 : Array Value) (hw : ∀ d ∈ tables_1, d.before a0 Z = true) (ws : List Jvm.Cond) (x0 : Addr) (x1 : Int32)  (h0 : Heap) (n0 : Nat) (Z0 : n0 ≤ h0.size)  :
    MetFree l (⟨"com/example/mulligan/mulligan/Database$2", "keepsFirstSnapshot", "(I)Z"⟩ : MethodName) (head1 (Jvm.Cond.code (⟨"com/example/mulligan/mulligan/Database$2", "keepsFirstSnapshot", "(I)Z"⟩ : MethodName) prog_13_method_2_code 2 (some .boolean) :: ws) ({ frames := 0, cells := 0, slots := 0, locals := 0 } : Room)) (fun a U => a = #[(.ref x0), (.int x1)] ∧ Z.Warmed39 U.vm ∧ U.heap = h0) (fun _ _ _ _ _ => True) (fun _ U o U' => ∃ v L, o = .returned v ∧ own_Q_own_rm2 Z x0 x1 h0 n0 v U'.heap L ∧ FrameEnd U o U' L ({ frames := 0, cells := 0, slots := 0, locals := 0 } : Room).cells ({ frames := 0, cells := 0, slots := 0, locals := 0 } : Room).slots) := by
  refine MetFree.of_bodySF (plainFor_of_name own_pn_2) hisR ?_
  intro p e s m args below meth c s₁ Bd hml0 hP hK
  obtain ⟨rfl, hZ, hh⟩ := hP
  have hx := Bd.exec
  have hby := Bd.bytes
  have hml : c.maxLocals = 2 := hml0
  have hown : s.vm.findClass "com/example/mulligan/mulligan/Database$2" = some m.cls := findClass_of_methodNamed Bd.named
  have hnm := (name_of_methodNamed Bd.named Bd.method).1
  have X0 : Stand p l e ({ frames := 0, cells := 0, slots := 0, locals := 0 } : Room) s m #[(.ref x0), (.int x1)] below meth c s₁ [] 0 0 := Stand.of_body Bd
  have e0 : s₁.heap = h0 := by rw [← hh, Bd.state]; rfl
  have N0 := Fr.nil n0
  show Goes p.tables e below _ (own_R below s (own_Q_own_rm2 Z x0 x1 h0 n0) ({ frames := 0, cells := 0, slots := 0, locals := 0 } : Room).cells ({ frames := 0, cells := 0, slots := 0, locals := 0 } : Room).slots)
  refine Goes.to (fun t k => castTop (own_ef_own_rm2 m x0 x1) k) ?_
  show Goes p.tables e below (s₁.setTop (mkF m 0 #[.val (.ref x0), .val (.int x1)] [])) _
  refine Goes.to (fun _ k => XS.iloadN X0.here hx rfl (hb hby d2_0) rfl k) ?_
  show Goes p.tables e below (s₁.setTop (mkF m 1 #[.val (.ref x0), .val (.int x1)] [(.int x1)])) _
  refine Goes.to (fun _ k => XS.iconst X0.here hx rfl (hb hby d2_1) k) ?_
  show Goes p.tables e below (s₁.setTop (mkF m 2 #[.val (.ref x0), .val (.int x1)] [(.int (4 : Int32)), (.int x1)])) _
  by_cases hc1 : x1 = (4 : Int32)
  · refine Goes.to (fun _ k => XS.icmpNo X0.here hx rfl (hb hby d2_2) rfl (teq hc1).2 k) ?_
    show Goes p.tables e below (s₁.setTop (mkF m 5 #[.val (.ref x0), .val (.int x1)] [])) _
    refine Goes.to (fun _ k => XS.iconst X0.here hx rfl (hb hby d2_5) k) ?_
    show Goes p.tables e below (s₁.setTop (mkF m 6 #[.val (.ref x0), .val (.int x1)] [(.int (1 : Int32))])) _
    refine Goes.to (fun _ k => XS.goto X0.here hx rfl (pc0 := 6) (pc' := 10) rfl (hb hby d2_6) (by decide) (by decide) k) ?_
    show Goes p.tables e below (s₁.setTop (mkF m 10 #[.val (.ref x0), .val (.int x1)] [(.int (1 : Int32))])) _
    obtain ⟨fs, hr, hrun, hended, hW, hsame⟩ := X0.leave (v := some (.int (1 : Int32))) (fun h => by rw [Bd.returns] at h; cases h)
    have hv : (some (.int (1 : Int32)) : Option Value) = some (.int (if x1 = (4 : Int32) then (1 : Int32) else (0 : Int32))) := by
      rw [if_pos hc1]
    exact ⟨_, _, retN X0 hx (t := .boolean) Bd.returns (by simp) (hb hby d2_10) hr, hrun, hended, _, _, rfl, ⟨hv, N0, e0⟩, ⟨_, rfl⟩, hW, hsame.mono (by decide) (by decide)⟩
  · refine Goes.to (fun _ k => XS.icmpYes X0.here hx rfl (pc0 := 2) (pc' := 9) rfl (hb hby d2_2) rfl (feq hc1).2 (by decide) (by decide) k) ?_
    show Goes p.tables e below (s₁.setTop (mkF m 9 #[.val (.ref x0), .val (.int x1)] [])) _
    refine Goes.to (fun _ k => XS.iconst X0.here hx rfl (hb hby d2_9) k) ?_
    show Goes p.tables e below (s₁.setTop (mkF m 10 #[.val (.ref x0), .val (.int x1)] [(.int (0 : Int32))])) _
    obtain ⟨fs, hr, hrun, hended, hW, hsame⟩ := X0.leave (v := some (.int (0 : Int32))) (fun h => by rw [Bd.returns] at h; cases h)
    have hv : (some (.int (0 : Int32)) : Option Value) = some (.int (if x1 = (4 : Int32) then (1 : Int32) else (0 : Int32))) := by
      rw [if_neg hc1]
    exact ⟨_, _, retN X0 hx (t := .boolean) Bd.returns (by simp) (hb hby d2_10) hr, hrun, hended, _, _, rfl, ⟨hv, N0, e0⟩, ⟨_, rfl⟩, hW, hsame.mono (by decide) (by decide)⟩

theorem own_pd_pIqZ : parseMethodDescriptor "(I)Z" = some ⟨[.int], some .boolean⟩ := by decide +kernel
theorem own_pn_0 : plainName "com/example/mulligan/mulligan/DatabaseKeepsFirstSnapshotPinLaw" = true := by first | (simp [plainName, overriddenIn]; done) | decide +kernel
theorem own_ef_own_rm0 (m : MethodId) (x0 : Int32) (x1 : Int32) (x2 : Int32) : entryFrame m #[(.int x0), (.int x1), (.int x2)] maxLocals = mkF m 0 #[.val (.int x0), .val (.int x1), .val (.int x2), .unset, .unset, .unset, .unset, .unset] [] := by first | (simp [entryFrame, mkF, argsToLocals, Value.category, maxLocals]; done) | rfl
def own_Q_own_rm0 (Z : State) (x0 : Int32) (x1 : Int32) (x2 : Int32) (a_Database_POSTGRESQL : Addr) (a_Database_MARIADB : Addr) (h0 : Heap) (n0 : Nat) (v : Option Value) (h : Heap) (L : List Loc) : Prop := v = some (.int (1 : Int32)) ∧ Fr n0 L
set_option maxRecDepth 65536 in
set_option maxHeartbeats 40000000 in
theorem own_rm0 (l : Launch) (Z : State) (a0 : Array Value) (hw : ∀ d ∈ tables_1, d.before a0 Z = true) (ws : List Jvm.Cond) (x0 : Int32) (x1 : Int32) (x2 : Int32) (a_Database_POSTGRESQL : Addr) (a_Database_MARIADB : Addr) (h0 : Heap) (n0 : Nat) (Z0 : n0 ≤ h0.size) (O0 : Old Z n0 h0) (S_Database_POSTGRESQL : Sta Z Z.heap "com/example/mulligan/mulligan/Database" "POSTGRESQL" "Lcom/example/mulligan/mulligan/Database;" (.ref a_Database_POSTGRESQL)) (E_Database_POSTGRESQL : Exa Z Z.heap a_Database_POSTGRESQL "com/example/mulligan/mulligan/Database$1") (S_Database_MARIADB : Sta Z Z.heap "com/example/mulligan/mulligan/Database" "MARIADB" "Lcom/example/mulligan/mulligan/Database;" (.ref a_Database_MARIADB)) (E_Database_MARIADB : Exa Z Z.heap a_Database_MARIADB "com/example/mulligan/mulligan/Database$2") :
    MetFree l x (head1 (Jvm.Cond.code x code maxLocals ret :: ws) room_1) (fun a U => a = #[(.int x0), (.int x1), (.int x2)] ∧ Z.Warmed39 U.vm ∧ U.heap = h0) (fun _ _ _ _ _ => True) (fun _ U o U' => ∃ v L, o = .returned v ∧ own_Q_own_rm0 Z x0 x1 x2 a_Database_POSTGRESQL a_Database_MARIADB h0 n0 v U'.heap L ∧ FrameEnd U o U' L 1 8) := by
  refine MetFree.of_bodySF (plainFor_of_name own_pn_0) hisR ?_
  intro p e s m args below meth c s₁ Bd hml0 hP hK
  obtain ⟨rfl, hZ, hh⟩ := hP
  have hx := Bd.exec
  have hby := Bd.bytes
  have hml : c.maxLocals = 8 := hml0
  have hown : s.vm.findClass "com/example/mulligan/mulligan/DatabaseKeepsFirstSnapshotPinLaw" = some m.cls := findClass_of_methodNamed Bd.named
  have hnm := (name_of_methodNamed Bd.named Bd.method).1
  have X0 : Stand p l e room_1 s m #[(.int x0), (.int x1), (.int x2)] below meth c s₁ [] 0 0 := Stand.of_body Bd
  have e0 : s₁.heap = h0 := by rw [← hh, Bd.state]; rfl
  have N0 := Fr.nil n0
  show Goes p.tables e below _ (own_R below s (own_Q_own_rm0 Z x0 x1 x2 a_Database_POSTGRESQL a_Database_MARIADB h0 n0) 1 8)
  refine Goes.to (fun t k => castTop (own_ef_own_rm0 m x0 x1 x2) k) ?_
  show Goes p.tables e below (s₁.setTop (mkF m 0 #[.val (.int x0), .val (.int x1), .val (.int x2), .unset, .unset, .unset, .unset, .unset] [])) _
  refine Goes.to (fun _ k => XS.bipush X0.here hx rfl (hb hby at_0) k) ?_
  show Goes p.tables e below (s₁.setTop (mkF m 2 #[.val (.int x0), .val (.int x1), .val (.int x2), .unset, .unset, .unset, .unset, .unset] [(.int (8 : Int32))])) _
  obtain ⟨T1, h1, k1, X1, e1, E1, A1, st1⟩ := newP X0 hx hZ (hw _ (List.mem_of_getElem? (i := 0) rfl)) e0 (g := (mkF m 2 #[.val (.int x0), .val (.int x1), .val (.int x2), .unset, .unset, .unset, .unset, .unset] [(.int (8 : Int32))])) rfl (hb hby at_2) rfl (by decide) (cap := 8) (by decide) (by decide) (by decide) (by decide)
  obtain ⟨b1, g1⟩ : ∃ z, z = h0.size := ⟨_, rfl⟩
  rw [← g1] at A1 st1
  subst e1
  have O2 := O0.ext E1
  have g_b1 : n0 ≤ b1 := Nat.le_trans Z0 (Nat.le_of_eq g1.symm)
  have Z1 : n0 ≤ T1.heap.size := Nat.le_trans Z0 E1.1
  have V1 : Arv Z T1.heap b1 k1 .int (8 : Int32) [(.int (0 : Int32)), (.int (0 : Int32)), (.int (0 : Int32)), (.int (0 : Int32)), (.int (0 : Int32)), (.int (0 : Int32)), (.int (0 : Int32)), (.int (0 : Int32))] (.int (0 : Int32)) := (Arv.new A1 (by decide)).pad (pad_rep [] (.int (0 : Int32)) 8)
  refine Goes.to st1 ?_
  show Goes p.tables e below (T1.setTop (mkF m 4 #[.val (.int x0), .val (.int x1), .val (.int x2), .unset, .unset, .unset, .unset, .unset] [(.ref b1)])) _
  refine Goes.to (fun _ k => XS.dup X1.here hx rfl (hb hby at_4) rfl rfl k) ?_
  show Goes p.tables e below (T1.setTop (mkF m 5 #[.val (.int x0), .val (.int x1), .val (.int x2), .unset, .unset, .unset, .unset, .unset] [(.ref b1), (.ref b1)])) _
  refine Goes.to (fun _ k => XS.iconst X1.here hx rfl (hb hby at_5) k) ?_
  show Goes p.tables e below (T1.setTop (mkF m 6 #[.val (.int x0), .val (.int x1), .val (.int x2), .unset, .unset, .unset, .unset, .unset] [(.int (0 : Int32)), (.ref b1), (.ref b1)])) _
  refine Goes.to (fun _ k => XS.iconst X1.here hx rfl (hb hby at_6) k) ?_
  show Goes p.tables e below (T1.setTop (mkF m 7 #[.val (.int x0), .val (.int x1), .val (.int x2), .unset, .unset, .unset, .unset, .unset] [(.int (0 : Int32)), (.int (0 : Int32)), (.ref b1), (.ref b1)])) _
  obtain ⟨cl3, Ar3, q3, S3, N3, H3, G3⟩ := V1
  have hin3 : ¬ ((0 : Int32) < 0 ∨ cl3.slots.size ≤ ((0 : Int32)).toNatClampNeg) := inb_of S3 ⟨by decide, by decide⟩
  obtain ⟨T4, h4, X4, e4, W4, st4⟩ := stI X1 hx hZ rfl Ar3 (j := (0 : Int32)) hin3 (g := (mkF m 7 #[.val (.int x0), .val (.int x1), .val (.int x2), .unset, .unset, .unset, .unset, .unset] [(.int (0 : Int32)), (.int (0 : Int32)), (.ref b1), (.ref b1)])) rfl rfl (hb hby at_7)
  subst e4
  have O5 := O2.wr W4 g_b1
  have N4 := Fr.snoc X4 N0 g_b1
  have Z4 : n0 ≤ T4.heap.size := Nat.le_trans Z1 (Nat.le_of_eq W4.size.symm)
  have V4 : Arv Z T4.heap b1 k1 .int (8 : Int32) [(.int (0 : Int32)), (.int (0 : Int32)), (.int (0 : Int32)), (.int (0 : Int32)), (.int (0 : Int32)), (.int (0 : Int32)), (.int (0 : Int32)), (.int (0 : Int32))] (.int (0 : Int32)) := Arv.set Ar3 q3 S3 N3 H3 G3 rfl W4 0 rfl (Nat.le_of_ble_eq_true rfl)
  refine Goes.to st4 ?_
  show Goes p.tables e below (T4.setTop (mkF m 8 #[.val (.int x0), .val (.int x1), .val (.int x2), .unset, .unset, .unset, .unset, .unset] [(.ref b1)])) _
  refine Goes.to (fun _ k => XS.dup X4.here hx rfl (hb hby at_8) rfl rfl k) ?_
  show Goes p.tables e below (T4.setTop (mkF m 9 #[.val (.int x0), .val (.int x1), .val (.int x2), .unset, .unset, .unset, .unset, .unset] [(.ref b1), (.ref b1)])) _
  refine Goes.to (fun _ k => XS.iconst X4.here hx rfl (hb hby at_9) k) ?_
  show Goes p.tables e below (T4.setTop (mkF m 10 #[.val (.int x0), .val (.int x1), .val (.int x2), .unset, .unset, .unset, .unset, .unset] [(.int (1 : Int32)), (.ref b1), (.ref b1)])) _
  refine Goes.to (fun _ k => XS.iconst X4.here hx rfl (hb hby at_10) k) ?_
  show Goes p.tables e below (T4.setTop (mkF m 11 #[.val (.int x0), .val (.int x1), .val (.int x2), .unset, .unset, .unset, .unset, .unset] [(.int (1 : Int32)), (.int (1 : Int32)), (.ref b1), (.ref b1)])) _
  obtain ⟨cl7, Ar7, q7, S7, N7, H7, G7⟩ := V4
  have hin7 : ¬ ((1 : Int32) < 0 ∨ cl7.slots.size ≤ ((1 : Int32)).toNatClampNeg) := inb_of S7 ⟨by decide, by decide⟩
  obtain ⟨T8, h8, X8, e8, W8, st8⟩ := stI X4 hx hZ rfl Ar7 (j := (1 : Int32)) hin7 (g := (mkF m 11 #[.val (.int x0), .val (.int x1), .val (.int x2), .unset, .unset, .unset, .unset, .unset] [(.int (1 : Int32)), (.int (1 : Int32)), (.ref b1), (.ref b1)])) rfl rfl (hb hby at_11)
  subst e8
  have O9 := O5.wr W8 g_b1
  have N8 := Fr.snoc X8 N4 g_b1
  have Z8 : n0 ≤ T8.heap.size := Nat.le_trans Z4 (Nat.le_of_eq W8.size.symm)
  have V8 : Arv Z T8.heap b1 k1 .int (8 : Int32) [(.int (0 : Int32)), (.int (1 : Int32)), (.int (0 : Int32)), (.int (0 : Int32)), (.int (0 : Int32)), (.int (0 : Int32)), (.int (0 : Int32)), (.int (0 : Int32))] (.int (0 : Int32)) := Arv.set Ar7 q7 S7 N7 H7 G7 rfl W8 1 rfl (Nat.le_of_ble_eq_true rfl)
  refine Goes.to st8 ?_
  show Goes p.tables e below (T8.setTop (mkF m 12 #[.val (.int x0), .val (.int x1), .val (.int x2), .unset, .unset, .unset, .unset, .unset] [(.ref b1)])) _
  refine Goes.to (fun _ k => XS.dup X8.here hx rfl (hb hby at_12) rfl rfl k) ?_
  show Goes p.tables e below (T8.setTop (mkF m 13 #[.val (.int x0), .val (.int x1), .val (.int x2), .unset, .unset, .unset, .unset, .unset] [(.ref b1), (.ref b1)])) _
  refine Goes.to (fun _ k => XS.iconst X8.here hx rfl (hb hby at_13) k) ?_
  show Goes p.tables e below (T8.setTop (mkF m 14 #[.val (.int x0), .val (.int x1), .val (.int x2), .unset, .unset, .unset, .unset, .unset] [(.int (2 : Int32)), (.ref b1), (.ref b1)])) _
  refine Goes.to (fun _ k => XS.iconst X8.here hx rfl (hb hby at_14) k) ?_
  show Goes p.tables e below (T8.setTop (mkF m 15 #[.val (.int x0), .val (.int x1), .val (.int x2), .unset, .unset, .unset, .unset, .unset] [(.int (2 : Int32)), (.int (2 : Int32)), (.ref b1), (.ref b1)])) _
  obtain ⟨cl11, Ar11, q11, S11, N11, H11, G11⟩ := V8
  have hin11 : ¬ ((2 : Int32) < 0 ∨ cl11.slots.size ≤ ((2 : Int32)).toNatClampNeg) := inb_of S11 ⟨by decide, by decide⟩
  obtain ⟨T12, h12, X12, e12, W12, st12⟩ := stI X8 hx hZ rfl Ar11 (j := (2 : Int32)) hin11 (g := (mkF m 15 #[.val (.int x0), .val (.int x1), .val (.int x2), .unset, .unset, .unset, .unset, .unset] [(.int (2 : Int32)), (.int (2 : Int32)), (.ref b1), (.ref b1)])) rfl rfl (hb hby at_15)
  subst e12
  have O13 := O9.wr W12 g_b1
  have N12 := Fr.snoc X12 N8 g_b1
  have Z12 : n0 ≤ T12.heap.size := Nat.le_trans Z8 (Nat.le_of_eq W12.size.symm)
  have V12 : Arv Z T12.heap b1 k1 .int (8 : Int32) [(.int (0 : Int32)), (.int (1 : Int32)), (.int (2 : Int32)), (.int (0 : Int32)), (.int (0 : Int32)), (.int (0 : Int32)), (.int (0 : Int32)), (.int (0 : Int32))] (.int (0 : Int32)) := Arv.set Ar11 q11 S11 N11 H11 G11 rfl W12 2 rfl (Nat.le_of_ble_eq_true rfl)
  refine Goes.to st12 ?_
  show Goes p.tables e below (T12.setTop (mkF m 16 #[.val (.int x0), .val (.int x1), .val (.int x2), .unset, .unset, .unset, .unset, .unset] [(.ref b1)])) _
  refine Goes.to (fun _ k => XS.dup X12.here hx rfl (hb hby at_16) rfl rfl k) ?_
  show Goes p.tables e below (T12.setTop (mkF m 17 #[.val (.int x0), .val (.int x1), .val (.int x2), .unset, .unset, .unset, .unset, .unset] [(.ref b1), (.ref b1)])) _
  refine Goes.to (fun _ k => XS.iconst X12.here hx rfl (hb hby at_17) k) ?_
  show Goes p.tables e below (T12.setTop (mkF m 18 #[.val (.int x0), .val (.int x1), .val (.int x2), .unset, .unset, .unset, .unset, .unset] [(.int (3 : Int32)), (.ref b1), (.ref b1)])) _
  refine Goes.to (fun _ k => XS.iconst X12.here hx rfl (hb hby at_18) k) ?_
  show Goes p.tables e below (T12.setTop (mkF m 19 #[.val (.int x0), .val (.int x1), .val (.int x2), .unset, .unset, .unset, .unset, .unset] [(.int (4 : Int32)), (.int (3 : Int32)), (.ref b1), (.ref b1)])) _
  obtain ⟨cl15, Ar15, q15, S15, N15, H15, G15⟩ := V12
  have hin15 : ¬ ((3 : Int32) < 0 ∨ cl15.slots.size ≤ ((3 : Int32)).toNatClampNeg) := inb_of S15 ⟨by decide, by decide⟩
  obtain ⟨T16, h16, X16, e16, W16, st16⟩ := stI X12 hx hZ rfl Ar15 (j := (3 : Int32)) hin15 (g := (mkF m 19 #[.val (.int x0), .val (.int x1), .val (.int x2), .unset, .unset, .unset, .unset, .unset] [(.int (4 : Int32)), (.int (3 : Int32)), (.ref b1), (.ref b1)])) rfl rfl (hb hby at_19)
  subst e16
  have O17 := O13.wr W16 g_b1
  have N16 := Fr.snoc X16 N12 g_b1
  have Z16 : n0 ≤ T16.heap.size := Nat.le_trans Z12 (Nat.le_of_eq W16.size.symm)
  have V16 : Arv Z T16.heap b1 k1 .int (8 : Int32) [(.int (0 : Int32)), (.int (1 : Int32)), (.int (2 : Int32)), (.int (4 : Int32)), (.int (0 : Int32)), (.int (0 : Int32)), (.int (0 : Int32)), (.int (0 : Int32))] (.int (0 : Int32)) := Arv.set Ar15 q15 S15 N15 H15 G15 rfl W16 3 rfl (Nat.le_of_ble_eq_true rfl)
  refine Goes.to st16 ?_
  show Goes p.tables e below (T16.setTop (mkF m 20 #[.val (.int x0), .val (.int x1), .val (.int x2), .unset, .unset, .unset, .unset, .unset] [(.ref b1)])) _
  refine Goes.to (fun _ k => XS.dup X16.here hx rfl (hb hby at_20) rfl rfl k) ?_
  show Goes p.tables e below (T16.setTop (mkF m 21 #[.val (.int x0), .val (.int x1), .val (.int x2), .unset, .unset, .unset, .unset, .unset] [(.ref b1), (.ref b1)])) _
  refine Goes.to (fun _ k => XS.iconst X16.here hx rfl (hb hby at_21) k) ?_
  show Goes p.tables e below (T16.setTop (mkF m 22 #[.val (.int x0), .val (.int x1), .val (.int x2), .unset, .unset, .unset, .unset, .unset] [(.int (4 : Int32)), (.ref b1), (.ref b1)])) _
  refine Goes.to (fun _ k => XS.bipush X16.here hx rfl (hb hby at_22) k) ?_
  show Goes p.tables e below (T16.setTop (mkF m 24 #[.val (.int x0), .val (.int x1), .val (.int x2), .unset, .unset, .unset, .unset, .unset] [(.int (8 : Int32)), (.int (4 : Int32)), (.ref b1), (.ref b1)])) _
  obtain ⟨cl19, Ar19, q19, S19, N19, H19, G19⟩ := V16
  have hin19 : ¬ ((4 : Int32) < 0 ∨ cl19.slots.size ≤ ((4 : Int32)).toNatClampNeg) := inb_of S19 ⟨by decide, by decide⟩
  obtain ⟨T20, h20, X20, e20, W20, st20⟩ := stI X16 hx hZ rfl Ar19 (j := (4 : Int32)) hin19 (g := (mkF m 24 #[.val (.int x0), .val (.int x1), .val (.int x2), .unset, .unset, .unset, .unset, .unset] [(.int (8 : Int32)), (.int (4 : Int32)), (.ref b1), (.ref b1)])) rfl rfl (hb hby at_24)
  subst e20
  have O21 := O17.wr W20 g_b1
  have N20 := Fr.snoc X20 N16 g_b1
  have Z20 : n0 ≤ T20.heap.size := Nat.le_trans Z16 (Nat.le_of_eq W20.size.symm)
  have V20 : Arv Z T20.heap b1 k1 .int (8 : Int32) [(.int (0 : Int32)), (.int (1 : Int32)), (.int (2 : Int32)), (.int (4 : Int32)), (.int (8 : Int32)), (.int (0 : Int32)), (.int (0 : Int32)), (.int (0 : Int32))] (.int (0 : Int32)) := Arv.set Ar19 q19 S19 N19 H19 G19 rfl W20 4 rfl (Nat.le_of_ble_eq_true rfl)
  refine Goes.to st20 ?_
  show Goes p.tables e below (T20.setTop (mkF m 25 #[.val (.int x0), .val (.int x1), .val (.int x2), .unset, .unset, .unset, .unset, .unset] [(.ref b1)])) _
  refine Goes.to (fun _ k => XS.dup X20.here hx rfl (hb hby at_25) rfl rfl k) ?_
  show Goes p.tables e below (T20.setTop (mkF m 26 #[.val (.int x0), .val (.int x1), .val (.int x2), .unset, .unset, .unset, .unset, .unset] [(.ref b1), (.ref b1)])) _
  refine Goes.to (fun _ k => XS.iconst X20.here hx rfl (hb hby at_26) k) ?_
  show Goes p.tables e below (T20.setTop (mkF m 27 #[.val (.int x0), .val (.int x1), .val (.int x2), .unset, .unset, .unset, .unset, .unset] [(.int (5 : Int32)), (.ref b1), (.ref b1)])) _
  refine Goes.to (fun _ k => XS.iconst X20.here hx rfl (hb hby at_27) k) ?_
  show Goes p.tables e below (T20.setTop (mkF m 28 #[.val (.int x0), .val (.int x1), .val (.int x2), .unset, .unset, .unset, .unset, .unset] [(.int (3 : Int32)), (.int (5 : Int32)), (.ref b1), (.ref b1)])) _
  obtain ⟨cl23, Ar23, q23, S23, N23, H23, G23⟩ := V20
  have hin23 : ¬ ((5 : Int32) < 0 ∨ cl23.slots.size ≤ ((5 : Int32)).toNatClampNeg) := inb_of S23 ⟨by decide, by decide⟩
  obtain ⟨T24, h24, X24, e24, W24, st24⟩ := stI X20 hx hZ rfl Ar23 (j := (5 : Int32)) hin23 (g := (mkF m 28 #[.val (.int x0), .val (.int x1), .val (.int x2), .unset, .unset, .unset, .unset, .unset] [(.int (3 : Int32)), (.int (5 : Int32)), (.ref b1), (.ref b1)])) rfl rfl (hb hby at_28)
  subst e24
  have O25 := O21.wr W24 g_b1
  have N24 := Fr.snoc X24 N20 g_b1
  have Z24 : n0 ≤ T24.heap.size := Nat.le_trans Z20 (Nat.le_of_eq W24.size.symm)
  have V24 : Arv Z T24.heap b1 k1 .int (8 : Int32) [(.int (0 : Int32)), (.int (1 : Int32)), (.int (2 : Int32)), (.int (4 : Int32)), (.int (8 : Int32)), (.int (3 : Int32)), (.int (0 : Int32)), (.int (0 : Int32))] (.int (0 : Int32)) := Arv.set Ar23 q23 S23 N23 H23 G23 rfl W24 5 rfl (Nat.le_of_ble_eq_true rfl)
  refine Goes.to st24 ?_
  show Goes p.tables e below (T24.setTop (mkF m 29 #[.val (.int x0), .val (.int x1), .val (.int x2), .unset, .unset, .unset, .unset, .unset] [(.ref b1)])) _
  refine Goes.to (fun _ k => XS.dup X24.here hx rfl (hb hby at_29) rfl rfl k) ?_
  show Goes p.tables e below (T24.setTop (mkF m 30 #[.val (.int x0), .val (.int x1), .val (.int x2), .unset, .unset, .unset, .unset, .unset] [(.ref b1), (.ref b1)])) _
  refine Goes.to (fun _ k => XS.bipush X24.here hx rfl (hb hby at_30) k) ?_
  show Goes p.tables e below (T24.setTop (mkF m 32 #[.val (.int x0), .val (.int x1), .val (.int x2), .unset, .unset, .unset, .unset, .unset] [(.int (6 : Int32)), (.ref b1), (.ref b1)])) _
  refine Goes.to (fun _ k => XS.bipush X24.here hx rfl (hb hby at_32) k) ?_
  show Goes p.tables e below (T24.setTop (mkF m 34 #[.val (.int x0), .val (.int x1), .val (.int x2), .unset, .unset, .unset, .unset, .unset] [(.int (16 : Int32)), (.int (6 : Int32)), (.ref b1), (.ref b1)])) _
  obtain ⟨cl27, Ar27, q27, S27, N27, H27, G27⟩ := V24
  have hin27 : ¬ ((6 : Int32) < 0 ∨ cl27.slots.size ≤ ((6 : Int32)).toNatClampNeg) := inb_of S27 ⟨by decide, by decide⟩
  obtain ⟨T28, h28, X28, e28, W28, st28⟩ := stI X24 hx hZ rfl Ar27 (j := (6 : Int32)) hin27 (g := (mkF m 34 #[.val (.int x0), .val (.int x1), .val (.int x2), .unset, .unset, .unset, .unset, .unset] [(.int (16 : Int32)), (.int (6 : Int32)), (.ref b1), (.ref b1)])) rfl rfl (hb hby at_34)
  subst e28
  have O29 := O25.wr W28 g_b1
  have N28 := Fr.snoc X28 N24 g_b1
  have Z28 : n0 ≤ T28.heap.size := Nat.le_trans Z24 (Nat.le_of_eq W28.size.symm)
  have V28 : Arv Z T28.heap b1 k1 .int (8 : Int32) [(.int (0 : Int32)), (.int (1 : Int32)), (.int (2 : Int32)), (.int (4 : Int32)), (.int (8 : Int32)), (.int (3 : Int32)), (.int (16 : Int32)), (.int (0 : Int32))] (.int (0 : Int32)) := Arv.set Ar27 q27 S27 N27 H27 G27 rfl W28 6 rfl (Nat.le_of_ble_eq_true rfl)
  refine Goes.to st28 ?_
  show Goes p.tables e below (T28.setTop (mkF m 35 #[.val (.int x0), .val (.int x1), .val (.int x2), .unset, .unset, .unset, .unset, .unset] [(.ref b1)])) _
  refine Goes.to (fun _ k => XS.dup X28.here hx rfl (hb hby at_35) rfl rfl k) ?_
  show Goes p.tables e below (T28.setTop (mkF m 36 #[.val (.int x0), .val (.int x1), .val (.int x2), .unset, .unset, .unset, .unset, .unset] [(.ref b1), (.ref b1)])) _
  refine Goes.to (fun _ k => XS.bipush X28.here hx rfl (hb hby at_36) k) ?_
  show Goes p.tables e below (T28.setTop (mkF m 38 #[.val (.int x0), .val (.int x1), .val (.int x2), .unset, .unset, .unset, .unset, .unset] [(.int (7 : Int32)), (.ref b1), (.ref b1)])) _
  refine Goes.to (fun _ k => XS.bipush X28.here hx rfl (hb hby at_38) k) ?_
  show Goes p.tables e below (T28.setTop (mkF m 40 #[.val (.int x0), .val (.int x1), .val (.int x2), .unset, .unset, .unset, .unset, .unset] [(.int (-4 : Int32)), (.int (7 : Int32)), (.ref b1), (.ref b1)])) _
  obtain ⟨cl31, Ar31, q31, S31, N31, H31, G31⟩ := V28
  have hin31 : ¬ ((7 : Int32) < 0 ∨ cl31.slots.size ≤ ((7 : Int32)).toNatClampNeg) := inb_of S31 ⟨by decide, by decide⟩
  obtain ⟨T32, h32, X32, e32, W32, st32⟩ := stI X28 hx hZ rfl Ar31 (j := (7 : Int32)) hin31 (g := (mkF m 40 #[.val (.int x0), .val (.int x1), .val (.int x2), .unset, .unset, .unset, .unset, .unset] [(.int (-4 : Int32)), (.int (7 : Int32)), (.ref b1), (.ref b1)])) rfl rfl (hb hby at_40)
  subst e32
  have O33 := O29.wr W32 g_b1
  have N32 := Fr.snoc X32 N28 g_b1
  have Z32 : n0 ≤ T32.heap.size := Nat.le_trans Z28 (Nat.le_of_eq W32.size.symm)
  have V32 : Arv Z T32.heap b1 k1 .int (8 : Int32) [(.int (0 : Int32)), (.int (1 : Int32)), (.int (2 : Int32)), (.int (4 : Int32)), (.int (8 : Int32)), (.int (3 : Int32)), (.int (16 : Int32)), (.int (-4 : Int32))] (.int (0 : Int32)) := Arv.set Ar31 q31 S31 N31 H31 G31 rfl W32 7 rfl (Nat.le_of_ble_eq_true rfl)
  refine Goes.to st32 ?_
  show Goes p.tables e below (T32.setTop (mkF m 41 #[.val (.int x0), .val (.int x1), .val (.int x2), .unset, .unset, .unset, .unset, .unset] [(.ref b1)])) _
  refine Goes.to (fun _ k => XS.astoreN X32.here hx rfl (hb hby at_41) rfl rfl (l' := #[.val (.int x0), .val (.int x1), .val (.int x2), .val (.ref b1), .unset, .unset, .unset, .unset]) rfl k) ?_
  show Goes p.tables e below (T32.setTop (mkF m 42 #[.val (.int x0), .val (.int x1), .val (.int x2), .val (.ref b1), .unset, .unset, .unset, .unset] [])) _
  refine Goes.to (fun _ k => XS.iloadN X32.here hx rfl (hb hby at_42) rfl k) ?_
  show Goes p.tables e below (T32.setTop (mkF m 43 #[.val (.int x0), .val (.int x1), .val (.int x2), .val (.ref b1), .unset, .unset, .unset, .unset] [(.int x1)])) _
  refine Goes.to (fun _ k => XS.bipush X32.here hx rfl (hb hby at_43) k) ?_
  show Goes p.tables e below (T32.setTop (mkF m 45 #[.val (.int x0), .val (.int x1), .val (.int x2), .val (.ref b1), .unset, .unset, .unset, .unset] [(.int (8 : Int32)), (.int x1)])) _
  refine Goes.to (fun _ k => XS.iand X32.here hx rfl (hb hby at_45) rfl k) ?_
  show Goes p.tables e below (T32.setTop (mkF m 46 #[.val (.int x0), .val (.int x1), .val (.int x2), .val (.ref b1), .unset, .unset, .unset, .unset] [(.int (x1 &&& (8 : Int32)))])) _
  by_cases hc35 : (x1 &&& (8 : Int32)) = (0 : Int32)
  · refine Goes.to (fun _ k => XS.ifYes X32.here hx rfl (pc0 := 46) (pc' := 53) rfl (hb hby at_46) rfl ((if0 _ _).trans (teq hc35).1) (by decide) (by decide) k) ?_
    show Goes p.tables e below (T32.setTop (mkF m 53 #[.val (.int x0), .val (.int x1), .val (.int x2), .val (.ref b1), .unset, .unset, .unset, .unset] [])) _
    refine Goes.to (fun _ k => XS.aloadN X32.here hx rfl (hb hby at_53) rfl rfl k) ?_
    show Goes p.tables e below (T32.setTop (mkF m 54 #[.val (.int x0), .val (.int x1), .val (.int x2), .val (.ref b1), .unset, .unset, .unset, .unset] [(.ref b1)])) _
    refine Goes.to (fun _ k => XS.iloadN X32.here hx rfl (hb hby at_54) rfl k) ?_
    show Goes p.tables e below (T32.setTop (mkF m 55 #[.val (.int x0), .val (.int x1), .val (.int x2), .val (.ref b1), .unset, .unset, .unset, .unset] [(.int x1), (.ref b1)])) _
    refine Goes.to (fun _ k => XS.bipush X32.here hx rfl (hb hby at_55) k) ?_
    show Goes p.tables e below (T32.setTop (mkF m 57 #[.val (.int x0), .val (.int x1), .val (.int x2), .val (.ref b1), .unset, .unset, .unset, .unset] [(.int (7 : Int32)), (.int x1), (.ref b1)])) _
    refine Goes.to (fun _ k => XS.iand X32.here hx rfl (hb hby at_57) rfl k) ?_
    show Goes p.tables e below (T32.setTop (mkF m 58 #[.val (.int x0), .val (.int x1), .val (.int x2), .val (.ref b1), .unset, .unset, .unset, .unset] [(.int (x1 &&& (7 : Int32))), (.ref b1)])) _
    obtain ⟨cl36, Ar36, q36, S36, N36, H36, G36⟩ := V32
    have hin36 : ¬ ((x1 &&& (7 : Int32)) < 0 ∨ cl36.slots.size ≤ ((x1 &&& (7 : Int32))).toNatClampNeg) := by
      have k1 := rng32 x1
      have k2 : (8 : Int32).toInt = 8 := rfl
      have k3 := c_and x1 (8 : Int32)
      have k4 := rng32 (x1 &&& (8 : Int32))
      have k5 : (0 : Int32).toInt = 0 := rfl
      have k6 : (x1 &&& (8 : Int32)).toInt = (0 : Int32).toInt := congrArg Int32.toInt hc35
      have k7 : (x1 &&& (7 : Int32)).toInt = x1.toInt % 8 := c_mask x1 (7 : Int32) 3 (by decide) (by decide)
      refine inb_of S36 ⟨fun hq => ?_, Int32.lt_iff_toInt_lt.mpr ?_⟩
      · have hq' := Int32.lt_iff_toInt_lt.mp hq
        omega
      · omega
    have hlt36 : ((x1 &&& (7 : Int32))).toNatClampNeg < cl36.slots.size := Nat.lt_of_not_le fun y => hin36 (Or.inr y)
    obtain ⟨lv36, el36⟩ := fit_I (G36 _ hlt36) (Or.inl rfl)
    have hat36 : cl36.slots[((x1 &&& (7 : Int32))).toNatClampNeg]? = some (.int lv36) := (H36 _ hlt36).trans (congrArg some el36)
    refine Goes.to (fun _ k => X32.iaload hx (j := (x1 &&& (7 : Int32))) (v := (.int lv36)) Ar36.1 (State.isArrayOf_alike hZ.alike Ar36.2.1) Ar36.2.2 hin36 hat36 (g := (mkF m 58 #[.val (.int x0), .val (.int x1), .val (.int x2), .val (.ref b1), .unset, .unset, .unset, .unset] [(.int (x1 &&& (7 : Int32))), (.ref b1)])) rfl rfl (hb hby at_58) _ k) ?_
    show Goes p.tables e below (T32.setTop (mkF m 59 #[.val (.int x0), .val (.int x1), .val (.int x2), .val (.ref b1), .unset, .unset, .unset, .unset] [(.int lv36)])) _
    refine Goes.to (fun _ k => XS.istore X32.here hx rfl (hb hby at_59) rfl (l' := #[.val (.int x0), .val (.int x1), .val (.int x2), .val (.ref b1), .val (.int lv36), .unset, .unset, .unset]) rfl k) ?_
    show Goes p.tables e below (T32.setTop (mkF m 61 #[.val (.int x0), .val (.int x1), .val (.int x2), .val (.ref b1), .val (.int lv36), .unset, .unset, .unset] [])) _
    refine Goes.to (fun _ k => XS.iloadN X32.here hx rfl (hb hby at_61) rfl k) ?_
    show Goes p.tables e below (T32.setTop (mkF m 62 #[.val (.int x0), .val (.int x1), .val (.int x2), .val (.ref b1), .val (.int lv36), .unset, .unset, .unset] [(.int x0)])) _
    refine Goes.to (fun _ k => XS.iconst X32.here hx rfl (hb hby at_62) k) ?_
    show Goes p.tables e below (T32.setTop (mkF m 63 #[.val (.int x0), .val (.int x1), .val (.int x2), .val (.ref b1), .val (.int lv36), .unset, .unset, .unset] [(.int (1 : Int32)), (.int x0)])) _
    refine Goes.to (fun _ k => XS.iand X32.here hx rfl (hb hby at_63) rfl k) ?_
    show Goes p.tables e below (T32.setTop (mkF m 64 #[.val (.int x0), .val (.int x1), .val (.int x2), .val (.ref b1), .val (.int lv36), .unset, .unset, .unset] [(.int (x0 &&& (1 : Int32)))])) _
    by_cases hc37 : (x0 &&& (1 : Int32)) = (0 : Int32)
    · refine Goes.to (fun _ k => XS.ifNo X32.here hx rfl (hb hby at_64) rfl ((if0 _ _).trans (teq hc37).2) k) ?_
      show Goes p.tables e below (T32.setTop (mkF m 67 #[.val (.int x0), .val (.int x1), .val (.int x2), .val (.ref b1), .val (.int lv36), .unset, .unset, .unset] [])) _
      refine Goes.to (fun _ k => XS.iconst X32.here hx rfl (hb hby at_67) k) ?_
      show Goes p.tables e below (T32.setTop (mkF m 68 #[.val (.int x0), .val (.int x1), .val (.int x2), .val (.ref b1), .val (.int lv36), .unset, .unset, .unset] [(.int (1 : Int32))])) _
      refine Goes.to (fun _ k => XS.goto X32.here hx rfl (pc0 := 68) (pc' := 72) rfl (hb hby at_68) (by decide) (by decide) k) ?_
      show Goes p.tables e below (T32.setTop (mkF m 72 #[.val (.int x0), .val (.int x1), .val (.int x2), .val (.ref b1), .val (.int lv36), .unset, .unset, .unset] [(.int (1 : Int32))])) _
      refine Goes.to (fun _ k => XS.istore X32.here hx rfl (hb hby at_72) rfl (l' := #[.val (.int x0), .val (.int x1), .val (.int x2), .val (.ref b1), .val (.int lv36), .val (.int (1 : Int32)), .unset, .unset]) rfl k) ?_
      show Goes p.tables e below (T32.setTop (mkF m 74 #[.val (.int x0), .val (.int x1), .val (.int x2), .val (.ref b1), .val (.int lv36), .val (.int (1 : Int32)), .unset, .unset] [])) _
      refine Goes.to (fun _ k => XS.iload X32.here hx rfl (hb hby at_74) rfl k) ?_
      show Goes p.tables e below (T32.setTop (mkF m 76 #[.val (.int x0), .val (.int x1), .val (.int x2), .val (.ref b1), .val (.int lv36), .val (.int (1 : Int32)), .unset, .unset] [(.int (1 : Int32))])) _
      refine Goes.to (fun _ k => XS.ifNo X32.here hx rfl (hb hby at_76) rfl ((if0 _ _).trans (feq (by decide : ¬ ((1 : Int32) = (0 : Int32)))).1) k) ?_
      show Goes p.tables e below (T32.setTop (mkF m 79 #[.val (.int x0), .val (.int x1), .val (.int x2), .val (.ref b1), .val (.int lv36), .val (.int (1 : Int32)), .unset, .unset] [])) _
      obtain ⟨T38, X38, e38, st38⟩ := getS2 X32 hx hZ hown (host := "") (Or.inl (hw _ (List.mem_of_getElem? (i := 1) rfl))) Via.refl rfl (S_Database_POSTGRESQL.ext O33.2) (g := (mkF m 79 #[.val (.int x0), .val (.int x1), .val (.int x2), .val (.ref b1), .val (.int lv36), .val (.int (1 : Int32)), .unset, .unset] [])) rfl (hb hby at_79)
      refine Goes.to st38 ?_
      show Goes p.tables e below (T38.setTop (mkF m 82 #[.val (.int x0), .val (.int x1), .val (.int x2), .val (.ref b1), .val (.int lv36), .val (.int (1 : Int32)), .unset, .unset] [(.ref a_Database_POSTGRESQL)])) _
      refine Goes.to (fun _ k => XS.goto X38.here hx rfl (pc0 := 82) (pc' := 88) rfl (hb hby at_82) (by decide) (by decide) k) ?_
      show Goes p.tables e below (T38.setTop (mkF m 88 #[.val (.int x0), .val (.int x1), .val (.int x2), .val (.ref b1), .val (.int lv36), .val (.int (1 : Int32)), .unset, .unset] [(.ref a_Database_POSTGRESQL)])) _
      refine Goes.to (fun _ k => XS.astore X38.here hx rfl (hb hby at_88) rfl rfl (l' := #[.val (.int x0), .val (.int x1), .val (.int x2), .val (.ref b1), .val (.int lv36), .val (.int (1 : Int32)), .val (.ref a_Database_POSTGRESQL), .unset]) rfl k) ?_
      show Goes p.tables e below (T38.setTop (mkF m 90 #[.val (.int x0), .val (.int x1), .val (.int x2), .val (.ref b1), .val (.int lv36), .val (.int (1 : Int32)), .val (.ref a_Database_POSTGRESQL), .unset] [])) _
      refine Goes.to (fun _ k => XS.iload X38.here hx rfl (hb hby at_90) rfl k) ?_
      show Goes p.tables e below (T38.setTop (mkF m 92 #[.val (.int x0), .val (.int x1), .val (.int x2), .val (.ref b1), .val (.int lv36), .val (.int (1 : Int32)), .val (.ref a_Database_POSTGRESQL), .unset] [(.int lv36)])) _
      refine Goes.to (fun _ k => XS.iconst X38.here hx rfl (hb hby at_92) k) ?_
      show Goes p.tables e below (T38.setTop (mkF m 93 #[.val (.int x0), .val (.int x1), .val (.int x2), .val (.ref b1), .val (.int lv36), .val (.int (1 : Int32)), .val (.ref a_Database_POSTGRESQL), .unset] [(.int (4 : Int32)), (.int lv36)])) _
      by_cases hc39 : lv36 = (4 : Int32)
      · refine Goes.to (fun _ k => XS.icmpNo X38.here hx rfl (hb hby at_93) rfl (teq hc39).2 k) ?_
        show Goes p.tables e below (T38.setTop (mkF m 96 #[.val (.int x0), .val (.int x1), .val (.int x2), .val (.ref b1), .val (.int lv36), .val (.int (1 : Int32)), .val (.ref a_Database_POSTGRESQL), .unset] [])) _
        refine Goes.to (fun _ k => XS.iconst X38.here hx rfl (hb hby at_96) k) ?_
        show Goes p.tables e below (T38.setTop (mkF m 97 #[.val (.int x0), .val (.int x1), .val (.int x2), .val (.ref b1), .val (.int lv36), .val (.int (1 : Int32)), .val (.ref a_Database_POSTGRESQL), .unset] [(.int (1 : Int32))])) _
        refine Goes.to (fun _ k => XS.istore X38.here hx rfl (hb hby at_97) rfl (l' := #[.val (.int x0), .val (.int x1), .val (.int x2), .val (.ref b1), .val (.int lv36), .val (.int (1 : Int32)), .val (.ref a_Database_POSTGRESQL), .val (.int (1 : Int32))]) rfl k) ?_
        show Goes p.tables e below (T38.setTop (mkF m 99 #[.val (.int x0), .val (.int x1), .val (.int x2), .val (.ref b1), .val (.int lv36), .val (.int (1 : Int32)), .val (.ref a_Database_POSTGRESQL), .val (.int (1 : Int32))] [])) _
        refine Goes.to (fun _ k => XS.goto X38.here hx rfl (pc0 := 99) (pc' := 119) rfl (hb hby at_99) (by decide) (by decide) k) ?_
        show Goes p.tables e below (T38.setTop (mkF m 119 #[.val (.int x0), .val (.int x1), .val (.int x2), .val (.ref b1), .val (.int lv36), .val (.int (1 : Int32)), .val (.ref a_Database_POSTGRESQL), .val (.int (1 : Int32))] [])) _
        refine Goes.to (fun _ k => XS.aload X38.here hx rfl (hb hby at_119) rfl rfl k) ?_
        show Goes p.tables e below (T38.setTop (mkF m 121 #[.val (.int x0), .val (.int x1), .val (.int x2), .val (.ref b1), .val (.int lv36), .val (.int (1 : Int32)), .val (.ref a_Database_POSTGRESQL), .val (.int (1 : Int32))] [(.ref a_Database_POSTGRESQL)])) _
        refine Goes.to (fun _ k => XS.iload X38.here hx rfl (hb hby at_121) rfl k) ?_
        show Goes p.tables e below (T38.setTop (mkF m 123 #[.val (.int x0), .val (.int x1), .val (.int x2), .val (.ref b1), .val (.int lv36), .val (.int (1 : Int32)), .val (.ref a_Database_POSTGRESQL), .val (.int (1 : Int32))] [(.int lv36), (.ref a_Database_POSTGRESQL)])) _
        obtain ⟨cq40, kq40, q40a, q40b, q40c⟩ := isOf hZ e38 (E_Database_POSTGRESQL.ext O33.2)
        obtain ⟨_, _, ⟨T40, L40, k40, n40⟩, -, X40, ⟨Lc40, hQ40, l40, y40, z40⟩, st40⟩ := X38.virtualBack hx (y := (⟨"com/example/mulligan/mulligan/Database", "keepsFirstSnapshot", "(I)Z"⟩ : MethodName)) (z := (⟨"com/example/mulligan/mulligan/Database", "keepsFirstSnapshot", "(I)Z"⟩ : MethodName)) hown (mvT hZ (hw _ (List.mem_of_getElem? (i := 4) rfl))) (mvT hZ (hw _ (List.mem_of_getElem? (i := 5) rfl))) (notFace_of_selects (args := #[]) (mvT hZ (hw _ (List.mem_of_getElem? (i := 7) rfl)))) (mvT hZ (hw _ (List.mem_of_getElem? (i := 7) rfl))) (mvT hZ (hw _ (List.mem_of_getElem? (i := 6) rfl))) (by decide) (backOf (W := 0) (own_rm1 l Z a0 hw [] a_Database_POSTGRESQL lv36 T32.heap n0 Z32 ) hZ (hw _ (List.mem_of_getElem? (i := 8) rfl)) (hw _ (List.mem_of_getElem? (i := 2) rfl)) (by decide) (by decide)) q40a q40c (g := (mkF m 123 #[.val (.int x0), .val (.int x1), .val (.int x2), .val (.ref b1), .val (.int lv36), .val (.int (1 : Int32)), .val (.ref a_Database_POSTGRESQL), .val (.int (1 : Int32))] [(.int lv36), (.ref a_Database_POSTGRESQL)])) rfl (by rw [hml]; rfl) (Steps.refl _) (argsL := [(.int lv36)]) (rest := []) (lenOf own_pd_pIqZ rfl) rfl (by show 2 * 0 + _ ≤ _; exact Nat.le_of_eq rfl) (hb hby at_123) (fun _ _ => ⟨rfl, e38, (by decide : 1 + 0 ≤ _), (by decide : 8 + 0 ≤ _)⟩)
        dsimp only [Pt.U, Pt.locs, Pt.cells, Pt.slots] at X40 l40 y40 z40 st40 hQ40
        subst l40 y40 z40
        obtain ⟨hv40, Nq40, hp40_0⟩ := hQ40
        have N40 := Fr.app N32 Nq40
        by_cases hc41 : lv36 = (4 : Int32) ∨ lv36 = (8 : Int32)
        · rw [if_pos hc41] at hv40
          subst hv40
          refine Goes.tr st40 ?_
          show Goes p.tables e below (T40.setTop (mkF m 126 #[.val (.int x0), .val (.int x1), .val (.int x2), .val (.ref b1), .val (.int lv36), .val (.int (1 : Int32)), .val (.ref a_Database_POSTGRESQL), .val (.int (1 : Int32))] [(.int (1 : Int32))])) _
          refine Goes.to (fun _ k => XS.iload X40.here hx rfl (hb hby at_126) rfl k) ?_
          show Goes p.tables e below (T40.setTop (mkF m 128 #[.val (.int x0), .val (.int x1), .val (.int x2), .val (.ref b1), .val (.int lv36), .val (.int (1 : Int32)), .val (.ref a_Database_POSTGRESQL), .val (.int (1 : Int32))] [(.int (1 : Int32)), (.int (1 : Int32))])) _
          refine Goes.to (fun _ k => XS.icmpNo X40.here hx rfl (hb hby at_128) rfl (teq (by decide : (1 : Int32) = (1 : Int32))).2 k) ?_
          show Goes p.tables e below (T40.setTop (mkF m 131 #[.val (.int x0), .val (.int x1), .val (.int x2), .val (.ref b1), .val (.int lv36), .val (.int (1 : Int32)), .val (.ref a_Database_POSTGRESQL), .val (.int (1 : Int32))] [])) _
          refine Goes.to (fun _ k => XS.iconst X40.here hx rfl (hb hby at_131) k) ?_
          show Goes p.tables e below (T40.setTop (mkF m 132 #[.val (.int x0), .val (.int x1), .val (.int x2), .val (.ref b1), .val (.int lv36), .val (.int (1 : Int32)), .val (.ref a_Database_POSTGRESQL), .val (.int (1 : Int32))] [(.int (1 : Int32))])) _
          refine Goes.to (fun _ k => XS.goto X40.here hx rfl (pc0 := 132) (pc' := 136) rfl (hb hby at_132) (by decide) (by decide) k) ?_
          show Goes p.tables e below (T40.setTop (mkF m 136 #[.val (.int x0), .val (.int x1), .val (.int x2), .val (.ref b1), .val (.int lv36), .val (.int (1 : Int32)), .val (.ref a_Database_POSTGRESQL), .val (.int (1 : Int32))] [(.int (1 : Int32))])) _
          obtain ⟨fs, hr, hrun, hended, hW, hsame⟩ := X40.leave (v := some (.int (1 : Int32))) (fun h => by rw [Bd.returns] at h; cases h)
          have hv : (some (.int (1 : Int32)) : Option Value) = some (.int (1 : Int32)) := by
            rfl
          exact ⟨_, _, retN X40 hx (t := .boolean) Bd.returns (by simp) (hb hby at_136) hr, hrun, hended, _, _, rfl, ⟨hv, N40⟩, ⟨_, rfl⟩, hW, hsame.mono (by decide) (by decide)⟩
        · exact absurd (Or.inl hc39 : lv36 = (4 : Int32) ∨ lv36 = (8 : Int32)) hc41
      · refine Goes.to (fun _ k => XS.icmpYes X38.here hx rfl (pc0 := 93) (pc' := 102) rfl (hb hby at_93) rfl (feq hc39).2 (by decide) (by decide) k) ?_
        show Goes p.tables e below (T38.setTop (mkF m 102 #[.val (.int x0), .val (.int x1), .val (.int x2), .val (.ref b1), .val (.int lv36), .val (.int (1 : Int32)), .val (.ref a_Database_POSTGRESQL), .unset] [])) _
        refine Goes.to (fun _ k => XS.iload X38.here hx rfl (hb hby at_102) rfl k) ?_
        show Goes p.tables e below (T38.setTop (mkF m 104 #[.val (.int x0), .val (.int x1), .val (.int x2), .val (.ref b1), .val (.int lv36), .val (.int (1 : Int32)), .val (.ref a_Database_POSTGRESQL), .unset] [(.int lv36)])) _
        refine Goes.to (fun _ k => XS.bipush X38.here hx rfl (hb hby at_104) k) ?_
        show Goes p.tables e below (T38.setTop (mkF m 106 #[.val (.int x0), .val (.int x1), .val (.int x2), .val (.ref b1), .val (.int lv36), .val (.int (1 : Int32)), .val (.ref a_Database_POSTGRESQL), .unset] [(.int (8 : Int32)), (.int lv36)])) _
        by_cases hc42 : lv36 = (8 : Int32)
        · refine Goes.to (fun _ k => XS.icmpNo X38.here hx rfl (hb hby at_106) rfl (teq hc42).2 k) ?_
          show Goes p.tables e below (T38.setTop (mkF m 109 #[.val (.int x0), .val (.int x1), .val (.int x2), .val (.ref b1), .val (.int lv36), .val (.int (1 : Int32)), .val (.ref a_Database_POSTGRESQL), .unset] [])) _
          refine Goes.to (fun _ k => XS.iload X38.here hx rfl (hb hby at_109) rfl k) ?_
          show Goes p.tables e below (T38.setTop (mkF m 111 #[.val (.int x0), .val (.int x1), .val (.int x2), .val (.ref b1), .val (.int lv36), .val (.int (1 : Int32)), .val (.ref a_Database_POSTGRESQL), .unset] [(.int (1 : Int32))])) _
          refine Goes.to (fun _ k => XS.istore X38.here hx rfl (hb hby at_111) rfl (l' := #[.val (.int x0), .val (.int x1), .val (.int x2), .val (.ref b1), .val (.int lv36), .val (.int (1 : Int32)), .val (.ref a_Database_POSTGRESQL), .val (.int (1 : Int32))]) rfl k) ?_
          show Goes p.tables e below (T38.setTop (mkF m 113 #[.val (.int x0), .val (.int x1), .val (.int x2), .val (.ref b1), .val (.int lv36), .val (.int (1 : Int32)), .val (.ref a_Database_POSTGRESQL), .val (.int (1 : Int32))] [])) _
          refine Goes.to (fun _ k => XS.goto X38.here hx rfl (pc0 := 113) (pc' := 119) rfl (hb hby at_113) (by decide) (by decide) k) ?_
          show Goes p.tables e below (T38.setTop (mkF m 119 #[.val (.int x0), .val (.int x1), .val (.int x2), .val (.ref b1), .val (.int lv36), .val (.int (1 : Int32)), .val (.ref a_Database_POSTGRESQL), .val (.int (1 : Int32))] [])) _
          refine Goes.to (fun _ k => XS.aload X38.here hx rfl (hb hby at_119) rfl rfl k) ?_
          show Goes p.tables e below (T38.setTop (mkF m 121 #[.val (.int x0), .val (.int x1), .val (.int x2), .val (.ref b1), .val (.int lv36), .val (.int (1 : Int32)), .val (.ref a_Database_POSTGRESQL), .val (.int (1 : Int32))] [(.ref a_Database_POSTGRESQL)])) _
          refine Goes.to (fun _ k => XS.iload X38.here hx rfl (hb hby at_121) rfl k) ?_
          show Goes p.tables e below (T38.setTop (mkF m 123 #[.val (.int x0), .val (.int x1), .val (.int x2), .val (.ref b1), .val (.int lv36), .val (.int (1 : Int32)), .val (.ref a_Database_POSTGRESQL), .val (.int (1 : Int32))] [(.int lv36), (.ref a_Database_POSTGRESQL)])) _
          obtain ⟨cq43, kq43, q43a, q43b, q43c⟩ := isOf hZ e38 (E_Database_POSTGRESQL.ext O33.2)
          obtain ⟨_, _, ⟨T43, L43, k43, n43⟩, -, X43, ⟨Lc43, hQ43, l43, y43, z43⟩, st43⟩ := X38.virtualBack hx (y := (⟨"com/example/mulligan/mulligan/Database", "keepsFirstSnapshot", "(I)Z"⟩ : MethodName)) (z := (⟨"com/example/mulligan/mulligan/Database", "keepsFirstSnapshot", "(I)Z"⟩ : MethodName)) hown (mvT hZ (hw _ (List.mem_of_getElem? (i := 4) rfl))) (mvT hZ (hw _ (List.mem_of_getElem? (i := 5) rfl))) (notFace_of_selects (args := #[]) (mvT hZ (hw _ (List.mem_of_getElem? (i := 7) rfl)))) (mvT hZ (hw _ (List.mem_of_getElem? (i := 7) rfl))) (mvT hZ (hw _ (List.mem_of_getElem? (i := 6) rfl))) (by decide) (backOf (W := 0) (own_rm1 l Z a0 hw [] a_Database_POSTGRESQL lv36 T32.heap n0 Z32 ) hZ (hw _ (List.mem_of_getElem? (i := 8) rfl)) (hw _ (List.mem_of_getElem? (i := 2) rfl)) (by decide) (by decide)) q43a q43c (g := (mkF m 123 #[.val (.int x0), .val (.int x1), .val (.int x2), .val (.ref b1), .val (.int lv36), .val (.int (1 : Int32)), .val (.ref a_Database_POSTGRESQL), .val (.int (1 : Int32))] [(.int lv36), (.ref a_Database_POSTGRESQL)])) rfl (by rw [hml]; rfl) (Steps.refl _) (argsL := [(.int lv36)]) (rest := []) (lenOf own_pd_pIqZ rfl) rfl (by show 2 * 0 + _ ≤ _; exact Nat.le_of_eq rfl) (hb hby at_123) (fun _ _ => ⟨rfl, e38, (by decide : 1 + 0 ≤ _), (by decide : 8 + 0 ≤ _)⟩)
          dsimp only [Pt.U, Pt.locs, Pt.cells, Pt.slots] at X43 l43 y43 z43 st43 hQ43
          subst l43 y43 z43
          obtain ⟨hv43, Nq43, hp43_0⟩ := hQ43
          have N43 := Fr.app N32 Nq43
          by_cases hc44 : lv36 = (4 : Int32) ∨ lv36 = (8 : Int32)
          · rw [if_pos hc44] at hv43
            subst hv43
            refine Goes.tr st43 ?_
            show Goes p.tables e below (T43.setTop (mkF m 126 #[.val (.int x0), .val (.int x1), .val (.int x2), .val (.ref b1), .val (.int lv36), .val (.int (1 : Int32)), .val (.ref a_Database_POSTGRESQL), .val (.int (1 : Int32))] [(.int (1 : Int32))])) _
            refine Goes.to (fun _ k => XS.iload X43.here hx rfl (hb hby at_126) rfl k) ?_
            show Goes p.tables e below (T43.setTop (mkF m 128 #[.val (.int x0), .val (.int x1), .val (.int x2), .val (.ref b1), .val (.int lv36), .val (.int (1 : Int32)), .val (.ref a_Database_POSTGRESQL), .val (.int (1 : Int32))] [(.int (1 : Int32)), (.int (1 : Int32))])) _
            refine Goes.to (fun _ k => XS.icmpNo X43.here hx rfl (hb hby at_128) rfl (teq (by decide : (1 : Int32) = (1 : Int32))).2 k) ?_
            show Goes p.tables e below (T43.setTop (mkF m 131 #[.val (.int x0), .val (.int x1), .val (.int x2), .val (.ref b1), .val (.int lv36), .val (.int (1 : Int32)), .val (.ref a_Database_POSTGRESQL), .val (.int (1 : Int32))] [])) _
            refine Goes.to (fun _ k => XS.iconst X43.here hx rfl (hb hby at_131) k) ?_
            show Goes p.tables e below (T43.setTop (mkF m 132 #[.val (.int x0), .val (.int x1), .val (.int x2), .val (.ref b1), .val (.int lv36), .val (.int (1 : Int32)), .val (.ref a_Database_POSTGRESQL), .val (.int (1 : Int32))] [(.int (1 : Int32))])) _
            refine Goes.to (fun _ k => XS.goto X43.here hx rfl (pc0 := 132) (pc' := 136) rfl (hb hby at_132) (by decide) (by decide) k) ?_
            show Goes p.tables e below (T43.setTop (mkF m 136 #[.val (.int x0), .val (.int x1), .val (.int x2), .val (.ref b1), .val (.int lv36), .val (.int (1 : Int32)), .val (.ref a_Database_POSTGRESQL), .val (.int (1 : Int32))] [(.int (1 : Int32))])) _
            obtain ⟨fs, hr, hrun, hended, hW, hsame⟩ := X43.leave (v := some (.int (1 : Int32))) (fun h => by rw [Bd.returns] at h; cases h)
            have hv : (some (.int (1 : Int32)) : Option Value) = some (.int (1 : Int32)) := by
              rfl
            exact ⟨_, _, retN X43 hx (t := .boolean) Bd.returns (by simp) (hb hby at_136) hr, hrun, hended, _, _, rfl, ⟨hv, N43⟩, ⟨_, rfl⟩, hW, hsame.mono (by decide) (by decide)⟩
          · exact absurd (Or.inr hc42 : lv36 = (4 : Int32) ∨ lv36 = (8 : Int32)) hc44
        · refine Goes.to (fun _ k => XS.icmpYes X38.here hx rfl (pc0 := 106) (pc' := 116) rfl (hb hby at_106) rfl (feq hc42).2 (by decide) (by decide) k) ?_
          show Goes p.tables e below (T38.setTop (mkF m 116 #[.val (.int x0), .val (.int x1), .val (.int x2), .val (.ref b1), .val (.int lv36), .val (.int (1 : Int32)), .val (.ref a_Database_POSTGRESQL), .unset] [])) _
          refine Goes.to (fun _ k => XS.iconst X38.here hx rfl (hb hby at_116) k) ?_
          show Goes p.tables e below (T38.setTop (mkF m 117 #[.val (.int x0), .val (.int x1), .val (.int x2), .val (.ref b1), .val (.int lv36), .val (.int (1 : Int32)), .val (.ref a_Database_POSTGRESQL), .unset] [(.int (0 : Int32))])) _
          refine Goes.to (fun _ k => XS.istore X38.here hx rfl (hb hby at_117) rfl (l' := #[.val (.int x0), .val (.int x1), .val (.int x2), .val (.ref b1), .val (.int lv36), .val (.int (1 : Int32)), .val (.ref a_Database_POSTGRESQL), .val (.int (0 : Int32))]) rfl k) ?_
          show Goes p.tables e below (T38.setTop (mkF m 119 #[.val (.int x0), .val (.int x1), .val (.int x2), .val (.ref b1), .val (.int lv36), .val (.int (1 : Int32)), .val (.ref a_Database_POSTGRESQL), .val (.int (0 : Int32))] [])) _
          refine Goes.to (fun _ k => XS.aload X38.here hx rfl (hb hby at_119) rfl rfl k) ?_
          show Goes p.tables e below (T38.setTop (mkF m 121 #[.val (.int x0), .val (.int x1), .val (.int x2), .val (.ref b1), .val (.int lv36), .val (.int (1 : Int32)), .val (.ref a_Database_POSTGRESQL), .val (.int (0 : Int32))] [(.ref a_Database_POSTGRESQL)])) _
          refine Goes.to (fun _ k => XS.iload X38.here hx rfl (hb hby at_121) rfl k) ?_
          show Goes p.tables e below (T38.setTop (mkF m 123 #[.val (.int x0), .val (.int x1), .val (.int x2), .val (.ref b1), .val (.int lv36), .val (.int (1 : Int32)), .val (.ref a_Database_POSTGRESQL), .val (.int (0 : Int32))] [(.int lv36), (.ref a_Database_POSTGRESQL)])) _
          obtain ⟨cq45, kq45, q45a, q45b, q45c⟩ := isOf hZ e38 (E_Database_POSTGRESQL.ext O33.2)
          obtain ⟨_, _, ⟨T45, L45, k45, n45⟩, -, X45, ⟨Lc45, hQ45, l45, y45, z45⟩, st45⟩ := X38.virtualBack hx (y := (⟨"com/example/mulligan/mulligan/Database", "keepsFirstSnapshot", "(I)Z"⟩ : MethodName)) (z := (⟨"com/example/mulligan/mulligan/Database", "keepsFirstSnapshot", "(I)Z"⟩ : MethodName)) hown (mvT hZ (hw _ (List.mem_of_getElem? (i := 4) rfl))) (mvT hZ (hw _ (List.mem_of_getElem? (i := 5) rfl))) (notFace_of_selects (args := #[]) (mvT hZ (hw _ (List.mem_of_getElem? (i := 7) rfl)))) (mvT hZ (hw _ (List.mem_of_getElem? (i := 7) rfl))) (mvT hZ (hw _ (List.mem_of_getElem? (i := 6) rfl))) (by decide) (backOf (W := 0) (own_rm1 l Z a0 hw [] a_Database_POSTGRESQL lv36 T32.heap n0 Z32 ) hZ (hw _ (List.mem_of_getElem? (i := 8) rfl)) (hw _ (List.mem_of_getElem? (i := 2) rfl)) (by decide) (by decide)) q45a q45c (g := (mkF m 123 #[.val (.int x0), .val (.int x1), .val (.int x2), .val (.ref b1), .val (.int lv36), .val (.int (1 : Int32)), .val (.ref a_Database_POSTGRESQL), .val (.int (0 : Int32))] [(.int lv36), (.ref a_Database_POSTGRESQL)])) rfl (by rw [hml]; rfl) (Steps.refl _) (argsL := [(.int lv36)]) (rest := []) (lenOf own_pd_pIqZ rfl) rfl (by show 2 * 0 + _ ≤ _; exact Nat.le_of_eq rfl) (hb hby at_123) (fun _ _ => ⟨rfl, e38, (by decide : 1 + 0 ≤ _), (by decide : 8 + 0 ≤ _)⟩)
          dsimp only [Pt.U, Pt.locs, Pt.cells, Pt.slots] at X45 l45 y45 z45 st45 hQ45
          subst l45 y45 z45
          obtain ⟨hv45, Nq45, hp45_0⟩ := hQ45
          have N45 := Fr.app N32 Nq45
          by_cases hc46 : lv36 = (4 : Int32) ∨ lv36 = (8 : Int32)
          · exact absurd hc46 (fun q => q.elim hc39 hc42)
          · rw [if_neg hc46] at hv45
            subst hv45
            refine Goes.tr st45 ?_
            show Goes p.tables e below (T45.setTop (mkF m 126 #[.val (.int x0), .val (.int x1), .val (.int x2), .val (.ref b1), .val (.int lv36), .val (.int (1 : Int32)), .val (.ref a_Database_POSTGRESQL), .val (.int (0 : Int32))] [(.int (0 : Int32))])) _
            refine Goes.to (fun _ k => XS.iload X45.here hx rfl (hb hby at_126) rfl k) ?_
            show Goes p.tables e below (T45.setTop (mkF m 128 #[.val (.int x0), .val (.int x1), .val (.int x2), .val (.ref b1), .val (.int lv36), .val (.int (1 : Int32)), .val (.ref a_Database_POSTGRESQL), .val (.int (0 : Int32))] [(.int (0 : Int32)), (.int (0 : Int32))])) _
            refine Goes.to (fun _ k => XS.icmpNo X45.here hx rfl (hb hby at_128) rfl (teq (by decide : (0 : Int32) = (0 : Int32))).2 k) ?_
            show Goes p.tables e below (T45.setTop (mkF m 131 #[.val (.int x0), .val (.int x1), .val (.int x2), .val (.ref b1), .val (.int lv36), .val (.int (1 : Int32)), .val (.ref a_Database_POSTGRESQL), .val (.int (0 : Int32))] [])) _
            refine Goes.to (fun _ k => XS.iconst X45.here hx rfl (hb hby at_131) k) ?_
            show Goes p.tables e below (T45.setTop (mkF m 132 #[.val (.int x0), .val (.int x1), .val (.int x2), .val (.ref b1), .val (.int lv36), .val (.int (1 : Int32)), .val (.ref a_Database_POSTGRESQL), .val (.int (0 : Int32))] [(.int (1 : Int32))])) _
            refine Goes.to (fun _ k => XS.goto X45.here hx rfl (pc0 := 132) (pc' := 136) rfl (hb hby at_132) (by decide) (by decide) k) ?_
            show Goes p.tables e below (T45.setTop (mkF m 136 #[.val (.int x0), .val (.int x1), .val (.int x2), .val (.ref b1), .val (.int lv36), .val (.int (1 : Int32)), .val (.ref a_Database_POSTGRESQL), .val (.int (0 : Int32))] [(.int (1 : Int32))])) _
            obtain ⟨fs, hr, hrun, hended, hW, hsame⟩ := X45.leave (v := some (.int (1 : Int32))) (fun h => by rw [Bd.returns] at h; cases h)
            have hv : (some (.int (1 : Int32)) : Option Value) = some (.int (1 : Int32)) := by
              rfl
            exact ⟨_, _, retN X45 hx (t := .boolean) Bd.returns (by simp) (hb hby at_136) hr, hrun, hended, _, _, rfl, ⟨hv, N45⟩, ⟨_, rfl⟩, hW, hsame.mono (by decide) (by decide)⟩
    · refine Goes.to (fun _ k => XS.ifYes X32.here hx rfl (pc0 := 64) (pc' := 71) rfl (hb hby at_64) rfl ((if0 _ _).trans (feq hc37).2) (by decide) (by decide) k) ?_
      show Goes p.tables e below (T32.setTop (mkF m 71 #[.val (.int x0), .val (.int x1), .val (.int x2), .val (.ref b1), .val (.int lv36), .unset, .unset, .unset] [])) _
      refine Goes.to (fun _ k => XS.iconst X32.here hx rfl (hb hby at_71) k) ?_
      show Goes p.tables e below (T32.setTop (mkF m 72 #[.val (.int x0), .val (.int x1), .val (.int x2), .val (.ref b1), .val (.int lv36), .unset, .unset, .unset] [(.int (0 : Int32))])) _
      refine Goes.to (fun _ k => XS.istore X32.here hx rfl (hb hby at_72) rfl (l' := #[.val (.int x0), .val (.int x1), .val (.int x2), .val (.ref b1), .val (.int lv36), .val (.int (0 : Int32)), .unset, .unset]) rfl k) ?_
      show Goes p.tables e below (T32.setTop (mkF m 74 #[.val (.int x0), .val (.int x1), .val (.int x2), .val (.ref b1), .val (.int lv36), .val (.int (0 : Int32)), .unset, .unset] [])) _
      refine Goes.to (fun _ k => XS.iload X32.here hx rfl (hb hby at_74) rfl k) ?_
      show Goes p.tables e below (T32.setTop (mkF m 76 #[.val (.int x0), .val (.int x1), .val (.int x2), .val (.ref b1), .val (.int lv36), .val (.int (0 : Int32)), .unset, .unset] [(.int (0 : Int32))])) _
      refine Goes.to (fun _ k => XS.ifYes X32.here hx rfl (pc0 := 76) (pc' := 85) rfl (hb hby at_76) rfl ((if0 _ _).trans (teq (by decide : (0 : Int32) = (0 : Int32))).1) (by decide) (by decide) k) ?_
      show Goes p.tables e below (T32.setTop (mkF m 85 #[.val (.int x0), .val (.int x1), .val (.int x2), .val (.ref b1), .val (.int lv36), .val (.int (0 : Int32)), .unset, .unset] [])) _
      obtain ⟨T47, X47, e47, st47⟩ := getS2 X32 hx hZ hown (host := "") (Or.inl (hw _ (List.mem_of_getElem? (i := 9) rfl))) Via.refl rfl (S_Database_MARIADB.ext O33.2) (g := (mkF m 85 #[.val (.int x0), .val (.int x1), .val (.int x2), .val (.ref b1), .val (.int lv36), .val (.int (0 : Int32)), .unset, .unset] [])) rfl (hb hby at_85)
      refine Goes.to st47 ?_
      show Goes p.tables e below (T47.setTop (mkF m 88 #[.val (.int x0), .val (.int x1), .val (.int x2), .val (.ref b1), .val (.int lv36), .val (.int (0 : Int32)), .unset, .unset] [(.ref a_Database_MARIADB)])) _
      refine Goes.to (fun _ k => XS.astore X47.here hx rfl (hb hby at_88) rfl rfl (l' := #[.val (.int x0), .val (.int x1), .val (.int x2), .val (.ref b1), .val (.int lv36), .val (.int (0 : Int32)), .val (.ref a_Database_MARIADB), .unset]) rfl k) ?_
      show Goes p.tables e below (T47.setTop (mkF m 90 #[.val (.int x0), .val (.int x1), .val (.int x2), .val (.ref b1), .val (.int lv36), .val (.int (0 : Int32)), .val (.ref a_Database_MARIADB), .unset] [])) _
      refine Goes.to (fun _ k => XS.iload X47.here hx rfl (hb hby at_90) rfl k) ?_
      show Goes p.tables e below (T47.setTop (mkF m 92 #[.val (.int x0), .val (.int x1), .val (.int x2), .val (.ref b1), .val (.int lv36), .val (.int (0 : Int32)), .val (.ref a_Database_MARIADB), .unset] [(.int lv36)])) _
      refine Goes.to (fun _ k => XS.iconst X47.here hx rfl (hb hby at_92) k) ?_
      show Goes p.tables e below (T47.setTop (mkF m 93 #[.val (.int x0), .val (.int x1), .val (.int x2), .val (.ref b1), .val (.int lv36), .val (.int (0 : Int32)), .val (.ref a_Database_MARIADB), .unset] [(.int (4 : Int32)), (.int lv36)])) _
      by_cases hc48 : lv36 = (4 : Int32)
      · refine Goes.to (fun _ k => XS.icmpNo X47.here hx rfl (hb hby at_93) rfl (teq hc48).2 k) ?_
        show Goes p.tables e below (T47.setTop (mkF m 96 #[.val (.int x0), .val (.int x1), .val (.int x2), .val (.ref b1), .val (.int lv36), .val (.int (0 : Int32)), .val (.ref a_Database_MARIADB), .unset] [])) _
        refine Goes.to (fun _ k => XS.iconst X47.here hx rfl (hb hby at_96) k) ?_
        show Goes p.tables e below (T47.setTop (mkF m 97 #[.val (.int x0), .val (.int x1), .val (.int x2), .val (.ref b1), .val (.int lv36), .val (.int (0 : Int32)), .val (.ref a_Database_MARIADB), .unset] [(.int (1 : Int32))])) _
        refine Goes.to (fun _ k => XS.istore X47.here hx rfl (hb hby at_97) rfl (l' := #[.val (.int x0), .val (.int x1), .val (.int x2), .val (.ref b1), .val (.int lv36), .val (.int (0 : Int32)), .val (.ref a_Database_MARIADB), .val (.int (1 : Int32))]) rfl k) ?_
        show Goes p.tables e below (T47.setTop (mkF m 99 #[.val (.int x0), .val (.int x1), .val (.int x2), .val (.ref b1), .val (.int lv36), .val (.int (0 : Int32)), .val (.ref a_Database_MARIADB), .val (.int (1 : Int32))] [])) _
        refine Goes.to (fun _ k => XS.goto X47.here hx rfl (pc0 := 99) (pc' := 119) rfl (hb hby at_99) (by decide) (by decide) k) ?_
        show Goes p.tables e below (T47.setTop (mkF m 119 #[.val (.int x0), .val (.int x1), .val (.int x2), .val (.ref b1), .val (.int lv36), .val (.int (0 : Int32)), .val (.ref a_Database_MARIADB), .val (.int (1 : Int32))] [])) _
        refine Goes.to (fun _ k => XS.aload X47.here hx rfl (hb hby at_119) rfl rfl k) ?_
        show Goes p.tables e below (T47.setTop (mkF m 121 #[.val (.int x0), .val (.int x1), .val (.int x2), .val (.ref b1), .val (.int lv36), .val (.int (0 : Int32)), .val (.ref a_Database_MARIADB), .val (.int (1 : Int32))] [(.ref a_Database_MARIADB)])) _
        refine Goes.to (fun _ k => XS.iload X47.here hx rfl (hb hby at_121) rfl k) ?_
        show Goes p.tables e below (T47.setTop (mkF m 123 #[.val (.int x0), .val (.int x1), .val (.int x2), .val (.ref b1), .val (.int lv36), .val (.int (0 : Int32)), .val (.ref a_Database_MARIADB), .val (.int (1 : Int32))] [(.int lv36), (.ref a_Database_MARIADB)])) _
        obtain ⟨cq49, kq49, q49a, q49b, q49c⟩ := isOf hZ e47 (E_Database_MARIADB.ext O33.2)
        obtain ⟨_, _, ⟨T49, L49, k49, n49⟩, -, X49, ⟨Lc49, hQ49, l49, y49, z49⟩, st49⟩ := X47.virtualBack hx (y := (⟨"com/example/mulligan/mulligan/Database", "keepsFirstSnapshot", "(I)Z"⟩ : MethodName)) (z := (⟨"com/example/mulligan/mulligan/Database$2", "keepsFirstSnapshot", "(I)Z"⟩ : MethodName)) hown (mvT hZ (hw _ (List.mem_of_getElem? (i := 4) rfl))) (mvT hZ (hw _ (List.mem_of_getElem? (i := 5) rfl))) (notFace_of_selects (args := #[]) (mvT hZ (hw _ (List.mem_of_getElem? (i := 7) rfl)))) (mvT hZ (hw _ (List.mem_of_getElem? (i := 11) rfl))) (mvT hZ (hw _ (List.mem_of_getElem? (i := 12) rfl))) (by decide) (backOf (W := 0) (own_rm2 l Z a0 hw [] a_Database_MARIADB lv36 T32.heap n0 Z32 ) hZ (hw _ (List.mem_of_getElem? (i := 14) rfl)) (hw _ (List.mem_of_getElem? (i := 13) rfl)) (by decide) (by decide)) q49a q49c (g := (mkF m 123 #[.val (.int x0), .val (.int x1), .val (.int x2), .val (.ref b1), .val (.int lv36), .val (.int (0 : Int32)), .val (.ref a_Database_MARIADB), .val (.int (1 : Int32))] [(.int lv36), (.ref a_Database_MARIADB)])) rfl (by rw [hml]; rfl) (Steps.refl _) (argsL := [(.int lv36)]) (rest := []) (lenOf own_pd_pIqZ rfl) rfl (by show 2 * 0 + _ ≤ _; exact Nat.le_of_eq rfl) (hb hby at_123) (fun _ _ => ⟨rfl, e47, (by decide : 1 + 0 ≤ _), (by decide : 8 + 0 ≤ _)⟩)
        dsimp only [Pt.U, Pt.locs, Pt.cells, Pt.slots] at X49 l49 y49 z49 st49 hQ49
        subst l49 y49 z49
        obtain ⟨hv49, Nq49, hp49_0⟩ := hQ49
        have N49 := Fr.app N32 Nq49
        rw [if_pos hc48] at hv49
        subst hv49
        refine Goes.tr st49 ?_
        show Goes p.tables e below (T49.setTop (mkF m 126 #[.val (.int x0), .val (.int x1), .val (.int x2), .val (.ref b1), .val (.int lv36), .val (.int (0 : Int32)), .val (.ref a_Database_MARIADB), .val (.int (1 : Int32))] [(.int (1 : Int32))])) _
        refine Goes.to (fun _ k => XS.iload X49.here hx rfl (hb hby at_126) rfl k) ?_
        show Goes p.tables e below (T49.setTop (mkF m 128 #[.val (.int x0), .val (.int x1), .val (.int x2), .val (.ref b1), .val (.int lv36), .val (.int (0 : Int32)), .val (.ref a_Database_MARIADB), .val (.int (1 : Int32))] [(.int (1 : Int32)), (.int (1 : Int32))])) _
        refine Goes.to (fun _ k => XS.icmpNo X49.here hx rfl (hb hby at_128) rfl (teq (by decide : (1 : Int32) = (1 : Int32))).2 k) ?_
        show Goes p.tables e below (T49.setTop (mkF m 131 #[.val (.int x0), .val (.int x1), .val (.int x2), .val (.ref b1), .val (.int lv36), .val (.int (0 : Int32)), .val (.ref a_Database_MARIADB), .val (.int (1 : Int32))] [])) _
        refine Goes.to (fun _ k => XS.iconst X49.here hx rfl (hb hby at_131) k) ?_
        show Goes p.tables e below (T49.setTop (mkF m 132 #[.val (.int x0), .val (.int x1), .val (.int x2), .val (.ref b1), .val (.int lv36), .val (.int (0 : Int32)), .val (.ref a_Database_MARIADB), .val (.int (1 : Int32))] [(.int (1 : Int32))])) _
        refine Goes.to (fun _ k => XS.goto X49.here hx rfl (pc0 := 132) (pc' := 136) rfl (hb hby at_132) (by decide) (by decide) k) ?_
        show Goes p.tables e below (T49.setTop (mkF m 136 #[.val (.int x0), .val (.int x1), .val (.int x2), .val (.ref b1), .val (.int lv36), .val (.int (0 : Int32)), .val (.ref a_Database_MARIADB), .val (.int (1 : Int32))] [(.int (1 : Int32))])) _
        obtain ⟨fs, hr, hrun, hended, hW, hsame⟩ := X49.leave (v := some (.int (1 : Int32))) (fun h => by rw [Bd.returns] at h; cases h)
        have hv : (some (.int (1 : Int32)) : Option Value) = some (.int (1 : Int32)) := by
          rfl
        exact ⟨_, _, retN X49 hx (t := .boolean) Bd.returns (by simp) (hb hby at_136) hr, hrun, hended, _, _, rfl, ⟨hv, N49⟩, ⟨_, rfl⟩, hW, hsame.mono (by decide) (by decide)⟩
      · refine Goes.to (fun _ k => XS.icmpYes X47.here hx rfl (pc0 := 93) (pc' := 102) rfl (hb hby at_93) rfl (feq hc48).2 (by decide) (by decide) k) ?_
        show Goes p.tables e below (T47.setTop (mkF m 102 #[.val (.int x0), .val (.int x1), .val (.int x2), .val (.ref b1), .val (.int lv36), .val (.int (0 : Int32)), .val (.ref a_Database_MARIADB), .unset] [])) _
        refine Goes.to (fun _ k => XS.iload X47.here hx rfl (hb hby at_102) rfl k) ?_
        show Goes p.tables e below (T47.setTop (mkF m 104 #[.val (.int x0), .val (.int x1), .val (.int x2), .val (.ref b1), .val (.int lv36), .val (.int (0 : Int32)), .val (.ref a_Database_MARIADB), .unset] [(.int lv36)])) _
        refine Goes.to (fun _ k => XS.bipush X47.here hx rfl (hb hby at_104) k) ?_
        show Goes p.tables e below (T47.setTop (mkF m 106 #[.val (.int x0), .val (.int x1), .val (.int x2), .val (.ref b1), .val (.int lv36), .val (.int (0 : Int32)), .val (.ref a_Database_MARIADB), .unset] [(.int (8 : Int32)), (.int lv36)])) _
        by_cases hc50 : lv36 = (8 : Int32)
        · refine Goes.to (fun _ k => XS.icmpNo X47.here hx rfl (hb hby at_106) rfl (teq hc50).2 k) ?_
          show Goes p.tables e below (T47.setTop (mkF m 109 #[.val (.int x0), .val (.int x1), .val (.int x2), .val (.ref b1), .val (.int lv36), .val (.int (0 : Int32)), .val (.ref a_Database_MARIADB), .unset] [])) _
          refine Goes.to (fun _ k => XS.iload X47.here hx rfl (hb hby at_109) rfl k) ?_
          show Goes p.tables e below (T47.setTop (mkF m 111 #[.val (.int x0), .val (.int x1), .val (.int x2), .val (.ref b1), .val (.int lv36), .val (.int (0 : Int32)), .val (.ref a_Database_MARIADB), .unset] [(.int (0 : Int32))])) _
          refine Goes.to (fun _ k => XS.istore X47.here hx rfl (hb hby at_111) rfl (l' := #[.val (.int x0), .val (.int x1), .val (.int x2), .val (.ref b1), .val (.int lv36), .val (.int (0 : Int32)), .val (.ref a_Database_MARIADB), .val (.int (0 : Int32))]) rfl k) ?_
          show Goes p.tables e below (T47.setTop (mkF m 113 #[.val (.int x0), .val (.int x1), .val (.int x2), .val (.ref b1), .val (.int lv36), .val (.int (0 : Int32)), .val (.ref a_Database_MARIADB), .val (.int (0 : Int32))] [])) _
          refine Goes.to (fun _ k => XS.goto X47.here hx rfl (pc0 := 113) (pc' := 119) rfl (hb hby at_113) (by decide) (by decide) k) ?_
          show Goes p.tables e below (T47.setTop (mkF m 119 #[.val (.int x0), .val (.int x1), .val (.int x2), .val (.ref b1), .val (.int lv36), .val (.int (0 : Int32)), .val (.ref a_Database_MARIADB), .val (.int (0 : Int32))] [])) _
          refine Goes.to (fun _ k => XS.aload X47.here hx rfl (hb hby at_119) rfl rfl k) ?_
          show Goes p.tables e below (T47.setTop (mkF m 121 #[.val (.int x0), .val (.int x1), .val (.int x2), .val (.ref b1), .val (.int lv36), .val (.int (0 : Int32)), .val (.ref a_Database_MARIADB), .val (.int (0 : Int32))] [(.ref a_Database_MARIADB)])) _
          refine Goes.to (fun _ k => XS.iload X47.here hx rfl (hb hby at_121) rfl k) ?_
          show Goes p.tables e below (T47.setTop (mkF m 123 #[.val (.int x0), .val (.int x1), .val (.int x2), .val (.ref b1), .val (.int lv36), .val (.int (0 : Int32)), .val (.ref a_Database_MARIADB), .val (.int (0 : Int32))] [(.int lv36), (.ref a_Database_MARIADB)])) _
          obtain ⟨cq51, kq51, q51a, q51b, q51c⟩ := isOf hZ e47 (E_Database_MARIADB.ext O33.2)
          obtain ⟨_, _, ⟨T51, L51, k51, n51⟩, -, X51, ⟨Lc51, hQ51, l51, y51, z51⟩, st51⟩ := X47.virtualBack hx (y := (⟨"com/example/mulligan/mulligan/Database", "keepsFirstSnapshot", "(I)Z"⟩ : MethodName)) (z := (⟨"com/example/mulligan/mulligan/Database$2", "keepsFirstSnapshot", "(I)Z"⟩ : MethodName)) hown (mvT hZ (hw _ (List.mem_of_getElem? (i := 4) rfl))) (mvT hZ (hw _ (List.mem_of_getElem? (i := 5) rfl))) (notFace_of_selects (args := #[]) (mvT hZ (hw _ (List.mem_of_getElem? (i := 7) rfl)))) (mvT hZ (hw _ (List.mem_of_getElem? (i := 11) rfl))) (mvT hZ (hw _ (List.mem_of_getElem? (i := 12) rfl))) (by decide) (backOf (W := 0) (own_rm2 l Z a0 hw [] a_Database_MARIADB lv36 T32.heap n0 Z32 ) hZ (hw _ (List.mem_of_getElem? (i := 14) rfl)) (hw _ (List.mem_of_getElem? (i := 13) rfl)) (by decide) (by decide)) q51a q51c (g := (mkF m 123 #[.val (.int x0), .val (.int x1), .val (.int x2), .val (.ref b1), .val (.int lv36), .val (.int (0 : Int32)), .val (.ref a_Database_MARIADB), .val (.int (0 : Int32))] [(.int lv36), (.ref a_Database_MARIADB)])) rfl (by rw [hml]; rfl) (Steps.refl _) (argsL := [(.int lv36)]) (rest := []) (lenOf own_pd_pIqZ rfl) rfl (by show 2 * 0 + _ ≤ _; exact Nat.le_of_eq rfl) (hb hby at_123) (fun _ _ => ⟨rfl, e47, (by decide : 1 + 0 ≤ _), (by decide : 8 + 0 ≤ _)⟩)
          dsimp only [Pt.U, Pt.locs, Pt.cells, Pt.slots] at X51 l51 y51 z51 st51 hQ51
          subst l51 y51 z51
          obtain ⟨hv51, Nq51, hp51_0⟩ := hQ51
          have N51 := Fr.app N32 Nq51
          rw [if_neg hc48] at hv51
          subst hv51
          refine Goes.tr st51 ?_
          show Goes p.tables e below (T51.setTop (mkF m 126 #[.val (.int x0), .val (.int x1), .val (.int x2), .val (.ref b1), .val (.int lv36), .val (.int (0 : Int32)), .val (.ref a_Database_MARIADB), .val (.int (0 : Int32))] [(.int (0 : Int32))])) _
          refine Goes.to (fun _ k => XS.iload X51.here hx rfl (hb hby at_126) rfl k) ?_
          show Goes p.tables e below (T51.setTop (mkF m 128 #[.val (.int x0), .val (.int x1), .val (.int x2), .val (.ref b1), .val (.int lv36), .val (.int (0 : Int32)), .val (.ref a_Database_MARIADB), .val (.int (0 : Int32))] [(.int (0 : Int32)), (.int (0 : Int32))])) _
          refine Goes.to (fun _ k => XS.icmpNo X51.here hx rfl (hb hby at_128) rfl (teq (by decide : (0 : Int32) = (0 : Int32))).2 k) ?_
          show Goes p.tables e below (T51.setTop (mkF m 131 #[.val (.int x0), .val (.int x1), .val (.int x2), .val (.ref b1), .val (.int lv36), .val (.int (0 : Int32)), .val (.ref a_Database_MARIADB), .val (.int (0 : Int32))] [])) _
          refine Goes.to (fun _ k => XS.iconst X51.here hx rfl (hb hby at_131) k) ?_
          show Goes p.tables e below (T51.setTop (mkF m 132 #[.val (.int x0), .val (.int x1), .val (.int x2), .val (.ref b1), .val (.int lv36), .val (.int (0 : Int32)), .val (.ref a_Database_MARIADB), .val (.int (0 : Int32))] [(.int (1 : Int32))])) _
          refine Goes.to (fun _ k => XS.goto X51.here hx rfl (pc0 := 132) (pc' := 136) rfl (hb hby at_132) (by decide) (by decide) k) ?_
          show Goes p.tables e below (T51.setTop (mkF m 136 #[.val (.int x0), .val (.int x1), .val (.int x2), .val (.ref b1), .val (.int lv36), .val (.int (0 : Int32)), .val (.ref a_Database_MARIADB), .val (.int (0 : Int32))] [(.int (1 : Int32))])) _
          obtain ⟨fs, hr, hrun, hended, hW, hsame⟩ := X51.leave (v := some (.int (1 : Int32))) (fun h => by rw [Bd.returns] at h; cases h)
          have hv : (some (.int (1 : Int32)) : Option Value) = some (.int (1 : Int32)) := by
            rfl
          exact ⟨_, _, retN X51 hx (t := .boolean) Bd.returns (by simp) (hb hby at_136) hr, hrun, hended, _, _, rfl, ⟨hv, N51⟩, ⟨_, rfl⟩, hW, hsame.mono (by decide) (by decide)⟩
        · refine Goes.to (fun _ k => XS.icmpYes X47.here hx rfl (pc0 := 106) (pc' := 116) rfl (hb hby at_106) rfl (feq hc50).2 (by decide) (by decide) k) ?_
          show Goes p.tables e below (T47.setTop (mkF m 116 #[.val (.int x0), .val (.int x1), .val (.int x2), .val (.ref b1), .val (.int lv36), .val (.int (0 : Int32)), .val (.ref a_Database_MARIADB), .unset] [])) _
          refine Goes.to (fun _ k => XS.iconst X47.here hx rfl (hb hby at_116) k) ?_
          show Goes p.tables e below (T47.setTop (mkF m 117 #[.val (.int x0), .val (.int x1), .val (.int x2), .val (.ref b1), .val (.int lv36), .val (.int (0 : Int32)), .val (.ref a_Database_MARIADB), .unset] [(.int (0 : Int32))])) _
          refine Goes.to (fun _ k => XS.istore X47.here hx rfl (hb hby at_117) rfl (l' := #[.val (.int x0), .val (.int x1), .val (.int x2), .val (.ref b1), .val (.int lv36), .val (.int (0 : Int32)), .val (.ref a_Database_MARIADB), .val (.int (0 : Int32))]) rfl k) ?_
          show Goes p.tables e below (T47.setTop (mkF m 119 #[.val (.int x0), .val (.int x1), .val (.int x2), .val (.ref b1), .val (.int lv36), .val (.int (0 : Int32)), .val (.ref a_Database_MARIADB), .val (.int (0 : Int32))] [])) _
          refine Goes.to (fun _ k => XS.aload X47.here hx rfl (hb hby at_119) rfl rfl k) ?_
          show Goes p.tables e below (T47.setTop (mkF m 121 #[.val (.int x0), .val (.int x1), .val (.int x2), .val (.ref b1), .val (.int lv36), .val (.int (0 : Int32)), .val (.ref a_Database_MARIADB), .val (.int (0 : Int32))] [(.ref a_Database_MARIADB)])) _
          refine Goes.to (fun _ k => XS.iload X47.here hx rfl (hb hby at_121) rfl k) ?_
          show Goes p.tables e below (T47.setTop (mkF m 123 #[.val (.int x0), .val (.int x1), .val (.int x2), .val (.ref b1), .val (.int lv36), .val (.int (0 : Int32)), .val (.ref a_Database_MARIADB), .val (.int (0 : Int32))] [(.int lv36), (.ref a_Database_MARIADB)])) _
          obtain ⟨cq52, kq52, q52a, q52b, q52c⟩ := isOf hZ e47 (E_Database_MARIADB.ext O33.2)
          obtain ⟨_, _, ⟨T52, L52, k52, n52⟩, -, X52, ⟨Lc52, hQ52, l52, y52, z52⟩, st52⟩ := X47.virtualBack hx (y := (⟨"com/example/mulligan/mulligan/Database", "keepsFirstSnapshot", "(I)Z"⟩ : MethodName)) (z := (⟨"com/example/mulligan/mulligan/Database$2", "keepsFirstSnapshot", "(I)Z"⟩ : MethodName)) hown (mvT hZ (hw _ (List.mem_of_getElem? (i := 4) rfl))) (mvT hZ (hw _ (List.mem_of_getElem? (i := 5) rfl))) (notFace_of_selects (args := #[]) (mvT hZ (hw _ (List.mem_of_getElem? (i := 7) rfl)))) (mvT hZ (hw _ (List.mem_of_getElem? (i := 11) rfl))) (mvT hZ (hw _ (List.mem_of_getElem? (i := 12) rfl))) (by decide) (backOf (W := 0) (own_rm2 l Z a0 hw [] a_Database_MARIADB lv36 T32.heap n0 Z32 ) hZ (hw _ (List.mem_of_getElem? (i := 14) rfl)) (hw _ (List.mem_of_getElem? (i := 13) rfl)) (by decide) (by decide)) q52a q52c (g := (mkF m 123 #[.val (.int x0), .val (.int x1), .val (.int x2), .val (.ref b1), .val (.int lv36), .val (.int (0 : Int32)), .val (.ref a_Database_MARIADB), .val (.int (0 : Int32))] [(.int lv36), (.ref a_Database_MARIADB)])) rfl (by rw [hml]; rfl) (Steps.refl _) (argsL := [(.int lv36)]) (rest := []) (lenOf own_pd_pIqZ rfl) rfl (by show 2 * 0 + _ ≤ _; exact Nat.le_of_eq rfl) (hb hby at_123) (fun _ _ => ⟨rfl, e47, (by decide : 1 + 0 ≤ _), (by decide : 8 + 0 ≤ _)⟩)
          dsimp only [Pt.U, Pt.locs, Pt.cells, Pt.slots] at X52 l52 y52 z52 st52 hQ52
          subst l52 y52 z52
          obtain ⟨hv52, Nq52, hp52_0⟩ := hQ52
          have N52 := Fr.app N32 Nq52
          rw [if_neg hc48] at hv52
          subst hv52
          refine Goes.tr st52 ?_
          show Goes p.tables e below (T52.setTop (mkF m 126 #[.val (.int x0), .val (.int x1), .val (.int x2), .val (.ref b1), .val (.int lv36), .val (.int (0 : Int32)), .val (.ref a_Database_MARIADB), .val (.int (0 : Int32))] [(.int (0 : Int32))])) _
          refine Goes.to (fun _ k => XS.iload X52.here hx rfl (hb hby at_126) rfl k) ?_
          show Goes p.tables e below (T52.setTop (mkF m 128 #[.val (.int x0), .val (.int x1), .val (.int x2), .val (.ref b1), .val (.int lv36), .val (.int (0 : Int32)), .val (.ref a_Database_MARIADB), .val (.int (0 : Int32))] [(.int (0 : Int32)), (.int (0 : Int32))])) _
          refine Goes.to (fun _ k => XS.icmpNo X52.here hx rfl (hb hby at_128) rfl (teq (by decide : (0 : Int32) = (0 : Int32))).2 k) ?_
          show Goes p.tables e below (T52.setTop (mkF m 131 #[.val (.int x0), .val (.int x1), .val (.int x2), .val (.ref b1), .val (.int lv36), .val (.int (0 : Int32)), .val (.ref a_Database_MARIADB), .val (.int (0 : Int32))] [])) _
          refine Goes.to (fun _ k => XS.iconst X52.here hx rfl (hb hby at_131) k) ?_
          show Goes p.tables e below (T52.setTop (mkF m 132 #[.val (.int x0), .val (.int x1), .val (.int x2), .val (.ref b1), .val (.int lv36), .val (.int (0 : Int32)), .val (.ref a_Database_MARIADB), .val (.int (0 : Int32))] [(.int (1 : Int32))])) _
          refine Goes.to (fun _ k => XS.goto X52.here hx rfl (pc0 := 132) (pc' := 136) rfl (hb hby at_132) (by decide) (by decide) k) ?_
          show Goes p.tables e below (T52.setTop (mkF m 136 #[.val (.int x0), .val (.int x1), .val (.int x2), .val (.ref b1), .val (.int lv36), .val (.int (0 : Int32)), .val (.ref a_Database_MARIADB), .val (.int (0 : Int32))] [(.int (1 : Int32))])) _
          obtain ⟨fs, hr, hrun, hended, hW, hsame⟩ := X52.leave (v := some (.int (1 : Int32))) (fun h => by rw [Bd.returns] at h; cases h)
          have hv : (some (.int (1 : Int32)) : Option Value) = some (.int (1 : Int32)) := by
            rfl
          exact ⟨_, _, retN X52 hx (t := .boolean) Bd.returns (by simp) (hb hby at_136) hr, hrun, hended, _, _, rfl, ⟨hv, N52⟩, ⟨_, rfl⟩, hW, hsame.mono (by decide) (by decide)⟩
  · refine Goes.to (fun _ k => XS.ifNo X32.here hx rfl (hb hby at_46) rfl ((if0 _ _).trans (feq hc35).1) k) ?_
    show Goes p.tables e below (T32.setTop (mkF m 49 #[.val (.int x0), .val (.int x1), .val (.int x2), .val (.ref b1), .unset, .unset, .unset, .unset] [])) _
    refine Goes.to (fun _ k => XS.iloadN X32.here hx rfl (hb hby at_49) rfl k) ?_
    show Goes p.tables e below (T32.setTop (mkF m 50 #[.val (.int x0), .val (.int x1), .val (.int x2), .val (.ref b1), .unset, .unset, .unset, .unset] [(.int x2)])) _
    refine Goes.to (fun _ k => XS.goto X32.here hx rfl (pc0 := 50) (pc' := 59) rfl (hb hby at_50) (by decide) (by decide) k) ?_
    show Goes p.tables e below (T32.setTop (mkF m 59 #[.val (.int x0), .val (.int x1), .val (.int x2), .val (.ref b1), .unset, .unset, .unset, .unset] [(.int x2)])) _
    refine Goes.to (fun _ k => XS.istore X32.here hx rfl (hb hby at_59) rfl (l' := #[.val (.int x0), .val (.int x1), .val (.int x2), .val (.ref b1), .val (.int x2), .unset, .unset, .unset]) rfl k) ?_
    show Goes p.tables e below (T32.setTop (mkF m 61 #[.val (.int x0), .val (.int x1), .val (.int x2), .val (.ref b1), .val (.int x2), .unset, .unset, .unset] [])) _
    refine Goes.to (fun _ k => XS.iloadN X32.here hx rfl (hb hby at_61) rfl k) ?_
    show Goes p.tables e below (T32.setTop (mkF m 62 #[.val (.int x0), .val (.int x1), .val (.int x2), .val (.ref b1), .val (.int x2), .unset, .unset, .unset] [(.int x0)])) _
    refine Goes.to (fun _ k => XS.iconst X32.here hx rfl (hb hby at_62) k) ?_
    show Goes p.tables e below (T32.setTop (mkF m 63 #[.val (.int x0), .val (.int x1), .val (.int x2), .val (.ref b1), .val (.int x2), .unset, .unset, .unset] [(.int (1 : Int32)), (.int x0)])) _
    refine Goes.to (fun _ k => XS.iand X32.here hx rfl (hb hby at_63) rfl k) ?_
    show Goes p.tables e below (T32.setTop (mkF m 64 #[.val (.int x0), .val (.int x1), .val (.int x2), .val (.ref b1), .val (.int x2), .unset, .unset, .unset] [(.int (x0 &&& (1 : Int32)))])) _
    by_cases hc53 : (x0 &&& (1 : Int32)) = (0 : Int32)
    · refine Goes.to (fun _ k => XS.ifNo X32.here hx rfl (hb hby at_64) rfl ((if0 _ _).trans (teq hc53).2) k) ?_
      show Goes p.tables e below (T32.setTop (mkF m 67 #[.val (.int x0), .val (.int x1), .val (.int x2), .val (.ref b1), .val (.int x2), .unset, .unset, .unset] [])) _
      refine Goes.to (fun _ k => XS.iconst X32.here hx rfl (hb hby at_67) k) ?_
      show Goes p.tables e below (T32.setTop (mkF m 68 #[.val (.int x0), .val (.int x1), .val (.int x2), .val (.ref b1), .val (.int x2), .unset, .unset, .unset] [(.int (1 : Int32))])) _
      refine Goes.to (fun _ k => XS.goto X32.here hx rfl (pc0 := 68) (pc' := 72) rfl (hb hby at_68) (by decide) (by decide) k) ?_
      show Goes p.tables e below (T32.setTop (mkF m 72 #[.val (.int x0), .val (.int x1), .val (.int x2), .val (.ref b1), .val (.int x2), .unset, .unset, .unset] [(.int (1 : Int32))])) _
      refine Goes.to (fun _ k => XS.istore X32.here hx rfl (hb hby at_72) rfl (l' := #[.val (.int x0), .val (.int x1), .val (.int x2), .val (.ref b1), .val (.int x2), .val (.int (1 : Int32)), .unset, .unset]) rfl k) ?_
      show Goes p.tables e below (T32.setTop (mkF m 74 #[.val (.int x0), .val (.int x1), .val (.int x2), .val (.ref b1), .val (.int x2), .val (.int (1 : Int32)), .unset, .unset] [])) _
      refine Goes.to (fun _ k => XS.iload X32.here hx rfl (hb hby at_74) rfl k) ?_
      show Goes p.tables e below (T32.setTop (mkF m 76 #[.val (.int x0), .val (.int x1), .val (.int x2), .val (.ref b1), .val (.int x2), .val (.int (1 : Int32)), .unset, .unset] [(.int (1 : Int32))])) _
      refine Goes.to (fun _ k => XS.ifNo X32.here hx rfl (hb hby at_76) rfl ((if0 _ _).trans (feq (by decide : ¬ ((1 : Int32) = (0 : Int32)))).1) k) ?_
      show Goes p.tables e below (T32.setTop (mkF m 79 #[.val (.int x0), .val (.int x1), .val (.int x2), .val (.ref b1), .val (.int x2), .val (.int (1 : Int32)), .unset, .unset] [])) _
      obtain ⟨T54, X54, e54, st54⟩ := getS2 X32 hx hZ hown (host := "") (Or.inl (hw _ (List.mem_of_getElem? (i := 1) rfl))) Via.refl rfl (S_Database_POSTGRESQL.ext O33.2) (g := (mkF m 79 #[.val (.int x0), .val (.int x1), .val (.int x2), .val (.ref b1), .val (.int x2), .val (.int (1 : Int32)), .unset, .unset] [])) rfl (hb hby at_79)
      refine Goes.to st54 ?_
      show Goes p.tables e below (T54.setTop (mkF m 82 #[.val (.int x0), .val (.int x1), .val (.int x2), .val (.ref b1), .val (.int x2), .val (.int (1 : Int32)), .unset, .unset] [(.ref a_Database_POSTGRESQL)])) _
      refine Goes.to (fun _ k => XS.goto X54.here hx rfl (pc0 := 82) (pc' := 88) rfl (hb hby at_82) (by decide) (by decide) k) ?_
      show Goes p.tables e below (T54.setTop (mkF m 88 #[.val (.int x0), .val (.int x1), .val (.int x2), .val (.ref b1), .val (.int x2), .val (.int (1 : Int32)), .unset, .unset] [(.ref a_Database_POSTGRESQL)])) _
      refine Goes.to (fun _ k => XS.astore X54.here hx rfl (hb hby at_88) rfl rfl (l' := #[.val (.int x0), .val (.int x1), .val (.int x2), .val (.ref b1), .val (.int x2), .val (.int (1 : Int32)), .val (.ref a_Database_POSTGRESQL), .unset]) rfl k) ?_
      show Goes p.tables e below (T54.setTop (mkF m 90 #[.val (.int x0), .val (.int x1), .val (.int x2), .val (.ref b1), .val (.int x2), .val (.int (1 : Int32)), .val (.ref a_Database_POSTGRESQL), .unset] [])) _
      refine Goes.to (fun _ k => XS.iload X54.here hx rfl (hb hby at_90) rfl k) ?_
      show Goes p.tables e below (T54.setTop (mkF m 92 #[.val (.int x0), .val (.int x1), .val (.int x2), .val (.ref b1), .val (.int x2), .val (.int (1 : Int32)), .val (.ref a_Database_POSTGRESQL), .unset] [(.int x2)])) _
      refine Goes.to (fun _ k => XS.iconst X54.here hx rfl (hb hby at_92) k) ?_
      show Goes p.tables e below (T54.setTop (mkF m 93 #[.val (.int x0), .val (.int x1), .val (.int x2), .val (.ref b1), .val (.int x2), .val (.int (1 : Int32)), .val (.ref a_Database_POSTGRESQL), .unset] [(.int (4 : Int32)), (.int x2)])) _
      by_cases hc55 : x2 = (4 : Int32)
      · refine Goes.to (fun _ k => XS.icmpNo X54.here hx rfl (hb hby at_93) rfl (teq hc55).2 k) ?_
        show Goes p.tables e below (T54.setTop (mkF m 96 #[.val (.int x0), .val (.int x1), .val (.int x2), .val (.ref b1), .val (.int x2), .val (.int (1 : Int32)), .val (.ref a_Database_POSTGRESQL), .unset] [])) _
        refine Goes.to (fun _ k => XS.iconst X54.here hx rfl (hb hby at_96) k) ?_
        show Goes p.tables e below (T54.setTop (mkF m 97 #[.val (.int x0), .val (.int x1), .val (.int x2), .val (.ref b1), .val (.int x2), .val (.int (1 : Int32)), .val (.ref a_Database_POSTGRESQL), .unset] [(.int (1 : Int32))])) _
        refine Goes.to (fun _ k => XS.istore X54.here hx rfl (hb hby at_97) rfl (l' := #[.val (.int x0), .val (.int x1), .val (.int x2), .val (.ref b1), .val (.int x2), .val (.int (1 : Int32)), .val (.ref a_Database_POSTGRESQL), .val (.int (1 : Int32))]) rfl k) ?_
        show Goes p.tables e below (T54.setTop (mkF m 99 #[.val (.int x0), .val (.int x1), .val (.int x2), .val (.ref b1), .val (.int x2), .val (.int (1 : Int32)), .val (.ref a_Database_POSTGRESQL), .val (.int (1 : Int32))] [])) _
        refine Goes.to (fun _ k => XS.goto X54.here hx rfl (pc0 := 99) (pc' := 119) rfl (hb hby at_99) (by decide) (by decide) k) ?_
        show Goes p.tables e below (T54.setTop (mkF m 119 #[.val (.int x0), .val (.int x1), .val (.int x2), .val (.ref b1), .val (.int x2), .val (.int (1 : Int32)), .val (.ref a_Database_POSTGRESQL), .val (.int (1 : Int32))] [])) _
        refine Goes.to (fun _ k => XS.aload X54.here hx rfl (hb hby at_119) rfl rfl k) ?_
        show Goes p.tables e below (T54.setTop (mkF m 121 #[.val (.int x0), .val (.int x1), .val (.int x2), .val (.ref b1), .val (.int x2), .val (.int (1 : Int32)), .val (.ref a_Database_POSTGRESQL), .val (.int (1 : Int32))] [(.ref a_Database_POSTGRESQL)])) _
        refine Goes.to (fun _ k => XS.iload X54.here hx rfl (hb hby at_121) rfl k) ?_
        show Goes p.tables e below (T54.setTop (mkF m 123 #[.val (.int x0), .val (.int x1), .val (.int x2), .val (.ref b1), .val (.int x2), .val (.int (1 : Int32)), .val (.ref a_Database_POSTGRESQL), .val (.int (1 : Int32))] [(.int x2), (.ref a_Database_POSTGRESQL)])) _
        obtain ⟨cq56, kq56, q56a, q56b, q56c⟩ := isOf hZ e54 (E_Database_POSTGRESQL.ext O33.2)
        obtain ⟨_, _, ⟨T56, L56, k56, n56⟩, -, X56, ⟨Lc56, hQ56, l56, y56, z56⟩, st56⟩ := X54.virtualBack hx (y := (⟨"com/example/mulligan/mulligan/Database", "keepsFirstSnapshot", "(I)Z"⟩ : MethodName)) (z := (⟨"com/example/mulligan/mulligan/Database", "keepsFirstSnapshot", "(I)Z"⟩ : MethodName)) hown (mvT hZ (hw _ (List.mem_of_getElem? (i := 4) rfl))) (mvT hZ (hw _ (List.mem_of_getElem? (i := 5) rfl))) (notFace_of_selects (args := #[]) (mvT hZ (hw _ (List.mem_of_getElem? (i := 7) rfl)))) (mvT hZ (hw _ (List.mem_of_getElem? (i := 7) rfl))) (mvT hZ (hw _ (List.mem_of_getElem? (i := 6) rfl))) (by decide) (backOf (W := 0) (own_rm1 l Z a0 hw [] a_Database_POSTGRESQL x2 T32.heap n0 Z32 ) hZ (hw _ (List.mem_of_getElem? (i := 8) rfl)) (hw _ (List.mem_of_getElem? (i := 2) rfl)) (by decide) (by decide)) q56a q56c (g := (mkF m 123 #[.val (.int x0), .val (.int x1), .val (.int x2), .val (.ref b1), .val (.int x2), .val (.int (1 : Int32)), .val (.ref a_Database_POSTGRESQL), .val (.int (1 : Int32))] [(.int x2), (.ref a_Database_POSTGRESQL)])) rfl (by rw [hml]; rfl) (Steps.refl _) (argsL := [(.int x2)]) (rest := []) (lenOf own_pd_pIqZ rfl) rfl (by show 2 * 0 + _ ≤ _; exact Nat.le_of_eq rfl) (hb hby at_123) (fun _ _ => ⟨rfl, e54, (by decide : 1 + 0 ≤ _), (by decide : 8 + 0 ≤ _)⟩)
        dsimp only [Pt.U, Pt.locs, Pt.cells, Pt.slots] at X56 l56 y56 z56 st56 hQ56
        subst l56 y56 z56
        obtain ⟨hv56, Nq56, hp56_0⟩ := hQ56
        have N56 := Fr.app N32 Nq56
        by_cases hc57 : x2 = (4 : Int32) ∨ x2 = (8 : Int32)
        · rw [if_pos hc57] at hv56
          subst hv56
          refine Goes.tr st56 ?_
          show Goes p.tables e below (T56.setTop (mkF m 126 #[.val (.int x0), .val (.int x1), .val (.int x2), .val (.ref b1), .val (.int x2), .val (.int (1 : Int32)), .val (.ref a_Database_POSTGRESQL), .val (.int (1 : Int32))] [(.int (1 : Int32))])) _
          refine Goes.to (fun _ k => XS.iload X56.here hx rfl (hb hby at_126) rfl k) ?_
          show Goes p.tables e below (T56.setTop (mkF m 128 #[.val (.int x0), .val (.int x1), .val (.int x2), .val (.ref b1), .val (.int x2), .val (.int (1 : Int32)), .val (.ref a_Database_POSTGRESQL), .val (.int (1 : Int32))] [(.int (1 : Int32)), (.int (1 : Int32))])) _
          refine Goes.to (fun _ k => XS.icmpNo X56.here hx rfl (hb hby at_128) rfl (teq (by decide : (1 : Int32) = (1 : Int32))).2 k) ?_
          show Goes p.tables e below (T56.setTop (mkF m 131 #[.val (.int x0), .val (.int x1), .val (.int x2), .val (.ref b1), .val (.int x2), .val (.int (1 : Int32)), .val (.ref a_Database_POSTGRESQL), .val (.int (1 : Int32))] [])) _
          refine Goes.to (fun _ k => XS.iconst X56.here hx rfl (hb hby at_131) k) ?_
          show Goes p.tables e below (T56.setTop (mkF m 132 #[.val (.int x0), .val (.int x1), .val (.int x2), .val (.ref b1), .val (.int x2), .val (.int (1 : Int32)), .val (.ref a_Database_POSTGRESQL), .val (.int (1 : Int32))] [(.int (1 : Int32))])) _
          refine Goes.to (fun _ k => XS.goto X56.here hx rfl (pc0 := 132) (pc' := 136) rfl (hb hby at_132) (by decide) (by decide) k) ?_
          show Goes p.tables e below (T56.setTop (mkF m 136 #[.val (.int x0), .val (.int x1), .val (.int x2), .val (.ref b1), .val (.int x2), .val (.int (1 : Int32)), .val (.ref a_Database_POSTGRESQL), .val (.int (1 : Int32))] [(.int (1 : Int32))])) _
          obtain ⟨fs, hr, hrun, hended, hW, hsame⟩ := X56.leave (v := some (.int (1 : Int32))) (fun h => by rw [Bd.returns] at h; cases h)
          have hv : (some (.int (1 : Int32)) : Option Value) = some (.int (1 : Int32)) := by
            rfl
          exact ⟨_, _, retN X56 hx (t := .boolean) Bd.returns (by simp) (hb hby at_136) hr, hrun, hended, _, _, rfl, ⟨hv, N56⟩, ⟨_, rfl⟩, hW, hsame.mono (by decide) (by decide)⟩
        · exact absurd (Or.inl hc55 : x2 = (4 : Int32) ∨ x2 = (8 : Int32)) hc57
      · refine Goes.to (fun _ k => XS.icmpYes X54.here hx rfl (pc0 := 93) (pc' := 102) rfl (hb hby at_93) rfl (feq hc55).2 (by decide) (by decide) k) ?_
        show Goes p.tables e below (T54.setTop (mkF m 102 #[.val (.int x0), .val (.int x1), .val (.int x2), .val (.ref b1), .val (.int x2), .val (.int (1 : Int32)), .val (.ref a_Database_POSTGRESQL), .unset] [])) _
        refine Goes.to (fun _ k => XS.iload X54.here hx rfl (hb hby at_102) rfl k) ?_
        show Goes p.tables e below (T54.setTop (mkF m 104 #[.val (.int x0), .val (.int x1), .val (.int x2), .val (.ref b1), .val (.int x2), .val (.int (1 : Int32)), .val (.ref a_Database_POSTGRESQL), .unset] [(.int x2)])) _
        refine Goes.to (fun _ k => XS.bipush X54.here hx rfl (hb hby at_104) k) ?_
        show Goes p.tables e below (T54.setTop (mkF m 106 #[.val (.int x0), .val (.int x1), .val (.int x2), .val (.ref b1), .val (.int x2), .val (.int (1 : Int32)), .val (.ref a_Database_POSTGRESQL), .unset] [(.int (8 : Int32)), (.int x2)])) _
        by_cases hc58 : x2 = (8 : Int32)
        · refine Goes.to (fun _ k => XS.icmpNo X54.here hx rfl (hb hby at_106) rfl (teq hc58).2 k) ?_
          show Goes p.tables e below (T54.setTop (mkF m 109 #[.val (.int x0), .val (.int x1), .val (.int x2), .val (.ref b1), .val (.int x2), .val (.int (1 : Int32)), .val (.ref a_Database_POSTGRESQL), .unset] [])) _
          refine Goes.to (fun _ k => XS.iload X54.here hx rfl (hb hby at_109) rfl k) ?_
          show Goes p.tables e below (T54.setTop (mkF m 111 #[.val (.int x0), .val (.int x1), .val (.int x2), .val (.ref b1), .val (.int x2), .val (.int (1 : Int32)), .val (.ref a_Database_POSTGRESQL), .unset] [(.int (1 : Int32))])) _
          refine Goes.to (fun _ k => XS.istore X54.here hx rfl (hb hby at_111) rfl (l' := #[.val (.int x0), .val (.int x1), .val (.int x2), .val (.ref b1), .val (.int x2), .val (.int (1 : Int32)), .val (.ref a_Database_POSTGRESQL), .val (.int (1 : Int32))]) rfl k) ?_
          show Goes p.tables e below (T54.setTop (mkF m 113 #[.val (.int x0), .val (.int x1), .val (.int x2), .val (.ref b1), .val (.int x2), .val (.int (1 : Int32)), .val (.ref a_Database_POSTGRESQL), .val (.int (1 : Int32))] [])) _
          refine Goes.to (fun _ k => XS.goto X54.here hx rfl (pc0 := 113) (pc' := 119) rfl (hb hby at_113) (by decide) (by decide) k) ?_
          show Goes p.tables e below (T54.setTop (mkF m 119 #[.val (.int x0), .val (.int x1), .val (.int x2), .val (.ref b1), .val (.int x2), .val (.int (1 : Int32)), .val (.ref a_Database_POSTGRESQL), .val (.int (1 : Int32))] [])) _
          refine Goes.to (fun _ k => XS.aload X54.here hx rfl (hb hby at_119) rfl rfl k) ?_
          show Goes p.tables e below (T54.setTop (mkF m 121 #[.val (.int x0), .val (.int x1), .val (.int x2), .val (.ref b1), .val (.int x2), .val (.int (1 : Int32)), .val (.ref a_Database_POSTGRESQL), .val (.int (1 : Int32))] [(.ref a_Database_POSTGRESQL)])) _
          refine Goes.to (fun _ k => XS.iload X54.here hx rfl (hb hby at_121) rfl k) ?_
          show Goes p.tables e below (T54.setTop (mkF m 123 #[.val (.int x0), .val (.int x1), .val (.int x2), .val (.ref b1), .val (.int x2), .val (.int (1 : Int32)), .val (.ref a_Database_POSTGRESQL), .val (.int (1 : Int32))] [(.int x2), (.ref a_Database_POSTGRESQL)])) _
          obtain ⟨cq59, kq59, q59a, q59b, q59c⟩ := isOf hZ e54 (E_Database_POSTGRESQL.ext O33.2)
          obtain ⟨_, _, ⟨T59, L59, k59, n59⟩, -, X59, ⟨Lc59, hQ59, l59, y59, z59⟩, st59⟩ := X54.virtualBack hx (y := (⟨"com/example/mulligan/mulligan/Database", "keepsFirstSnapshot", "(I)Z"⟩ : MethodName)) (z := (⟨"com/example/mulligan/mulligan/Database", "keepsFirstSnapshot", "(I)Z"⟩ : MethodName)) hown (mvT hZ (hw _ (List.mem_of_getElem? (i := 4) rfl))) (mvT hZ (hw _ (List.mem_of_getElem? (i := 5) rfl))) (notFace_of_selects (args := #[]) (mvT hZ (hw _ (List.mem_of_getElem? (i := 7) rfl)))) (mvT hZ (hw _ (List.mem_of_getElem? (i := 7) rfl))) (mvT hZ (hw _ (List.mem_of_getElem? (i := 6) rfl))) (by decide) (backOf (W := 0) (own_rm1 l Z a0 hw [] a_Database_POSTGRESQL x2 T32.heap n0 Z32 ) hZ (hw _ (List.mem_of_getElem? (i := 8) rfl)) (hw _ (List.mem_of_getElem? (i := 2) rfl)) (by decide) (by decide)) q59a q59c (g := (mkF m 123 #[.val (.int x0), .val (.int x1), .val (.int x2), .val (.ref b1), .val (.int x2), .val (.int (1 : Int32)), .val (.ref a_Database_POSTGRESQL), .val (.int (1 : Int32))] [(.int x2), (.ref a_Database_POSTGRESQL)])) rfl (by rw [hml]; rfl) (Steps.refl _) (argsL := [(.int x2)]) (rest := []) (lenOf own_pd_pIqZ rfl) rfl (by show 2 * 0 + _ ≤ _; exact Nat.le_of_eq rfl) (hb hby at_123) (fun _ _ => ⟨rfl, e54, (by decide : 1 + 0 ≤ _), (by decide : 8 + 0 ≤ _)⟩)
          dsimp only [Pt.U, Pt.locs, Pt.cells, Pt.slots] at X59 l59 y59 z59 st59 hQ59
          subst l59 y59 z59
          obtain ⟨hv59, Nq59, hp59_0⟩ := hQ59
          have N59 := Fr.app N32 Nq59
          by_cases hc60 : x2 = (4 : Int32) ∨ x2 = (8 : Int32)
          · rw [if_pos hc60] at hv59
            subst hv59
            refine Goes.tr st59 ?_
            show Goes p.tables e below (T59.setTop (mkF m 126 #[.val (.int x0), .val (.int x1), .val (.int x2), .val (.ref b1), .val (.int x2), .val (.int (1 : Int32)), .val (.ref a_Database_POSTGRESQL), .val (.int (1 : Int32))] [(.int (1 : Int32))])) _
            refine Goes.to (fun _ k => XS.iload X59.here hx rfl (hb hby at_126) rfl k) ?_
            show Goes p.tables e below (T59.setTop (mkF m 128 #[.val (.int x0), .val (.int x1), .val (.int x2), .val (.ref b1), .val (.int x2), .val (.int (1 : Int32)), .val (.ref a_Database_POSTGRESQL), .val (.int (1 : Int32))] [(.int (1 : Int32)), (.int (1 : Int32))])) _
            refine Goes.to (fun _ k => XS.icmpNo X59.here hx rfl (hb hby at_128) rfl (teq (by decide : (1 : Int32) = (1 : Int32))).2 k) ?_
            show Goes p.tables e below (T59.setTop (mkF m 131 #[.val (.int x0), .val (.int x1), .val (.int x2), .val (.ref b1), .val (.int x2), .val (.int (1 : Int32)), .val (.ref a_Database_POSTGRESQL), .val (.int (1 : Int32))] [])) _
            refine Goes.to (fun _ k => XS.iconst X59.here hx rfl (hb hby at_131) k) ?_
            show Goes p.tables e below (T59.setTop (mkF m 132 #[.val (.int x0), .val (.int x1), .val (.int x2), .val (.ref b1), .val (.int x2), .val (.int (1 : Int32)), .val (.ref a_Database_POSTGRESQL), .val (.int (1 : Int32))] [(.int (1 : Int32))])) _
            refine Goes.to (fun _ k => XS.goto X59.here hx rfl (pc0 := 132) (pc' := 136) rfl (hb hby at_132) (by decide) (by decide) k) ?_
            show Goes p.tables e below (T59.setTop (mkF m 136 #[.val (.int x0), .val (.int x1), .val (.int x2), .val (.ref b1), .val (.int x2), .val (.int (1 : Int32)), .val (.ref a_Database_POSTGRESQL), .val (.int (1 : Int32))] [(.int (1 : Int32))])) _
            obtain ⟨fs, hr, hrun, hended, hW, hsame⟩ := X59.leave (v := some (.int (1 : Int32))) (fun h => by rw [Bd.returns] at h; cases h)
            have hv : (some (.int (1 : Int32)) : Option Value) = some (.int (1 : Int32)) := by
              rfl
            exact ⟨_, _, retN X59 hx (t := .boolean) Bd.returns (by simp) (hb hby at_136) hr, hrun, hended, _, _, rfl, ⟨hv, N59⟩, ⟨_, rfl⟩, hW, hsame.mono (by decide) (by decide)⟩
          · exact absurd (Or.inr hc58 : x2 = (4 : Int32) ∨ x2 = (8 : Int32)) hc60
        · refine Goes.to (fun _ k => XS.icmpYes X54.here hx rfl (pc0 := 106) (pc' := 116) rfl (hb hby at_106) rfl (feq hc58).2 (by decide) (by decide) k) ?_
          show Goes p.tables e below (T54.setTop (mkF m 116 #[.val (.int x0), .val (.int x1), .val (.int x2), .val (.ref b1), .val (.int x2), .val (.int (1 : Int32)), .val (.ref a_Database_POSTGRESQL), .unset] [])) _
          refine Goes.to (fun _ k => XS.iconst X54.here hx rfl (hb hby at_116) k) ?_
          show Goes p.tables e below (T54.setTop (mkF m 117 #[.val (.int x0), .val (.int x1), .val (.int x2), .val (.ref b1), .val (.int x2), .val (.int (1 : Int32)), .val (.ref a_Database_POSTGRESQL), .unset] [(.int (0 : Int32))])) _
          refine Goes.to (fun _ k => XS.istore X54.here hx rfl (hb hby at_117) rfl (l' := #[.val (.int x0), .val (.int x1), .val (.int x2), .val (.ref b1), .val (.int x2), .val (.int (1 : Int32)), .val (.ref a_Database_POSTGRESQL), .val (.int (0 : Int32))]) rfl k) ?_
          show Goes p.tables e below (T54.setTop (mkF m 119 #[.val (.int x0), .val (.int x1), .val (.int x2), .val (.ref b1), .val (.int x2), .val (.int (1 : Int32)), .val (.ref a_Database_POSTGRESQL), .val (.int (0 : Int32))] [])) _
          refine Goes.to (fun _ k => XS.aload X54.here hx rfl (hb hby at_119) rfl rfl k) ?_
          show Goes p.tables e below (T54.setTop (mkF m 121 #[.val (.int x0), .val (.int x1), .val (.int x2), .val (.ref b1), .val (.int x2), .val (.int (1 : Int32)), .val (.ref a_Database_POSTGRESQL), .val (.int (0 : Int32))] [(.ref a_Database_POSTGRESQL)])) _
          refine Goes.to (fun _ k => XS.iload X54.here hx rfl (hb hby at_121) rfl k) ?_
          show Goes p.tables e below (T54.setTop (mkF m 123 #[.val (.int x0), .val (.int x1), .val (.int x2), .val (.ref b1), .val (.int x2), .val (.int (1 : Int32)), .val (.ref a_Database_POSTGRESQL), .val (.int (0 : Int32))] [(.int x2), (.ref a_Database_POSTGRESQL)])) _
          obtain ⟨cq61, kq61, q61a, q61b, q61c⟩ := isOf hZ e54 (E_Database_POSTGRESQL.ext O33.2)
          obtain ⟨_, _, ⟨T61, L61, k61, n61⟩, -, X61, ⟨Lc61, hQ61, l61, y61, z61⟩, st61⟩ := X54.virtualBack hx (y := (⟨"com/example/mulligan/mulligan/Database", "keepsFirstSnapshot", "(I)Z"⟩ : MethodName)) (z := (⟨"com/example/mulligan/mulligan/Database", "keepsFirstSnapshot", "(I)Z"⟩ : MethodName)) hown (mvT hZ (hw _ (List.mem_of_getElem? (i := 4) rfl))) (mvT hZ (hw _ (List.mem_of_getElem? (i := 5) rfl))) (notFace_of_selects (args := #[]) (mvT hZ (hw _ (List.mem_of_getElem? (i := 7) rfl)))) (mvT hZ (hw _ (List.mem_of_getElem? (i := 7) rfl))) (mvT hZ (hw _ (List.mem_of_getElem? (i := 6) rfl))) (by decide) (backOf (W := 0) (own_rm1 l Z a0 hw [] a_Database_POSTGRESQL x2 T32.heap n0 Z32 ) hZ (hw _ (List.mem_of_getElem? (i := 8) rfl)) (hw _ (List.mem_of_getElem? (i := 2) rfl)) (by decide) (by decide)) q61a q61c (g := (mkF m 123 #[.val (.int x0), .val (.int x1), .val (.int x2), .val (.ref b1), .val (.int x2), .val (.int (1 : Int32)), .val (.ref a_Database_POSTGRESQL), .val (.int (0 : Int32))] [(.int x2), (.ref a_Database_POSTGRESQL)])) rfl (by rw [hml]; rfl) (Steps.refl _) (argsL := [(.int x2)]) (rest := []) (lenOf own_pd_pIqZ rfl) rfl (by show 2 * 0 + _ ≤ _; exact Nat.le_of_eq rfl) (hb hby at_123) (fun _ _ => ⟨rfl, e54, (by decide : 1 + 0 ≤ _), (by decide : 8 + 0 ≤ _)⟩)
          dsimp only [Pt.U, Pt.locs, Pt.cells, Pt.slots] at X61 l61 y61 z61 st61 hQ61
          subst l61 y61 z61
          obtain ⟨hv61, Nq61, hp61_0⟩ := hQ61
          have N61 := Fr.app N32 Nq61
          by_cases hc62 : x2 = (4 : Int32) ∨ x2 = (8 : Int32)
          · exact absurd hc62 (fun q => q.elim hc55 hc58)
          · rw [if_neg hc62] at hv61
            subst hv61
            refine Goes.tr st61 ?_
            show Goes p.tables e below (T61.setTop (mkF m 126 #[.val (.int x0), .val (.int x1), .val (.int x2), .val (.ref b1), .val (.int x2), .val (.int (1 : Int32)), .val (.ref a_Database_POSTGRESQL), .val (.int (0 : Int32))] [(.int (0 : Int32))])) _
            refine Goes.to (fun _ k => XS.iload X61.here hx rfl (hb hby at_126) rfl k) ?_
            show Goes p.tables e below (T61.setTop (mkF m 128 #[.val (.int x0), .val (.int x1), .val (.int x2), .val (.ref b1), .val (.int x2), .val (.int (1 : Int32)), .val (.ref a_Database_POSTGRESQL), .val (.int (0 : Int32))] [(.int (0 : Int32)), (.int (0 : Int32))])) _
            refine Goes.to (fun _ k => XS.icmpNo X61.here hx rfl (hb hby at_128) rfl (teq (by decide : (0 : Int32) = (0 : Int32))).2 k) ?_
            show Goes p.tables e below (T61.setTop (mkF m 131 #[.val (.int x0), .val (.int x1), .val (.int x2), .val (.ref b1), .val (.int x2), .val (.int (1 : Int32)), .val (.ref a_Database_POSTGRESQL), .val (.int (0 : Int32))] [])) _
            refine Goes.to (fun _ k => XS.iconst X61.here hx rfl (hb hby at_131) k) ?_
            show Goes p.tables e below (T61.setTop (mkF m 132 #[.val (.int x0), .val (.int x1), .val (.int x2), .val (.ref b1), .val (.int x2), .val (.int (1 : Int32)), .val (.ref a_Database_POSTGRESQL), .val (.int (0 : Int32))] [(.int (1 : Int32))])) _
            refine Goes.to (fun _ k => XS.goto X61.here hx rfl (pc0 := 132) (pc' := 136) rfl (hb hby at_132) (by decide) (by decide) k) ?_
            show Goes p.tables e below (T61.setTop (mkF m 136 #[.val (.int x0), .val (.int x1), .val (.int x2), .val (.ref b1), .val (.int x2), .val (.int (1 : Int32)), .val (.ref a_Database_POSTGRESQL), .val (.int (0 : Int32))] [(.int (1 : Int32))])) _
            obtain ⟨fs, hr, hrun, hended, hW, hsame⟩ := X61.leave (v := some (.int (1 : Int32))) (fun h => by rw [Bd.returns] at h; cases h)
            have hv : (some (.int (1 : Int32)) : Option Value) = some (.int (1 : Int32)) := by
              rfl
            exact ⟨_, _, retN X61 hx (t := .boolean) Bd.returns (by simp) (hb hby at_136) hr, hrun, hended, _, _, rfl, ⟨hv, N61⟩, ⟨_, rfl⟩, hW, hsame.mono (by decide) (by decide)⟩
    · refine Goes.to (fun _ k => XS.ifYes X32.here hx rfl (pc0 := 64) (pc' := 71) rfl (hb hby at_64) rfl ((if0 _ _).trans (feq hc53).2) (by decide) (by decide) k) ?_
      show Goes p.tables e below (T32.setTop (mkF m 71 #[.val (.int x0), .val (.int x1), .val (.int x2), .val (.ref b1), .val (.int x2), .unset, .unset, .unset] [])) _
      refine Goes.to (fun _ k => XS.iconst X32.here hx rfl (hb hby at_71) k) ?_
      show Goes p.tables e below (T32.setTop (mkF m 72 #[.val (.int x0), .val (.int x1), .val (.int x2), .val (.ref b1), .val (.int x2), .unset, .unset, .unset] [(.int (0 : Int32))])) _
      refine Goes.to (fun _ k => XS.istore X32.here hx rfl (hb hby at_72) rfl (l' := #[.val (.int x0), .val (.int x1), .val (.int x2), .val (.ref b1), .val (.int x2), .val (.int (0 : Int32)), .unset, .unset]) rfl k) ?_
      show Goes p.tables e below (T32.setTop (mkF m 74 #[.val (.int x0), .val (.int x1), .val (.int x2), .val (.ref b1), .val (.int x2), .val (.int (0 : Int32)), .unset, .unset] [])) _
      refine Goes.to (fun _ k => XS.iload X32.here hx rfl (hb hby at_74) rfl k) ?_
      show Goes p.tables e below (T32.setTop (mkF m 76 #[.val (.int x0), .val (.int x1), .val (.int x2), .val (.ref b1), .val (.int x2), .val (.int (0 : Int32)), .unset, .unset] [(.int (0 : Int32))])) _
      refine Goes.to (fun _ k => XS.ifYes X32.here hx rfl (pc0 := 76) (pc' := 85) rfl (hb hby at_76) rfl ((if0 _ _).trans (teq (by decide : (0 : Int32) = (0 : Int32))).1) (by decide) (by decide) k) ?_
      show Goes p.tables e below (T32.setTop (mkF m 85 #[.val (.int x0), .val (.int x1), .val (.int x2), .val (.ref b1), .val (.int x2), .val (.int (0 : Int32)), .unset, .unset] [])) _
      obtain ⟨T63, X63, e63, st63⟩ := getS2 X32 hx hZ hown (host := "") (Or.inl (hw _ (List.mem_of_getElem? (i := 9) rfl))) Via.refl rfl (S_Database_MARIADB.ext O33.2) (g := (mkF m 85 #[.val (.int x0), .val (.int x1), .val (.int x2), .val (.ref b1), .val (.int x2), .val (.int (0 : Int32)), .unset, .unset] [])) rfl (hb hby at_85)
      refine Goes.to st63 ?_
      show Goes p.tables e below (T63.setTop (mkF m 88 #[.val (.int x0), .val (.int x1), .val (.int x2), .val (.ref b1), .val (.int x2), .val (.int (0 : Int32)), .unset, .unset] [(.ref a_Database_MARIADB)])) _
      refine Goes.to (fun _ k => XS.astore X63.here hx rfl (hb hby at_88) rfl rfl (l' := #[.val (.int x0), .val (.int x1), .val (.int x2), .val (.ref b1), .val (.int x2), .val (.int (0 : Int32)), .val (.ref a_Database_MARIADB), .unset]) rfl k) ?_
      show Goes p.tables e below (T63.setTop (mkF m 90 #[.val (.int x0), .val (.int x1), .val (.int x2), .val (.ref b1), .val (.int x2), .val (.int (0 : Int32)), .val (.ref a_Database_MARIADB), .unset] [])) _
      refine Goes.to (fun _ k => XS.iload X63.here hx rfl (hb hby at_90) rfl k) ?_
      show Goes p.tables e below (T63.setTop (mkF m 92 #[.val (.int x0), .val (.int x1), .val (.int x2), .val (.ref b1), .val (.int x2), .val (.int (0 : Int32)), .val (.ref a_Database_MARIADB), .unset] [(.int x2)])) _
      refine Goes.to (fun _ k => XS.iconst X63.here hx rfl (hb hby at_92) k) ?_
      show Goes p.tables e below (T63.setTop (mkF m 93 #[.val (.int x0), .val (.int x1), .val (.int x2), .val (.ref b1), .val (.int x2), .val (.int (0 : Int32)), .val (.ref a_Database_MARIADB), .unset] [(.int (4 : Int32)), (.int x2)])) _
      by_cases hc64 : x2 = (4 : Int32)
      · refine Goes.to (fun _ k => XS.icmpNo X63.here hx rfl (hb hby at_93) rfl (teq hc64).2 k) ?_
        show Goes p.tables e below (T63.setTop (mkF m 96 #[.val (.int x0), .val (.int x1), .val (.int x2), .val (.ref b1), .val (.int x2), .val (.int (0 : Int32)), .val (.ref a_Database_MARIADB), .unset] [])) _
        refine Goes.to (fun _ k => XS.iconst X63.here hx rfl (hb hby at_96) k) ?_
        show Goes p.tables e below (T63.setTop (mkF m 97 #[.val (.int x0), .val (.int x1), .val (.int x2), .val (.ref b1), .val (.int x2), .val (.int (0 : Int32)), .val (.ref a_Database_MARIADB), .unset] [(.int (1 : Int32))])) _
        refine Goes.to (fun _ k => XS.istore X63.here hx rfl (hb hby at_97) rfl (l' := #[.val (.int x0), .val (.int x1), .val (.int x2), .val (.ref b1), .val (.int x2), .val (.int (0 : Int32)), .val (.ref a_Database_MARIADB), .val (.int (1 : Int32))]) rfl k) ?_
        show Goes p.tables e below (T63.setTop (mkF m 99 #[.val (.int x0), .val (.int x1), .val (.int x2), .val (.ref b1), .val (.int x2), .val (.int (0 : Int32)), .val (.ref a_Database_MARIADB), .val (.int (1 : Int32))] [])) _
        refine Goes.to (fun _ k => XS.goto X63.here hx rfl (pc0 := 99) (pc' := 119) rfl (hb hby at_99) (by decide) (by decide) k) ?_
        show Goes p.tables e below (T63.setTop (mkF m 119 #[.val (.int x0), .val (.int x1), .val (.int x2), .val (.ref b1), .val (.int x2), .val (.int (0 : Int32)), .val (.ref a_Database_MARIADB), .val (.int (1 : Int32))] [])) _
        refine Goes.to (fun _ k => XS.aload X63.here hx rfl (hb hby at_119) rfl rfl k) ?_
        show Goes p.tables e below (T63.setTop (mkF m 121 #[.val (.int x0), .val (.int x1), .val (.int x2), .val (.ref b1), .val (.int x2), .val (.int (0 : Int32)), .val (.ref a_Database_MARIADB), .val (.int (1 : Int32))] [(.ref a_Database_MARIADB)])) _
        refine Goes.to (fun _ k => XS.iload X63.here hx rfl (hb hby at_121) rfl k) ?_
        show Goes p.tables e below (T63.setTop (mkF m 123 #[.val (.int x0), .val (.int x1), .val (.int x2), .val (.ref b1), .val (.int x2), .val (.int (0 : Int32)), .val (.ref a_Database_MARIADB), .val (.int (1 : Int32))] [(.int x2), (.ref a_Database_MARIADB)])) _
        obtain ⟨cq65, kq65, q65a, q65b, q65c⟩ := isOf hZ e63 (E_Database_MARIADB.ext O33.2)
        obtain ⟨_, _, ⟨T65, L65, k65, n65⟩, -, X65, ⟨Lc65, hQ65, l65, y65, z65⟩, st65⟩ := X63.virtualBack hx (y := (⟨"com/example/mulligan/mulligan/Database", "keepsFirstSnapshot", "(I)Z"⟩ : MethodName)) (z := (⟨"com/example/mulligan/mulligan/Database$2", "keepsFirstSnapshot", "(I)Z"⟩ : MethodName)) hown (mvT hZ (hw _ (List.mem_of_getElem? (i := 4) rfl))) (mvT hZ (hw _ (List.mem_of_getElem? (i := 5) rfl))) (notFace_of_selects (args := #[]) (mvT hZ (hw _ (List.mem_of_getElem? (i := 7) rfl)))) (mvT hZ (hw _ (List.mem_of_getElem? (i := 11) rfl))) (mvT hZ (hw _ (List.mem_of_getElem? (i := 12) rfl))) (by decide) (backOf (W := 0) (own_rm2 l Z a0 hw [] a_Database_MARIADB x2 T32.heap n0 Z32 ) hZ (hw _ (List.mem_of_getElem? (i := 14) rfl)) (hw _ (List.mem_of_getElem? (i := 13) rfl)) (by decide) (by decide)) q65a q65c (g := (mkF m 123 #[.val (.int x0), .val (.int x1), .val (.int x2), .val (.ref b1), .val (.int x2), .val (.int (0 : Int32)), .val (.ref a_Database_MARIADB), .val (.int (1 : Int32))] [(.int x2), (.ref a_Database_MARIADB)])) rfl (by rw [hml]; rfl) (Steps.refl _) (argsL := [(.int x2)]) (rest := []) (lenOf own_pd_pIqZ rfl) rfl (by show 2 * 0 + _ ≤ _; exact Nat.le_of_eq rfl) (hb hby at_123) (fun _ _ => ⟨rfl, e63, (by decide : 1 + 0 ≤ _), (by decide : 8 + 0 ≤ _)⟩)
        dsimp only [Pt.U, Pt.locs, Pt.cells, Pt.slots] at X65 l65 y65 z65 st65 hQ65
        subst l65 y65 z65
        obtain ⟨hv65, Nq65, hp65_0⟩ := hQ65
        have N65 := Fr.app N32 Nq65
        rw [if_pos hc64] at hv65
        subst hv65
        refine Goes.tr st65 ?_
        show Goes p.tables e below (T65.setTop (mkF m 126 #[.val (.int x0), .val (.int x1), .val (.int x2), .val (.ref b1), .val (.int x2), .val (.int (0 : Int32)), .val (.ref a_Database_MARIADB), .val (.int (1 : Int32))] [(.int (1 : Int32))])) _
        refine Goes.to (fun _ k => XS.iload X65.here hx rfl (hb hby at_126) rfl k) ?_
        show Goes p.tables e below (T65.setTop (mkF m 128 #[.val (.int x0), .val (.int x1), .val (.int x2), .val (.ref b1), .val (.int x2), .val (.int (0 : Int32)), .val (.ref a_Database_MARIADB), .val (.int (1 : Int32))] [(.int (1 : Int32)), (.int (1 : Int32))])) _
        refine Goes.to (fun _ k => XS.icmpNo X65.here hx rfl (hb hby at_128) rfl (teq (by decide : (1 : Int32) = (1 : Int32))).2 k) ?_
        show Goes p.tables e below (T65.setTop (mkF m 131 #[.val (.int x0), .val (.int x1), .val (.int x2), .val (.ref b1), .val (.int x2), .val (.int (0 : Int32)), .val (.ref a_Database_MARIADB), .val (.int (1 : Int32))] [])) _
        refine Goes.to (fun _ k => XS.iconst X65.here hx rfl (hb hby at_131) k) ?_
        show Goes p.tables e below (T65.setTop (mkF m 132 #[.val (.int x0), .val (.int x1), .val (.int x2), .val (.ref b1), .val (.int x2), .val (.int (0 : Int32)), .val (.ref a_Database_MARIADB), .val (.int (1 : Int32))] [(.int (1 : Int32))])) _
        refine Goes.to (fun _ k => XS.goto X65.here hx rfl (pc0 := 132) (pc' := 136) rfl (hb hby at_132) (by decide) (by decide) k) ?_
        show Goes p.tables e below (T65.setTop (mkF m 136 #[.val (.int x0), .val (.int x1), .val (.int x2), .val (.ref b1), .val (.int x2), .val (.int (0 : Int32)), .val (.ref a_Database_MARIADB), .val (.int (1 : Int32))] [(.int (1 : Int32))])) _
        obtain ⟨fs, hr, hrun, hended, hW, hsame⟩ := X65.leave (v := some (.int (1 : Int32))) (fun h => by rw [Bd.returns] at h; cases h)
        have hv : (some (.int (1 : Int32)) : Option Value) = some (.int (1 : Int32)) := by
          rfl
        exact ⟨_, _, retN X65 hx (t := .boolean) Bd.returns (by simp) (hb hby at_136) hr, hrun, hended, _, _, rfl, ⟨hv, N65⟩, ⟨_, rfl⟩, hW, hsame.mono (by decide) (by decide)⟩
      · refine Goes.to (fun _ k => XS.icmpYes X63.here hx rfl (pc0 := 93) (pc' := 102) rfl (hb hby at_93) rfl (feq hc64).2 (by decide) (by decide) k) ?_
        show Goes p.tables e below (T63.setTop (mkF m 102 #[.val (.int x0), .val (.int x1), .val (.int x2), .val (.ref b1), .val (.int x2), .val (.int (0 : Int32)), .val (.ref a_Database_MARIADB), .unset] [])) _
        refine Goes.to (fun _ k => XS.iload X63.here hx rfl (hb hby at_102) rfl k) ?_
        show Goes p.tables e below (T63.setTop (mkF m 104 #[.val (.int x0), .val (.int x1), .val (.int x2), .val (.ref b1), .val (.int x2), .val (.int (0 : Int32)), .val (.ref a_Database_MARIADB), .unset] [(.int x2)])) _
        refine Goes.to (fun _ k => XS.bipush X63.here hx rfl (hb hby at_104) k) ?_
        show Goes p.tables e below (T63.setTop (mkF m 106 #[.val (.int x0), .val (.int x1), .val (.int x2), .val (.ref b1), .val (.int x2), .val (.int (0 : Int32)), .val (.ref a_Database_MARIADB), .unset] [(.int (8 : Int32)), (.int x2)])) _
        by_cases hc66 : x2 = (8 : Int32)
        · refine Goes.to (fun _ k => XS.icmpNo X63.here hx rfl (hb hby at_106) rfl (teq hc66).2 k) ?_
          show Goes p.tables e below (T63.setTop (mkF m 109 #[.val (.int x0), .val (.int x1), .val (.int x2), .val (.ref b1), .val (.int x2), .val (.int (0 : Int32)), .val (.ref a_Database_MARIADB), .unset] [])) _
          refine Goes.to (fun _ k => XS.iload X63.here hx rfl (hb hby at_109) rfl k) ?_
          show Goes p.tables e below (T63.setTop (mkF m 111 #[.val (.int x0), .val (.int x1), .val (.int x2), .val (.ref b1), .val (.int x2), .val (.int (0 : Int32)), .val (.ref a_Database_MARIADB), .unset] [(.int (0 : Int32))])) _
          refine Goes.to (fun _ k => XS.istore X63.here hx rfl (hb hby at_111) rfl (l' := #[.val (.int x0), .val (.int x1), .val (.int x2), .val (.ref b1), .val (.int x2), .val (.int (0 : Int32)), .val (.ref a_Database_MARIADB), .val (.int (0 : Int32))]) rfl k) ?_
          show Goes p.tables e below (T63.setTop (mkF m 113 #[.val (.int x0), .val (.int x1), .val (.int x2), .val (.ref b1), .val (.int x2), .val (.int (0 : Int32)), .val (.ref a_Database_MARIADB), .val (.int (0 : Int32))] [])) _
          refine Goes.to (fun _ k => XS.goto X63.here hx rfl (pc0 := 113) (pc' := 119) rfl (hb hby at_113) (by decide) (by decide) k) ?_
          show Goes p.tables e below (T63.setTop (mkF m 119 #[.val (.int x0), .val (.int x1), .val (.int x2), .val (.ref b1), .val (.int x2), .val (.int (0 : Int32)), .val (.ref a_Database_MARIADB), .val (.int (0 : Int32))] [])) _
          refine Goes.to (fun _ k => XS.aload X63.here hx rfl (hb hby at_119) rfl rfl k) ?_
          show Goes p.tables e below (T63.setTop (mkF m 121 #[.val (.int x0), .val (.int x1), .val (.int x2), .val (.ref b1), .val (.int x2), .val (.int (0 : Int32)), .val (.ref a_Database_MARIADB), .val (.int (0 : Int32))] [(.ref a_Database_MARIADB)])) _
          refine Goes.to (fun _ k => XS.iload X63.here hx rfl (hb hby at_121) rfl k) ?_
          show Goes p.tables e below (T63.setTop (mkF m 123 #[.val (.int x0), .val (.int x1), .val (.int x2), .val (.ref b1), .val (.int x2), .val (.int (0 : Int32)), .val (.ref a_Database_MARIADB), .val (.int (0 : Int32))] [(.int x2), (.ref a_Database_MARIADB)])) _
          obtain ⟨cq67, kq67, q67a, q67b, q67c⟩ := isOf hZ e63 (E_Database_MARIADB.ext O33.2)
          obtain ⟨_, _, ⟨T67, L67, k67, n67⟩, -, X67, ⟨Lc67, hQ67, l67, y67, z67⟩, st67⟩ := X63.virtualBack hx (y := (⟨"com/example/mulligan/mulligan/Database", "keepsFirstSnapshot", "(I)Z"⟩ : MethodName)) (z := (⟨"com/example/mulligan/mulligan/Database$2", "keepsFirstSnapshot", "(I)Z"⟩ : MethodName)) hown (mvT hZ (hw _ (List.mem_of_getElem? (i := 4) rfl))) (mvT hZ (hw _ (List.mem_of_getElem? (i := 5) rfl))) (notFace_of_selects (args := #[]) (mvT hZ (hw _ (List.mem_of_getElem? (i := 7) rfl)))) (mvT hZ (hw _ (List.mem_of_getElem? (i := 11) rfl))) (mvT hZ (hw _ (List.mem_of_getElem? (i := 12) rfl))) (by decide) (backOf (W := 0) (own_rm2 l Z a0 hw [] a_Database_MARIADB x2 T32.heap n0 Z32 ) hZ (hw _ (List.mem_of_getElem? (i := 14) rfl)) (hw _ (List.mem_of_getElem? (i := 13) rfl)) (by decide) (by decide)) q67a q67c (g := (mkF m 123 #[.val (.int x0), .val (.int x1), .val (.int x2), .val (.ref b1), .val (.int x2), .val (.int (0 : Int32)), .val (.ref a_Database_MARIADB), .val (.int (0 : Int32))] [(.int x2), (.ref a_Database_MARIADB)])) rfl (by rw [hml]; rfl) (Steps.refl _) (argsL := [(.int x2)]) (rest := []) (lenOf own_pd_pIqZ rfl) rfl (by show 2 * 0 + _ ≤ _; exact Nat.le_of_eq rfl) (hb hby at_123) (fun _ _ => ⟨rfl, e63, (by decide : 1 + 0 ≤ _), (by decide : 8 + 0 ≤ _)⟩)
          dsimp only [Pt.U, Pt.locs, Pt.cells, Pt.slots] at X67 l67 y67 z67 st67 hQ67
          subst l67 y67 z67
          obtain ⟨hv67, Nq67, hp67_0⟩ := hQ67
          have N67 := Fr.app N32 Nq67
          rw [if_neg hc64] at hv67
          subst hv67
          refine Goes.tr st67 ?_
          show Goes p.tables e below (T67.setTop (mkF m 126 #[.val (.int x0), .val (.int x1), .val (.int x2), .val (.ref b1), .val (.int x2), .val (.int (0 : Int32)), .val (.ref a_Database_MARIADB), .val (.int (0 : Int32))] [(.int (0 : Int32))])) _
          refine Goes.to (fun _ k => XS.iload X67.here hx rfl (hb hby at_126) rfl k) ?_
          show Goes p.tables e below (T67.setTop (mkF m 128 #[.val (.int x0), .val (.int x1), .val (.int x2), .val (.ref b1), .val (.int x2), .val (.int (0 : Int32)), .val (.ref a_Database_MARIADB), .val (.int (0 : Int32))] [(.int (0 : Int32)), (.int (0 : Int32))])) _
          refine Goes.to (fun _ k => XS.icmpNo X67.here hx rfl (hb hby at_128) rfl (teq (by decide : (0 : Int32) = (0 : Int32))).2 k) ?_
          show Goes p.tables e below (T67.setTop (mkF m 131 #[.val (.int x0), .val (.int x1), .val (.int x2), .val (.ref b1), .val (.int x2), .val (.int (0 : Int32)), .val (.ref a_Database_MARIADB), .val (.int (0 : Int32))] [])) _
          refine Goes.to (fun _ k => XS.iconst X67.here hx rfl (hb hby at_131) k) ?_
          show Goes p.tables e below (T67.setTop (mkF m 132 #[.val (.int x0), .val (.int x1), .val (.int x2), .val (.ref b1), .val (.int x2), .val (.int (0 : Int32)), .val (.ref a_Database_MARIADB), .val (.int (0 : Int32))] [(.int (1 : Int32))])) _
          refine Goes.to (fun _ k => XS.goto X67.here hx rfl (pc0 := 132) (pc' := 136) rfl (hb hby at_132) (by decide) (by decide) k) ?_
          show Goes p.tables e below (T67.setTop (mkF m 136 #[.val (.int x0), .val (.int x1), .val (.int x2), .val (.ref b1), .val (.int x2), .val (.int (0 : Int32)), .val (.ref a_Database_MARIADB), .val (.int (0 : Int32))] [(.int (1 : Int32))])) _
          obtain ⟨fs, hr, hrun, hended, hW, hsame⟩ := X67.leave (v := some (.int (1 : Int32))) (fun h => by rw [Bd.returns] at h; cases h)
          have hv : (some (.int (1 : Int32)) : Option Value) = some (.int (1 : Int32)) := by
            rfl
          exact ⟨_, _, retN X67 hx (t := .boolean) Bd.returns (by simp) (hb hby at_136) hr, hrun, hended, _, _, rfl, ⟨hv, N67⟩, ⟨_, rfl⟩, hW, hsame.mono (by decide) (by decide)⟩
        · refine Goes.to (fun _ k => XS.icmpYes X63.here hx rfl (pc0 := 106) (pc' := 116) rfl (hb hby at_106) rfl (feq hc66).2 (by decide) (by decide) k) ?_
          show Goes p.tables e below (T63.setTop (mkF m 116 #[.val (.int x0), .val (.int x1), .val (.int x2), .val (.ref b1), .val (.int x2), .val (.int (0 : Int32)), .val (.ref a_Database_MARIADB), .unset] [])) _
          refine Goes.to (fun _ k => XS.iconst X63.here hx rfl (hb hby at_116) k) ?_
          show Goes p.tables e below (T63.setTop (mkF m 117 #[.val (.int x0), .val (.int x1), .val (.int x2), .val (.ref b1), .val (.int x2), .val (.int (0 : Int32)), .val (.ref a_Database_MARIADB), .unset] [(.int (0 : Int32))])) _
          refine Goes.to (fun _ k => XS.istore X63.here hx rfl (hb hby at_117) rfl (l' := #[.val (.int x0), .val (.int x1), .val (.int x2), .val (.ref b1), .val (.int x2), .val (.int (0 : Int32)), .val (.ref a_Database_MARIADB), .val (.int (0 : Int32))]) rfl k) ?_
          show Goes p.tables e below (T63.setTop (mkF m 119 #[.val (.int x0), .val (.int x1), .val (.int x2), .val (.ref b1), .val (.int x2), .val (.int (0 : Int32)), .val (.ref a_Database_MARIADB), .val (.int (0 : Int32))] [])) _
          refine Goes.to (fun _ k => XS.aload X63.here hx rfl (hb hby at_119) rfl rfl k) ?_
          show Goes p.tables e below (T63.setTop (mkF m 121 #[.val (.int x0), .val (.int x1), .val (.int x2), .val (.ref b1), .val (.int x2), .val (.int (0 : Int32)), .val (.ref a_Database_MARIADB), .val (.int (0 : Int32))] [(.ref a_Database_MARIADB)])) _
          refine Goes.to (fun _ k => XS.iload X63.here hx rfl (hb hby at_121) rfl k) ?_
          show Goes p.tables e below (T63.setTop (mkF m 123 #[.val (.int x0), .val (.int x1), .val (.int x2), .val (.ref b1), .val (.int x2), .val (.int (0 : Int32)), .val (.ref a_Database_MARIADB), .val (.int (0 : Int32))] [(.int x2), (.ref a_Database_MARIADB)])) _
          obtain ⟨cq68, kq68, q68a, q68b, q68c⟩ := isOf hZ e63 (E_Database_MARIADB.ext O33.2)
          obtain ⟨_, _, ⟨T68, L68, k68, n68⟩, -, X68, ⟨Lc68, hQ68, l68, y68, z68⟩, st68⟩ := X63.virtualBack hx (y := (⟨"com/example/mulligan/mulligan/Database", "keepsFirstSnapshot", "(I)Z"⟩ : MethodName)) (z := (⟨"com/example/mulligan/mulligan/Database$2", "keepsFirstSnapshot", "(I)Z"⟩ : MethodName)) hown (mvT hZ (hw _ (List.mem_of_getElem? (i := 4) rfl))) (mvT hZ (hw _ (List.mem_of_getElem? (i := 5) rfl))) (notFace_of_selects (args := #[]) (mvT hZ (hw _ (List.mem_of_getElem? (i := 7) rfl)))) (mvT hZ (hw _ (List.mem_of_getElem? (i := 11) rfl))) (mvT hZ (hw _ (List.mem_of_getElem? (i := 12) rfl))) (by decide) (backOf (W := 0) (own_rm2 l Z a0 hw [] a_Database_MARIADB x2 T32.heap n0 Z32 ) hZ (hw _ (List.mem_of_getElem? (i := 14) rfl)) (hw _ (List.mem_of_getElem? (i := 13) rfl)) (by decide) (by decide)) q68a q68c (g := (mkF m 123 #[.val (.int x0), .val (.int x1), .val (.int x2), .val (.ref b1), .val (.int x2), .val (.int (0 : Int32)), .val (.ref a_Database_MARIADB), .val (.int (0 : Int32))] [(.int x2), (.ref a_Database_MARIADB)])) rfl (by rw [hml]; rfl) (Steps.refl _) (argsL := [(.int x2)]) (rest := []) (lenOf own_pd_pIqZ rfl) rfl (by show 2 * 0 + _ ≤ _; exact Nat.le_of_eq rfl) (hb hby at_123) (fun _ _ => ⟨rfl, e63, (by decide : 1 + 0 ≤ _), (by decide : 8 + 0 ≤ _)⟩)
          dsimp only [Pt.U, Pt.locs, Pt.cells, Pt.slots] at X68 l68 y68 z68 st68 hQ68
          subst l68 y68 z68
          obtain ⟨hv68, Nq68, hp68_0⟩ := hQ68
          have N68 := Fr.app N32 Nq68
          rw [if_neg hc64] at hv68
          subst hv68
          refine Goes.tr st68 ?_
          show Goes p.tables e below (T68.setTop (mkF m 126 #[.val (.int x0), .val (.int x1), .val (.int x2), .val (.ref b1), .val (.int x2), .val (.int (0 : Int32)), .val (.ref a_Database_MARIADB), .val (.int (0 : Int32))] [(.int (0 : Int32))])) _
          refine Goes.to (fun _ k => XS.iload X68.here hx rfl (hb hby at_126) rfl k) ?_
          show Goes p.tables e below (T68.setTop (mkF m 128 #[.val (.int x0), .val (.int x1), .val (.int x2), .val (.ref b1), .val (.int x2), .val (.int (0 : Int32)), .val (.ref a_Database_MARIADB), .val (.int (0 : Int32))] [(.int (0 : Int32)), (.int (0 : Int32))])) _
          refine Goes.to (fun _ k => XS.icmpNo X68.here hx rfl (hb hby at_128) rfl (teq (by decide : (0 : Int32) = (0 : Int32))).2 k) ?_
          show Goes p.tables e below (T68.setTop (mkF m 131 #[.val (.int x0), .val (.int x1), .val (.int x2), .val (.ref b1), .val (.int x2), .val (.int (0 : Int32)), .val (.ref a_Database_MARIADB), .val (.int (0 : Int32))] [])) _
          refine Goes.to (fun _ k => XS.iconst X68.here hx rfl (hb hby at_131) k) ?_
          show Goes p.tables e below (T68.setTop (mkF m 132 #[.val (.int x0), .val (.int x1), .val (.int x2), .val (.ref b1), .val (.int x2), .val (.int (0 : Int32)), .val (.ref a_Database_MARIADB), .val (.int (0 : Int32))] [(.int (1 : Int32))])) _
          refine Goes.to (fun _ k => XS.goto X68.here hx rfl (pc0 := 132) (pc' := 136) rfl (hb hby at_132) (by decide) (by decide) k) ?_
          show Goes p.tables e below (T68.setTop (mkF m 136 #[.val (.int x0), .val (.int x1), .val (.int x2), .val (.ref b1), .val (.int x2), .val (.int (0 : Int32)), .val (.ref a_Database_MARIADB), .val (.int (0 : Int32))] [(.int (1 : Int32))])) _
          obtain ⟨fs, hr, hrun, hended, hW, hsame⟩ := X68.leave (v := some (.int (1 : Int32))) (fun h => by rw [Bd.returns] at h; cases h)
          have hv : (some (.int (1 : Int32)) : Option Value) = some (.int (1 : Int32)) := by
            rfl
          exact ⟨_, _, retN X68 hx (t := .boolean) Bd.returns (by simp) (hb hby at_136) hr, hrun, hended, _, _, rfl, ⟨hv, N68⟩, ⟨_, rfl⟩, hW, hsame.mono (by decide) (by decide)⟩

set_option maxRecDepth 65536 in
set_option maxHeartbeats 40000000 in
theorem comes_1 {Post : Tables → Env → Array Value → State → Outcome → State → Prop} (hpost : ∀ tb e args s v u, (limb_1_1.after args s (.returned v) u = true ∧ limb_1_2.after args s (.returned v) u = true ∧ True) → FrameEnd s (.returned v) u (Jvm.fieldLocs frame_1_writes args s ++ Jvm.arrayLocs frame_1_arrays args s ++ Jvm.staticLocs frame_1_statics s) 16 128 → Post tb e args s (.returned v) u) :
    ArmFor flags0 classFile x code maxLocals ret World_1 tables_1 room_1 Calls_1 rest_1 Pre_1 Post := by
  intro l hfl _ _ p e ha hc hk s m args below hf hA hF happ hP
  obtain ⟨hcalls, hrest, hpre⟩ := hP
  obtain ⟨-, -, -, hnamed, -, -, -, hat⟩ := (Spec.applies_iff hf).mp happ
  obtain ⟨hg, hn⟩ := and_e (Cond.before_iff.mp (show (Jvm.Cond.and given_1 narrow_1).before args s = true from hpre))
  obtain ⟨hg0, hgr0⟩ := and_e hg
  obtain ⟨hg1, hgr1⟩ := and_e hgr0
  obtain ⟨hg2, hgr2⟩ := and_e hgr1
  obtain ⟨w0, w1, w2, rfl⟩ : ∃ w0 w1 w2 : Value, args = #[w0, w1, w2] := by
    have hs : args.size = 3 := by simpa [Cond.value, given_1] using hg0
    obtain ⟨L⟩ := args
    match L, hs with
    | [w0, w1, w2], _ => exact ⟨w0, w1, w2, rfl⟩
  have hw := fun d (hd : d ∈ tables_1) => atoms_spec (ws := Jvm.Cond.code x code maxLocals ret :: tables_1) hat d (List.mem_cons_of_mem _ hd)
  have hfit : Fit s := fun {y c} hc i hi => by
    obtain ⟨ha, rfl⟩ := Array.getElem?_eq_some_iff.mp hc
    have q := List.all_eq_true.mp ((Array.all_eq_true_iff_forall_mem.mp hF) _ (Array.getElem_mem ha)) i (List.mem_range.mpr hi)
    simpa [Array.getElem?_eq_getElem hi] using q
  obtain ⟨i0, ei0⟩ := is_v hg1
  obtain rfl : w0 = (.int i0) := Option.some.inj ei0
  obtain ⟨i1, ei1⟩ := is_v hg2
  obtain rfl : w1 = (.int i1) := Option.some.inj ei1
  obtain ⟨i2, ei2⟩ := is_v hgr2
  obtain rfl : w2 = (.int i2) := Option.some.inj ei2
  obtain ⟨hn0, hnr0⟩ := and_e hn
  obtain ⟨a_Database_POSTGRESQL, ev_Database_POSTGRESQL⟩ := exa_v hn0
  have S_Database_POSTGRESQL : Sta s s.heap "com/example/mulligan/mulligan/Database" "POSTGRESQL" "Lcom/example/mulligan/mulligan/Database;" (.ref a_Database_POSTGRESQL) := Sta.start ev_Database_POSTGRESQL (Or.inr ⟨(hw _ (List.mem_of_getElem? (i := 2) rfl)), (hw _ (List.mem_of_getElem? (i := 3) rfl))⟩)
  have E_Database_POSTGRESQL : Exa s s.heap a_Database_POSTGRESQL "com/example/mulligan/mulligan/Database$1" := Exa.start ev_Database_POSTGRESQL hn0
  obtain ⟨a_Database_MARIADB, ev_Database_MARIADB⟩ := exa_v hnr0
  have S_Database_MARIADB : Sta s s.heap "com/example/mulligan/mulligan/Database" "MARIADB" "Lcom/example/mulligan/mulligan/Database;" (.ref a_Database_MARIADB) := Sta.start ev_Database_MARIADB (Or.inr ⟨(hw _ (List.mem_of_getElem? (i := 2) rfl)), (hw _ (List.mem_of_getElem? (i := 10) rfl))⟩)
  have E_Database_MARIADB : Exa s s.heap a_Database_MARIADB "com/example/mulligan/mulligan/Database$2" := Exa.start ev_Database_MARIADB hnr0
  obtain ⟨n, o, h1, h2, h3, _, L, rfl, ⟨rfl, N⟩, hq⟩ := own_rm0 l s _ hw tables_1 i0 i1 i2 a_Database_POSTGRESQL a_Database_MARIADB s.heap s.heap.size (Nat.le_refl _) (Old.start s) S_Database_POSTGRESQL E_Database_POSTGRESQL S_Database_MARIADB E_Database_MARIADB p e ha hc hk s m _ below hf ((Spec.applies_iff_loose hf).mp happ).1 ⟨rfl, State.Warmed39.refl s, rfl⟩ trivial
  refine ⟨n, _, h1, h2, h3, hpost _ _ _ _ _ _ ⟨Cond.after_iff.mpr rfl, Cond.after_iff.mpr (eq_i res_at (Term.int_eval (1)) rfl), trivial⟩ ⟨hq.1, hq.2.1, (hq.2.2.sift fun y hy => Or.inr (N y hy)).mono (by decide) (by decide)⟩⟩
theorem main_1_1 : Claimed_1_1 := comes_1 fun _ _ _ _ _ _ h hF => ⟨h.1, hF⟩
theorem main_1_2 : Claimed_1_2 := comes_1 fun _ _ _ _ _ _ h hF => ⟨h.2.1, hF⟩
end Jvm.Pilot.@@N@@
namespace Jvm.Pilot.@@N@@
open Jvm Jvm.ClassFile Sem Op Lib Jvm.Free Jvm.Stand Jvm.Pilot.@@N@@.Jvm.D
/-! MADE BY PROGRAM (witnessworld.py) out of the Statement's table words and the real class files: 14 classes; the members and pool entries that the words name. The judged class is class 1, her method 1. -/
namespace start1
open Jvm.ClassFile
def u (s : String) : CpInfo := .utf8 (stringToUtf16 s)
/-- a pool by its gaps: so many unusable entries, then the entry; so many at the end -/
def gap : Nat → List CpInfo → List CpInfo
  | 0, r => r
  | n + 1, r => .unusable :: gap n r
def poolList (es : List (Nat × CpInfo)) (last : Nat) : List CpInfo := es.foldr (fun e r => gap e.1 (e.2 :: r)) (gap last [])
def pool (es : List (Nat × CpInfo)) (last : Nat) : Array CpInfo := ⟨poolList es last⟩
def fileOf (pool : Array CpInfo) (this : Nat) (attrs : Array Attribute := #[]) (ms : Array MethodInfo := #[]) (fl : Nat := 33) (sup : Nat := 0) (ifs : Array Nat := #[]) (fds : Array FieldInfo := #[]) : ClassFile where
  minorVersion := 0
  majorVersion := 65
  constantPool := pool
  accessFlags := fl
  thisClass := this
  superClass := sup
  interfaces := ifs
  fields := fds
  methods := ms
  attributes := attrs
def plain (name : String) (sup : Option ClassId) : Class where
  name := name
  kind := .ordinary
  loader := none
  accessFlags := 33
  super := sup
  interfaces := #[]
  cf := none
  fields := #[]
  methods := #[]
  instanceTypes := #[]
  staticTypes := #[]
  resolved := #[]
  callSites := []
  init := .initialized
  statics := none
  mirror := none

def pool0 : Array CpInfo := pool [(5, u "<init>"), (0, u "()V"), (1, .class_ 10), (1, u "java/lang/Object")] 113

def k0m0 : Method := { name := "<init>", desc := "()V", sig := { parameters := [], returnType := none }, accessFlags := 1, code := none }
/-- java/lang/Object -/
def k0 : Class := { plain "java/lang/Object" none with
  accessFlags := 33
  interfaces := #[]
  cf := some (fileOf pool0 8 #[] #[{ accessFlags := 1, nameIndex := 5, descriptorIndex := 6, attributes := #[] }] 33 0 #[] #[])
  fields := #[]
  methods := #[k0m0]
  instanceTypes := #[]
  staticTypes := #[]
  resolved := Array.replicate 124 none
  statics := none }

def pool1 : Array CpInfo := pool [(2, .class_ 4), (1, u "java/lang/Object"), (0, u "<init>"), (0, u "()V"), (0, .fieldref 8 9), (0, .class_ 10), (0, .nameAndType 11 12), (0, u "com/example/mulligan/mulligan/Database"), (0, u "POSTGRESQL"), (0, u "Lcom/example/mulligan/mulligan/Database;"), (0, .fieldref 8 14), (0, .nameAndType 15 12), (0, u "MARIADB"), (0, .methodref 8 17), (0, .nameAndType 18 19), (0, u "keepsFirstSnapshot"), (0, u "(I)Z"), (0, .class_ 21), (0, u "com/example/mulligan/mulligan/DatabaseKeepsFirstSnapshotPinLaw"), (2, u "law"), (0, u "(III)Z")] 5

def k1m0 : Method := { name := "<init>", desc := "()V", sig := { parameters := [], returnType := none }, accessFlags := 1, code := none }
def k1c1 : Code := { maxStack := 4, maxLocals := 8, code := code, exceptionTable := #[], attributes := #[] }
def k1m1 : Method := { name := "law", desc := "(III)Z", sig := { parameters := [.int, .int, .int], returnType := some .boolean }, accessFlags := 9, code := some k1c1 }
/-- com/example/mulligan/mulligan/DatabaseKeepsFirstSnapshotPinLaw -/
def k1 : Class := { plain "com/example/mulligan/mulligan/DatabaseKeepsFirstSnapshotPinLaw" (some 0) with
  accessFlags := 49
  interfaces := #[]
  cf := some (fileOf pool1 20 #[] #[{ accessFlags := 1, nameIndex := 5, descriptorIndex := 6, attributes := #[] }, { accessFlags := 9, nameIndex := 24, descriptorIndex := 25, attributes := #[] }] 49 2 #[] #[])
  fields := #[]
  methods := #[k1m0, k1m1]
  instanceTypes := #[]
  staticTypes := #[]
  resolved := Array.replicate 31 none
  statics := none }

def pool2 : Array CpInfo := pool [(1, .class_ 2), (0, u "java/lang/constant/Constable"), (0, .class_ 4), (0, u "java/lang/Object")] 6

/-- java/lang/constant/Constable -/
def k2 : Class := { plain "java/lang/constant/Constable" (some 0) with
  accessFlags := 1537
  interfaces := #[]
  cf := some (fileOf pool2 1 #[] #[] 1537 3 #[] #[])
  fields := #[]
  methods := #[]
  instanceTypes := #[]
  staticTypes := #[]
  resolved := Array.replicate 11 none
  statics := none }

def pool3 : Array CpInfo := pool [(1, .class_ 2), (0, u "java/lang/Comparable"), (0, .class_ 4), (0, u "java/lang/Object")] 7

/-- java/lang/Comparable -/
def k3 : Class := { plain "java/lang/Comparable" (some 0) with
  accessFlags := 1537
  interfaces := #[]
  cf := some (fileOf pool3 1 #[] #[] 1537 3 #[] #[])
  fields := #[]
  methods := #[]
  instanceTypes := #[]
  staticTypes := #[]
  resolved := Array.replicate 12 none
  statics := none }

def pool4 : Array CpInfo := pool [(1, .class_ 2), (0, u "java/io/Serializable"), (0, .class_ 4), (0, u "java/lang/Object")] 2

/-- java/io/Serializable -/
def k4 : Class := { plain "java/io/Serializable" (some 0) with
  accessFlags := 1537
  interfaces := #[]
  cf := some (fileOf pool4 1 #[] #[] 1537 3 #[] #[])
  fields := #[]
  methods := #[]
  instanceTypes := #[]
  staticTypes := #[]
  resolved := Array.replicate 7 none
  statics := none }

def pool5 : Array CpInfo := pool [(2, .class_ 4), (1, u "java/lang/Enum"), (0, u "name"), (0, u "Ljava/lang/String;"), (2, u "ordinal"), (0, u "I"), (1, .class_ 14), (1, u "java/lang/Object"), (4, u "hash"), (86, .class_ 108), (1, u "java/lang/Enum$EnumDesc"), (2, .class_ 112), (0, u "java/lang/constant/Constable"), (0, .class_ 114), (0, u "java/lang/Comparable"), (0, .class_ 116), (0, u "java/io/Serializable")] 87

/-- java/lang/Enum -/
def k5 : Class := { plain "java/lang/Enum" (some 0) with
  accessFlags := 1057
  interfaces := #[2, 3, 4]
  cf := some (fileOf pool5 2 #[.nestMembers #[106]] #[] 1057 12 #[111, 113, 115] #[{ accessFlags := 18, nameIndex := 5, descriptorIndex := 6, attributes := #[] }, { accessFlags := 18, nameIndex := 9, descriptorIndex := 10, attributes := #[] }, { accessFlags := 2, nameIndex := 19, descriptorIndex := 10, attributes := #[] }])
  fields := #[{ name := "name", type := (.object "java/lang/String"), accessFlags := 18, slot := 0, constantValue := 0 }, { name := "ordinal", type := .int, accessFlags := 18, slot := 1, constantValue := 0 }, { name := "hash", type := .int, accessFlags := 2, slot := 2, constantValue := 0 }]
  methods := #[]
  instanceTypes := #[(.object "java/lang/String"), .int, .int]
  staticTypes := #[]
  resolved := Array.replicate 204 none
  statics := none }

def pool6 : Array CpInfo := pool [(1, .class_ 2), (0, u "com/example/mulligan/mulligan/Database"), (2, u "POSTGRESQL"), (0, u "Lcom/example/mulligan/mulligan/Database;"), (2, u "MARIADB"), (2, u "$VALUES"), (0, u "[Lcom/example/mulligan/mulligan/Database;"), (6, .class_ 22), (1, u "java/lang/Enum"), (8, u "productName"), (0, u "Ljava/lang/String;"), (2, u "beginReadOnly"), (2, u "keepReadOnly"), (2, u "readAlongIndexes"), (71, u "(I)Z"), (45, .class_ 160), (0, u "com/example/mulligan/mulligan/Database$1"), (12, .class_ 174), (0, u "com/example/mulligan/mulligan/Database$2"), (9, u "FEATURE_NOT_SUPPORTED"), (1, u "SERIALIZATION_FAILURE"), (0, u "DEADLOCK"), (0, u "I"), (1, u "LOCK_WAIT_TIMEOUT"), (1, u "CREATION_LOCK"), (0, u "J"), (21, u "keepsFirstSnapshot")] 67

def k6c0 : Code := { maxStack := 2, maxLocals := 2, code := prog_11_method_11_code, exceptionTable := #[], attributes := #[] }
def k6m0 : Method := { name := "keepsFirstSnapshot", desc := "(I)Z", sig := { parameters := [.int], returnType := some .boolean }, accessFlags := 0, code := some k6c0 }
/-- com/example/mulligan/mulligan/Database -/
def k6 : Class := { plain "com/example/mulligan/mulligan/Database" (some 5) with
  accessFlags := 17440
  interfaces := #[]
  cf := some (fileOf pool6 1 #[.nestMembers #[173, 159]] #[{ accessFlags := 0, nameIndex := 215, descriptorIndex := 113, attributes := #[] }] 17440 20 #[] #[{ accessFlags := 16409, nameIndex := 5, descriptorIndex := 6, attributes := #[] }, { accessFlags := 16409, nameIndex := 9, descriptorIndex := 6, attributes := #[] }, { accessFlags := 26, nameIndex := 184, descriptorIndex := 32, attributes := #[] }, { accessFlags := 26, nameIndex := 186, descriptorIndex := 32, attributes := #[] }, { accessFlags := 26, nameIndex := 187, descriptorIndex := 188, attributes := #[] }, { accessFlags := 26, nameIndex := 190, descriptorIndex := 188, attributes := #[] }, { accessFlags := 26, nameIndex := 192, descriptorIndex := 193, attributes := #[] }, { accessFlags := 18, nameIndex := 31, descriptorIndex := 32, attributes := #[] }, { accessFlags := 18, nameIndex := 35, descriptorIndex := 32, attributes := #[] }, { accessFlags := 18, nameIndex := 38, descriptorIndex := 32, attributes := #[] }, { accessFlags := 18, nameIndex := 41, descriptorIndex := 32, attributes := #[] }, { accessFlags := 4122, nameIndex := 12, descriptorIndex := 13, attributes := #[] }])
  fields := #[{ name := "POSTGRESQL", type := (.object "com/example/mulligan/mulligan/Database"), accessFlags := 16409, slot := 0, constantValue := 0 }, { name := "MARIADB", type := (.object "com/example/mulligan/mulligan/Database"), accessFlags := 16409, slot := 1, constantValue := 0 }, { name := "FEATURE_NOT_SUPPORTED", type := (.object "java/lang/String"), accessFlags := 26, slot := 2, constantValue := 0 }, { name := "SERIALIZATION_FAILURE", type := (.object "java/lang/String"), accessFlags := 26, slot := 3, constantValue := 0 }, { name := "DEADLOCK", type := .int, accessFlags := 26, slot := 4, constantValue := 0 }, { name := "LOCK_WAIT_TIMEOUT", type := .int, accessFlags := 26, slot := 5, constantValue := 0 }, { name := "CREATION_LOCK", type := .long, accessFlags := 26, slot := 6, constantValue := 0 }, { name := "productName", type := (.object "java/lang/String"), accessFlags := 18, slot := 3, constantValue := 0 }, { name := "beginReadOnly", type := (.object "java/lang/String"), accessFlags := 18, slot := 4, constantValue := 0 }, { name := "keepReadOnly", type := (.object "java/lang/String"), accessFlags := 18, slot := 5, constantValue := 0 }, { name := "readAlongIndexes", type := (.object "java/lang/String"), accessFlags := 18, slot := 6, constantValue := 0 }, { name := "$VALUES", type := (.array (.object "com/example/mulligan/mulligan/Database")), accessFlags := 4122, slot := 7, constantValue := 0 }]
  methods := #[k6m0]
  instanceTypes := #[(.object "java/lang/String"), .int, .int, (.object "java/lang/String"), (.object "java/lang/String"), (.object "java/lang/String"), (.object "java/lang/String")]
  staticTypes := #[(.object "com/example/mulligan/mulligan/Database"), (.object "com/example/mulligan/mulligan/Database"), (.object "java/lang/String"), (.object "java/lang/String"), .int, .int, .long, (.array (.object "com/example/mulligan/mulligan/Database"))]
  resolved := Array.replicate 283 none
  statics := some 0 }

def pool7 : Array CpInfo := pool [(1, .class_ 2), (0, u "com/example/mulligan/mulligan/Database"), (50, .class_ 54), (0, u "com/example/mulligan/mulligan/Database$1")] 46

/-- com/example/mulligan/mulligan/Database$1 -/
def k7 : Class := { plain "com/example/mulligan/mulligan/Database$1" (some 6) with
  accessFlags := 16432
  interfaces := #[]
  cf := some (fileOf pool7 53 #[.nestHost 1] #[] 16432 1 #[] #[])
  fields := #[]
  methods := #[]
  instanceTypes := #[(.object "java/lang/String"), .int, .int, (.object "java/lang/String"), (.object "java/lang/String"), (.object "java/lang/String"), (.object "java/lang/String")]
  staticTypes := #[]
  resolved := Array.replicate 101 none
  statics := none }

def pool8 : Array CpInfo := pool [(1, .class_ 2), (0, u "com/example/mulligan/mulligan/Database"), (32, .class_ 36), (0, u "com/example/mulligan/mulligan/Database$2"), (3, u "keepsFirstSnapshot"), (0, u "(I)Z")] 36

def k8c0 : Code := { maxStack := 2, maxLocals := 2, code := prog_13_method_2_code, exceptionTable := #[], attributes := #[] }
def k8m0 : Method := { name := "keepsFirstSnapshot", desc := "(I)Z", sig := { parameters := [.int], returnType := some .boolean }, accessFlags := 0, code := some k8c0 }
/-- com/example/mulligan/mulligan/Database$2 -/
def k8 : Class := { plain "com/example/mulligan/mulligan/Database$2" (some 6) with
  accessFlags := 16432
  interfaces := #[]
  cf := some (fileOf pool8 35 #[.nestHost 1] #[{ accessFlags := 0, nameIndex := 40, descriptorIndex := 41, attributes := #[] }] 16432 1 #[] #[])
  fields := #[]
  methods := #[k8m0]
  instanceTypes := #[(.object "java/lang/String"), .int, .int, (.object "java/lang/String"), (.object "java/lang/String"), (.object "java/lang/String"), (.object "java/lang/String")]
  staticTypes := #[]
  resolved := Array.replicate 78 none
  statics := none }

def pool9 : Array CpInfo := pool [(1, u "java/lang/Cloneable"), (0, .class_ 1), (0, u "java/lang/Object"), (0, .class_ 3)] 3

/-- java/lang/Cloneable -/
def k9 : Class := { plain "java/lang/Cloneable" (some 0) with
  accessFlags := 1537
  interfaces := #[]
  cf := some (fileOf pool9 2 #[] #[] 1537 4 #[] #[])
  fields := #[]
  methods := #[]
  instanceTypes := #[]
  staticTypes := #[]
  resolved := Array.replicate 8 none
  statics := none }

/-- the primitive byte -/
def k10 : Class := { plain "byte" none with kind := .primitive 'B', accessFlags := 0x411 }
/-- [B -/
def k11 : Class := { plain "[B" (some 0) with kind := .array 10 .byte, interfaces := #[9, 4], accessFlags := 1041 }

/-- the primitive int -/
def k12 : Class := { plain "int" none with kind := .primitive 'I', accessFlags := 0x411 }
/-- [I -/
def k13 : Class := { plain "[I" (some 0) with kind := .array 12 .int, interfaces := #[9, 4], accessFlags := 1041 }

def heap : Heap := #[{ cls := 6, slots := #[.ref 1, .ref 2, .null, .null, .int 0, .int 0, .long 0, .null], vm := .statics 6 },
  { cls := 7, slots := #[.null, .int 0, .int 0, .null, .null, .null, .null], vm := .none },
  { cls := 8, slots := #[.null, .int 1, .int 0, .null, .null, .null, .null], vm := .none }]
def classes : Array Class := #[k0, k1, k2, k3, k4, k5, k6, k7, k8, k9, k10, k11, k12, k13]
def interned : List (Array UInt16 × Addr) := []
def slotsUsed : Nat := 22
def theMethod : MethodId := ⟨1, 1⟩
def args0 : Array Value := #[.int 0, .int 3, .int 9]
def aboutOver (below : List Frame) : State where
  vm := { classes := classes, interned := interned.toArray }
  heap := heap
  slotsUsed := slotsUsed
  threads := #[{ frames := .invoking theMethod args0 :: below }]
def below0 : List Frame := [.native { method := ⟨0, 0⟩, args := #[] }]
def about1 : State := aboutOver below0
def p0 : Program := .bare "" "" ""
def e0 : Env := launch0.env 0 0 0
theorem w_frames : about1.frames = Frame.invoking theMethod args0 :: below0 := rfl
set_option maxRecDepth 65536 in
theorem w_args : argsFit about1.vm theMethod args0 = true := by decide +kernel
set_option maxRecDepth 65536 in
theorem w_heap : heapFits about1 = true := by decide +kernel
set_option maxRecDepth 65536 in
theorem w_runnable : about1.curStatus? = some .runnable := by decide +kernel
set_option maxRecDepth 65536 in
theorem w_alone : about1.alone = true := by decide +kernel
set_option maxRecDepth 65536 in
theorem w_named : about1.methodNamed? x = some theMethod := by decide +kernel
set_option maxRecDepth 65536 in
theorem w_hears : about1.hears theMethod below0 = true := by decide +kernel
set_option maxRecDepth 65536 in
theorem w_ripe : about1.ripe theMethod args0 below0 = true := by decide +kernel
theorem w_running : about1.status = .running := rfl
set_option maxRecDepth 65536 in
theorem w_room : about1.hasRoom e0.platform room_1 = true :=
  launch0.hasRoom_least _ room_1 (by decide +kernel) (by decide +kernel) (by decide +kernel) (by decide +kernel) (by decide +kernel) (by decide +kernel)
theorem allAtoms_all (ts : List Jvm.Cond) (a : Array Jvm.Value) (st : Jvm.State) : (allAtoms ts).before a st = ts.all (fun c => c.before a st) := by
  induction ts with
  | nil => rfl
  | cons c t ih =>
    show (Jvm.Cond.and c (allAtoms t)).before a st = _
    rw [Jvm.Cond.before_and, ih, List.all_cons]
def words1 : List Jvm.Cond := Jvm.Cond.code x code maxLocals ret :: tables_1
/-- a 'code' word, met by the world's own term for the bytes: nothing is compared byte by byte -/
theorem code_word {y : MethodName} {bytes : ByteArray} {mx : Nat} {rt : Option FieldType} {a : Array Value} {s : State} {m : MethodId} {meth : Method} {c : Code} (h1 : s.methodNamed? y = some m) (h2 : s.vm.method? m = some meth) (h3 : meth.code = some c) (h4 : c.code = bytes)
    (h5 : (c.maxLocals == mx && c.exceptionTable.isEmpty && decide (c.maxStack ≤ mostOperands) && decide (meth.sig.returnType = rt) && !meth.locks && decide (parseMethodDescriptor y.desc = some meth.sig)) = true) : (Jvm.Cond.code y bytes mx rt).before a s = true := by
  simp only [Bool.and_eq_true, beq_iff_eq, Bool.not_eq_true', decide_eq_true_eq] at h5
  obtain ⟨⟨⟨⟨⟨g1, g2⟩, g3⟩, g4⟩, g5⟩, g6⟩ := h5
  simp [Cond.before, Cond.holds, Cond.value, h1, h2, h3, h4, g1, g2, g3, g4, g5, g6]
def isCode : Jvm.Cond → Bool
  | .code _ _ _ _ => true
  | _ => false
theorem all_split {L : List Jvm.Cond} {P : Jvm.Cond → Bool} (h1 : L.all (fun c => isCode c || P c) = true) (h2 : ∀ c ∈ L.filter isCode, P c = true) : L.all P = true := by
  refine List.all_eq_true.mpr fun c hc => ?_
  have h := List.all_eq_true.mp h1 c hc
  rcases Bool.eq_false_or_eq_true (isCode c) with hi | hi
  · exact h2 c (List.mem_filter.mpr ⟨hc, hi⟩)
  · simpa [hi] using h
set_option maxRecDepth 65536 in
theorem w_c0 : (Jvm.Cond.code x code maxLocals ret).before args0 about1 = true := code_word (m := ⟨1, 1⟩) (meth := k1m1) (c := k1c1) (by decide +kernel) rfl rfl rfl (by decide +kernel)
set_option maxRecDepth 65536 in
theorem w_c1 : (Jvm.Cond.code ({ cls := "com/example/mulligan/mulligan/Database", name := "keepsFirstSnapshot", desc := "(I)Z" } : Jvm.MethodName) prog_11_method_11_code (2 : Nat) (Option.some Jvm.ClassFile.FieldType.boolean)).before args0 about1 = true := code_word (m := ⟨6, 0⟩) (meth := k6m0) (c := k6c0) (by decide +kernel) rfl rfl rfl (by decide +kernel)
set_option maxRecDepth 65536 in
theorem w_c2 : (Jvm.Cond.code ({ cls := "com/example/mulligan/mulligan/Database$2", name := "keepsFirstSnapshot", desc := "(I)Z" } : Jvm.MethodName) prog_13_method_2_code (2 : Nat) (Option.some Jvm.ClassFile.FieldType.boolean)).before args0 about1 = true := code_word (m := ⟨8, 0⟩) (meth := k8m0) (c := k8c0) (by decide +kernel) rfl rfl rfl (by decide +kernel)
def codes1 : List Jvm.Cond := [Jvm.Cond.code x code maxLocals ret, Jvm.Cond.code ({ cls := "com/example/mulligan/mulligan/Database", name := "keepsFirstSnapshot", desc := "(I)Z" } : Jvm.MethodName) prog_11_method_11_code (2 : Nat) (Option.some Jvm.ClassFile.FieldType.boolean), Jvm.Cond.code ({ cls := "com/example/mulligan/mulligan/Database$2", name := "keepsFirstSnapshot", desc := "(I)Z" } : Jvm.MethodName) prog_13_method_2_code (2 : Nat) (Option.some Jvm.ClassFile.FieldType.boolean)]
set_option maxRecDepth 65536 in
theorem codes_eq : words1.filter isCode = codes1 := rfl
theorem w_codes : ∀ c ∈ words1.filter isCode, c.before args0 about1 = true := by
  rw [codes_eq]
  intro c hc
  simp only [codes1, List.mem_cons, List.not_mem_nil, or_false] at hc
  rcases hc with rfl | rfl | rfl
  · exact w_c0
  · exact w_c1
  · exact w_c2
set_option maxRecDepth 65536 in
theorem w_t1 : words1.all (fun c => isCode c || c.before args0 about1) = true := by decide +kernel
theorem w_tables : (allAtoms (Jvm.Cond.code x code maxLocals ret :: tables_1)).before args0 about1 = true := by
  rw [allAtoms_all]
  show words1.all (fun c => c.before args0 about1) = true
  refine all_split ?_ w_codes
  rw [w_t1]
set_option maxRecDepth 65536 in
theorem w_case : (Jvm.Cond.and given_1 narrow_1).before args0 about1 = true := by decide +kernel
theorem w_applies : (headSpec (Jvm.Cond.code x code maxLocals ret :: tables_1) room_1).applies x e0.platform about1 = true :=
  (Spec.applies_iff w_frames).mpr ⟨w_running, w_runnable, w_alone, w_named, w_hears, w_ripe, w_room, w_tables⟩
theorem atStart : AtStart classFile x code maxLocals ret World_1 tables_1 room_1 Calls_1 rest_1 Pre_1 launch0 p0 e0 about1 theMethod args0 below0 :=
  ⟨lists_1, trivial, launch0.admits_env _ _ _, launch0.least_env, fairChoices_fair.cas, fairChoices_fair.clock, w_frames, w_args, w_heap, w_applies, trivial, trivial, w_case⟩
end start1
theorem witness_1 : WitnessClaimed_1 := ⟨start1.p0, start1.e0, start1.about1, start1.theMethod, start1.args0, start1.below0, start1.atStart⟩
end Jvm.Pilot.@@N@@
