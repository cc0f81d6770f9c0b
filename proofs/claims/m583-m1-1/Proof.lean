import JvmDerived
import JvmDerived.Pilot.@@N@@Statement
import JvmDerived.Pilot.@@N@@Code
set_option linter.unusedVariables false
set_option linter.unusedSimpArgs false
namespace Jvm.RoadKit
open Sem ClassFile Op Lib Jvm.Stand Jvm.Free Jvm.LawKit
section New
variable {p : Program} {l : Launch} {e : Env} {R : Room} {s : State} {m : MethodId} {args : Array Value} {below : List Frame} {meth : Method} {c : Code} {T : State} {locs : List Loc} {cells slots : Nat}
theorem retI (X : Stand p l e R s m args below meth c T locs cells slots) (hx : p.tables.exec = Jvm.exec) {pc : Nat} {Ls : Array Slot} {z : Int32} {rest : List Value} (hret : meth.sig.returnType = some .int) (hd : decode c.code pc = .ok (.ireturn, 1)) {fs : List Frame}
    (hl : ∀ (f : JFrame) (acts : List Action), f.method = m → f.locked = none → f.entered = [] → (doReturn e (T.setTop f) acts (some (.int z))).1 = T.setFrames fs) : Steps p.tables e below (T.setTop (mkF m pc Ls (.int z :: rest))) (T.setFrames fs) := by
  have hm' : T.vm.method? m = some meth := X.method'
  have hn : narrow .int (.int z) = .int z := rfl
  show Steps p.tables e below (T.setTop { method := m, pc := pc, locals := Ls, stack := _ :: rest, locked := none }) _
  jvm_step X.here [X.here.top, hx, hd, hm', hret, hn]
  first | (intro acts; rw [hl _ acts rfl rfl rfl]) | rw [hl _ _ rfl rfl rfl]
  exact Steps.refl _
end New
end Jvm.RoadKit
namespace Jvm.Pilot.@@N@@
open Jvm Jvm.ClassFile Sem Op Lib Jvm.Free Jvm.Stand Jvm.LawKit Jvm.RoadKit Bundle Jvm.Pilot.@@N@@.Jvm.D
/-- the run comes from A to some end of which R holds -/
def Goes (tb : Tables) (e : Env) (below : List Frame) (A : State) (R : State → Outcome → Prop) : Prop := ∃ t o, Steps tb e below A t ∧ R t o
theorem Goes.to {tb : Tables} {e : Env} {below : List Frame} {A B : State} {R : State → Outcome → Prop} (k : ∀ t, Steps tb e below A t → Steps tb e below B t) (h : Goes tb e below A R) : Goes tb e below B R := by
  obtain ⟨t, o, h1, h2⟩ := h
  exact ⟨t, o, k t h1, h2⟩
/-- how a body ends: it has returned, of value and heap Q holds, and no more than that many cells and slots are new -/
def own_R (below : List Frame) (s : State) (Q : Option Value → Heap → List Loc → Prop) (k n : Nat) : State → Outcome → Prop := fun s₂ o => s₂.status = .running ∧ Ended s₂ below o ∧ ∃ v L, o = .returned v ∧ Q v s₂.heap L ∧ FrameEnd s o s₂ L k n
theorem Goes.tr {tb : Tables} {e : Env} {below : List Frame} {A B : State} {R : State → Outcome → Prop} (k : Steps tb e below B A) (h : Goes tb e below A R) : Goes tb e below B R := Goes.to (fun _ z => k.trans z) h


def own_exp (m d : Int64) : Int64 := if (0 : Int64) < d ∧ (m + d) < (0 : Int64) then (9223372036854775807 : Int64) else (m + d)
def own_after (m d : Int64) : Int64 := if ((9223372036854775807 : Int64) - m) < d then (9223372036854775807 : Int64) else (m + d)
theorem own_law (m d : Int64) (h : 0 ≤ m.toInt) : own_after m d = own_exp m d := by
  unfold own_after own_exp
  have k1 := c_ladd m d
  have k2 := c_lsub (9223372036854775807 : Int64) m
  have k3 : (9223372036854775807 : Int64).toInt = 9223372036854775807 := rfl
  have k4 := rng64 m
  have k5 := rng64 d
  have k6 := rng64 (m + d)
  have k7 := rng64 ((9223372036854775807 : Int64) - m)
  have k8 : (0 : Int64).toInt = 0 := rfl
  have e : (((9223372036854775807 : Int64) - m) < d) ↔ ((0 : Int64) < d ∧ (m + d) < (0 : Int64)) := by
    simp only [Int64.lt_iff_toInt_lt]
    omega
  by_cases q : ((9223372036854775807 : Int64) - m) < d
  · rw [if_pos q, if_pos (e.mp q)]
  · rw [if_neg q, if_neg (fun z => q (e.mpr z))]

theorem d1_0 : decode method_3_code 0 = .ok (.lload_n 0, 1) := by decide +kernel
theorem d1_1 : decode method_3_code 1 = .ok (.lload_n 2, 1) := by decide +kernel
theorem d1_2 : decode method_3_code 2 = .ok (.ladd, 1) := by decide +kernel
theorem d1_3 : decode method_3_code 3 = .ok (.lstore 4, 2) := by decide +kernel
theorem d1_5 : decode method_3_code 5 = .ok (.lload_n 2, 1) := by decide +kernel
theorem d1_6 : decode method_3_code 6 = .ok (.lconst 0, 1) := by decide +kernel
theorem d1_7 : decode method_3_code 7 = .ok (.lcmp, 1) := by decide +kernel
theorem d1_8 : decode method_3_code 8 = .ok (.ifCond .le 14, 3) := by decide +kernel
theorem d1_11 : decode method_3_code 11 = .ok (.lload 4, 2) := by decide +kernel
theorem d1_13 : decode method_3_code 13 = .ok (.lconst 0, 1) := by decide +kernel
theorem d1_14 : decode method_3_code 14 = .ok (.lcmp, 1) := by decide +kernel
theorem d1_15 : decode method_3_code 15 = .ok (.ifCond .ge 7, 3) := by decide +kernel
theorem d1_18 : decode method_3_code 18 = .ok (.ldc2_w 9, 3) := by decide +kernel
theorem d1_21 : decode method_3_code 21 = .ok (.lreturn, 1) := by decide +kernel
theorem d1_22 : decode method_3_code 22 = .ok (.lload 4, 2) := by decide +kernel
theorem d1_24 : decode method_3_code 24 = .ok (.lreturn, 1) := by decide +kernel
theorem own_pn_1 : plainName "com/example/mulligan/mulligan/MillisAfterPinLaw" = true := by first | (simp [plainName, overriddenIn]; done) | decide +kernel
theorem own_ef_own_rm1 (m : MethodId) (x0 : Int64) (x1 : Int64) : entryFrame m #[(.long x0), (.long x1)] 6 = mkF m 0 #[.val (.long x0), .second, .val (.long x1), .second, .unset, .unset] [] := by first | (simp [entryFrame, mkF, argsToLocals, Value.category]; done) | rfl
def own_Q_own_rm1 (Z : State) (x0 : Int64) (x1 : Int64)  (h0 : Heap) (n0 : Nat) (v : Option Value) (h : Heap) (L : List Loc) : Prop := v = some (.long (own_exp x0 x1)) ∧ Fr n0 L ∧ h = h0
set_option maxRecDepth 65536 in
set_option maxHeartbeats 40000000 in
theorem own_rm1 (l : Launch) (Z : State) (a0 : Array Value) (hw : ∀ d ∈ tables_1, d.before a0 Z = true) (ws : List Jvm.Cond) (x0 : Int64) (x1 : Int64)  (h0 : Heap) (n0 : Nat) (Z0 : n0 ≤ h0.size)  :
    MetFree l (⟨"com/example/mulligan/mulligan/MillisAfterPinLaw", "expectedAfter", "(JJ)J"⟩ : MethodName) (head1 (Jvm.Cond.code (⟨"com/example/mulligan/mulligan/MillisAfterPinLaw", "expectedAfter", "(JJ)J"⟩ : MethodName) method_3_code 6 (some .long) :: ws) ({ frames := 0, cells := 0, slots := 0, locals := 0 } : Room)) (fun a U => a = #[(.long x0), (.long x1)] ∧ Z.Warmed39 U.vm ∧ U.heap = h0) (fun _ _ _ _ _ => True) (fun _ U o U' => ∃ v L, o = .returned v ∧ own_Q_own_rm1 Z x0 x1 h0 n0 v U'.heap L ∧ FrameEnd U o U' L ({ frames := 0, cells := 0, slots := 0, locals := 0 } : Room).cells ({ frames := 0, cells := 0, slots := 0, locals := 0 } : Room).slots) := by
  refine MetFree.of_bodySF (plainFor_of_name own_pn_1) hisR ?_
  intro p e s m args below meth c s₁ Bd hml0 hP hK
  obtain ⟨rfl, hZ, hh⟩ := hP
  have hx := Bd.exec
  have hby := Bd.bytes
  have hml : c.maxLocals = 6 := hml0
  have hown : s.vm.findClass "com/example/mulligan/mulligan/MillisAfterPinLaw" = some m.cls := findClass_of_methodNamed Bd.named
  have hnm := (name_of_methodNamed Bd.named Bd.method).1
  have X0 : Stand p l e ({ frames := 0, cells := 0, slots := 0, locals := 0 } : Room) s m #[(.long x0), (.long x1)] below meth c s₁ [] 0 0 := Stand.of_body Bd
  have e0 : s₁.heap = h0 := by rw [← hh, Bd.state]; rfl
  have N0 := Fr.nil n0
  show Goes p.tables e below _ (own_R below s (own_Q_own_rm1 Z x0 x1 h0 n0) ({ frames := 0, cells := 0, slots := 0, locals := 0 } : Room).cells ({ frames := 0, cells := 0, slots := 0, locals := 0 } : Room).slots)
  refine Goes.to (fun t k => castTop (own_ef_own_rm1 m x0 x1) k) ?_
  show Goes p.tables e below (s₁.setTop (mkF m 0 #[.val (.long x0), .second, .val (.long x1), .second, .unset, .unset] [])) _
  refine Goes.to (fun _ k => XS.lloadN X0.here hx rfl (hb hby d1_0) rfl k) ?_
  show Goes p.tables e below (s₁.setTop (mkF m 1 #[.val (.long x0), .second, .val (.long x1), .second, .unset, .unset] [(.long x0)])) _
  refine Goes.to (fun _ k => XS.lloadN X0.here hx rfl (hb hby d1_1) rfl k) ?_
  show Goes p.tables e below (s₁.setTop (mkF m 2 #[.val (.long x0), .second, .val (.long x1), .second, .unset, .unset] [(.long x1), (.long x0)])) _
  refine Goes.to (fun _ k => XS.ladd X0.here hx rfl (hb hby d1_2) rfl k) ?_
  show Goes p.tables e below (s₁.setTop (mkF m 3 #[.val (.long x0), .second, .val (.long x1), .second, .unset, .unset] [(.long (x0 + x1))])) _
  refine Goes.to (fun _ k => XS.lstore X0.here hx rfl (hb hby d1_3) rfl (l' := #[.val (.long x0), .second, .val (.long x1), .second, .val (.long (x0 + x1)), .second]) rfl k) ?_
  show Goes p.tables e below (s₁.setTop (mkF m 5 #[.val (.long x0), .second, .val (.long x1), .second, .val (.long (x0 + x1)), .second] [])) _
  refine Goes.to (fun _ k => XS.lloadN X0.here hx rfl (hb hby d1_5) rfl k) ?_
  show Goes p.tables e below (s₁.setTop (mkF m 6 #[.val (.long x0), .second, .val (.long x1), .second, .val (.long (x0 + x1)), .second] [(.long x1)])) _
  refine Goes.to (fun _ k => XS.lconst X0.here hx rfl (hb hby d1_6) k) ?_
  show Goes p.tables e below (s₁.setTop (mkF m 7 #[.val (.long x0), .second, .val (.long x1), .second, .val (.long (x0 + x1)), .second] [(.long (0 : Int64)), (.long x1)])) _
  refine Goes.to (fun _ k => XS.lcmp X0.here hx rfl (hb hby d1_7) rfl k) ?_
  show Goes p.tables e below (s₁.setTop (mkF m 8 #[.val (.long x0), .second, .val (.long x1), .second, .val (.long (x0 + x1)), .second] [(.int (lcmpW x1 (0 : Int64)))])) _
  by_cases hc1 : (0 : Int64) < x1
  · refine Goes.to (fun _ k => XS.ifNo X0.here hx rfl (hb hby d1_8) rfl ((if0 _ _).trans (tlt ((lw_gt x1 (0 : Int64)).mpr hc1)).2.2.2) k) ?_
    show Goes p.tables e below (s₁.setTop (mkF m 11 #[.val (.long x0), .second, .val (.long x1), .second, .val (.long (x0 + x1)), .second] [])) _
    refine Goes.to (fun _ k => XS.lload X0.here hx rfl (hb hby d1_11) rfl k) ?_
    show Goes p.tables e below (s₁.setTop (mkF m 13 #[.val (.long x0), .second, .val (.long x1), .second, .val (.long (x0 + x1)), .second] [(.long (x0 + x1))])) _
    refine Goes.to (fun _ k => XS.lconst X0.here hx rfl (hb hby d1_13) k) ?_
    show Goes p.tables e below (s₁.setTop (mkF m 14 #[.val (.long x0), .second, .val (.long x1), .second, .val (.long (x0 + x1)), .second] [(.long (0 : Int64)), (.long (x0 + x1))])) _
    refine Goes.to (fun _ k => XS.lcmp X0.here hx rfl (hb hby d1_14) rfl k) ?_
    show Goes p.tables e below (s₁.setTop (mkF m 15 #[.val (.long x0), .second, .val (.long x1), .second, .val (.long (x0 + x1)), .second] [(.int (lcmpW (x0 + x1) (0 : Int64)))])) _
    by_cases hc2 : (x0 + x1) < (0 : Int64)
    · refine Goes.to (fun _ k => XS.ifNo X0.here hx rfl (hb hby d1_15) rfl ((if0 _ _).trans (tlt ((lw_lt (x0 + x1) (0 : Int64)).mpr hc2)).2.1) k) ?_
      show Goes p.tables e below (s₁.setTop (mkF m 18 #[.val (.long x0), .second, .val (.long x1), .second, .val (.long (x0 + x1)), .second] [])) _
      refine Goes.to (fun _ k => X0.ldc2Long hx hown (mvT hZ (hw _ (List.mem_of_getElem? (i := 0) rfl))) (g := (mkF m 18 #[.val (.long x0), .second, .val (.long x1), .second, .val (.long (x0 + x1)), .second] [])) rfl (hb hby d1_18) _ k) ?_
      show Goes p.tables e below (s₁.setTop (mkF m 21 #[.val (.long x0), .second, .val (.long x1), .second, .val (.long (x0 + x1)), .second] [(.long (9223372036854775807 : Int64))])) _
      obtain ⟨fs, hr, hrun, hended, hW, hsame⟩ := X0.leave (v := some (.long (9223372036854775807 : Int64))) (fun h => by rw [Bd.returns] at h; cases h)
      have hv : (some (.long (9223372036854775807 : Int64)) : Option Value) = some (.long (own_exp x0 x1)) := by
        rw [own_exp, if_pos ⟨hc1, hc2⟩]
      exact ⟨_, _, (X0.lreturnOut hx Bd.returns (hb hby d1_21) hr), hrun, hended, _, _, rfl, ⟨hv, N0, e0⟩, ⟨_, rfl⟩, hW, hsame.mono (by decide) (by decide)⟩
    · refine Goes.to (fun _ k => XS.ifYes X0.here hx rfl (pc0 := 15) (pc' := 22) rfl (hb hby d1_15) rfl ((if0 _ _).trans (flt (fun q => hc2 ((lw_lt (x0 + x1) (0 : Int64)).mp q))).2.1) (by decide) (by decide) k) ?_
      show Goes p.tables e below (s₁.setTop (mkF m 22 #[.val (.long x0), .second, .val (.long x1), .second, .val (.long (x0 + x1)), .second] [])) _
      refine Goes.to (fun _ k => XS.lload X0.here hx rfl (hb hby d1_22) rfl k) ?_
      show Goes p.tables e below (s₁.setTop (mkF m 24 #[.val (.long x0), .second, .val (.long x1), .second, .val (.long (x0 + x1)), .second] [(.long (x0 + x1))])) _
      obtain ⟨fs, hr, hrun, hended, hW, hsame⟩ := X0.leave (v := some (.long (x0 + x1))) (fun h => by rw [Bd.returns] at h; cases h)
      have hv : (some (.long (x0 + x1)) : Option Value) = some (.long (own_exp x0 x1)) := by
        rw [own_exp, if_neg (fun q => hc2 q.2)]
      exact ⟨_, _, (X0.lreturnOut hx Bd.returns (hb hby d1_24) hr), hrun, hended, _, _, rfl, ⟨hv, N0, e0⟩, ⟨_, rfl⟩, hW, hsame.mono (by decide) (by decide)⟩
  · refine Goes.to (fun _ k => XS.ifYes X0.here hx rfl (pc0 := 8) (pc' := 22) rfl (hb hby d1_8) rfl ((if0 _ _).trans (flt (fun q => hc1 ((lw_gt x1 (0 : Int64)).mp q))).2.2.2) (by decide) (by decide) k) ?_
    show Goes p.tables e below (s₁.setTop (mkF m 22 #[.val (.long x0), .second, .val (.long x1), .second, .val (.long (x0 + x1)), .second] [])) _
    refine Goes.to (fun _ k => XS.lload X0.here hx rfl (hb hby d1_22) rfl k) ?_
    show Goes p.tables e below (s₁.setTop (mkF m 24 #[.val (.long x0), .second, .val (.long x1), .second, .val (.long (x0 + x1)), .second] [(.long (x0 + x1))])) _
    obtain ⟨fs, hr, hrun, hended, hW, hsame⟩ := X0.leave (v := some (.long (x0 + x1))) (fun h => by rw [Bd.returns] at h; cases h)
    have hv : (some (.long (x0 + x1)) : Option Value) = some (.long (own_exp x0 x1)) := by
      rw [own_exp, if_neg (fun q => hc1 q.1)]
    exact ⟨_, _, (X0.lreturnOut hx Bd.returns (hb hby d1_24) hr), hrun, hended, _, _, rfl, ⟨hv, N0, e0⟩, ⟨_, rfl⟩, hW, hsame.mono (by decide) (by decide)⟩

theorem d2_0 : decode prog_25_method_2_code 0 = .ok (.lload_n 2, 1) := by decide +kernel
theorem d2_1 : decode prog_25_method_2_code 1 = .ok (.ldc2_w 9, 3) := by decide +kernel
theorem d2_4 : decode prog_25_method_2_code 4 = .ok (.lload_n 0, 1) := by decide +kernel
theorem d2_5 : decode prog_25_method_2_code 5 = .ok (.lsub, 1) := by decide +kernel
theorem d2_6 : decode prog_25_method_2_code 6 = .ok (.lcmp, 1) := by decide +kernel
theorem d2_7 : decode prog_25_method_2_code 7 = .ok (.ifCond .le 9, 3) := by decide +kernel
theorem d2_10 : decode prog_25_method_2_code 10 = .ok (.ldc2_w 9, 3) := by decide +kernel
theorem d2_13 : decode prog_25_method_2_code 13 = .ok (.goto 6, 3) := by decide +kernel
theorem d2_16 : decode prog_25_method_2_code 16 = .ok (.lload_n 0, 1) := by decide +kernel
theorem d2_17 : decode prog_25_method_2_code 17 = .ok (.lload_n 2, 1) := by decide +kernel
theorem d2_18 : decode prog_25_method_2_code 18 = .ok (.ladd, 1) := by decide +kernel
theorem d2_19 : decode prog_25_method_2_code 19 = .ok (.lreturn, 1) := by decide +kernel
theorem own_pn_2 : plainName "com/example/mulligan/mulligan/Millis" = true := by first | (simp [plainName, overriddenIn]; done) | decide +kernel
theorem own_ef_own_rm2 (m : MethodId) (x0 : Int64) (x1 : Int64) : entryFrame m #[(.long x0), (.long x1)] 4 = mkF m 0 #[.val (.long x0), .second, .val (.long x1), .second] [] := by first | (simp [entryFrame, mkF, argsToLocals, Value.category]; done) | rfl
def own_Q_own_rm2 (Z : State) (x0 : Int64) (x1 : Int64)  (h0 : Heap) (n0 : Nat) (v : Option Value) (h : Heap) (L : List Loc) : Prop := v = some (.long (own_after x0 x1)) ∧ Fr n0 L ∧ h = h0
set_option maxRecDepth 65536 in
set_option maxHeartbeats 40000000 in
theorem own_rm2 (l : Launch) (Z : State) (a0 : Array Value) (hw : ∀ d ∈ tables_1, d.before a0 Z = true) (ws : List Jvm.Cond) (x0 : Int64) (x1 : Int64)  (h0 : Heap) (n0 : Nat) (Z0 : n0 ≤ h0.size)  :
    MetFree l (⟨"com/example/mulligan/mulligan/Millis", "after", "(JJ)J"⟩ : MethodName) (head1 (Jvm.Cond.code (⟨"com/example/mulligan/mulligan/Millis", "after", "(JJ)J"⟩ : MethodName) prog_25_method_2_code 4 (some .long) :: ws) ({ frames := 0, cells := 0, slots := 0, locals := 0 } : Room)) (fun a U => a = #[(.long x0), (.long x1)] ∧ Z.Warmed39 U.vm ∧ U.heap = h0) (fun _ _ _ _ _ => True) (fun _ U o U' => ∃ v L, o = .returned v ∧ own_Q_own_rm2 Z x0 x1 h0 n0 v U'.heap L ∧ FrameEnd U o U' L ({ frames := 0, cells := 0, slots := 0, locals := 0 } : Room).cells ({ frames := 0, cells := 0, slots := 0, locals := 0 } : Room).slots) := by
  refine MetFree.of_bodySF (plainFor_of_name own_pn_2) hisR ?_
  intro p e s m args below meth c s₁ Bd hml0 hP hK
  obtain ⟨rfl, hZ, hh⟩ := hP
  have hx := Bd.exec
  have hby := Bd.bytes
  have hml : c.maxLocals = 4 := hml0
  have hown : s.vm.findClass "com/example/mulligan/mulligan/Millis" = some m.cls := findClass_of_methodNamed Bd.named
  have hnm := (name_of_methodNamed Bd.named Bd.method).1
  have X0 : Stand p l e ({ frames := 0, cells := 0, slots := 0, locals := 0 } : Room) s m #[(.long x0), (.long x1)] below meth c s₁ [] 0 0 := Stand.of_body Bd
  have e0 : s₁.heap = h0 := by rw [← hh, Bd.state]; rfl
  have N0 := Fr.nil n0
  show Goes p.tables e below _ (own_R below s (own_Q_own_rm2 Z x0 x1 h0 n0) ({ frames := 0, cells := 0, slots := 0, locals := 0 } : Room).cells ({ frames := 0, cells := 0, slots := 0, locals := 0 } : Room).slots)
  refine Goes.to (fun t k => castTop (own_ef_own_rm2 m x0 x1) k) ?_
  show Goes p.tables e below (s₁.setTop (mkF m 0 #[.val (.long x0), .second, .val (.long x1), .second] [])) _
  refine Goes.to (fun _ k => XS.lloadN X0.here hx rfl (hb hby d2_0) rfl k) ?_
  show Goes p.tables e below (s₁.setTop (mkF m 1 #[.val (.long x0), .second, .val (.long x1), .second] [(.long x1)])) _
  refine Goes.to (fun _ k => X0.ldc2Long hx hown (mvT hZ (hw _ (List.mem_of_getElem? (i := 9) rfl))) (g := (mkF m 1 #[.val (.long x0), .second, .val (.long x1), .second] [(.long x1)])) rfl (hb hby d2_1) _ k) ?_
  show Goes p.tables e below (s₁.setTop (mkF m 4 #[.val (.long x0), .second, .val (.long x1), .second] [(.long (9223372036854775807 : Int64)), (.long x1)])) _
  refine Goes.to (fun _ k => XS.lloadN X0.here hx rfl (hb hby d2_4) rfl k) ?_
  show Goes p.tables e below (s₁.setTop (mkF m 5 #[.val (.long x0), .second, .val (.long x1), .second] [(.long x0), (.long (9223372036854775807 : Int64)), (.long x1)])) _
  refine Goes.to (fun _ k => XS.lsub X0.here hx rfl (hb hby d2_5) rfl k) ?_
  show Goes p.tables e below (s₁.setTop (mkF m 6 #[.val (.long x0), .second, .val (.long x1), .second] [(.long ((9223372036854775807 : Int64) - x0)), (.long x1)])) _
  refine Goes.to (fun _ k => XS.lcmp X0.here hx rfl (hb hby d2_6) rfl k) ?_
  show Goes p.tables e below (s₁.setTop (mkF m 7 #[.val (.long x0), .second, .val (.long x1), .second] [(.int (lcmpW x1 ((9223372036854775807 : Int64) - x0)))])) _
  by_cases hc1 : ((9223372036854775807 : Int64) - x0) < x1
  · refine Goes.to (fun _ k => XS.ifNo X0.here hx rfl (hb hby d2_7) rfl ((if0 _ _).trans (tlt ((lw_gt x1 ((9223372036854775807 : Int64) - x0)).mpr hc1)).2.2.2) k) ?_
    show Goes p.tables e below (s₁.setTop (mkF m 10 #[.val (.long x0), .second, .val (.long x1), .second] [])) _
    refine Goes.to (fun _ k => X0.ldc2Long hx hown (mvT hZ (hw _ (List.mem_of_getElem? (i := 9) rfl))) (g := (mkF m 10 #[.val (.long x0), .second, .val (.long x1), .second] [])) rfl (hb hby d2_10) _ k) ?_
    show Goes p.tables e below (s₁.setTop (mkF m 13 #[.val (.long x0), .second, .val (.long x1), .second] [(.long (9223372036854775807 : Int64))])) _
    refine Goes.to (fun _ k => XS.goto X0.here hx rfl (pc0 := 13) (pc' := 19) rfl (hb hby d2_13) (by decide) (by decide) k) ?_
    show Goes p.tables e below (s₁.setTop (mkF m 19 #[.val (.long x0), .second, .val (.long x1), .second] [(.long (9223372036854775807 : Int64))])) _
    obtain ⟨fs, hr, hrun, hended, hW, hsame⟩ := X0.leave (v := some (.long (9223372036854775807 : Int64))) (fun h => by rw [Bd.returns] at h; cases h)
    have hv : (some (.long (9223372036854775807 : Int64)) : Option Value) = some (.long (own_after x0 x1)) := by
      rw [own_after, if_pos hc1]
    exact ⟨_, _, (X0.lreturnOut hx Bd.returns (hb hby d2_19) hr), hrun, hended, _, _, rfl, ⟨hv, N0, e0⟩, ⟨_, rfl⟩, hW, hsame.mono (by decide) (by decide)⟩
  · refine Goes.to (fun _ k => XS.ifYes X0.here hx rfl (pc0 := 7) (pc' := 16) rfl (hb hby d2_7) rfl ((if0 _ _).trans (flt (fun q => hc1 ((lw_gt x1 ((9223372036854775807 : Int64) - x0)).mp q))).2.2.2) (by decide) (by decide) k) ?_
    show Goes p.tables e below (s₁.setTop (mkF m 16 #[.val (.long x0), .second, .val (.long x1), .second] [])) _
    refine Goes.to (fun _ k => XS.lloadN X0.here hx rfl (hb hby d2_16) rfl k) ?_
    show Goes p.tables e below (s₁.setTop (mkF m 17 #[.val (.long x0), .second, .val (.long x1), .second] [(.long x0)])) _
    refine Goes.to (fun _ k => XS.lloadN X0.here hx rfl (hb hby d2_17) rfl k) ?_
    show Goes p.tables e below (s₁.setTop (mkF m 18 #[.val (.long x0), .second, .val (.long x1), .second] [(.long x1), (.long x0)])) _
    refine Goes.to (fun _ k => XS.ladd X0.here hx rfl (hb hby d2_18) rfl k) ?_
    show Goes p.tables e below (s₁.setTop (mkF m 19 #[.val (.long x0), .second, .val (.long x1), .second] [(.long (x0 + x1))])) _
    obtain ⟨fs, hr, hrun, hended, hW, hsame⟩ := X0.leave (v := some (.long (x0 + x1))) (fun h => by rw [Bd.returns] at h; cases h)
    have hv : (some (.long (x0 + x1)) : Option Value) = some (.long (own_after x0 x1)) := by
      rw [own_after, if_neg hc1]
    exact ⟨_, _, (X0.lreturnOut hx Bd.returns (hb hby d2_19) hr), hrun, hended, _, _, rfl, ⟨hv, N0, e0⟩, ⟨_, rfl⟩, hW, hsame.mono (by decide) (by decide)⟩

theorem own_pd_pJJqJ : parseMethodDescriptor "(JJ)J" = some ⟨[.long, .long], some .long⟩ := by decide +kernel
theorem own_pn_0 : plainName "com/example/mulligan/mulligan/MillisAfterPinLaw" = true := by first | (simp [plainName, overriddenIn]; done) | decide +kernel
theorem own_ef_own_rm0 (m : MethodId) (x0 : Int64) (x1 : Int64) (x2 : Int32) : entryFrame m #[(.long x0), (.long x1), (.int x2)] maxLocals = mkF m 0 #[.val (.long x0), .second, .val (.long x1), .second, .val (.int x2), .unset, .unset, .unset, .unset, .unset, .unset] [] := by first | (simp [entryFrame, mkF, argsToLocals, Value.category, maxLocals]; done) | rfl
def own_Q_own_rm0 (Z : State) (x0 : Int64) (x1 : Int64) (x2 : Int32)  (h0 : Heap) (n0 : Nat) (v : Option Value) (h : Heap) (L : List Loc) : Prop := v = some (.int (1 : Int32)) ∧ Fr n0 L
set_option maxRecDepth 65536 in
set_option maxHeartbeats 40000000 in
theorem own_rm0 (l : Launch) (Z : State) (a0 : Array Value) (hw : ∀ d ∈ tables_1, d.before a0 Z = true) (ws : List Jvm.Cond) (x0 : Int64) (x1 : Int64) (x2 : Int32)  (h0 : Heap) (n0 : Nat) (Z0 : n0 ≤ h0.size)  :
    MetFree l x (head1 (Jvm.Cond.code x code maxLocals ret :: ws) room_1) (fun a U => a = #[(.long x0), (.long x1), (.int x2)] ∧ Z.Warmed39 U.vm ∧ U.heap = h0) (fun _ _ _ _ _ => True) (fun _ U o U' => ∃ v L, o = .returned v ∧ own_Q_own_rm0 Z x0 x1 x2 h0 n0 v U'.heap L ∧ FrameEnd U o U' L 0 0) := by
  refine MetFree.of_bodySF (plainFor_of_name own_pn_0) hisR ?_
  intro p e s m args below meth c s₁ Bd hml0 hP hK
  obtain ⟨rfl, hZ, hh⟩ := hP
  have hx := Bd.exec
  have hby := Bd.bytes
  have hml : c.maxLocals = 11 := hml0
  have hown : s.vm.findClass "com/example/mulligan/mulligan/MillisAfterPinLaw" = some m.cls := findClass_of_methodNamed Bd.named
  have hnm := (name_of_methodNamed Bd.named Bd.method).1
  have X0 : Stand p l e room_1 s m #[(.long x0), (.long x1), (.int x2)] below meth c s₁ [] 0 0 := Stand.of_body Bd
  have e0 : s₁.heap = h0 := by rw [← hh, Bd.state]; rfl
  have N0 := Fr.nil n0
  show Goes p.tables e below _ (own_R below s (own_Q_own_rm0 Z x0 x1 x2 h0 n0) 0 0)
  refine Goes.to (fun t k => castTop (own_ef_own_rm0 m x0 x1 x2) k) ?_
  show Goes p.tables e below (s₁.setTop (mkF m 0 #[.val (.long x0), .second, .val (.long x1), .second, .val (.int x2), .unset, .unset, .unset, .unset, .unset, .unset] [])) _
  refine Goes.to (fun _ k => XS.lloadN X0.here hx rfl (hb hby at_0) rfl k) ?_
  show Goes p.tables e below (s₁.setTop (mkF m 1 #[.val (.long x0), .second, .val (.long x1), .second, .val (.int x2), .unset, .unset, .unset, .unset, .unset, .unset] [(.long x0)])) _
  refine Goes.to (fun _ k => X0.ldc2Long hx hown (mvT hZ (hw _ (List.mem_of_getElem? (i := 0) rfl))) (g := (mkF m 1 #[.val (.long x0), .second, .val (.long x1), .second, .val (.int x2), .unset, .unset, .unset, .unset, .unset, .unset] [(.long x0)])) rfl (hb hby at_1) _ k) ?_
  show Goes p.tables e below (s₁.setTop (mkF m 4 #[.val (.long x0), .second, .val (.long x1), .second, .val (.int x2), .unset, .unset, .unset, .unset, .unset, .unset] [(.long (9223372036854775807 : Int64)), (.long x0)])) _
  refine Goes.to (fun _ k => XS.land X0.here hx rfl (hb hby at_4) rfl k) ?_
  show Goes p.tables e below (s₁.setTop (mkF m 5 #[.val (.long x0), .second, .val (.long x1), .second, .val (.int x2), .unset, .unset, .unset, .unset, .unset, .unset] [(.long (x0 &&& (9223372036854775807 : Int64)))])) _
  refine Goes.to (fun _ k => XS.lstore X0.here hx rfl (hb hby at_5) rfl (l' := #[.val (.long x0), .second, .val (.long x1), .second, .val (.int x2), .val (.long (x0 &&& (9223372036854775807 : Int64))), .second, .unset, .unset, .unset, .unset]) rfl k) ?_
  show Goes p.tables e below (s₁.setTop (mkF m 7 #[.val (.long x0), .second, .val (.long x1), .second, .val (.int x2), .val (.long (x0 &&& (9223372036854775807 : Int64))), .second, .unset, .unset, .unset, .unset] [])) _
  refine Goes.to (fun _ k => XS.lloadN X0.here hx rfl (hb hby at_7) rfl k) ?_
  show Goes p.tables e below (s₁.setTop (mkF m 8 #[.val (.long x0), .second, .val (.long x1), .second, .val (.int x2), .val (.long (x0 &&& (9223372036854775807 : Int64))), .second, .unset, .unset, .unset, .unset] [(.long x1)])) _
  refine Goes.to (fun _ k => XS.lstore X0.here hx rfl (hb hby at_8) rfl (l' := #[.val (.long x0), .second, .val (.long x1), .second, .val (.int x2), .val (.long (x0 &&& (9223372036854775807 : Int64))), .second, .val (.long x1), .second, .unset, .unset]) rfl k) ?_
  show Goes p.tables e below (s₁.setTop (mkF m 10 #[.val (.long x0), .second, .val (.long x1), .second, .val (.int x2), .val (.long (x0 &&& (9223372036854775807 : Int64))), .second, .val (.long x1), .second, .unset, .unset] [])) _
  refine Goes.to (fun _ k => XS.iload X0.here hx rfl (hb hby at_10) rfl k) ?_
  show Goes p.tables e below (s₁.setTop (mkF m 12 #[.val (.long x0), .second, .val (.long x1), .second, .val (.int x2), .val (.long (x0 &&& (9223372036854775807 : Int64))), .second, .val (.long x1), .second, .unset, .unset] [(.int x2)])) _
  refine Goes.to (fun _ k => XS.iconst X0.here hx rfl (hb hby at_12) k) ?_
  show Goes p.tables e below (s₁.setTop (mkF m 13 #[.val (.long x0), .second, .val (.long x1), .second, .val (.int x2), .val (.long (x0 &&& (9223372036854775807 : Int64))), .second, .val (.long x1), .second, .unset, .unset] [(.int (1 : Int32)), (.int x2)])) _
  refine Goes.to (fun _ k => XS.iand X0.here hx rfl (hb hby at_13) rfl k) ?_
  show Goes p.tables e below (s₁.setTop (mkF m 14 #[.val (.long x0), .second, .val (.long x1), .second, .val (.int x2), .val (.long (x0 &&& (9223372036854775807 : Int64))), .second, .val (.long x1), .second, .unset, .unset] [(.int (x2 &&& (1 : Int32)))])) _
  by_cases hc1 : (x2 &&& (1 : Int32)) = (0 : Int32)
  · refine Goes.to (fun _ k => XS.ifYes X0.here hx rfl (pc0 := 14) (pc' := 39) rfl (hb hby at_14) rfl ((if0 _ _).trans (teq hc1).1) (by decide) (by decide) k) ?_
    show Goes p.tables e below (s₁.setTop (mkF m 39 #[.val (.long x0), .second, .val (.long x1), .second, .val (.int x2), .val (.long (x0 &&& (9223372036854775807 : Int64))), .second, .val (.long x1), .second, .unset, .unset] [])) _
    refine Goes.to (fun _ k => XS.lload X0.here hx rfl (hb hby at_39) rfl k) ?_
    show Goes p.tables e below (s₁.setTop (mkF m 41 #[.val (.long x0), .second, .val (.long x1), .second, .val (.int x2), .val (.long (x0 &&& (9223372036854775807 : Int64))), .second, .val (.long x1), .second, .unset, .unset] [(.long (x0 &&& (9223372036854775807 : Int64)))])) _
    refine Goes.to (fun _ k => XS.lload X0.here hx rfl (hb hby at_41) rfl k) ?_
    show Goes p.tables e below (s₁.setTop (mkF m 43 #[.val (.long x0), .second, .val (.long x1), .second, .val (.int x2), .val (.long (x0 &&& (9223372036854775807 : Int64))), .second, .val (.long x1), .second, .unset, .unset] [(.long x1), (.long (x0 &&& (9223372036854775807 : Int64)))])) _
    obtain ⟨_, _, ⟨T2, L2, k2, n2⟩, -, X2, ⟨Lc2, hQ2, l2, y2, z2⟩, st2⟩ := Jvm.LawKit.callS X0 hx (y := (⟨"com/example/mulligan/mulligan/MillisAfterPinLaw", "expectedAfter", "(JJ)J"⟩ : MethodName)) hown (mvT hZ (hw _ (List.mem_of_getElem? (i := 1) rfl))) (mvT hZ (hw _ (List.mem_of_getElem? (i := 2) rfl))) (mvT hZ (hw _ (List.mem_of_getElem? (i := 3) rfl))) (mvT hZ (hw _ (List.mem_of_getElem? (i := 4) rfl))) (by decide) (backOf (W := 0) (own_rm1 l Z a0 hw [] (x0 &&& (9223372036854775807 : Int64)) x1 h0 n0 Z0 ) hZ (hw _ (List.mem_of_getElem? (i := 4) rfl)) (hw _ (List.mem_of_getElem? (i := 3) rfl)) (by decide) (by decide)) (g := (mkF m 43 #[.val (.long x0), .second, .val (.long x1), .second, .val (.int x2), .val (.long (x0 &&& (9223372036854775807 : Int64))), .second, .val (.long x1), .second, .unset, .unset] [(.long x1), (.long (x0 &&& (9223372036854775807 : Int64)))])) rfl (by rw [hml]; rfl) (argsL := [(.long (x0 &&& (9223372036854775807 : Int64))), (.long x1)]) (rest := []) (lenOf own_pd_pJJqJ rfl) rfl (by show 2 * 0 + _ ≤ _; exact Nat.le_of_eq rfl) (hb hby at_43) (fun _ _ => ⟨rfl, e0, (by decide : 0 + 0 ≤ _), (by decide : 0 + 0 ≤ _)⟩)
    dsimp only [Pt.U, Pt.locs, Pt.cells, Pt.slots] at X2 l2 y2 z2 st2 hQ2
    subst l2 y2 z2
    obtain ⟨hv2, Nq2, hp2_0⟩ := hQ2
    have N2 := Fr.app N0 Nq2
    subst hv2
    refine Goes.to st2 ?_
    show Goes p.tables e below (T2.setTop (mkF m 46 #[.val (.long x0), .second, .val (.long x1), .second, .val (.int x2), .val (.long (x0 &&& (9223372036854775807 : Int64))), .second, .val (.long x1), .second, .unset, .unset] [(.long (own_exp (x0 &&& (9223372036854775807 : Int64)) x1))])) _
    refine Goes.to (fun _ k => XS.lstore X2.here hx rfl (hb hby at_46) rfl (l' := #[.val (.long x0), .second, .val (.long x1), .second, .val (.int x2), .val (.long (x0 &&& (9223372036854775807 : Int64))), .second, .val (.long x1), .second, .val (.long (own_exp (x0 &&& (9223372036854775807 : Int64)) x1)), .second]) rfl k) ?_
    show Goes p.tables e below (T2.setTop (mkF m 48 #[.val (.long x0), .second, .val (.long x1), .second, .val (.int x2), .val (.long (x0 &&& (9223372036854775807 : Int64))), .second, .val (.long x1), .second, .val (.long (own_exp (x0 &&& (9223372036854775807 : Int64)) x1)), .second] [])) _
    refine Goes.to (fun _ k => XS.lload X2.here hx rfl (hb hby at_48) rfl k) ?_
    show Goes p.tables e below (T2.setTop (mkF m 50 #[.val (.long x0), .second, .val (.long x1), .second, .val (.int x2), .val (.long (x0 &&& (9223372036854775807 : Int64))), .second, .val (.long x1), .second, .val (.long (own_exp (x0 &&& (9223372036854775807 : Int64)) x1)), .second] [(.long (x0 &&& (9223372036854775807 : Int64)))])) _
    refine Goes.to (fun _ k => XS.lload X2.here hx rfl (hb hby at_50) rfl k) ?_
    show Goes p.tables e below (T2.setTop (mkF m 52 #[.val (.long x0), .second, .val (.long x1), .second, .val (.int x2), .val (.long (x0 &&& (9223372036854775807 : Int64))), .second, .val (.long x1), .second, .val (.long (own_exp (x0 &&& (9223372036854775807 : Int64)) x1)), .second] [(.long x1), (.long (x0 &&& (9223372036854775807 : Int64)))])) _
    obtain ⟨_, _, ⟨T3, L3, k3, n3⟩, -, X3, ⟨Lc3, hQ3, l3, y3, z3⟩, st3⟩ := Jvm.LawKit.callS X2 hx (y := (⟨"com/example/mulligan/mulligan/Millis", "after", "(JJ)J"⟩ : MethodName)) hown (mvT hZ (hw _ (List.mem_of_getElem? (i := 5) rfl))) (mvT hZ (hw _ (List.mem_of_getElem? (i := 6) rfl))) (mvT hZ (hw _ (List.mem_of_getElem? (i := 7) rfl))) (mvT hZ (hw _ (List.mem_of_getElem? (i := 8) rfl))) (by decide) (backOf (W := 0) (own_rm2 l Z a0 hw [] (x0 &&& (9223372036854775807 : Int64)) x1 h0 n0 Z0 ) hZ (hw _ (List.mem_of_getElem? (i := 8) rfl)) (hw _ (List.mem_of_getElem? (i := 7) rfl)) (by decide) (by decide)) (g := (mkF m 52 #[.val (.long x0), .second, .val (.long x1), .second, .val (.int x2), .val (.long (x0 &&& (9223372036854775807 : Int64))), .second, .val (.long x1), .second, .val (.long (own_exp (x0 &&& (9223372036854775807 : Int64)) x1)), .second] [(.long x1), (.long (x0 &&& (9223372036854775807 : Int64)))])) rfl (by rw [hml]; rfl) (argsL := [(.long (x0 &&& (9223372036854775807 : Int64))), (.long x1)]) (rest := []) (lenOf own_pd_pJJqJ rfl) rfl (by show 2 * 0 + _ ≤ _; exact Nat.le_of_eq rfl) (hb hby at_52) (fun _ _ => ⟨rfl, hp2_0, (by decide : 0 + 0 ≤ _), (by decide : 0 + 0 ≤ _)⟩)
    dsimp only [Pt.U, Pt.locs, Pt.cells, Pt.slots] at X3 l3 y3 z3 st3 hQ3
    subst l3 y3 z3
    obtain ⟨hv3, Nq3, hp3_0⟩ := hQ3
    have N3 := Fr.app N2 Nq3
    subst hv3
    refine Goes.to st3 ?_
    show Goes p.tables e below (T3.setTop (mkF m 55 #[.val (.long x0), .second, .val (.long x1), .second, .val (.int x2), .val (.long (x0 &&& (9223372036854775807 : Int64))), .second, .val (.long x1), .second, .val (.long (own_exp (x0 &&& (9223372036854775807 : Int64)) x1)), .second] [(.long (own_after (x0 &&& (9223372036854775807 : Int64)) x1))])) _
    refine Goes.to (fun _ k => XS.lload X3.here hx rfl (hb hby at_55) rfl k) ?_
    show Goes p.tables e below (T3.setTop (mkF m 57 #[.val (.long x0), .second, .val (.long x1), .second, .val (.int x2), .val (.long (x0 &&& (9223372036854775807 : Int64))), .second, .val (.long x1), .second, .val (.long (own_exp (x0 &&& (9223372036854775807 : Int64)) x1)), .second] [(.long (own_exp (x0 &&& (9223372036854775807 : Int64)) x1)), (.long (own_after (x0 &&& (9223372036854775807 : Int64)) x1))])) _
    refine Goes.to (fun _ k => XS.lcmp X3.here hx rfl (hb hby at_57) rfl k) ?_
    show Goes p.tables e below (T3.setTop (mkF m 58 #[.val (.long x0), .second, .val (.long x1), .second, .val (.int x2), .val (.long (x0 &&& (9223372036854775807 : Int64))), .second, .val (.long x1), .second, .val (.long (own_exp (x0 &&& (9223372036854775807 : Int64)) x1)), .second] [(.int (lcmpW (own_after (x0 &&& (9223372036854775807 : Int64)) x1) (own_exp (x0 &&& (9223372036854775807 : Int64)) x1)))])) _
    by_cases hc4 : (own_after (x0 &&& (9223372036854775807 : Int64)) x1) = (own_exp (x0 &&& (9223372036854775807 : Int64)) x1)
    · refine Goes.to (fun _ k => XS.ifNo X3.here hx rfl (hb hby at_58) rfl ((if0 _ _).trans (teq ((lw_eq (own_after (x0 &&& (9223372036854775807 : Int64)) x1) (own_exp (x0 &&& (9223372036854775807 : Int64)) x1)).mpr hc4)).2) k) ?_
      show Goes p.tables e below (T3.setTop (mkF m 61 #[.val (.long x0), .second, .val (.long x1), .second, .val (.int x2), .val (.long (x0 &&& (9223372036854775807 : Int64))), .second, .val (.long x1), .second, .val (.long (own_exp (x0 &&& (9223372036854775807 : Int64)) x1)), .second] [])) _
      refine Goes.to (fun _ k => XS.iconst X3.here hx rfl (hb hby at_61) k) ?_
      show Goes p.tables e below (T3.setTop (mkF m 62 #[.val (.long x0), .second, .val (.long x1), .second, .val (.int x2), .val (.long (x0 &&& (9223372036854775807 : Int64))), .second, .val (.long x1), .second, .val (.long (own_exp (x0 &&& (9223372036854775807 : Int64)) x1)), .second] [(.int (1 : Int32))])) _
      refine Goes.to (fun _ k => XS.goto X3.here hx rfl (pc0 := 62) (pc' := 66) rfl (hb hby at_62) (by decide) (by decide) k) ?_
      show Goes p.tables e below (T3.setTop (mkF m 66 #[.val (.long x0), .second, .val (.long x1), .second, .val (.int x2), .val (.long (x0 &&& (9223372036854775807 : Int64))), .second, .val (.long x1), .second, .val (.long (own_exp (x0 &&& (9223372036854775807 : Int64)) x1)), .second] [(.int (1 : Int32))])) _
      obtain ⟨fs, hr, hrun, hended, hW, hsame⟩ := X3.leave (v := some (.int (1 : Int32))) (fun h => by rw [Bd.returns] at h; cases h)
      have hv : (some (.int (1 : Int32)) : Option Value) = some (.int (1 : Int32)) := by
        rfl
      exact ⟨_, _, retN X3 hx (t := .boolean) Bd.returns (by simp) (hb hby at_66) hr, hrun, hended, _, _, rfl, ⟨hv, N3⟩, ⟨_, rfl⟩, hW, hsame.mono (by decide) (by decide)⟩
    · exact absurd (own_law _ _ (by rw [c_maskL x0 (9223372036854775807 : Int64) 63 (by decide) (by decide)]; omega)) hc4
  · refine Goes.to (fun _ k => XS.ifNo X0.here hx rfl (hb hby at_14) rfl ((if0 _ _).trans (feq hc1).1) k) ?_
    show Goes p.tables e below (s₁.setTop (mkF m 17 #[.val (.long x0), .second, .val (.long x1), .second, .val (.int x2), .val (.long (x0 &&& (9223372036854775807 : Int64))), .second, .val (.long x1), .second, .unset, .unset] [])) _
    refine Goes.to (fun _ k => XS.iload X0.here hx rfl (hb hby at_17) rfl k) ?_
    show Goes p.tables e below (s₁.setTop (mkF m 19 #[.val (.long x0), .second, .val (.long x1), .second, .val (.int x2), .val (.long (x0 &&& (9223372036854775807 : Int64))), .second, .val (.long x1), .second, .unset, .unset] [(.int x2)])) _
    refine Goes.to (fun _ k => XS.iconst X0.here hx rfl (hb hby at_19) k) ?_
    show Goes p.tables e below (s₁.setTop (mkF m 20 #[.val (.long x0), .second, .val (.long x1), .second, .val (.int x2), .val (.long (x0 &&& (9223372036854775807 : Int64))), .second, .val (.long x1), .second, .unset, .unset] [(.int (1 : Int32)), (.int x2)])) _
    refine Goes.to (fun _ k => XS.ishr X0.here hx rfl (hb hby at_20) rfl k) ?_
    show Goes p.tables e below (s₁.setTop (mkF m 21 #[.val (.long x0), .second, .val (.long x1), .second, .val (.int x2), .val (.long (x0 &&& (9223372036854775807 : Int64))), .second, .val (.long x1), .second, .unset, .unset] [(.int (x2 >>> ((1 : Int32) &&& 31)))])) _
    refine Goes.to (fun _ k => XS.iconst X0.here hx rfl (hb hby at_21) k) ?_
    show Goes p.tables e below (s₁.setTop (mkF m 22 #[.val (.long x0), .second, .val (.long x1), .second, .val (.int x2), .val (.long (x0 &&& (9223372036854775807 : Int64))), .second, .val (.long x1), .second, .unset, .unset] [(.int (3 : Int32)), (.int (x2 >>> ((1 : Int32) &&& 31)))])) _
    refine Goes.to (fun _ k => XS.iand X0.here hx rfl (hb hby at_22) rfl k) ?_
    show Goes p.tables e below (s₁.setTop (mkF m 23 #[.val (.long x0), .second, .val (.long x1), .second, .val (.int x2), .val (.long (x0 &&& (9223372036854775807 : Int64))), .second, .val (.long x1), .second, .unset, .unset] [(.int ((x2 >>> ((1 : Int32) &&& 31)) &&& (3 : Int32)))])) _
    refine Goes.to (fun _ k => XS.i2l X0.here hx rfl (hb hby at_23) rfl k) ?_
    show Goes p.tables e below (s₁.setTop (mkF m 24 #[.val (.long x0), .second, .val (.long x1), .second, .val (.int x2), .val (.long (x0 &&& (9223372036854775807 : Int64))), .second, .val (.long x1), .second, .unset, .unset] [(.long (((x2 >>> ((1 : Int32) &&& 31)) &&& (3 : Int32)).toInt64))])) _
    refine Goes.to (fun _ k => XS.lstore X0.here hx rfl (hb hby at_24) rfl (l' := #[.val (.long x0), .second, .val (.long x1), .second, .val (.int x2), .val (.long (x0 &&& (9223372036854775807 : Int64))), .second, .val (.long x1), .second, .val (.long (((x2 >>> ((1 : Int32) &&& 31)) &&& (3 : Int32)).toInt64)), .second]) rfl k) ?_
    show Goes p.tables e below (s₁.setTop (mkF m 26 #[.val (.long x0), .second, .val (.long x1), .second, .val (.int x2), .val (.long (x0 &&& (9223372036854775807 : Int64))), .second, .val (.long x1), .second, .val (.long (((x2 >>> ((1 : Int32) &&& 31)) &&& (3 : Int32)).toInt64)), .second] [])) _
    refine Goes.to (fun _ k => X0.ldc2Long hx hown (mvT hZ (hw _ (List.mem_of_getElem? (i := 0) rfl))) (g := (mkF m 26 #[.val (.long x0), .second, .val (.long x1), .second, .val (.int x2), .val (.long (x0 &&& (9223372036854775807 : Int64))), .second, .val (.long x1), .second, .val (.long (((x2 >>> ((1 : Int32) &&& 31)) &&& (3 : Int32)).toInt64)), .second] [])) rfl (hb hby at_26) _ k) ?_
    show Goes p.tables e below (s₁.setTop (mkF m 29 #[.val (.long x0), .second, .val (.long x1), .second, .val (.int x2), .val (.long (x0 &&& (9223372036854775807 : Int64))), .second, .val (.long x1), .second, .val (.long (((x2 >>> ((1 : Int32) &&& 31)) &&& (3 : Int32)).toInt64)), .second] [(.long (9223372036854775807 : Int64))])) _
    refine Goes.to (fun _ k => XS.lload X0.here hx rfl (hb hby at_29) rfl k) ?_
    show Goes p.tables e below (s₁.setTop (mkF m 31 #[.val (.long x0), .second, .val (.long x1), .second, .val (.int x2), .val (.long (x0 &&& (9223372036854775807 : Int64))), .second, .val (.long x1), .second, .val (.long (((x2 >>> ((1 : Int32) &&& 31)) &&& (3 : Int32)).toInt64)), .second] [(.long (x0 &&& (9223372036854775807 : Int64))), (.long (9223372036854775807 : Int64))])) _
    refine Goes.to (fun _ k => XS.lsub X0.here hx rfl (hb hby at_31) rfl k) ?_
    show Goes p.tables e below (s₁.setTop (mkF m 32 #[.val (.long x0), .second, .val (.long x1), .second, .val (.int x2), .val (.long (x0 &&& (9223372036854775807 : Int64))), .second, .val (.long x1), .second, .val (.long (((x2 >>> ((1 : Int32) &&& 31)) &&& (3 : Int32)).toInt64)), .second] [(.long ((9223372036854775807 : Int64) - (x0 &&& (9223372036854775807 : Int64))))])) _
    refine Goes.to (fun _ k => XS.lload X0.here hx rfl (hb hby at_32) rfl k) ?_
    show Goes p.tables e below (s₁.setTop (mkF m 34 #[.val (.long x0), .second, .val (.long x1), .second, .val (.int x2), .val (.long (x0 &&& (9223372036854775807 : Int64))), .second, .val (.long x1), .second, .val (.long (((x2 >>> ((1 : Int32) &&& 31)) &&& (3 : Int32)).toInt64)), .second] [(.long (((x2 >>> ((1 : Int32) &&& 31)) &&& (3 : Int32)).toInt64)), (.long ((9223372036854775807 : Int64) - (x0 &&& (9223372036854775807 : Int64))))])) _
    refine Goes.to (fun _ k => XS.ladd X0.here hx rfl (hb hby at_34) rfl k) ?_
    show Goes p.tables e below (s₁.setTop (mkF m 35 #[.val (.long x0), .second, .val (.long x1), .second, .val (.int x2), .val (.long (x0 &&& (9223372036854775807 : Int64))), .second, .val (.long x1), .second, .val (.long (((x2 >>> ((1 : Int32) &&& 31)) &&& (3 : Int32)).toInt64)), .second] [(.long (((9223372036854775807 : Int64) - (x0 &&& (9223372036854775807 : Int64))) + (((x2 >>> ((1 : Int32) &&& 31)) &&& (3 : Int32)).toInt64)))])) _
    refine Goes.to (fun _ k => XS.lconst X0.here hx rfl (hb hby at_35) k) ?_
    show Goes p.tables e below (s₁.setTop (mkF m 36 #[.val (.long x0), .second, .val (.long x1), .second, .val (.int x2), .val (.long (x0 &&& (9223372036854775807 : Int64))), .second, .val (.long x1), .second, .val (.long (((x2 >>> ((1 : Int32) &&& 31)) &&& (3 : Int32)).toInt64)), .second] [(.long (1 : Int64)), (.long (((9223372036854775807 : Int64) - (x0 &&& (9223372036854775807 : Int64))) + (((x2 >>> ((1 : Int32) &&& 31)) &&& (3 : Int32)).toInt64)))])) _
    refine Goes.to (fun _ k => XS.lsub X0.here hx rfl (hb hby at_36) rfl k) ?_
    show Goes p.tables e below (s₁.setTop (mkF m 37 #[.val (.long x0), .second, .val (.long x1), .second, .val (.int x2), .val (.long (x0 &&& (9223372036854775807 : Int64))), .second, .val (.long x1), .second, .val (.long (((x2 >>> ((1 : Int32) &&& 31)) &&& (3 : Int32)).toInt64)), .second] [(.long ((((9223372036854775807 : Int64) - (x0 &&& (9223372036854775807 : Int64))) + (((x2 >>> ((1 : Int32) &&& 31)) &&& (3 : Int32)).toInt64)) - (1 : Int64)))])) _
    refine Goes.to (fun _ k => XS.lstore X0.here hx rfl (hb hby at_37) rfl (l' := #[.val (.long x0), .second, .val (.long x1), .second, .val (.int x2), .val (.long (x0 &&& (9223372036854775807 : Int64))), .second, .val (.long ((((9223372036854775807 : Int64) - (x0 &&& (9223372036854775807 : Int64))) + (((x2 >>> ((1 : Int32) &&& 31)) &&& (3 : Int32)).toInt64)) - (1 : Int64))), .second, .val (.long (((x2 >>> ((1 : Int32) &&& 31)) &&& (3 : Int32)).toInt64)), .second]) rfl k) ?_
    show Goes p.tables e below (s₁.setTop (mkF m 39 #[.val (.long x0), .second, .val (.long x1), .second, .val (.int x2), .val (.long (x0 &&& (9223372036854775807 : Int64))), .second, .val (.long ((((9223372036854775807 : Int64) - (x0 &&& (9223372036854775807 : Int64))) + (((x2 >>> ((1 : Int32) &&& 31)) &&& (3 : Int32)).toInt64)) - (1 : Int64))), .second, .val (.long (((x2 >>> ((1 : Int32) &&& 31)) &&& (3 : Int32)).toInt64)), .second] [])) _
    refine Goes.to (fun _ k => XS.lload X0.here hx rfl (hb hby at_39) rfl k) ?_
    show Goes p.tables e below (s₁.setTop (mkF m 41 #[.val (.long x0), .second, .val (.long x1), .second, .val (.int x2), .val (.long (x0 &&& (9223372036854775807 : Int64))), .second, .val (.long ((((9223372036854775807 : Int64) - (x0 &&& (9223372036854775807 : Int64))) + (((x2 >>> ((1 : Int32) &&& 31)) &&& (3 : Int32)).toInt64)) - (1 : Int64))), .second, .val (.long (((x2 >>> ((1 : Int32) &&& 31)) &&& (3 : Int32)).toInt64)), .second] [(.long (x0 &&& (9223372036854775807 : Int64)))])) _
    refine Goes.to (fun _ k => XS.lload X0.here hx rfl (hb hby at_41) rfl k) ?_
    show Goes p.tables e below (s₁.setTop (mkF m 43 #[.val (.long x0), .second, .val (.long x1), .second, .val (.int x2), .val (.long (x0 &&& (9223372036854775807 : Int64))), .second, .val (.long ((((9223372036854775807 : Int64) - (x0 &&& (9223372036854775807 : Int64))) + (((x2 >>> ((1 : Int32) &&& 31)) &&& (3 : Int32)).toInt64)) - (1 : Int64))), .second, .val (.long (((x2 >>> ((1 : Int32) &&& 31)) &&& (3 : Int32)).toInt64)), .second] [(.long ((((9223372036854775807 : Int64) - (x0 &&& (9223372036854775807 : Int64))) + (((x2 >>> ((1 : Int32) &&& 31)) &&& (3 : Int32)).toInt64)) - (1 : Int64))), (.long (x0 &&& (9223372036854775807 : Int64)))])) _
    obtain ⟨_, _, ⟨T5, L5, k5, n5⟩, -, X5, ⟨Lc5, hQ5, l5, y5, z5⟩, st5⟩ := Jvm.LawKit.callS X0 hx (y := (⟨"com/example/mulligan/mulligan/MillisAfterPinLaw", "expectedAfter", "(JJ)J"⟩ : MethodName)) hown (mvT hZ (hw _ (List.mem_of_getElem? (i := 1) rfl))) (mvT hZ (hw _ (List.mem_of_getElem? (i := 2) rfl))) (mvT hZ (hw _ (List.mem_of_getElem? (i := 3) rfl))) (mvT hZ (hw _ (List.mem_of_getElem? (i := 4) rfl))) (by decide) (backOf (W := 0) (own_rm1 l Z a0 hw [] (x0 &&& (9223372036854775807 : Int64)) ((((9223372036854775807 : Int64) - (x0 &&& (9223372036854775807 : Int64))) + (((x2 >>> ((1 : Int32) &&& 31)) &&& (3 : Int32)).toInt64)) - (1 : Int64)) h0 n0 Z0 ) hZ (hw _ (List.mem_of_getElem? (i := 4) rfl)) (hw _ (List.mem_of_getElem? (i := 3) rfl)) (by decide) (by decide)) (g := (mkF m 43 #[.val (.long x0), .second, .val (.long x1), .second, .val (.int x2), .val (.long (x0 &&& (9223372036854775807 : Int64))), .second, .val (.long ((((9223372036854775807 : Int64) - (x0 &&& (9223372036854775807 : Int64))) + (((x2 >>> ((1 : Int32) &&& 31)) &&& (3 : Int32)).toInt64)) - (1 : Int64))), .second, .val (.long (((x2 >>> ((1 : Int32) &&& 31)) &&& (3 : Int32)).toInt64)), .second] [(.long ((((9223372036854775807 : Int64) - (x0 &&& (9223372036854775807 : Int64))) + (((x2 >>> ((1 : Int32) &&& 31)) &&& (3 : Int32)).toInt64)) - (1 : Int64))), (.long (x0 &&& (9223372036854775807 : Int64)))])) rfl (by rw [hml]; rfl) (argsL := [(.long (x0 &&& (9223372036854775807 : Int64))), (.long ((((9223372036854775807 : Int64) - (x0 &&& (9223372036854775807 : Int64))) + (((x2 >>> ((1 : Int32) &&& 31)) &&& (3 : Int32)).toInt64)) - (1 : Int64)))]) (rest := []) (lenOf own_pd_pJJqJ rfl) rfl (by show 2 * 0 + _ ≤ _; exact Nat.le_of_eq rfl) (hb hby at_43) (fun _ _ => ⟨rfl, e0, (by decide : 0 + 0 ≤ _), (by decide : 0 + 0 ≤ _)⟩)
    dsimp only [Pt.U, Pt.locs, Pt.cells, Pt.slots] at X5 l5 y5 z5 st5 hQ5
    subst l5 y5 z5
    obtain ⟨hv5, Nq5, hp5_0⟩ := hQ5
    have N5 := Fr.app N0 Nq5
    subst hv5
    refine Goes.to st5 ?_
    show Goes p.tables e below (T5.setTop (mkF m 46 #[.val (.long x0), .second, .val (.long x1), .second, .val (.int x2), .val (.long (x0 &&& (9223372036854775807 : Int64))), .second, .val (.long ((((9223372036854775807 : Int64) - (x0 &&& (9223372036854775807 : Int64))) + (((x2 >>> ((1 : Int32) &&& 31)) &&& (3 : Int32)).toInt64)) - (1 : Int64))), .second, .val (.long (((x2 >>> ((1 : Int32) &&& 31)) &&& (3 : Int32)).toInt64)), .second] [(.long (own_exp (x0 &&& (9223372036854775807 : Int64)) ((((9223372036854775807 : Int64) - (x0 &&& (9223372036854775807 : Int64))) + (((x2 >>> ((1 : Int32) &&& 31)) &&& (3 : Int32)).toInt64)) - (1 : Int64))))])) _
    refine Goes.to (fun _ k => XS.lstore X5.here hx rfl (hb hby at_46) rfl (l' := #[.val (.long x0), .second, .val (.long x1), .second, .val (.int x2), .val (.long (x0 &&& (9223372036854775807 : Int64))), .second, .val (.long ((((9223372036854775807 : Int64) - (x0 &&& (9223372036854775807 : Int64))) + (((x2 >>> ((1 : Int32) &&& 31)) &&& (3 : Int32)).toInt64)) - (1 : Int64))), .second, .val (.long (own_exp (x0 &&& (9223372036854775807 : Int64)) ((((9223372036854775807 : Int64) - (x0 &&& (9223372036854775807 : Int64))) + (((x2 >>> ((1 : Int32) &&& 31)) &&& (3 : Int32)).toInt64)) - (1 : Int64)))), .second]) rfl k) ?_
    show Goes p.tables e below (T5.setTop (mkF m 48 #[.val (.long x0), .second, .val (.long x1), .second, .val (.int x2), .val (.long (x0 &&& (9223372036854775807 : Int64))), .second, .val (.long ((((9223372036854775807 : Int64) - (x0 &&& (9223372036854775807 : Int64))) + (((x2 >>> ((1 : Int32) &&& 31)) &&& (3 : Int32)).toInt64)) - (1 : Int64))), .second, .val (.long (own_exp (x0 &&& (9223372036854775807 : Int64)) ((((9223372036854775807 : Int64) - (x0 &&& (9223372036854775807 : Int64))) + (((x2 >>> ((1 : Int32) &&& 31)) &&& (3 : Int32)).toInt64)) - (1 : Int64)))), .second] [])) _
    refine Goes.to (fun _ k => XS.lload X5.here hx rfl (hb hby at_48) rfl k) ?_
    show Goes p.tables e below (T5.setTop (mkF m 50 #[.val (.long x0), .second, .val (.long x1), .second, .val (.int x2), .val (.long (x0 &&& (9223372036854775807 : Int64))), .second, .val (.long ((((9223372036854775807 : Int64) - (x0 &&& (9223372036854775807 : Int64))) + (((x2 >>> ((1 : Int32) &&& 31)) &&& (3 : Int32)).toInt64)) - (1 : Int64))), .second, .val (.long (own_exp (x0 &&& (9223372036854775807 : Int64)) ((((9223372036854775807 : Int64) - (x0 &&& (9223372036854775807 : Int64))) + (((x2 >>> ((1 : Int32) &&& 31)) &&& (3 : Int32)).toInt64)) - (1 : Int64)))), .second] [(.long (x0 &&& (9223372036854775807 : Int64)))])) _
    refine Goes.to (fun _ k => XS.lload X5.here hx rfl (hb hby at_50) rfl k) ?_
    show Goes p.tables e below (T5.setTop (mkF m 52 #[.val (.long x0), .second, .val (.long x1), .second, .val (.int x2), .val (.long (x0 &&& (9223372036854775807 : Int64))), .second, .val (.long ((((9223372036854775807 : Int64) - (x0 &&& (9223372036854775807 : Int64))) + (((x2 >>> ((1 : Int32) &&& 31)) &&& (3 : Int32)).toInt64)) - (1 : Int64))), .second, .val (.long (own_exp (x0 &&& (9223372036854775807 : Int64)) ((((9223372036854775807 : Int64) - (x0 &&& (9223372036854775807 : Int64))) + (((x2 >>> ((1 : Int32) &&& 31)) &&& (3 : Int32)).toInt64)) - (1 : Int64)))), .second] [(.long ((((9223372036854775807 : Int64) - (x0 &&& (9223372036854775807 : Int64))) + (((x2 >>> ((1 : Int32) &&& 31)) &&& (3 : Int32)).toInt64)) - (1 : Int64))), (.long (x0 &&& (9223372036854775807 : Int64)))])) _
    obtain ⟨_, _, ⟨T6, L6, k6, n6⟩, -, X6, ⟨Lc6, hQ6, l6, y6, z6⟩, st6⟩ := Jvm.LawKit.callS X5 hx (y := (⟨"com/example/mulligan/mulligan/Millis", "after", "(JJ)J"⟩ : MethodName)) hown (mvT hZ (hw _ (List.mem_of_getElem? (i := 5) rfl))) (mvT hZ (hw _ (List.mem_of_getElem? (i := 6) rfl))) (mvT hZ (hw _ (List.mem_of_getElem? (i := 7) rfl))) (mvT hZ (hw _ (List.mem_of_getElem? (i := 8) rfl))) (by decide) (backOf (W := 0) (own_rm2 l Z a0 hw [] (x0 &&& (9223372036854775807 : Int64)) ((((9223372036854775807 : Int64) - (x0 &&& (9223372036854775807 : Int64))) + (((x2 >>> ((1 : Int32) &&& 31)) &&& (3 : Int32)).toInt64)) - (1 : Int64)) h0 n0 Z0 ) hZ (hw _ (List.mem_of_getElem? (i := 8) rfl)) (hw _ (List.mem_of_getElem? (i := 7) rfl)) (by decide) (by decide)) (g := (mkF m 52 #[.val (.long x0), .second, .val (.long x1), .second, .val (.int x2), .val (.long (x0 &&& (9223372036854775807 : Int64))), .second, .val (.long ((((9223372036854775807 : Int64) - (x0 &&& (9223372036854775807 : Int64))) + (((x2 >>> ((1 : Int32) &&& 31)) &&& (3 : Int32)).toInt64)) - (1 : Int64))), .second, .val (.long (own_exp (x0 &&& (9223372036854775807 : Int64)) ((((9223372036854775807 : Int64) - (x0 &&& (9223372036854775807 : Int64))) + (((x2 >>> ((1 : Int32) &&& 31)) &&& (3 : Int32)).toInt64)) - (1 : Int64)))), .second] [(.long ((((9223372036854775807 : Int64) - (x0 &&& (9223372036854775807 : Int64))) + (((x2 >>> ((1 : Int32) &&& 31)) &&& (3 : Int32)).toInt64)) - (1 : Int64))), (.long (x0 &&& (9223372036854775807 : Int64)))])) rfl (by rw [hml]; rfl) (argsL := [(.long (x0 &&& (9223372036854775807 : Int64))), (.long ((((9223372036854775807 : Int64) - (x0 &&& (9223372036854775807 : Int64))) + (((x2 >>> ((1 : Int32) &&& 31)) &&& (3 : Int32)).toInt64)) - (1 : Int64)))]) (rest := []) (lenOf own_pd_pJJqJ rfl) rfl (by show 2 * 0 + _ ≤ _; exact Nat.le_of_eq rfl) (hb hby at_52) (fun _ _ => ⟨rfl, hp5_0, (by decide : 0 + 0 ≤ _), (by decide : 0 + 0 ≤ _)⟩)
    dsimp only [Pt.U, Pt.locs, Pt.cells, Pt.slots] at X6 l6 y6 z6 st6 hQ6
    subst l6 y6 z6
    obtain ⟨hv6, Nq6, hp6_0⟩ := hQ6
    have N6 := Fr.app N5 Nq6
    subst hv6
    refine Goes.to st6 ?_
    show Goes p.tables e below (T6.setTop (mkF m 55 #[.val (.long x0), .second, .val (.long x1), .second, .val (.int x2), .val (.long (x0 &&& (9223372036854775807 : Int64))), .second, .val (.long ((((9223372036854775807 : Int64) - (x0 &&& (9223372036854775807 : Int64))) + (((x2 >>> ((1 : Int32) &&& 31)) &&& (3 : Int32)).toInt64)) - (1 : Int64))), .second, .val (.long (own_exp (x0 &&& (9223372036854775807 : Int64)) ((((9223372036854775807 : Int64) - (x0 &&& (9223372036854775807 : Int64))) + (((x2 >>> ((1 : Int32) &&& 31)) &&& (3 : Int32)).toInt64)) - (1 : Int64)))), .second] [(.long (own_after (x0 &&& (9223372036854775807 : Int64)) ((((9223372036854775807 : Int64) - (x0 &&& (9223372036854775807 : Int64))) + (((x2 >>> ((1 : Int32) &&& 31)) &&& (3 : Int32)).toInt64)) - (1 : Int64))))])) _
    refine Goes.to (fun _ k => XS.lload X6.here hx rfl (hb hby at_55) rfl k) ?_
    show Goes p.tables e below (T6.setTop (mkF m 57 #[.val (.long x0), .second, .val (.long x1), .second, .val (.int x2), .val (.long (x0 &&& (9223372036854775807 : Int64))), .second, .val (.long ((((9223372036854775807 : Int64) - (x0 &&& (9223372036854775807 : Int64))) + (((x2 >>> ((1 : Int32) &&& 31)) &&& (3 : Int32)).toInt64)) - (1 : Int64))), .second, .val (.long (own_exp (x0 &&& (9223372036854775807 : Int64)) ((((9223372036854775807 : Int64) - (x0 &&& (9223372036854775807 : Int64))) + (((x2 >>> ((1 : Int32) &&& 31)) &&& (3 : Int32)).toInt64)) - (1 : Int64)))), .second] [(.long (own_exp (x0 &&& (9223372036854775807 : Int64)) ((((9223372036854775807 : Int64) - (x0 &&& (9223372036854775807 : Int64))) + (((x2 >>> ((1 : Int32) &&& 31)) &&& (3 : Int32)).toInt64)) - (1 : Int64)))), (.long (own_after (x0 &&& (9223372036854775807 : Int64)) ((((9223372036854775807 : Int64) - (x0 &&& (9223372036854775807 : Int64))) + (((x2 >>> ((1 : Int32) &&& 31)) &&& (3 : Int32)).toInt64)) - (1 : Int64))))])) _
    refine Goes.to (fun _ k => XS.lcmp X6.here hx rfl (hb hby at_57) rfl k) ?_
    show Goes p.tables e below (T6.setTop (mkF m 58 #[.val (.long x0), .second, .val (.long x1), .second, .val (.int x2), .val (.long (x0 &&& (9223372036854775807 : Int64))), .second, .val (.long ((((9223372036854775807 : Int64) - (x0 &&& (9223372036854775807 : Int64))) + (((x2 >>> ((1 : Int32) &&& 31)) &&& (3 : Int32)).toInt64)) - (1 : Int64))), .second, .val (.long (own_exp (x0 &&& (9223372036854775807 : Int64)) ((((9223372036854775807 : Int64) - (x0 &&& (9223372036854775807 : Int64))) + (((x2 >>> ((1 : Int32) &&& 31)) &&& (3 : Int32)).toInt64)) - (1 : Int64)))), .second] [(.int (lcmpW (own_after (x0 &&& (9223372036854775807 : Int64)) ((((9223372036854775807 : Int64) - (x0 &&& (9223372036854775807 : Int64))) + (((x2 >>> ((1 : Int32) &&& 31)) &&& (3 : Int32)).toInt64)) - (1 : Int64))) (own_exp (x0 &&& (9223372036854775807 : Int64)) ((((9223372036854775807 : Int64) - (x0 &&& (9223372036854775807 : Int64))) + (((x2 >>> ((1 : Int32) &&& 31)) &&& (3 : Int32)).toInt64)) - (1 : Int64)))))])) _
    by_cases hc7 : (own_after (x0 &&& (9223372036854775807 : Int64)) ((((9223372036854775807 : Int64) - (x0 &&& (9223372036854775807 : Int64))) + (((x2 >>> ((1 : Int32) &&& 31)) &&& (3 : Int32)).toInt64)) - (1 : Int64))) = (own_exp (x0 &&& (9223372036854775807 : Int64)) ((((9223372036854775807 : Int64) - (x0 &&& (9223372036854775807 : Int64))) + (((x2 >>> ((1 : Int32) &&& 31)) &&& (3 : Int32)).toInt64)) - (1 : Int64)))
    · refine Goes.to (fun _ k => XS.ifNo X6.here hx rfl (hb hby at_58) rfl ((if0 _ _).trans (teq ((lw_eq (own_after (x0 &&& (9223372036854775807 : Int64)) ((((9223372036854775807 : Int64) - (x0 &&& (9223372036854775807 : Int64))) + (((x2 >>> ((1 : Int32) &&& 31)) &&& (3 : Int32)).toInt64)) - (1 : Int64))) (own_exp (x0 &&& (9223372036854775807 : Int64)) ((((9223372036854775807 : Int64) - (x0 &&& (9223372036854775807 : Int64))) + (((x2 >>> ((1 : Int32) &&& 31)) &&& (3 : Int32)).toInt64)) - (1 : Int64)))).mpr hc7)).2) k) ?_
      show Goes p.tables e below (T6.setTop (mkF m 61 #[.val (.long x0), .second, .val (.long x1), .second, .val (.int x2), .val (.long (x0 &&& (9223372036854775807 : Int64))), .second, .val (.long ((((9223372036854775807 : Int64) - (x0 &&& (9223372036854775807 : Int64))) + (((x2 >>> ((1 : Int32) &&& 31)) &&& (3 : Int32)).toInt64)) - (1 : Int64))), .second, .val (.long (own_exp (x0 &&& (9223372036854775807 : Int64)) ((((9223372036854775807 : Int64) - (x0 &&& (9223372036854775807 : Int64))) + (((x2 >>> ((1 : Int32) &&& 31)) &&& (3 : Int32)).toInt64)) - (1 : Int64)))), .second] [])) _
      refine Goes.to (fun _ k => XS.iconst X6.here hx rfl (hb hby at_61) k) ?_
      show Goes p.tables e below (T6.setTop (mkF m 62 #[.val (.long x0), .second, .val (.long x1), .second, .val (.int x2), .val (.long (x0 &&& (9223372036854775807 : Int64))), .second, .val (.long ((((9223372036854775807 : Int64) - (x0 &&& (9223372036854775807 : Int64))) + (((x2 >>> ((1 : Int32) &&& 31)) &&& (3 : Int32)).toInt64)) - (1 : Int64))), .second, .val (.long (own_exp (x0 &&& (9223372036854775807 : Int64)) ((((9223372036854775807 : Int64) - (x0 &&& (9223372036854775807 : Int64))) + (((x2 >>> ((1 : Int32) &&& 31)) &&& (3 : Int32)).toInt64)) - (1 : Int64)))), .second] [(.int (1 : Int32))])) _
      refine Goes.to (fun _ k => XS.goto X6.here hx rfl (pc0 := 62) (pc' := 66) rfl (hb hby at_62) (by decide) (by decide) k) ?_
      show Goes p.tables e below (T6.setTop (mkF m 66 #[.val (.long x0), .second, .val (.long x1), .second, .val (.int x2), .val (.long (x0 &&& (9223372036854775807 : Int64))), .second, .val (.long ((((9223372036854775807 : Int64) - (x0 &&& (9223372036854775807 : Int64))) + (((x2 >>> ((1 : Int32) &&& 31)) &&& (3 : Int32)).toInt64)) - (1 : Int64))), .second, .val (.long (own_exp (x0 &&& (9223372036854775807 : Int64)) ((((9223372036854775807 : Int64) - (x0 &&& (9223372036854775807 : Int64))) + (((x2 >>> ((1 : Int32) &&& 31)) &&& (3 : Int32)).toInt64)) - (1 : Int64)))), .second] [(.int (1 : Int32))])) _
      obtain ⟨fs, hr, hrun, hended, hW, hsame⟩ := X6.leave (v := some (.int (1 : Int32))) (fun h => by rw [Bd.returns] at h; cases h)
      have hv : (some (.int (1 : Int32)) : Option Value) = some (.int (1 : Int32)) := by
        rfl
      exact ⟨_, _, retN X6 hx (t := .boolean) Bd.returns (by simp) (hb hby at_66) hr, hrun, hended, _, _, rfl, ⟨hv, N6⟩, ⟨_, rfl⟩, hW, hsame.mono (by decide) (by decide)⟩
    · exact absurd (own_law _ _ (by rw [c_maskL x0 (9223372036854775807 : Int64) 63 (by decide) (by decide)]; omega)) hc7

set_option maxRecDepth 65536 in
set_option maxHeartbeats 40000000 in
theorem comes_1 {Post : Tables → Env → Array Value → State → Outcome → State → Prop} (hpost : ∀ tb e args s v u, (limb_1_1.after args s (.returned v) u = true ∧ limb_1_2.after args s (.returned v) u = true ∧ True) → FrameEnd s (.returned v) u (Jvm.fieldLocs frame_1_writes args s ++ Jvm.arrayLocs frame_1_arrays args s ++ Jvm.staticLocs frame_1_statics s) 0 0 → Post tb e args s (.returned v) u) :
    ArmFor flags0 classFile x code maxLocals ret World_1 tables_1 room_1 Calls_1 rest_1 Pre_1 Post := by
  intro l hfl _ _ p e ha hc hk s m args below hf hA hF happ hP
  obtain ⟨hcalls, hrest, hpre⟩ := hP
  obtain ⟨-, -, -, hnamed, -, -, -, hat⟩ := (Spec.applies_iff hf).mp happ
  obtain ⟨hg, hn⟩ := and_e (Cond.before_iff.mp (show (Jvm.Cond.and given_1 narrow_1).before args s = true from hpre))
  obtain ⟨hg0, hgr0⟩ := and_e hg
  obtain ⟨hg1, hgr1⟩ := and_e hgr0
  obtain ⟨hg2, hgr2⟩ := and_e hgr1
  obtain ⟨w0, w1, w2, rfl⟩ : ∃ w0 w1 w2 : Value, args = #[w0, w1, w2] := by
    have hs : args.size = 3 := by simpa [Cond.value, given_1] using hg0
    obtain ⟨L⟩ := args
    match L, hs with
    | [w0, w1, w2], _ => exact ⟨w0, w1, w2, rfl⟩
  have hw := fun d (hd : d ∈ tables_1) => atoms_spec (ws := Jvm.Cond.code x code maxLocals ret :: tables_1) hat d (List.mem_cons_of_mem _ hd)
  have hfit : Fit s := fun {y c} hc i hi => by
    obtain ⟨ha, rfl⟩ := Array.getElem?_eq_some_iff.mp hc
    have q := List.all_eq_true.mp ((Array.all_eq_true_iff_forall_mem.mp hF) _ (Array.getElem_mem ha)) i (List.mem_range.mpr hi)
    simpa [Array.getElem?_eq_getElem hi] using q
  obtain ⟨i0, ei0⟩ := isL_v hg1
  obtain rfl : w0 = (.long i0) := Option.some.inj ei0
  obtain ⟨i1, ei1⟩ := isL_v hg2
  obtain rfl : w1 = (.long i1) := Option.some.inj ei1
  obtain ⟨i2, ei2⟩ := is_v hgr2
  obtain rfl : w2 = (.int i2) := Option.some.inj ei2
  obtain ⟨n, o, h1, h2, h3, _, L, rfl, ⟨rfl, N⟩, hq⟩ := own_rm0 l s _ hw tables_1 i0 i1 i2  s.heap s.heap.size (Nat.le_refl _)  p e ha hc hk s m _ below hf ((Spec.applies_iff_loose hf).mp happ).1 ⟨rfl, State.Warmed39.refl s, rfl⟩ trivial
  refine ⟨n, _, h1, h2, h3, hpost _ _ _ _ _ _ ⟨Cond.after_iff.mpr rfl, Cond.after_iff.mpr (eq_i res_at (Term.int_eval (1)) rfl), trivial⟩ ⟨hq.1, hq.2.1, (hq.2.2.sift fun y hy => Or.inr (N y hy)).mono (by decide) (by decide)⟩⟩
theorem main_1_1 : Claimed_1_1 := comes_1 fun _ _ _ _ _ _ h hF => ⟨h.1, hF⟩
theorem main_1_2 : Claimed_1_2 := comes_1 fun _ _ _ _ _ _ h hF => ⟨h.2.1, hF⟩
end Jvm.Pilot.@@N@@
namespace Jvm.Pilot.@@N@@
open Jvm Jvm.ClassFile Sem Op Lib Jvm.Free Jvm.Stand Jvm.Pilot.@@N@@.Jvm.D
/-! MADE BY PROGRAM (witnessworld.py) out of the Statement's table words and the real class files: 9 classes; the members and pool entries that the words name. The judged class is class 1, her method 1. -/
namespace start1
open Jvm.ClassFile
def u (s : String) : CpInfo := .utf8 (stringToUtf16 s)
/-- a pool by its gaps: so many unusable entries, then the entry; so many at the end -/
def gap : Nat → List CpInfo → List CpInfo
  | 0, r => r
  | n + 1, r => .unusable :: gap n r
def poolList (es : List (Nat × CpInfo)) (last : Nat) : List CpInfo := es.foldr (fun e r => gap e.1 (e.2 :: r)) (gap last [])
def pool (es : List (Nat × CpInfo)) (last : Nat) : Array CpInfo := ⟨poolList es last⟩
def fileOf (pool : Array CpInfo) (this : Nat) (attrs : Array Attribute := #[]) (ms : Array MethodInfo := #[]) (fl : Nat := 33) (sup : Nat := 0) (ifs : Array Nat := #[]) (fds : Array FieldInfo := #[]) : ClassFile where
  minorVersion := 0
  majorVersion := 65
  constantPool := pool
  accessFlags := fl
  thisClass := this
  superClass := sup
  interfaces := ifs
  fields := fds
  methods := ms
  attributes := attrs
def plain (name : String) (sup : Option ClassId) : Class where
  name := name
  kind := .ordinary
  loader := none
  accessFlags := 33
  super := sup
  interfaces := #[]
  cf := none
  fields := #[]
  methods := #[]
  instanceTypes := #[]
  staticTypes := #[]
  resolved := #[]
  callSites := []
  init := .initialized
  statics := none
  mirror := none

def pool0 : Array CpInfo := pool [(5, u "<init>"), (0, u "()V"), (1, .class_ 10), (1, u "java/lang/Object")] 113

def k0m0 : Method := { name := "<init>", desc := "()V", sig := { parameters := [], returnType := none }, accessFlags := 1, code := none }
/-- java/lang/Object -/
def k0 : Class := { plain "java/lang/Object" none with
  accessFlags := 33
  interfaces := #[]
  cf := some (fileOf pool0 8 #[] #[{ accessFlags := 1, nameIndex := 5, descriptorIndex := 6, attributes := #[] }] 33 0 #[] #[])
  fields := #[]
  methods := #[k0m0]
  instanceTypes := #[]
  staticTypes := #[]
  resolved := Array.replicate 124 none
  statics := none }

def pool1 : Array CpInfo := pool [(2, .class_ 4), (1, u "java/lang/Object"), (0, u "<init>"), (0, u "()V"), (2, .long 9223372036854775807), (1, .methodref 12 13), (0, .class_ 14), (0, .nameAndType 15 16), (0, u "com/example/mulligan/mulligan/MillisAfterPinLaw"), (0, u "expectedAfter"), (0, u "(JJ)J"), (0, .methodref 18 19), (0, .class_ 20), (0, .nameAndType 21 16), (0, u "com/example/mulligan/mulligan/Millis"), (0, u "after"), (2, u "law"), (0, u "(JJI)Z")] 3

def k1m0 : Method := { name := "<init>", desc := "()V", sig := { parameters := [], returnType := none }, accessFlags := 2, code := none }
def k1c1 : Code := { maxStack := 4, maxLocals := 11, code := code, exceptionTable := #[], attributes := #[] }
def k1m1 : Method := { name := "law", desc := "(JJI)Z", sig := { parameters := [.long, .long, .int], returnType := some .boolean }, accessFlags := 9, code := some k1c1 }
def k1c2 : Code := { maxStack := 4, maxLocals := 6, code := method_3_code, exceptionTable := #[], attributes := #[] }
def k1m2 : Method := { name := "expectedAfter", desc := "(JJ)J", sig := { parameters := [.long, .long], returnType := some .long }, accessFlags := 10, code := some k1c2 }
/-- com/example/mulligan/mulligan/MillisAfterPinLaw -/
def k1 : Class := { plain "com/example/mulligan/mulligan/MillisAfterPinLaw" (some 0) with
  accessFlags := 49
  interfaces := #[]
  cf := some (fileOf pool1 12 #[] #[{ accessFlags := 2, nameIndex := 5, descriptorIndex := 6, attributes := #[] }, { accessFlags := 9, nameIndex := 24, descriptorIndex := 25, attributes := #[] }, { accessFlags := 10, nameIndex := 15, descriptorIndex := 16, attributes := #[] }] 49 2 #[] #[])
  fields := #[]
  methods := #[k1m0, k1m1, k1m2]
  instanceTypes := #[]
  staticTypes := #[]
  resolved := Array.replicate 29 none
  statics := none }

def pool2 : Array CpInfo := pool [(2, .class_ 4), (1, u "java/lang/Object"), (0, u "<init>"), (0, u "()V"), (2, .long 9223372036854775807), (37, .class_ 48), (0, u "com/example/mulligan/mulligan/Millis"), (2, u "after"), (0, u "(JJ)J")] 25

def k2m0 : Method := { name := "<init>", desc := "()V", sig := { parameters := [], returnType := none }, accessFlags := 2, code := none }
def k2c1 : Code := { maxStack := 6, maxLocals := 4, code := prog_25_method_2_code, exceptionTable := #[], attributes := #[] }
def k2m1 : Method := { name := "after", desc := "(JJ)J", sig := { parameters := [.long, .long], returnType := some .long }, accessFlags := 8, code := some k2c1 }
/-- com/example/mulligan/mulligan/Millis -/
def k2 : Class := { plain "com/example/mulligan/mulligan/Millis" (some 0) with
  accessFlags := 48
  interfaces := #[]
  cf := some (fileOf pool2 47 #[] #[{ accessFlags := 2, nameIndex := 5, descriptorIndex := 6, attributes := #[] }, { accessFlags := 8, nameIndex := 51, descriptorIndex := 52, attributes := #[] }] 48 2 #[] #[])
  fields := #[]
  methods := #[k2m0, k2m1]
  instanceTypes := #[]
  staticTypes := #[]
  resolved := Array.replicate 78 none
  statics := none }

def pool3 : Array CpInfo := pool [(1, u "java/lang/Cloneable"), (0, .class_ 1), (0, u "java/lang/Object"), (0, .class_ 3)] 3

/-- java/lang/Cloneable -/
def k3 : Class := { plain "java/lang/Cloneable" (some 0) with
  accessFlags := 1537
  interfaces := #[]
  cf := some (fileOf pool3 2 #[] #[] 1537 4 #[] #[])
  fields := #[]
  methods := #[]
  instanceTypes := #[]
  staticTypes := #[]
  resolved := Array.replicate 8 none
  statics := none }

def pool4 : Array CpInfo := pool [(1, u "java/io/Serializable"), (0, .class_ 1), (0, u "java/lang/Object"), (0, .class_ 3)] 3

/-- java/io/Serializable -/
def k4 : Class := { plain "java/io/Serializable" (some 0) with
  accessFlags := 1537
  interfaces := #[]
  cf := some (fileOf pool4 2 #[] #[] 1537 4 #[] #[])
  fields := #[]
  methods := #[]
  instanceTypes := #[]
  staticTypes := #[]
  resolved := Array.replicate 8 none
  statics := none }

/-- the primitive byte -/
def k5 : Class := { plain "byte" none with kind := .primitive 'B', accessFlags := 0x411 }
/-- [B -/
def k6 : Class := { plain "[B" (some 0) with kind := .array 5 .byte, interfaces := #[3, 4], accessFlags := 1041 }

/-- the primitive int -/
def k7 : Class := { plain "int" none with kind := .primitive 'I', accessFlags := 0x411 }
/-- [I -/
def k8 : Class := { plain "[I" (some 0) with kind := .array 7 .int, interfaces := #[3, 4], accessFlags := 1041 }

def heap : Heap := #[]
def classes : Array Class := #[k0, k1, k2, k3, k4, k5, k6, k7, k8]
def interned : List (Array UInt16 × Addr) := []
def slotsUsed : Nat := 0
def theMethod : MethodId := ⟨1, 1⟩
def args0 : Array Value := #[.long 5, .long 7, .int 3]
def aboutOver (below : List Frame) : State where
  vm := { classes := classes, interned := interned.toArray }
  heap := heap
  slotsUsed := slotsUsed
  threads := #[{ frames := .invoking theMethod args0 :: below }]
def below0 : List Frame := [.native { method := ⟨0, 0⟩, args := #[] }]
def about1 : State := aboutOver below0
def p0 : Program := .bare "" "" ""
def e0 : Env := launch0.env 0 0 0
theorem w_frames : about1.frames = Frame.invoking theMethod args0 :: below0 := rfl
set_option maxRecDepth 65536 in
theorem w_args : argsFit about1.vm theMethod args0 = true := by decide +kernel
set_option maxRecDepth 65536 in
theorem w_heap : heapFits about1 = true := by decide +kernel
set_option maxRecDepth 65536 in
theorem w_runnable : about1.curStatus? = some .runnable := by decide +kernel
set_option maxRecDepth 65536 in
theorem w_alone : about1.alone = true := by decide +kernel
set_option maxRecDepth 65536 in
theorem w_named : about1.methodNamed? x = some theMethod := by decide +kernel
set_option maxRecDepth 65536 in
theorem w_hears : about1.hears theMethod below0 = true := by decide +kernel
set_option maxRecDepth 65536 in
theorem w_ripe : about1.ripe theMethod args0 below0 = true := by decide +kernel
theorem w_running : about1.status = .running := rfl
set_option maxRecDepth 65536 in
theorem w_room : about1.hasRoom e0.platform room_1 = true :=
  launch0.hasRoom_least _ room_1 (by decide +kernel) (by decide +kernel) (by decide +kernel) (by decide +kernel) (by decide +kernel) (by decide +kernel)
theorem allAtoms_all (ts : List Jvm.Cond) (a : Array Jvm.Value) (st : Jvm.State) : (allAtoms ts).before a st = ts.all (fun c => c.before a st) := by
  induction ts with
  | nil => rfl
  | cons c t ih =>
    show (Jvm.Cond.and c (allAtoms t)).before a st = _
    rw [Jvm.Cond.before_and, ih, List.all_cons]
def words1 : List Jvm.Cond := Jvm.Cond.code x code maxLocals ret :: tables_1
/-- a 'code' word, met by the world's own term for the bytes: nothing is compared byte by byte -/
theorem code_word {y : MethodName} {bytes : ByteArray} {mx : Nat} {rt : Option FieldType} {a : Array Value} {s : State} {m : MethodId} {meth : Method} {c : Code} (h1 : s.methodNamed? y = some m) (h2 : s.vm.method? m = some meth) (h3 : meth.code = some c) (h4 : c.code = bytes)
    (h5 : (c.maxLocals == mx && c.exceptionTable.isEmpty && decide (c.maxStack ≤ mostOperands) && decide (meth.sig.returnType = rt) && !meth.locks && decide (parseMethodDescriptor y.desc = some meth.sig)) = true) : (Jvm.Cond.code y bytes mx rt).before a s = true := by
  simp only [Bool.and_eq_true, beq_iff_eq, Bool.not_eq_true', decide_eq_true_eq] at h5
  obtain ⟨⟨⟨⟨⟨g1, g2⟩, g3⟩, g4⟩, g5⟩, g6⟩ := h5
  simp [Cond.before, Cond.holds, Cond.value, h1, h2, h3, h4, g1, g2, g3, g4, g5, g6]
def isCode : Jvm.Cond → Bool
  | .code _ _ _ _ => true
  | _ => false
theorem all_split {L : List Jvm.Cond} {P : Jvm.Cond → Bool} (h1 : L.all (fun c => isCode c || P c) = true) (h2 : ∀ c ∈ L.filter isCode, P c = true) : L.all P = true := by
  refine List.all_eq_true.mpr fun c hc => ?_
  have h := List.all_eq_true.mp h1 c hc
  rcases Bool.eq_false_or_eq_true (isCode c) with hi | hi
  · exact h2 c (List.mem_filter.mpr ⟨hc, hi⟩)
  · simpa [hi] using h
set_option maxRecDepth 65536 in
theorem w_c0 : (Jvm.Cond.code x code maxLocals ret).before args0 about1 = true := code_word (m := ⟨1, 1⟩) (meth := k1m1) (c := k1c1) (by decide +kernel) rfl rfl rfl (by decide +kernel)
set_option maxRecDepth 65536 in
theorem w_c1 : (Jvm.Cond.code ({ cls := "com/example/mulligan/mulligan/MillisAfterPinLaw", name := "expectedAfter", desc := "(JJ)J" } : Jvm.MethodName) method_3_code (6 : Nat) (Option.some Jvm.ClassFile.FieldType.long)).before args0 about1 = true := code_word (m := ⟨1, 2⟩) (meth := k1m2) (c := k1c2) (by decide +kernel) rfl rfl rfl (by decide +kernel)
set_option maxRecDepth 65536 in
theorem w_c2 : (Jvm.Cond.code ({ cls := "com/example/mulligan/mulligan/Millis", name := "after", desc := "(JJ)J" } : Jvm.MethodName) prog_25_method_2_code (4 : Nat) (Option.some Jvm.ClassFile.FieldType.long)).before args0 about1 = true := code_word (m := ⟨2, 1⟩) (meth := k2m1) (c := k2c1) (by decide +kernel) rfl rfl rfl (by decide +kernel)
def codes1 : List Jvm.Cond := [Jvm.Cond.code x code maxLocals ret, Jvm.Cond.code ({ cls := "com/example/mulligan/mulligan/MillisAfterPinLaw", name := "expectedAfter", desc := "(JJ)J" } : Jvm.MethodName) method_3_code (6 : Nat) (Option.some Jvm.ClassFile.FieldType.long), Jvm.Cond.code ({ cls := "com/example/mulligan/mulligan/Millis", name := "after", desc := "(JJ)J" } : Jvm.MethodName) prog_25_method_2_code (4 : Nat) (Option.some Jvm.ClassFile.FieldType.long)]
set_option maxRecDepth 65536 in
theorem codes_eq : words1.filter isCode = codes1 := rfl
theorem w_codes : ∀ c ∈ words1.filter isCode, c.before args0 about1 = true := by
  rw [codes_eq]
  intro c hc
  simp only [codes1, List.mem_cons, List.not_mem_nil, or_false] at hc
  rcases hc with rfl | rfl | rfl
  · exact w_c0
  · exact w_c1
  · exact w_c2
set_option maxRecDepth 65536 in
theorem w_t1 : words1.all (fun c => isCode c || c.before args0 about1) = true := by decide +kernel
theorem w_tables : (allAtoms (Jvm.Cond.code x code maxLocals ret :: tables_1)).before args0 about1 = true := by
  rw [allAtoms_all]
  show words1.all (fun c => c.before args0 about1) = true
  refine all_split ?_ w_codes
  rw [w_t1]
set_option maxRecDepth 65536 in
theorem w_case : (Jvm.Cond.and given_1 narrow_1).before args0 about1 = true := by decide +kernel
theorem w_applies : (headSpec (Jvm.Cond.code x code maxLocals ret :: tables_1) room_1).applies x e0.platform about1 = true :=
  (Spec.applies_iff w_frames).mpr ⟨w_running, w_runnable, w_alone, w_named, w_hears, w_ripe, w_room, w_tables⟩
theorem atStart : AtStart classFile x code maxLocals ret World_1 tables_1 room_1 Calls_1 rest_1 Pre_1 launch0 p0 e0 about1 theMethod args0 below0 :=
  ⟨lists_1, trivial, launch0.admits_env _ _ _, launch0.least_env, fairChoices_fair.cas, fairChoices_fair.clock, w_frames, w_args, w_heap, w_applies, trivial, trivial, w_case⟩
end start1
theorem witness_1 : WitnessClaimed_1 := ⟨start1.p0, start1.e0, start1.about1, start1.theMethod, start1.args0, start1.below0, start1.atStart⟩
end Jvm.Pilot.@@N@@
