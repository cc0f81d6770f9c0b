import JvmDerived
import JvmDerived.Pilot.@@N@@Statement
import JvmDerived.Pilot.@@N@@Code
set_option linter.unusedVariables false
set_option linter.unusedSimpArgs false
namespace Jvm.RoadKit
open Sem ClassFile Op Lib Jvm.Stand Jvm.Free Jvm.LawKit
section New
variable {p : Program} {l : Launch} {e : Env} {R : Room} {s : State} {m : MethodId} {args : Array Value} {below : List Frame} {meth : Method} {c : Code} {T : State} {locs : List Loc} {cells slots : Nat}
theorem retI (X : Stand p l e R s m args below meth c T locs cells slots) (hx : p.tables.exec = Jvm.exec) {pc : Nat} {Ls : Array Slot} {z : Int32} {rest : List Value} (hret : meth.sig.returnType = some .int) (hd : decode c.code pc = .ok (.ireturn, 1)) {fs : List Frame}
    (hl : ∀ (f : JFrame) (acts : List Action), f.method = m → f.locked = none → f.entered = [] → (doReturn e (T.setTop f) acts (some (.int z))).1 = T.setFrames fs) : Steps p.tables e below (T.setTop (mkF m pc Ls (.int z :: rest))) (T.setFrames fs) := by
  have hm' : T.vm.method? m = some meth := X.method'
  have hn : narrow .int (.int z) = .int z := rfl
  show Steps p.tables e below (T.setTop { method := m, pc := pc, locals := Ls, stack := _ :: rest, locked := none }) _
  jvm_step X.here [X.here.top, hx, hd, hm', hret, hn]
  first | (intro acts; rw [hl _ acts rfl rfl rfl]) | rw [hl _ _ rfl rfl rfl]
  exact Steps.refl _
end New
end Jvm.RoadKit
namespace Jvm.Pilot.@@N@@
open Jvm Jvm.ClassFile Sem Op Lib Jvm.Free Jvm.Stand Jvm.LawKit Jvm.RoadKit Bundle Jvm.Pilot.@@N@@.Jvm.D
/-- the run comes from A to some end of which R holds -/
def Goes (tb : Tables) (e : Env) (below : List Frame) (A : State) (R : State → Outcome → Prop) : Prop := ∃ t o, Steps tb e below A t ∧ R t o
theorem Goes.to {tb : Tables} {e : Env} {below : List Frame} {A B : State} {R : State → Outcome → Prop} (k : ∀ t, Steps tb e below A t → Steps tb e below B t) (h : Goes tb e below A R) : Goes tb e below B R := by
  obtain ⟨t, o, h1, h2⟩ := h
  exact ⟨t, o, k t h1, h2⟩
/-- how a body ends: it has returned, of value and heap Q holds, and no more than that many cells and slots are new -/
def own_R (below : List Frame) (s : State) (Q : Option Value → Heap → List Loc → Prop) (k n : Nat) : State → Outcome → Prop := fun s₂ o => s₂.status = .running ∧ Ended s₂ below o ∧ ∃ v L, o = .returned v ∧ Q v s₂.heap L ∧ FrameEnd s o s₂ L k n
theorem Goes.tr {tb : Tables} {e : Env} {below : List Frame} {A B : State} {R : State → Outcome → Prop} (k : Steps tb e below B A) (h : Goes tb e below A R) : Goes tb e below B R := Goes.to (fun _ z => k.trans z) h


theorem own_eqv {args : Array Value} {first s : State} {o : Option Outcome} {idx : List Nat} {t : Term} {k : Int32} (h : (Jvm.Cond.eq t (.int k)).value args first o s idx = some true) : t.eval args first o idx s = some (.int k) := by
  obtain ⟨x, y, h1, h2, k1, k2⟩ := cmp_v (Or.inl h)
  cases (Option.some.inj (h2.symm.trans (Term.int_eval k)))
  obtain ⟨z, rfl⟩ := k2
  have e : z = k := by
    have q := h
    simp [Jvm.Cond.value, h1, h2] at q
    exact q
  rw [h1, e]


def own_adm (u : Int32) (a b : Int64) : Int32 := if u = (0 : Int32) then (if a < b then 0 else 1) else (if b < a then 0 else 1)
theorem own_adm_bit (u : Int32) (a b : Int64) : own_adm u a b = 0 ∨ own_adm u a b = 1 := by
  unfold own_adm; split <;> split <;> simp

theorem d1_0 : decode prog_7_method_7_code 0 = .ok (.aload_n 0, 1) := by decide +kernel
theorem d1_1 : decode prog_7_method_7_code 1 = .ok (.getfield 52, 3) := by decide +kernel
theorem d1_4 : decode prog_7_method_7_code 4 = .ok (.ifCond .eq 17, 3) := by decide +kernel
theorem d1_7 : decode prog_7_method_7_code 7 = .ok (.lload_n 1, 1) := by decide +kernel
theorem d1_8 : decode prog_7_method_7_code 8 = .ok (.lload_n 3, 1) := by decide +kernel
theorem d1_9 : decode prog_7_method_7_code 9 = .ok (.lcmp, 1) := by decide +kernel
theorem d1_10 : decode prog_7_method_7_code 10 = .ok (.ifCond .gt 7, 3) := by decide +kernel
theorem d1_13 : decode prog_7_method_7_code 13 = .ok (.iconst 1, 1) := by decide +kernel
theorem d1_14 : decode prog_7_method_7_code 14 = .ok (.goto 18, 3) := by decide +kernel
theorem d1_17 : decode prog_7_method_7_code 17 = .ok (.iconst 0, 1) := by decide +kernel
theorem d1_18 : decode prog_7_method_7_code 18 = .ok (.goto 14, 3) := by decide +kernel
theorem d1_21 : decode prog_7_method_7_code 21 = .ok (.lload_n 1, 1) := by decide +kernel
theorem d1_22 : decode prog_7_method_7_code 22 = .ok (.lload_n 3, 1) := by decide +kernel
theorem d1_23 : decode prog_7_method_7_code 23 = .ok (.lcmp, 1) := by decide +kernel
theorem d1_24 : decode prog_7_method_7_code 24 = .ok (.ifCond .lt 7, 3) := by decide +kernel
theorem d1_27 : decode prog_7_method_7_code 27 = .ok (.iconst 1, 1) := by decide +kernel
theorem d1_28 : decode prog_7_method_7_code 28 = .ok (.goto 4, 3) := by decide +kernel
theorem d1_31 : decode prog_7_method_7_code 31 = .ok (.iconst 0, 1) := by decide +kernel
theorem d1_32 : decode prog_7_method_7_code 32 = .ok (.ireturn, 1) := by decide +kernel
theorem own_pn_1 : plainName "com/example/unipar/unipar/Constraints$Size" = true := by first | (simp [plainName, overriddenIn]; done) | decide +kernel
theorem own_ef_own_rm1 (m : MethodId) (x0 : Addr) (x1 : Int64) (x2 : Int64) : entryFrame m #[(.ref x0), (.long x1), (.long x2)] 5 = mkF m 0 #[.val (.ref x0), .val (.long x1), .second, .val (.long x2), .second] [] := by first | (simp [entryFrame, mkF, argsToLocals, Value.category]; done) | rfl
def own_Q_own_rm1 (Z : State) (x0 : Addr) (x1 : Int64) (x2 : Int64) (u : Int32) (h0 : Heap) (n0 : Nat) (v : Option Value) (h : Heap) (L : List Loc) : Prop := v = some (.int (own_adm u x1 x2)) ∧ Fr n0 L ∧ h = h0
set_option maxRecDepth 65536 in
set_option maxHeartbeats 40000000 in
theorem own_rm1 (l : Launch) (Z : State) (a0 : Array Value) (hw : ∀ d ∈ tables_1, d.before a0 Z = true) (ws : List Jvm.Cond) (x0 : Addr) (x1 : Int64) (x2 : Int64) (u : Int32) (h0 : Heap) (n0 : Nat) (Z0 : n0 ≤ h0.size) (FU : Fld Z h0 x0 "com/example/unipar/unipar/Constraints$Size" "upper" "Z" (.int u)) :
    MetFree l (⟨"com/example/unipar/unipar/Constraints$Size", "admits", "(JJ)Z"⟩ : MethodName) (head1 (Jvm.Cond.code (⟨"com/example/unipar/unipar/Constraints$Size", "admits", "(JJ)Z"⟩ : MethodName) prog_7_method_7_code 5 (some .boolean) :: ws) ({ frames := 0, cells := 0, slots := 0, locals := 0 } : Room)) (fun a U => a = #[(.ref x0), (.long x1), (.long x2)] ∧ Z.Warmed39 U.vm ∧ U.heap = h0) (fun _ _ _ _ _ => True) (fun _ U o U' => ∃ v L, o = .returned v ∧ own_Q_own_rm1 Z x0 x1 x2 u h0 n0 v U'.heap L ∧ FrameEnd U o U' L ({ frames := 0, cells := 0, slots := 0, locals := 0 } : Room).cells ({ frames := 0, cells := 0, slots := 0, locals := 0 } : Room).slots) := by
  refine MetFree.of_bodySF (plainFor_of_name own_pn_1) hisR ?_
  intro p e s m args below meth c s₁ Bd hml0 hP hK
  obtain ⟨rfl, hZ, hh⟩ := hP
  have hx := Bd.exec
  have hby := Bd.bytes
  have hml : c.maxLocals = 5 := hml0
  have hown : s.vm.findClass "com/example/unipar/unipar/Constraints$Size" = some m.cls := findClass_of_methodNamed Bd.named
  have hnm := (name_of_methodNamed Bd.named Bd.method).1
  have X0 : Stand p l e ({ frames := 0, cells := 0, slots := 0, locals := 0 } : Room) s m #[(.ref x0), (.long x1), (.long x2)] below meth c s₁ [] 0 0 := Stand.of_body Bd
  have e0 : s₁.heap = h0 := by rw [← hh, Bd.state]; rfl
  have N0 := Fr.nil n0
  show Goes p.tables e below _ (own_R below s (own_Q_own_rm1 Z x0 x1 x2 u h0 n0) ({ frames := 0, cells := 0, slots := 0, locals := 0 } : Room).cells ({ frames := 0, cells := 0, slots := 0, locals := 0 } : Room).slots)
  refine Goes.to (fun t k => castTop (own_ef_own_rm1 m x0 x1 x2) k) ?_
  show Goes p.tables e below (s₁.setTop (mkF m 0 #[.val (.ref x0), .val (.long x1), .second, .val (.long x2), .second] [])) _
  refine Goes.to (fun _ k => XS.aloadN X0.here hx rfl (hb hby d1_0) rfl rfl k) ?_
  show Goes p.tables e below (s₁.setTop (mkF m 1 #[.val (.ref x0), .val (.long x1), .second, .val (.long x2), .second] [(.ref x0)])) _
  obtain ⟨T1, X1, e1, st1⟩ := getF X0 hx hZ hown (host := "") (Or.inl (hw _ (List.mem_of_getElem? (i := 9) rfl))) Via.refl e0 FU (g := (mkF m 1 #[.val (.ref x0), .val (.long x1), .second, .val (.long x2), .second] [(.ref x0)])) rfl rfl (hb hby d1_1)
  refine Goes.to st1 ?_
  show Goes p.tables e below (T1.setTop (mkF m 4 #[.val (.ref x0), .val (.long x1), .second, .val (.long x2), .second] [(.int u)])) _
  by_cases hc2 : u = (0 : Int32)
  · refine Goes.to (fun _ k => XS.ifYes X1.here hx rfl (pc0 := 4) (pc' := 21) rfl (hb hby d1_4) rfl ((if0 _ _).trans (teq hc2).1) (by decide) (by decide) k) ?_
    show Goes p.tables e below (T1.setTop (mkF m 21 #[.val (.ref x0), .val (.long x1), .second, .val (.long x2), .second] [])) _
    refine Goes.to (fun _ k => XS.lloadN X1.here hx rfl (hb hby d1_21) rfl k) ?_
    show Goes p.tables e below (T1.setTop (mkF m 22 #[.val (.ref x0), .val (.long x1), .second, .val (.long x2), .second] [(.long x1)])) _
    refine Goes.to (fun _ k => XS.lloadN X1.here hx rfl (hb hby d1_22) rfl k) ?_
    show Goes p.tables e below (T1.setTop (mkF m 23 #[.val (.ref x0), .val (.long x1), .second, .val (.long x2), .second] [(.long x2), (.long x1)])) _
    refine Goes.to (fun _ k => XS.lcmp X1.here hx rfl (hb hby d1_23) rfl k) ?_
    show Goes p.tables e below (T1.setTop (mkF m 24 #[.val (.ref x0), .val (.long x1), .second, .val (.long x2), .second] [(.int (lcmpW x1 x2))])) _
    by_cases hc3 : x1 < x2
    · refine Goes.to (fun _ k => XS.ifYes X1.here hx rfl (pc0 := 24) (pc' := 31) rfl (hb hby d1_24) rfl ((if0 _ _).trans (tlt ((lw_lt x1 x2).mpr hc3)).1) (by decide) (by decide) k) ?_
      show Goes p.tables e below (T1.setTop (mkF m 31 #[.val (.ref x0), .val (.long x1), .second, .val (.long x2), .second] [])) _
      refine Goes.to (fun _ k => XS.iconst X1.here hx rfl (hb hby d1_31) k) ?_
      show Goes p.tables e below (T1.setTop (mkF m 32 #[.val (.ref x0), .val (.long x1), .second, .val (.long x2), .second] [(.int (0 : Int32))])) _
      obtain ⟨fs, hr, hrun, hended, hW, hsame⟩ := X1.leave (v := some (.int (0 : Int32))) (fun h => by rw [Bd.returns] at h; cases h)
      have hv : (some (.int (0 : Int32)) : Option Value) = some (.int (own_adm u x1 x2)) := by
        rw [own_adm, if_pos hc2, if_pos hc3]
      exact ⟨_, _, retN X1 hx (t := .boolean) Bd.returns (by simp) (hb hby d1_32) hr, hrun, hended, _, _, rfl, ⟨hv, N0, e1⟩, ⟨_, rfl⟩, hW, hsame.mono (by decide) (by decide)⟩
    · refine Goes.to (fun _ k => XS.ifNo X1.here hx rfl (hb hby d1_24) rfl ((if0 _ _).trans (flt (fun q => hc3 ((lw_lt x1 x2).mp q))).1) k) ?_
      show Goes p.tables e below (T1.setTop (mkF m 27 #[.val (.ref x0), .val (.long x1), .second, .val (.long x2), .second] [])) _
      refine Goes.to (fun _ k => XS.iconst X1.here hx rfl (hb hby d1_27) k) ?_
      show Goes p.tables e below (T1.setTop (mkF m 28 #[.val (.ref x0), .val (.long x1), .second, .val (.long x2), .second] [(.int (1 : Int32))])) _
      refine Goes.to (fun _ k => XS.goto X1.here hx rfl (pc0 := 28) (pc' := 32) rfl (hb hby d1_28) (by decide) (by decide) k) ?_
      show Goes p.tables e below (T1.setTop (mkF m 32 #[.val (.ref x0), .val (.long x1), .second, .val (.long x2), .second] [(.int (1 : Int32))])) _
      obtain ⟨fs, hr, hrun, hended, hW, hsame⟩ := X1.leave (v := some (.int (1 : Int32))) (fun h => by rw [Bd.returns] at h; cases h)
      have hv : (some (.int (1 : Int32)) : Option Value) = some (.int (own_adm u x1 x2)) := by
        rw [own_adm, if_pos hc2, if_neg hc3]
      exact ⟨_, _, retN X1 hx (t := .boolean) Bd.returns (by simp) (hb hby d1_32) hr, hrun, hended, _, _, rfl, ⟨hv, N0, e1⟩, ⟨_, rfl⟩, hW, hsame.mono (by decide) (by decide)⟩
  · refine Goes.to (fun _ k => XS.ifNo X1.here hx rfl (hb hby d1_4) rfl ((if0 _ _).trans (feq hc2).1) k) ?_
    show Goes p.tables e below (T1.setTop (mkF m 7 #[.val (.ref x0), .val (.long x1), .second, .val (.long x2), .second] [])) _
    refine Goes.to (fun _ k => XS.lloadN X1.here hx rfl (hb hby d1_7) rfl k) ?_
    show Goes p.tables e below (T1.setTop (mkF m 8 #[.val (.ref x0), .val (.long x1), .second, .val (.long x2), .second] [(.long x1)])) _
    refine Goes.to (fun _ k => XS.lloadN X1.here hx rfl (hb hby d1_8) rfl k) ?_
    show Goes p.tables e below (T1.setTop (mkF m 9 #[.val (.ref x0), .val (.long x1), .second, .val (.long x2), .second] [(.long x2), (.long x1)])) _
    refine Goes.to (fun _ k => XS.lcmp X1.here hx rfl (hb hby d1_9) rfl k) ?_
    show Goes p.tables e below (T1.setTop (mkF m 10 #[.val (.ref x0), .val (.long x1), .second, .val (.long x2), .second] [(.int (lcmpW x1 x2))])) _
    by_cases hc4 : x2 < x1
    · refine Goes.to (fun _ k => XS.ifYes X1.here hx rfl (pc0 := 10) (pc' := 17) rfl (hb hby d1_10) rfl ((if0 _ _).trans (tlt ((lw_gt x1 x2).mpr hc4)).2.2.1) (by decide) (by decide) k) ?_
      show Goes p.tables e below (T1.setTop (mkF m 17 #[.val (.ref x0), .val (.long x1), .second, .val (.long x2), .second] [])) _
      refine Goes.to (fun _ k => XS.iconst X1.here hx rfl (hb hby d1_17) k) ?_
      show Goes p.tables e below (T1.setTop (mkF m 18 #[.val (.ref x0), .val (.long x1), .second, .val (.long x2), .second] [(.int (0 : Int32))])) _
      refine Goes.to (fun _ k => XS.goto X1.here hx rfl (pc0 := 18) (pc' := 32) rfl (hb hby d1_18) (by decide) (by decide) k) ?_
      show Goes p.tables e below (T1.setTop (mkF m 32 #[.val (.ref x0), .val (.long x1), .second, .val (.long x2), .second] [(.int (0 : Int32))])) _
      obtain ⟨fs, hr, hrun, hended, hW, hsame⟩ := X1.leave (v := some (.int (0 : Int32))) (fun h => by rw [Bd.returns] at h; cases h)
      have hv : (some (.int (0 : Int32)) : Option Value) = some (.int (own_adm u x1 x2)) := by
        rw [own_adm, if_neg hc2, if_pos hc4]
      exact ⟨_, _, retN X1 hx (t := .boolean) Bd.returns (by simp) (hb hby d1_32) hr, hrun, hended, _, _, rfl, ⟨hv, N0, e1⟩, ⟨_, rfl⟩, hW, hsame.mono (by decide) (by decide)⟩
    · refine Goes.to (fun _ k => XS.ifNo X1.here hx rfl (hb hby d1_10) rfl ((if0 _ _).trans (flt (fun q => hc4 ((lw_gt x1 x2).mp q))).2.2.1) k) ?_
      show Goes p.tables e below (T1.setTop (mkF m 13 #[.val (.ref x0), .val (.long x1), .second, .val (.long x2), .second] [])) _
      refine Goes.to (fun _ k => XS.iconst X1.here hx rfl (hb hby d1_13) k) ?_
      show Goes p.tables e below (T1.setTop (mkF m 14 #[.val (.ref x0), .val (.long x1), .second, .val (.long x2), .second] [(.int (1 : Int32))])) _
      refine Goes.to (fun _ k => XS.goto X1.here hx rfl (pc0 := 14) (pc' := 32) rfl (hb hby d1_14) (by decide) (by decide) k) ?_
      show Goes p.tables e below (T1.setTop (mkF m 32 #[.val (.ref x0), .val (.long x1), .second, .val (.long x2), .second] [(.int (1 : Int32))])) _
      obtain ⟨fs, hr, hrun, hended, hW, hsame⟩ := X1.leave (v := some (.int (1 : Int32))) (fun h => by rw [Bd.returns] at h; cases h)
      have hv : (some (.int (1 : Int32)) : Option Value) = some (.int (own_adm u x1 x2)) := by
        rw [own_adm, if_neg hc2, if_neg hc4]
      exact ⟨_, _, retN X1 hx (t := .boolean) Bd.returns (by simp) (hb hby d1_32) hr, hrun, hended, _, _, rfl, ⟨hv, N0, e1⟩, ⟨_, rfl⟩, hW, hsame.mono (by decide) (by decide)⟩

theorem own_pd_pJJqZ : parseMethodDescriptor "(JJ)Z" = some ⟨[.long, .long], some .boolean⟩ := by decide +kernel
theorem own_pn_0 : plainName "com/example/unipar/unipar/SizeAdmitsPinLaw" = true := by first | (simp [plainName, overriddenIn]; done) | decide +kernel
theorem own_ef_own_rm0 (m : MethodId) (x0 : Int32) (x1 : Int64) (x2 : Int64) : entryFrame m #[(.int x0), (.long x1), (.long x2)] maxLocals = mkF m 0 #[.val (.int x0), .val (.long x1), .second, .val (.long x2), .second, .unset, .unset, .unset, .unset, .unset] [] := by first | (simp [entryFrame, mkF, argsToLocals, Value.category, maxLocals]; done) | rfl
def own_Q_own_rm0 (Z : State) (x0 : Int32) (x1 : Int64) (x2 : Int64) (a_Constraints_Size_MIN_LENGTH : Addr) (a_Constraints_Size_MIN_PROPERTIES : Addr) (a_Constraints_Size_MAX_ITEMS : Addr) (a_Constraints_Size_MIN_ITEMS : Addr) (a_Constraints_Size_MAX_LENGTH : Addr) (a_Constraints_Size_MAX_PROPERTIES : Addr) (h0 : Heap) (n0 : Nat) (v : Option Value) (h : Heap) (L : List Loc) : Prop := v = some (.int (1 : Int32)) ∧ Fr n0 L
set_option maxRecDepth 65536 in
set_option maxHeartbeats 40000000 in
theorem own_rm0 (l : Launch) (Z : State) (a0 : Array Value) (hw : ∀ d ∈ tables_1, d.before a0 Z = true) (ws : List Jvm.Cond) (x0 : Int32) (x1 : Int64) (x2 : Int64) (a_Constraints_Size_MIN_LENGTH : Addr) (a_Constraints_Size_MIN_PROPERTIES : Addr) (a_Constraints_Size_MAX_ITEMS : Addr) (a_Constraints_Size_MIN_ITEMS : Addr) (a_Constraints_Size_MAX_LENGTH : Addr) (a_Constraints_Size_MAX_PROPERTIES : Addr) (h0 : Heap) (n0 : Nat) (Z0 : n0 ≤ h0.size) (O0 : Old Z n0 h0) (S_Constraints_Size_MIN_LENGTH : Sta Z Z.heap "com/example/unipar/unipar/Constraints$Size" "MIN_LENGTH" "Lcom/example/unipar/unipar/Constraints$Size;" (.ref a_Constraints_Size_MIN_LENGTH)) (E_Constraints_Size_MIN_LENGTH : Exa Z Z.heap a_Constraints_Size_MIN_LENGTH "com/example/unipar/unipar/Constraints$Size") (S_Constraints_Size_MIN_PROPERTIES : Sta Z Z.heap "com/example/unipar/unipar/Constraints$Size" "MIN_PROPERTIES" "Lcom/example/unipar/unipar/Constraints$Size;" (.ref a_Constraints_Size_MIN_PROPERTIES)) (E_Constraints_Size_MIN_PROPERTIES : Exa Z Z.heap a_Constraints_Size_MIN_PROPERTIES "com/example/unipar/unipar/Constraints$Size") (S_Constraints_Size_MAX_ITEMS : Sta Z Z.heap "com/example/unipar/unipar/Constraints$Size" "MAX_ITEMS" "Lcom/example/unipar/unipar/Constraints$Size;" (.ref a_Constraints_Size_MAX_ITEMS)) (E_Constraints_Size_MAX_ITEMS : Exa Z Z.heap a_Constraints_Size_MAX_ITEMS "com/example/unipar/unipar/Constraints$Size") (S_Constraints_Size_MIN_ITEMS : Sta Z Z.heap "com/example/unipar/unipar/Constraints$Size" "MIN_ITEMS" "Lcom/example/unipar/unipar/Constraints$Size;" (.ref a_Constraints_Size_MIN_ITEMS)) (E_Constraints_Size_MIN_ITEMS : Exa Z Z.heap a_Constraints_Size_MIN_ITEMS "com/example/unipar/unipar/Constraints$Size") (S_Constraints_Size_MAX_LENGTH : Sta Z Z.heap "com/example/unipar/unipar/Constraints$Size" "MAX_LENGTH" "Lcom/example/unipar/unipar/Constraints$Size;" (.ref a_Constraints_Size_MAX_LENGTH)) (E_Constraints_Size_MAX_LENGTH : Exa Z Z.heap a_Constraints_Size_MAX_LENGTH "com/example/unipar/unipar/Constraints$Size") (S_Constraints_Size_MAX_PROPERTIES : Sta Z Z.heap "com/example/unipar/unipar/Constraints$Size" "MAX_PROPERTIES" "Lcom/example/unipar/unipar/Constraints$Size;" (.ref a_Constraints_Size_MAX_PROPERTIES)) (E_Constraints_Size_MAX_PROPERTIES : Exa Z Z.heap a_Constraints_Size_MAX_PROPERTIES "com/example/unipar/unipar/Constraints$Size") (F_Constraints_Size_MIN_LENGTH_upper : Fld Z Z.heap a_Constraints_Size_MIN_LENGTH "com/example/unipar/unipar/Constraints$Size" "upper" "Z" (.int (0 : Int32))) (F_Constraints_Size_MIN_PROPERTIES_upper : Fld Z Z.heap a_Constraints_Size_MIN_PROPERTIES "com/example/unipar/unipar/Constraints$Size" "upper" "Z" (.int (0 : Int32))) (F_Constraints_Size_MAX_ITEMS_upper : Fld Z Z.heap a_Constraints_Size_MAX_ITEMS "com/example/unipar/unipar/Constraints$Size" "upper" "Z" (.int (1 : Int32))) (F_Constraints_Size_MIN_ITEMS_upper : Fld Z Z.heap a_Constraints_Size_MIN_ITEMS "com/example/unipar/unipar/Constraints$Size" "upper" "Z" (.int (0 : Int32))) (F_Constraints_Size_MAX_LENGTH_upper : Fld Z Z.heap a_Constraints_Size_MAX_LENGTH "com/example/unipar/unipar/Constraints$Size" "upper" "Z" (.int (1 : Int32))) (F_Constraints_Size_MAX_PROPERTIES_upper : Fld Z Z.heap a_Constraints_Size_MAX_PROPERTIES "com/example/unipar/unipar/Constraints$Size" "upper" "Z" (.int (1 : Int32))) :
    MetFree l x (head1 (Jvm.Cond.code x code maxLocals ret :: ws) room_1) (fun a U => a = #[(.int x0), (.long x1), (.long x2)] ∧ Z.Warmed39 U.vm ∧ U.heap = h0) (fun _ _ _ _ _ => True) (fun _ U o U' => ∃ v L, o = .returned v ∧ own_Q_own_rm0 Z x0 x1 x2 a_Constraints_Size_MIN_LENGTH a_Constraints_Size_MIN_PROPERTIES a_Constraints_Size_MAX_ITEMS a_Constraints_Size_MIN_ITEMS a_Constraints_Size_MAX_LENGTH a_Constraints_Size_MAX_PROPERTIES h0 n0 v U'.heap L ∧ FrameEnd U o U' L 0 0) := by
  refine MetFree.of_bodySF (plainFor_of_name own_pn_0) hisR ?_
  intro p e s m args below meth c s₁ Bd hml0 hP hK
  obtain ⟨rfl, hZ, hh⟩ := hP
  have hx := Bd.exec
  have hby := Bd.bytes
  have hml : c.maxLocals = 10 := hml0
  have hown : s.vm.findClass "com/example/unipar/unipar/SizeAdmitsPinLaw" = some m.cls := findClass_of_methodNamed Bd.named
  have hnm := (name_of_methodNamed Bd.named Bd.method).1
  have X0 : Stand p l e room_1 s m #[(.int x0), (.long x1), (.long x2)] below meth c s₁ [] 0 0 := Stand.of_body Bd
  have e0 : s₁.heap = h0 := by rw [← hh, Bd.state]; rfl
  have N0 := Fr.nil n0
  show Goes p.tables e below _ (own_R below s (own_Q_own_rm0 Z x0 x1 x2 a_Constraints_Size_MIN_LENGTH a_Constraints_Size_MIN_PROPERTIES a_Constraints_Size_MAX_ITEMS a_Constraints_Size_MIN_ITEMS a_Constraints_Size_MAX_LENGTH a_Constraints_Size_MAX_PROPERTIES h0 n0) 0 0)
  refine Goes.to (fun t k => castTop (own_ef_own_rm0 m x0 x1 x2) k) ?_
  show Goes p.tables e below (s₁.setTop (mkF m 0 #[.val (.int x0), .val (.long x1), .second, .val (.long x2), .second, .unset, .unset, .unset, .unset, .unset] [])) _
  refine Goes.to (fun _ k => XS.iloadN X0.here hx rfl (hb hby at_0) rfl k) ?_
  show Goes p.tables e below (s₁.setTop (mkF m 1 #[.val (.int x0), .val (.long x1), .second, .val (.long x2), .second, .unset, .unset, .unset, .unset, .unset] [(.int x0)])) _
  refine Goes.to (fun _ k => X0.ldcInt hx hown (mvT hZ (hw _ (List.mem_of_getElem? (i := 0) rfl))) (g := (mkF m 1 #[.val (.int x0), .val (.long x1), .second, .val (.long x2), .second, .unset, .unset, .unset, .unset, .unset] [(.int x0)])) rfl (hb hby at_1) _ k) ?_
  show Goes p.tables e below (s₁.setTop (mkF m 3 #[.val (.int x0), .val (.long x1), .second, .val (.long x2), .second, .unset, .unset, .unset, .unset, .unset] [(.int (2147483647 : Int32)), (.int x0)])) _
  refine Goes.to (fun _ k => XS.iand X0.here hx rfl (hb hby at_3) rfl k) ?_
  show Goes p.tables e below (s₁.setTop (mkF m 4 #[.val (.int x0), .val (.long x1), .second, .val (.long x2), .second, .unset, .unset, .unset, .unset, .unset] [(.int (x0 &&& (2147483647 : Int32)))])) _
  refine Goes.to (fun _ k => XS.bipush X0.here hx rfl (hb hby at_4) k) ?_
  show Goes p.tables e below (s₁.setTop (mkF m 6 #[.val (.int x0), .val (.long x1), .second, .val (.long x2), .second, .unset, .unset, .unset, .unset, .unset] [(.int (6 : Int32)), (.int (x0 &&& (2147483647 : Int32)))])) _
  refine Goes.to (fun _ k => Jvm.RoadKit.iremM X0 hx rfl (hb hby at_6) rfl (by decide) k) ?_
  show Goes p.tables e below (s₁.setTop (mkF m 7 #[.val (.int x0), .val (.long x1), .second, .val (.long x2), .second, .unset, .unset, .unset, .unset, .unset] [(.int ((x0 &&& (2147483647 : Int32)) % (6 : Int32)))])) _
  refine Goes.to (fun _ k => XS.istore X0.here hx rfl (hb hby at_7) rfl (l' := #[.val (.int x0), .val (.long x1), .second, .val (.long x2), .second, .val (.int ((x0 &&& (2147483647 : Int32)) % (6 : Int32))), .unset, .unset, .unset, .unset]) rfl k) ?_
  show Goes p.tables e below (s₁.setTop (mkF m 9 #[.val (.int x0), .val (.long x1), .second, .val (.long x2), .second, .val (.int ((x0 &&& (2147483647 : Int32)) % (6 : Int32))), .unset, .unset, .unset, .unset] [])) _
  refine Goes.to (fun _ k => XS.iload X0.here hx rfl (hb hby at_9) rfl k) ?_
  show Goes p.tables e below (s₁.setTop (mkF m 11 #[.val (.int x0), .val (.long x1), .second, .val (.long x2), .second, .val (.int ((x0 &&& (2147483647 : Int32)) % (6 : Int32))), .unset, .unset, .unset, .unset] [(.int ((x0 &&& (2147483647 : Int32)) % (6 : Int32)))])) _
  by_cases hc1 : ((x0 &&& (2147483647 : Int32)) % (6 : Int32)) = (0 : Int32)
  · refine Goes.to (fun _ k => XS.ifNo X0.here hx rfl (hb hby at_11) rfl ((if0 _ _).trans (teq hc1).2) k) ?_
    show Goes p.tables e below (s₁.setTop (mkF m 14 #[.val (.int x0), .val (.long x1), .second, .val (.long x2), .second, .val (.int ((x0 &&& (2147483647 : Int32)) % (6 : Int32))), .unset, .unset, .unset, .unset] [])) _
    obtain ⟨T2, X2, e2, st2⟩ := getS2 X0 hx hZ hown (host := "") (Or.inl (hw _ (List.mem_of_getElem? (i := 1) rfl))) Via.refl e0 (S_Constraints_Size_MIN_LENGTH.ext O0.2) (g := (mkF m 14 #[.val (.int x0), .val (.long x1), .second, .val (.long x2), .second, .val (.int ((x0 &&& (2147483647 : Int32)) % (6 : Int32))), .unset, .unset, .unset, .unset] [])) rfl (hb hby at_14)
    refine Goes.to st2 ?_
    show Goes p.tables e below (T2.setTop (mkF m 17 #[.val (.int x0), .val (.long x1), .second, .val (.long x2), .second, .val (.int ((x0 &&& (2147483647 : Int32)) % (6 : Int32))), .unset, .unset, .unset, .unset] [(.ref a_Constraints_Size_MIN_LENGTH)])) _
    refine Goes.to (fun _ k => XS.astore X2.here hx rfl (hb hby at_17) rfl rfl (l' := #[.val (.int x0), .val (.long x1), .second, .val (.long x2), .second, .val (.int ((x0 &&& (2147483647 : Int32)) % (6 : Int32))), .val (.ref a_Constraints_Size_MIN_LENGTH), .unset, .unset, .unset]) rfl k) ?_
    show Goes p.tables e below (T2.setTop (mkF m 19 #[.val (.int x0), .val (.long x1), .second, .val (.long x2), .second, .val (.int ((x0 &&& (2147483647 : Int32)) % (6 : Int32))), .val (.ref a_Constraints_Size_MIN_LENGTH), .unset, .unset, .unset] [])) _
    refine Goes.to (fun _ k => XS.iconst X2.here hx rfl (hb hby at_19) k) ?_
    show Goes p.tables e below (T2.setTop (mkF m 20 #[.val (.int x0), .val (.long x1), .second, .val (.long x2), .second, .val (.int ((x0 &&& (2147483647 : Int32)) % (6 : Int32))), .val (.ref a_Constraints_Size_MIN_LENGTH), .unset, .unset, .unset] [(.int (0 : Int32))])) _
    refine Goes.to (fun _ k => XS.istore X2.here hx rfl (hb hby at_20) rfl (l' := #[.val (.int x0), .val (.long x1), .second, .val (.long x2), .second, .val (.int ((x0 &&& (2147483647 : Int32)) % (6 : Int32))), .val (.ref a_Constraints_Size_MIN_LENGTH), .val (.int (0 : Int32)), .unset, .unset]) rfl k) ?_
    show Goes p.tables e below (T2.setTop (mkF m 22 #[.val (.int x0), .val (.long x1), .second, .val (.long x2), .second, .val (.int ((x0 &&& (2147483647 : Int32)) % (6 : Int32))), .val (.ref a_Constraints_Size_MIN_LENGTH), .val (.int (0 : Int32)), .unset, .unset] [])) _
    refine Goes.to (fun _ k => XS.goto X2.here hx rfl (pc0 := 22) (pc' := 101) rfl (hb hby at_22) (by decide) (by decide) k) ?_
    show Goes p.tables e below (T2.setTop (mkF m 101 #[.val (.int x0), .val (.long x1), .second, .val (.long x2), .second, .val (.int ((x0 &&& (2147483647 : Int32)) % (6 : Int32))), .val (.ref a_Constraints_Size_MIN_LENGTH), .val (.int (0 : Int32)), .unset, .unset] [])) _
    refine Goes.to (fun _ k => XS.aload X2.here hx rfl (hb hby at_101) rfl rfl k) ?_
    show Goes p.tables e below (T2.setTop (mkF m 103 #[.val (.int x0), .val (.long x1), .second, .val (.long x2), .second, .val (.int ((x0 &&& (2147483647 : Int32)) % (6 : Int32))), .val (.ref a_Constraints_Size_MIN_LENGTH), .val (.int (0 : Int32)), .unset, .unset] [(.ref a_Constraints_Size_MIN_LENGTH)])) _
    refine Goes.to (fun _ k => XS.lloadN X2.here hx rfl (hb hby at_103) rfl k) ?_
    show Goes p.tables e below (T2.setTop (mkF m 104 #[.val (.int x0), .val (.long x1), .second, .val (.long x2), .second, .val (.int ((x0 &&& (2147483647 : Int32)) % (6 : Int32))), .val (.ref a_Constraints_Size_MIN_LENGTH), .val (.int (0 : Int32)), .unset, .unset] [(.long x1), (.ref a_Constraints_Size_MIN_LENGTH)])) _
    refine Goes.to (fun _ k => XS.lloadN X2.here hx rfl (hb hby at_104) rfl k) ?_
    show Goes p.tables e below (T2.setTop (mkF m 105 #[.val (.int x0), .val (.long x1), .second, .val (.long x2), .second, .val (.int ((x0 &&& (2147483647 : Int32)) % (6 : Int32))), .val (.ref a_Constraints_Size_MIN_LENGTH), .val (.int (0 : Int32)), .unset, .unset] [(.long x2), (.long x1), (.ref a_Constraints_Size_MIN_LENGTH)])) _
    obtain ⟨cq3, kq3, q3a, q3b, q3c⟩ := isOf hZ e2 (E_Constraints_Size_MIN_LENGTH.ext O0.2)
    obtain ⟨_, _, ⟨T3, L3, k3, n3⟩, -, X3, ⟨Lc3, hQ3, l3, y3, z3⟩, st3⟩ := X2.virtualBack hx (y := (⟨"com/example/unipar/unipar/Constraints$Size", "admits", "(JJ)Z"⟩ : MethodName)) (z := (⟨"com/example/unipar/unipar/Constraints$Size", "admits", "(JJ)Z"⟩ : MethodName)) hown (mvT hZ (hw _ (List.mem_of_getElem? (i := 4) rfl))) (mvT hZ (hw _ (List.mem_of_getElem? (i := 5) rfl))) (notFace_of_selects (args := #[]) (mvT hZ (hw _ (List.mem_of_getElem? (i := 7) rfl)))) (mvT hZ (hw _ (List.mem_of_getElem? (i := 7) rfl))) (mvT hZ (hw _ (List.mem_of_getElem? (i := 6) rfl))) (by decide) (backOf (W := 0) (own_rm1 l Z a0 hw [] a_Constraints_Size_MIN_LENGTH x1 x2 (0 : Int32) h0 n0 Z0 (F_Constraints_Size_MIN_LENGTH_upper.ext O0.2)) hZ (hw _ (List.mem_of_getElem? (i := 8) rfl)) (hw _ (List.mem_of_getElem? (i := 2) rfl)) (by decide) (by decide)) q3a q3c (g := (mkF m 105 #[.val (.int x0), .val (.long x1), .second, .val (.long x2), .second, .val (.int ((x0 &&& (2147483647 : Int32)) % (6 : Int32))), .val (.ref a_Constraints_Size_MIN_LENGTH), .val (.int (0 : Int32)), .unset, .unset] [(.long x2), (.long x1), (.ref a_Constraints_Size_MIN_LENGTH)])) rfl (by rw [hml]; rfl) (Steps.refl _) (argsL := [(.long x1), (.long x2)]) (rest := []) (lenOf own_pd_pJJqZ rfl) rfl (by show 2 * 0 + _ ≤ _; exact Nat.le_of_eq rfl) (hb hby at_105) (fun _ _ => ⟨rfl, e2, (by decide : 0 + 0 ≤ _), (by decide : 0 + 0 ≤ _)⟩)
    dsimp only [Pt.U, Pt.locs, Pt.cells, Pt.slots] at X3 l3 y3 z3 st3 hQ3
    subst l3 y3 z3
    obtain ⟨hv3, Nq3, hp3_0⟩ := hQ3
    have N3 := Fr.app N0 Nq3
    subst hv3
    refine Goes.tr st3 ?_
    show Goes p.tables e below (T3.setTop (mkF m 108 #[.val (.int x0), .val (.long x1), .second, .val (.long x2), .second, .val (.int ((x0 &&& (2147483647 : Int32)) % (6 : Int32))), .val (.ref a_Constraints_Size_MIN_LENGTH), .val (.int (0 : Int32)), .unset, .unset] [(.int (own_adm (0 : Int32) x1 x2))])) _
    refine Goes.to (fun _ k => XS.istore X3.here hx rfl (hb hby at_108) rfl (l' := #[.val (.int x0), .val (.long x1), .second, .val (.long x2), .second, .val (.int ((x0 &&& (2147483647 : Int32)) % (6 : Int32))), .val (.ref a_Constraints_Size_MIN_LENGTH), .val (.int (0 : Int32)), .val (.int (own_adm (0 : Int32) x1 x2)), .unset]) rfl k) ?_
    show Goes p.tables e below (T3.setTop (mkF m 110 #[.val (.int x0), .val (.long x1), .second, .val (.long x2), .second, .val (.int ((x0 &&& (2147483647 : Int32)) % (6 : Int32))), .val (.ref a_Constraints_Size_MIN_LENGTH), .val (.int (0 : Int32)), .val (.int (own_adm (0 : Int32) x1 x2)), .unset] [])) _
    refine Goes.to (fun _ k => XS.iload X3.here hx rfl (hb hby at_110) rfl k) ?_
    show Goes p.tables e below (T3.setTop (mkF m 112 #[.val (.int x0), .val (.long x1), .second, .val (.long x2), .second, .val (.int ((x0 &&& (2147483647 : Int32)) % (6 : Int32))), .val (.ref a_Constraints_Size_MIN_LENGTH), .val (.int (0 : Int32)), .val (.int (own_adm (0 : Int32) x1 x2)), .unset] [(.int (0 : Int32))])) _
    refine Goes.to (fun _ k => XS.ifYes X3.here hx rfl (pc0 := 112) (pc' := 129) rfl (hb hby at_112) rfl ((if0 _ _).trans (teq (by decide : (0 : Int32) = (0 : Int32))).1) (by decide) (by decide) k) ?_
    show Goes p.tables e below (T3.setTop (mkF m 129 #[.val (.int x0), .val (.long x1), .second, .val (.long x2), .second, .val (.int ((x0 &&& (2147483647 : Int32)) % (6 : Int32))), .val (.ref a_Constraints_Size_MIN_LENGTH), .val (.int (0 : Int32)), .val (.int (own_adm (0 : Int32) x1 x2)), .unset] [])) _
    refine Goes.to (fun _ k => XS.lloadN X3.here hx rfl (hb hby at_129) rfl k) ?_
    show Goes p.tables e below (T3.setTop (mkF m 130 #[.val (.int x0), .val (.long x1), .second, .val (.long x2), .second, .val (.int ((x0 &&& (2147483647 : Int32)) % (6 : Int32))), .val (.ref a_Constraints_Size_MIN_LENGTH), .val (.int (0 : Int32)), .val (.int (own_adm (0 : Int32) x1 x2)), .unset] [(.long x1)])) _
    refine Goes.to (fun _ k => XS.lloadN X3.here hx rfl (hb hby at_130) rfl k) ?_
    show Goes p.tables e below (T3.setTop (mkF m 131 #[.val (.int x0), .val (.long x1), .second, .val (.long x2), .second, .val (.int ((x0 &&& (2147483647 : Int32)) % (6 : Int32))), .val (.ref a_Constraints_Size_MIN_LENGTH), .val (.int (0 : Int32)), .val (.int (own_adm (0 : Int32) x1 x2)), .unset] [(.long x2), (.long x1)])) _
    refine Goes.to (fun _ k => XS.lcmp X3.here hx rfl (hb hby at_131) rfl k) ?_
    show Goes p.tables e below (T3.setTop (mkF m 132 #[.val (.int x0), .val (.long x1), .second, .val (.long x2), .second, .val (.int ((x0 &&& (2147483647 : Int32)) % (6 : Int32))), .val (.ref a_Constraints_Size_MIN_LENGTH), .val (.int (0 : Int32)), .val (.int (own_adm (0 : Int32) x1 x2)), .unset] [(.int (lcmpW x1 x2))])) _
    by_cases hc4 : x1 < x2
    · refine Goes.to (fun _ k => XS.ifYes X3.here hx rfl (pc0 := 132) (pc' := 139) rfl (hb hby at_132) rfl ((if0 _ _).trans (tlt ((lw_lt x1 x2).mpr hc4)).1) (by decide) (by decide) k) ?_
      show Goes p.tables e below (T3.setTop (mkF m 139 #[.val (.int x0), .val (.long x1), .second, .val (.long x2), .second, .val (.int ((x0 &&& (2147483647 : Int32)) % (6 : Int32))), .val (.ref a_Constraints_Size_MIN_LENGTH), .val (.int (0 : Int32)), .val (.int (own_adm (0 : Int32) x1 x2)), .unset] [])) _
      refine Goes.to (fun _ k => XS.iconst X3.here hx rfl (hb hby at_139) k) ?_
      show Goes p.tables e below (T3.setTop (mkF m 140 #[.val (.int x0), .val (.long x1), .second, .val (.long x2), .second, .val (.int ((x0 &&& (2147483647 : Int32)) % (6 : Int32))), .val (.ref a_Constraints_Size_MIN_LENGTH), .val (.int (0 : Int32)), .val (.int (own_adm (0 : Int32) x1 x2)), .unset] [(.int (0 : Int32))])) _
      refine Goes.to (fun _ k => XS.istore X3.here hx rfl (hb hby at_140) rfl (l' := #[.val (.int x0), .val (.long x1), .second, .val (.long x2), .second, .val (.int ((x0 &&& (2147483647 : Int32)) % (6 : Int32))), .val (.ref a_Constraints_Size_MIN_LENGTH), .val (.int (0 : Int32)), .val (.int (own_adm (0 : Int32) x1 x2)), .val (.int (0 : Int32))]) rfl k) ?_
      show Goes p.tables e below (T3.setTop (mkF m 142 #[.val (.int x0), .val (.long x1), .second, .val (.long x2), .second, .val (.int ((x0 &&& (2147483647 : Int32)) % (6 : Int32))), .val (.ref a_Constraints_Size_MIN_LENGTH), .val (.int (0 : Int32)), .val (.int (own_adm (0 : Int32) x1 x2)), .val (.int (0 : Int32))] [])) _
      refine Goes.to (fun _ k => XS.iload X3.here hx rfl (hb hby at_142) rfl k) ?_
      show Goes p.tables e below (T3.setTop (mkF m 144 #[.val (.int x0), .val (.long x1), .second, .val (.long x2), .second, .val (.int ((x0 &&& (2147483647 : Int32)) % (6 : Int32))), .val (.ref a_Constraints_Size_MIN_LENGTH), .val (.int (0 : Int32)), .val (.int (own_adm (0 : Int32) x1 x2)), .val (.int (0 : Int32))] [(.int (own_adm (0 : Int32) x1 x2))])) _
      refine Goes.to (fun _ k => XS.iload X3.here hx rfl (hb hby at_144) rfl k) ?_
      show Goes p.tables e below (T3.setTop (mkF m 146 #[.val (.int x0), .val (.long x1), .second, .val (.long x2), .second, .val (.int ((x0 &&& (2147483647 : Int32)) % (6 : Int32))), .val (.ref a_Constraints_Size_MIN_LENGTH), .val (.int (0 : Int32)), .val (.int (own_adm (0 : Int32) x1 x2)), .val (.int (0 : Int32))] [(.int (0 : Int32)), (.int (own_adm (0 : Int32) x1 x2))])) _
      by_cases hc5 : (own_adm (0 : Int32) x1 x2) = (0 : Int32)
      · refine Goes.to (fun _ k => XS.icmpNo X3.here hx rfl (hb hby at_146) rfl (teq hc5).2 k) ?_
        show Goes p.tables e below (T3.setTop (mkF m 149 #[.val (.int x0), .val (.long x1), .second, .val (.long x2), .second, .val (.int ((x0 &&& (2147483647 : Int32)) % (6 : Int32))), .val (.ref a_Constraints_Size_MIN_LENGTH), .val (.int (0 : Int32)), .val (.int (own_adm (0 : Int32) x1 x2)), .val (.int (0 : Int32))] [])) _
        refine Goes.to (fun _ k => XS.iconst X3.here hx rfl (hb hby at_149) k) ?_
        show Goes p.tables e below (T3.setTop (mkF m 150 #[.val (.int x0), .val (.long x1), .second, .val (.long x2), .second, .val (.int ((x0 &&& (2147483647 : Int32)) % (6 : Int32))), .val (.ref a_Constraints_Size_MIN_LENGTH), .val (.int (0 : Int32)), .val (.int (own_adm (0 : Int32) x1 x2)), .val (.int (0 : Int32))] [(.int (1 : Int32))])) _
        refine Goes.to (fun _ k => XS.goto X3.here hx rfl (pc0 := 150) (pc' := 154) rfl (hb hby at_150) (by decide) (by decide) k) ?_
        show Goes p.tables e below (T3.setTop (mkF m 154 #[.val (.int x0), .val (.long x1), .second, .val (.long x2), .second, .val (.int ((x0 &&& (2147483647 : Int32)) % (6 : Int32))), .val (.ref a_Constraints_Size_MIN_LENGTH), .val (.int (0 : Int32)), .val (.int (own_adm (0 : Int32) x1 x2)), .val (.int (0 : Int32))] [(.int (1 : Int32))])) _
        obtain ⟨fs, hr, hrun, hended, hW, hsame⟩ := X3.leave (v := some (.int (1 : Int32))) (fun h => by rw [Bd.returns] at h; cases h)
        have hv : (some (.int (1 : Int32)) : Option Value) = some (.int (1 : Int32)) := by
          rfl
        exact ⟨_, _, retN X3 hx (t := .boolean) Bd.returns (by simp) (hb hby at_154) hr, hrun, hended, _, _, rfl, ⟨hv, N3⟩, ⟨_, rfl⟩, hW, hsame.mono (by decide) (by decide)⟩
      · refine Goes.to (fun _ k => XS.icmpYes X3.here hx rfl (pc0 := 146) (pc' := 153) rfl (hb hby at_146) rfl (feq hc5).2 (by decide) (by decide) k) ?_
        show Goes p.tables e below (T3.setTop (mkF m 153 #[.val (.int x0), .val (.long x1), .second, .val (.long x2), .second, .val (.int ((x0 &&& (2147483647 : Int32)) % (6 : Int32))), .val (.ref a_Constraints_Size_MIN_LENGTH), .val (.int (0 : Int32)), .val (.int (own_adm (0 : Int32) x1 x2)), .val (.int (0 : Int32))] [])) _
        refine Goes.to (fun _ k => XS.iconst X3.here hx rfl (hb hby at_153) k) ?_
        show Goes p.tables e below (T3.setTop (mkF m 154 #[.val (.int x0), .val (.long x1), .second, .val (.long x2), .second, .val (.int ((x0 &&& (2147483647 : Int32)) % (6 : Int32))), .val (.ref a_Constraints_Size_MIN_LENGTH), .val (.int (0 : Int32)), .val (.int (own_adm (0 : Int32) x1 x2)), .val (.int (0 : Int32))] [(.int (0 : Int32))])) _
        obtain ⟨fs, hr, hrun, hended, hW, hsame⟩ := X3.leave (v := some (.int (0 : Int32))) (fun h => by rw [Bd.returns] at h; cases h)
        have hv : (some (.int (0 : Int32)) : Option Value) = some (.int (1 : Int32)) := by
          exfalso
          apply hc5
          rw [own_adm, if_pos rfl, if_pos hc4]
        exact ⟨_, _, retN X3 hx (t := .boolean) Bd.returns (by simp) (hb hby at_154) hr, hrun, hended, _, _, rfl, ⟨hv, N3⟩, ⟨_, rfl⟩, hW, hsame.mono (by decide) (by decide)⟩
    · refine Goes.to (fun _ k => XS.ifNo X3.here hx rfl (hb hby at_132) rfl ((if0 _ _).trans (flt (fun q => hc4 ((lw_lt x1 x2).mp q))).1) k) ?_
      show Goes p.tables e below (T3.setTop (mkF m 135 #[.val (.int x0), .val (.long x1), .second, .val (.long x2), .second, .val (.int ((x0 &&& (2147483647 : Int32)) % (6 : Int32))), .val (.ref a_Constraints_Size_MIN_LENGTH), .val (.int (0 : Int32)), .val (.int (own_adm (0 : Int32) x1 x2)), .unset] [])) _
      refine Goes.to (fun _ k => XS.iconst X3.here hx rfl (hb hby at_135) k) ?_
      show Goes p.tables e below (T3.setTop (mkF m 136 #[.val (.int x0), .val (.long x1), .second, .val (.long x2), .second, .val (.int ((x0 &&& (2147483647 : Int32)) % (6 : Int32))), .val (.ref a_Constraints_Size_MIN_LENGTH), .val (.int (0 : Int32)), .val (.int (own_adm (0 : Int32) x1 x2)), .unset] [(.int (1 : Int32))])) _
      refine Goes.to (fun _ k => XS.goto X3.here hx rfl (pc0 := 136) (pc' := 140) rfl (hb hby at_136) (by decide) (by decide) k) ?_
      show Goes p.tables e below (T3.setTop (mkF m 140 #[.val (.int x0), .val (.long x1), .second, .val (.long x2), .second, .val (.int ((x0 &&& (2147483647 : Int32)) % (6 : Int32))), .val (.ref a_Constraints_Size_MIN_LENGTH), .val (.int (0 : Int32)), .val (.int (own_adm (0 : Int32) x1 x2)), .unset] [(.int (1 : Int32))])) _
      refine Goes.to (fun _ k => XS.istore X3.here hx rfl (hb hby at_140) rfl (l' := #[.val (.int x0), .val (.long x1), .second, .val (.long x2), .second, .val (.int ((x0 &&& (2147483647 : Int32)) % (6 : Int32))), .val (.ref a_Constraints_Size_MIN_LENGTH), .val (.int (0 : Int32)), .val (.int (own_adm (0 : Int32) x1 x2)), .val (.int (1 : Int32))]) rfl k) ?_
      show Goes p.tables e below (T3.setTop (mkF m 142 #[.val (.int x0), .val (.long x1), .second, .val (.long x2), .second, .val (.int ((x0 &&& (2147483647 : Int32)) % (6 : Int32))), .val (.ref a_Constraints_Size_MIN_LENGTH), .val (.int (0 : Int32)), .val (.int (own_adm (0 : Int32) x1 x2)), .val (.int (1 : Int32))] [])) _
      refine Goes.to (fun _ k => XS.iload X3.here hx rfl (hb hby at_142) rfl k) ?_
      show Goes p.tables e below (T3.setTop (mkF m 144 #[.val (.int x0), .val (.long x1), .second, .val (.long x2), .second, .val (.int ((x0 &&& (2147483647 : Int32)) % (6 : Int32))), .val (.ref a_Constraints_Size_MIN_LENGTH), .val (.int (0 : Int32)), .val (.int (own_adm (0 : Int32) x1 x2)), .val (.int (1 : Int32))] [(.int (own_adm (0 : Int32) x1 x2))])) _
      refine Goes.to (fun _ k => XS.iload X3.here hx rfl (hb hby at_144) rfl k) ?_
      show Goes p.tables e below (T3.setTop (mkF m 146 #[.val (.int x0), .val (.long x1), .second, .val (.long x2), .second, .val (.int ((x0 &&& (2147483647 : Int32)) % (6 : Int32))), .val (.ref a_Constraints_Size_MIN_LENGTH), .val (.int (0 : Int32)), .val (.int (own_adm (0 : Int32) x1 x2)), .val (.int (1 : Int32))] [(.int (1 : Int32)), (.int (own_adm (0 : Int32) x1 x2))])) _
      by_cases hc6 : (own_adm (0 : Int32) x1 x2) = (1 : Int32)
      · refine Goes.to (fun _ k => XS.icmpNo X3.here hx rfl (hb hby at_146) rfl (teq hc6).2 k) ?_
        show Goes p.tables e below (T3.setTop (mkF m 149 #[.val (.int x0), .val (.long x1), .second, .val (.long x2), .second, .val (.int ((x0 &&& (2147483647 : Int32)) % (6 : Int32))), .val (.ref a_Constraints_Size_MIN_LENGTH), .val (.int (0 : Int32)), .val (.int (own_adm (0 : Int32) x1 x2)), .val (.int (1 : Int32))] [])) _
        refine Goes.to (fun _ k => XS.iconst X3.here hx rfl (hb hby at_149) k) ?_
        show Goes p.tables e below (T3.setTop (mkF m 150 #[.val (.int x0), .val (.long x1), .second, .val (.long x2), .second, .val (.int ((x0 &&& (2147483647 : Int32)) % (6 : Int32))), .val (.ref a_Constraints_Size_MIN_LENGTH), .val (.int (0 : Int32)), .val (.int (own_adm (0 : Int32) x1 x2)), .val (.int (1 : Int32))] [(.int (1 : Int32))])) _
        refine Goes.to (fun _ k => XS.goto X3.here hx rfl (pc0 := 150) (pc' := 154) rfl (hb hby at_150) (by decide) (by decide) k) ?_
        show Goes p.tables e below (T3.setTop (mkF m 154 #[.val (.int x0), .val (.long x1), .second, .val (.long x2), .second, .val (.int ((x0 &&& (2147483647 : Int32)) % (6 : Int32))), .val (.ref a_Constraints_Size_MIN_LENGTH), .val (.int (0 : Int32)), .val (.int (own_adm (0 : Int32) x1 x2)), .val (.int (1 : Int32))] [(.int (1 : Int32))])) _
        obtain ⟨fs, hr, hrun, hended, hW, hsame⟩ := X3.leave (v := some (.int (1 : Int32))) (fun h => by rw [Bd.returns] at h; cases h)
        have hv : (some (.int (1 : Int32)) : Option Value) = some (.int (1 : Int32)) := by
          rfl
        exact ⟨_, _, retN X3 hx (t := .boolean) Bd.returns (by simp) (hb hby at_154) hr, hrun, hended, _, _, rfl, ⟨hv, N3⟩, ⟨_, rfl⟩, hW, hsame.mono (by decide) (by decide)⟩
      · refine Goes.to (fun _ k => XS.icmpYes X3.here hx rfl (pc0 := 146) (pc' := 153) rfl (hb hby at_146) rfl (feq hc6).2 (by decide) (by decide) k) ?_
        show Goes p.tables e below (T3.setTop (mkF m 153 #[.val (.int x0), .val (.long x1), .second, .val (.long x2), .second, .val (.int ((x0 &&& (2147483647 : Int32)) % (6 : Int32))), .val (.ref a_Constraints_Size_MIN_LENGTH), .val (.int (0 : Int32)), .val (.int (own_adm (0 : Int32) x1 x2)), .val (.int (1 : Int32))] [])) _
        refine Goes.to (fun _ k => XS.iconst X3.here hx rfl (hb hby at_153) k) ?_
        show Goes p.tables e below (T3.setTop (mkF m 154 #[.val (.int x0), .val (.long x1), .second, .val (.long x2), .second, .val (.int ((x0 &&& (2147483647 : Int32)) % (6 : Int32))), .val (.ref a_Constraints_Size_MIN_LENGTH), .val (.int (0 : Int32)), .val (.int (own_adm (0 : Int32) x1 x2)), .val (.int (1 : Int32))] [(.int (0 : Int32))])) _
        obtain ⟨fs, hr, hrun, hended, hW, hsame⟩ := X3.leave (v := some (.int (0 : Int32))) (fun h => by rw [Bd.returns] at h; cases h)
        have hv : (some (.int (0 : Int32)) : Option Value) = some (.int (1 : Int32)) := by
          exfalso
          apply hc6
          rw [own_adm, if_pos rfl, if_neg hc4]
        exact ⟨_, _, retN X3 hx (t := .boolean) Bd.returns (by simp) (hb hby at_154) hr, hrun, hended, _, _, rfl, ⟨hv, N3⟩, ⟨_, rfl⟩, hW, hsame.mono (by decide) (by decide)⟩
  · refine Goes.to (fun _ k => XS.ifYes X0.here hx rfl (pc0 := 11) (pc' := 25) rfl (hb hby at_11) rfl ((if0 _ _).trans (feq hc1).2) (by decide) (by decide) k) ?_
    show Goes p.tables e below (s₁.setTop (mkF m 25 #[.val (.int x0), .val (.long x1), .second, .val (.long x2), .second, .val (.int ((x0 &&& (2147483647 : Int32)) % (6 : Int32))), .unset, .unset, .unset, .unset] [])) _
    refine Goes.to (fun _ k => XS.iload X0.here hx rfl (hb hby at_25) rfl k) ?_
    show Goes p.tables e below (s₁.setTop (mkF m 27 #[.val (.int x0), .val (.long x1), .second, .val (.long x2), .second, .val (.int ((x0 &&& (2147483647 : Int32)) % (6 : Int32))), .unset, .unset, .unset, .unset] [(.int ((x0 &&& (2147483647 : Int32)) % (6 : Int32)))])) _
    refine Goes.to (fun _ k => XS.iconst X0.here hx rfl (hb hby at_27) k) ?_
    show Goes p.tables e below (s₁.setTop (mkF m 28 #[.val (.int x0), .val (.long x1), .second, .val (.long x2), .second, .val (.int ((x0 &&& (2147483647 : Int32)) % (6 : Int32))), .unset, .unset, .unset, .unset] [(.int (1 : Int32)), (.int ((x0 &&& (2147483647 : Int32)) % (6 : Int32)))])) _
    by_cases hc7 : ((x0 &&& (2147483647 : Int32)) % (6 : Int32)) = (1 : Int32)
    · refine Goes.to (fun _ k => XS.icmpNo X0.here hx rfl (hb hby at_28) rfl (teq hc7).2 k) ?_
      show Goes p.tables e below (s₁.setTop (mkF m 31 #[.val (.int x0), .val (.long x1), .second, .val (.long x2), .second, .val (.int ((x0 &&& (2147483647 : Int32)) % (6 : Int32))), .unset, .unset, .unset, .unset] [])) _
      obtain ⟨T8, X8, e8, st8⟩ := getS2 X0 hx hZ hown (host := "") (Or.inl (hw _ (List.mem_of_getElem? (i := 17) rfl))) Via.refl e0 (S_Constraints_Size_MAX_LENGTH.ext O0.2) (g := (mkF m 31 #[.val (.int x0), .val (.long x1), .second, .val (.long x2), .second, .val (.int ((x0 &&& (2147483647 : Int32)) % (6 : Int32))), .unset, .unset, .unset, .unset] [])) rfl (hb hby at_31)
      refine Goes.to st8 ?_
      show Goes p.tables e below (T8.setTop (mkF m 34 #[.val (.int x0), .val (.long x1), .second, .val (.long x2), .second, .val (.int ((x0 &&& (2147483647 : Int32)) % (6 : Int32))), .unset, .unset, .unset, .unset] [(.ref a_Constraints_Size_MAX_LENGTH)])) _
      refine Goes.to (fun _ k => XS.astore X8.here hx rfl (hb hby at_34) rfl rfl (l' := #[.val (.int x0), .val (.long x1), .second, .val (.long x2), .second, .val (.int ((x0 &&& (2147483647 : Int32)) % (6 : Int32))), .val (.ref a_Constraints_Size_MAX_LENGTH), .unset, .unset, .unset]) rfl k) ?_
      show Goes p.tables e below (T8.setTop (mkF m 36 #[.val (.int x0), .val (.long x1), .second, .val (.long x2), .second, .val (.int ((x0 &&& (2147483647 : Int32)) % (6 : Int32))), .val (.ref a_Constraints_Size_MAX_LENGTH), .unset, .unset, .unset] [])) _
      refine Goes.to (fun _ k => XS.iconst X8.here hx rfl (hb hby at_36) k) ?_
      show Goes p.tables e below (T8.setTop (mkF m 37 #[.val (.int x0), .val (.long x1), .second, .val (.long x2), .second, .val (.int ((x0 &&& (2147483647 : Int32)) % (6 : Int32))), .val (.ref a_Constraints_Size_MAX_LENGTH), .unset, .unset, .unset] [(.int (1 : Int32))])) _
      refine Goes.to (fun _ k => XS.istore X8.here hx rfl (hb hby at_37) rfl (l' := #[.val (.int x0), .val (.long x1), .second, .val (.long x2), .second, .val (.int ((x0 &&& (2147483647 : Int32)) % (6 : Int32))), .val (.ref a_Constraints_Size_MAX_LENGTH), .val (.int (1 : Int32)), .unset, .unset]) rfl k) ?_
      show Goes p.tables e below (T8.setTop (mkF m 39 #[.val (.int x0), .val (.long x1), .second, .val (.long x2), .second, .val (.int ((x0 &&& (2147483647 : Int32)) % (6 : Int32))), .val (.ref a_Constraints_Size_MAX_LENGTH), .val (.int (1 : Int32)), .unset, .unset] [])) _
      refine Goes.to (fun _ k => XS.goto X8.here hx rfl (pc0 := 39) (pc' := 101) rfl (hb hby at_39) (by decide) (by decide) k) ?_
      show Goes p.tables e below (T8.setTop (mkF m 101 #[.val (.int x0), .val (.long x1), .second, .val (.long x2), .second, .val (.int ((x0 &&& (2147483647 : Int32)) % (6 : Int32))), .val (.ref a_Constraints_Size_MAX_LENGTH), .val (.int (1 : Int32)), .unset, .unset] [])) _
      refine Goes.to (fun _ k => XS.aload X8.here hx rfl (hb hby at_101) rfl rfl k) ?_
      show Goes p.tables e below (T8.setTop (mkF m 103 #[.val (.int x0), .val (.long x1), .second, .val (.long x2), .second, .val (.int ((x0 &&& (2147483647 : Int32)) % (6 : Int32))), .val (.ref a_Constraints_Size_MAX_LENGTH), .val (.int (1 : Int32)), .unset, .unset] [(.ref a_Constraints_Size_MAX_LENGTH)])) _
      refine Goes.to (fun _ k => XS.lloadN X8.here hx rfl (hb hby at_103) rfl k) ?_
      show Goes p.tables e below (T8.setTop (mkF m 104 #[.val (.int x0), .val (.long x1), .second, .val (.long x2), .second, .val (.int ((x0 &&& (2147483647 : Int32)) % (6 : Int32))), .val (.ref a_Constraints_Size_MAX_LENGTH), .val (.int (1 : Int32)), .unset, .unset] [(.long x1), (.ref a_Constraints_Size_MAX_LENGTH)])) _
      refine Goes.to (fun _ k => XS.lloadN X8.here hx rfl (hb hby at_104) rfl k) ?_
      show Goes p.tables e below (T8.setTop (mkF m 105 #[.val (.int x0), .val (.long x1), .second, .val (.long x2), .second, .val (.int ((x0 &&& (2147483647 : Int32)) % (6 : Int32))), .val (.ref a_Constraints_Size_MAX_LENGTH), .val (.int (1 : Int32)), .unset, .unset] [(.long x2), (.long x1), (.ref a_Constraints_Size_MAX_LENGTH)])) _
      obtain ⟨cq9, kq9, q9a, q9b, q9c⟩ := isOf hZ e8 (E_Constraints_Size_MAX_LENGTH.ext O0.2)
      obtain ⟨_, _, ⟨T9, L9, k9, n9⟩, -, X9, ⟨Lc9, hQ9, l9, y9, z9⟩, st9⟩ := X8.virtualBack hx (y := (⟨"com/example/unipar/unipar/Constraints$Size", "admits", "(JJ)Z"⟩ : MethodName)) (z := (⟨"com/example/unipar/unipar/Constraints$Size", "admits", "(JJ)Z"⟩ : MethodName)) hown (mvT hZ (hw _ (List.mem_of_getElem? (i := 4) rfl))) (mvT hZ (hw _ (List.mem_of_getElem? (i := 5) rfl))) (notFace_of_selects (args := #[]) (mvT hZ (hw _ (List.mem_of_getElem? (i := 7) rfl)))) (mvT hZ (hw _ (List.mem_of_getElem? (i := 7) rfl))) (mvT hZ (hw _ (List.mem_of_getElem? (i := 6) rfl))) (by decide) (backOf (W := 0) (own_rm1 l Z a0 hw [] a_Constraints_Size_MAX_LENGTH x1 x2 (1 : Int32) h0 n0 Z0 (F_Constraints_Size_MAX_LENGTH_upper.ext O0.2)) hZ (hw _ (List.mem_of_getElem? (i := 8) rfl)) (hw _ (List.mem_of_getElem? (i := 2) rfl)) (by decide) (by decide)) q9a q9c (g := (mkF m 105 #[.val (.int x0), .val (.long x1), .second, .val (.long x2), .second, .val (.int ((x0 &&& (2147483647 : Int32)) % (6 : Int32))), .val (.ref a_Constraints_Size_MAX_LENGTH), .val (.int (1 : Int32)), .unset, .unset] [(.long x2), (.long x1), (.ref a_Constraints_Size_MAX_LENGTH)])) rfl (by rw [hml]; rfl) (Steps.refl _) (argsL := [(.long x1), (.long x2)]) (rest := []) (lenOf own_pd_pJJqZ rfl) rfl (by show 2 * 0 + _ ≤ _; exact Nat.le_of_eq rfl) (hb hby at_105) (fun _ _ => ⟨rfl, e8, (by decide : 0 + 0 ≤ _), (by decide : 0 + 0 ≤ _)⟩)
      dsimp only [Pt.U, Pt.locs, Pt.cells, Pt.slots] at X9 l9 y9 z9 st9 hQ9
      subst l9 y9 z9
      obtain ⟨hv9, Nq9, hp9_0⟩ := hQ9
      have N9 := Fr.app N0 Nq9
      subst hv9
      refine Goes.tr st9 ?_
      show Goes p.tables e below (T9.setTop (mkF m 108 #[.val (.int x0), .val (.long x1), .second, .val (.long x2), .second, .val (.int ((x0 &&& (2147483647 : Int32)) % (6 : Int32))), .val (.ref a_Constraints_Size_MAX_LENGTH), .val (.int (1 : Int32)), .unset, .unset] [(.int (own_adm (1 : Int32) x1 x2))])) _
      refine Goes.to (fun _ k => XS.istore X9.here hx rfl (hb hby at_108) rfl (l' := #[.val (.int x0), .val (.long x1), .second, .val (.long x2), .second, .val (.int ((x0 &&& (2147483647 : Int32)) % (6 : Int32))), .val (.ref a_Constraints_Size_MAX_LENGTH), .val (.int (1 : Int32)), .val (.int (own_adm (1 : Int32) x1 x2)), .unset]) rfl k) ?_
      show Goes p.tables e below (T9.setTop (mkF m 110 #[.val (.int x0), .val (.long x1), .second, .val (.long x2), .second, .val (.int ((x0 &&& (2147483647 : Int32)) % (6 : Int32))), .val (.ref a_Constraints_Size_MAX_LENGTH), .val (.int (1 : Int32)), .val (.int (own_adm (1 : Int32) x1 x2)), .unset] [])) _
      refine Goes.to (fun _ k => XS.iload X9.here hx rfl (hb hby at_110) rfl k) ?_
      show Goes p.tables e below (T9.setTop (mkF m 112 #[.val (.int x0), .val (.long x1), .second, .val (.long x2), .second, .val (.int ((x0 &&& (2147483647 : Int32)) % (6 : Int32))), .val (.ref a_Constraints_Size_MAX_LENGTH), .val (.int (1 : Int32)), .val (.int (own_adm (1 : Int32) x1 x2)), .unset] [(.int (1 : Int32))])) _
      refine Goes.to (fun _ k => XS.ifNo X9.here hx rfl (hb hby at_112) rfl ((if0 _ _).trans (feq (by decide : ¬ ((1 : Int32) = (0 : Int32)))).1) k) ?_
      show Goes p.tables e below (T9.setTop (mkF m 115 #[.val (.int x0), .val (.long x1), .second, .val (.long x2), .second, .val (.int ((x0 &&& (2147483647 : Int32)) % (6 : Int32))), .val (.ref a_Constraints_Size_MAX_LENGTH), .val (.int (1 : Int32)), .val (.int (own_adm (1 : Int32) x1 x2)), .unset] [])) _
      refine Goes.to (fun _ k => XS.lloadN X9.here hx rfl (hb hby at_115) rfl k) ?_
      show Goes p.tables e below (T9.setTop (mkF m 116 #[.val (.int x0), .val (.long x1), .second, .val (.long x2), .second, .val (.int ((x0 &&& (2147483647 : Int32)) % (6 : Int32))), .val (.ref a_Constraints_Size_MAX_LENGTH), .val (.int (1 : Int32)), .val (.int (own_adm (1 : Int32) x1 x2)), .unset] [(.long x1)])) _
      refine Goes.to (fun _ k => XS.lloadN X9.here hx rfl (hb hby at_116) rfl k) ?_
      show Goes p.tables e below (T9.setTop (mkF m 117 #[.val (.int x0), .val (.long x1), .second, .val (.long x2), .second, .val (.int ((x0 &&& (2147483647 : Int32)) % (6 : Int32))), .val (.ref a_Constraints_Size_MAX_LENGTH), .val (.int (1 : Int32)), .val (.int (own_adm (1 : Int32) x1 x2)), .unset] [(.long x2), (.long x1)])) _
      refine Goes.to (fun _ k => XS.lcmp X9.here hx rfl (hb hby at_117) rfl k) ?_
      show Goes p.tables e below (T9.setTop (mkF m 118 #[.val (.int x0), .val (.long x1), .second, .val (.long x2), .second, .val (.int ((x0 &&& (2147483647 : Int32)) % (6 : Int32))), .val (.ref a_Constraints_Size_MAX_LENGTH), .val (.int (1 : Int32)), .val (.int (own_adm (1 : Int32) x1 x2)), .unset] [(.int (lcmpW x1 x2))])) _
      by_cases hc10 : x2 < x1
      · refine Goes.to (fun _ k => XS.ifYes X9.here hx rfl (pc0 := 118) (pc' := 125) rfl (hb hby at_118) rfl ((if0 _ _).trans (tlt ((lw_gt x1 x2).mpr hc10)).2.2.1) (by decide) (by decide) k) ?_
        show Goes p.tables e below (T9.setTop (mkF m 125 #[.val (.int x0), .val (.long x1), .second, .val (.long x2), .second, .val (.int ((x0 &&& (2147483647 : Int32)) % (6 : Int32))), .val (.ref a_Constraints_Size_MAX_LENGTH), .val (.int (1 : Int32)), .val (.int (own_adm (1 : Int32) x1 x2)), .unset] [])) _
        refine Goes.to (fun _ k => XS.iconst X9.here hx rfl (hb hby at_125) k) ?_
        show Goes p.tables e below (T9.setTop (mkF m 126 #[.val (.int x0), .val (.long x1), .second, .val (.long x2), .second, .val (.int ((x0 &&& (2147483647 : Int32)) % (6 : Int32))), .val (.ref a_Constraints_Size_MAX_LENGTH), .val (.int (1 : Int32)), .val (.int (own_adm (1 : Int32) x1 x2)), .unset] [(.int (0 : Int32))])) _
        refine Goes.to (fun _ k => XS.goto X9.here hx rfl (pc0 := 126) (pc' := 140) rfl (hb hby at_126) (by decide) (by decide) k) ?_
        show Goes p.tables e below (T9.setTop (mkF m 140 #[.val (.int x0), .val (.long x1), .second, .val (.long x2), .second, .val (.int ((x0 &&& (2147483647 : Int32)) % (6 : Int32))), .val (.ref a_Constraints_Size_MAX_LENGTH), .val (.int (1 : Int32)), .val (.int (own_adm (1 : Int32) x1 x2)), .unset] [(.int (0 : Int32))])) _
        refine Goes.to (fun _ k => XS.istore X9.here hx rfl (hb hby at_140) rfl (l' := #[.val (.int x0), .val (.long x1), .second, .val (.long x2), .second, .val (.int ((x0 &&& (2147483647 : Int32)) % (6 : Int32))), .val (.ref a_Constraints_Size_MAX_LENGTH), .val (.int (1 : Int32)), .val (.int (own_adm (1 : Int32) x1 x2)), .val (.int (0 : Int32))]) rfl k) ?_
        show Goes p.tables e below (T9.setTop (mkF m 142 #[.val (.int x0), .val (.long x1), .second, .val (.long x2), .second, .val (.int ((x0 &&& (2147483647 : Int32)) % (6 : Int32))), .val (.ref a_Constraints_Size_MAX_LENGTH), .val (.int (1 : Int32)), .val (.int (own_adm (1 : Int32) x1 x2)), .val (.int (0 : Int32))] [])) _
        refine Goes.to (fun _ k => XS.iload X9.here hx rfl (hb hby at_142) rfl k) ?_
        show Goes p.tables e below (T9.setTop (mkF m 144 #[.val (.int x0), .val (.long x1), .second, .val (.long x2), .second, .val (.int ((x0 &&& (2147483647 : Int32)) % (6 : Int32))), .val (.ref a_Constraints_Size_MAX_LENGTH), .val (.int (1 : Int32)), .val (.int (own_adm (1 : Int32) x1 x2)), .val (.int (0 : Int32))] [(.int (own_adm (1 : Int32) x1 x2))])) _
        refine Goes.to (fun _ k => XS.iload X9.here hx rfl (hb hby at_144) rfl k) ?_
        show Goes p.tables e below (T9.setTop (mkF m 146 #[.val (.int x0), .val (.long x1), .second, .val (.long x2), .second, .val (.int ((x0 &&& (2147483647 : Int32)) % (6 : Int32))), .val (.ref a_Constraints_Size_MAX_LENGTH), .val (.int (1 : Int32)), .val (.int (own_adm (1 : Int32) x1 x2)), .val (.int (0 : Int32))] [(.int (0 : Int32)), (.int (own_adm (1 : Int32) x1 x2))])) _
        by_cases hc11 : (own_adm (1 : Int32) x1 x2) = (0 : Int32)
        · refine Goes.to (fun _ k => XS.icmpNo X9.here hx rfl (hb hby at_146) rfl (teq hc11).2 k) ?_
          show Goes p.tables e below (T9.setTop (mkF m 149 #[.val (.int x0), .val (.long x1), .second, .val (.long x2), .second, .val (.int ((x0 &&& (2147483647 : Int32)) % (6 : Int32))), .val (.ref a_Constraints_Size_MAX_LENGTH), .val (.int (1 : Int32)), .val (.int (own_adm (1 : Int32) x1 x2)), .val (.int (0 : Int32))] [])) _
          refine Goes.to (fun _ k => XS.iconst X9.here hx rfl (hb hby at_149) k) ?_
          show Goes p.tables e below (T9.setTop (mkF m 150 #[.val (.int x0), .val (.long x1), .second, .val (.long x2), .second, .val (.int ((x0 &&& (2147483647 : Int32)) % (6 : Int32))), .val (.ref a_Constraints_Size_MAX_LENGTH), .val (.int (1 : Int32)), .val (.int (own_adm (1 : Int32) x1 x2)), .val (.int (0 : Int32))] [(.int (1 : Int32))])) _
          refine Goes.to (fun _ k => XS.goto X9.here hx rfl (pc0 := 150) (pc' := 154) rfl (hb hby at_150) (by decide) (by decide) k) ?_
          show Goes p.tables e below (T9.setTop (mkF m 154 #[.val (.int x0), .val (.long x1), .second, .val (.long x2), .second, .val (.int ((x0 &&& (2147483647 : Int32)) % (6 : Int32))), .val (.ref a_Constraints_Size_MAX_LENGTH), .val (.int (1 : Int32)), .val (.int (own_adm (1 : Int32) x1 x2)), .val (.int (0 : Int32))] [(.int (1 : Int32))])) _
          obtain ⟨fs, hr, hrun, hended, hW, hsame⟩ := X9.leave (v := some (.int (1 : Int32))) (fun h => by rw [Bd.returns] at h; cases h)
          have hv : (some (.int (1 : Int32)) : Option Value) = some (.int (1 : Int32)) := by
            rfl
          exact ⟨_, _, retN X9 hx (t := .boolean) Bd.returns (by simp) (hb hby at_154) hr, hrun, hended, _, _, rfl, ⟨hv, N9⟩, ⟨_, rfl⟩, hW, hsame.mono (by decide) (by decide)⟩
        · refine Goes.to (fun _ k => XS.icmpYes X9.here hx rfl (pc0 := 146) (pc' := 153) rfl (hb hby at_146) rfl (feq hc11).2 (by decide) (by decide) k) ?_
          show Goes p.tables e below (T9.setTop (mkF m 153 #[.val (.int x0), .val (.long x1), .second, .val (.long x2), .second, .val (.int ((x0 &&& (2147483647 : Int32)) % (6 : Int32))), .val (.ref a_Constraints_Size_MAX_LENGTH), .val (.int (1 : Int32)), .val (.int (own_adm (1 : Int32) x1 x2)), .val (.int (0 : Int32))] [])) _
          refine Goes.to (fun _ k => XS.iconst X9.here hx rfl (hb hby at_153) k) ?_
          show Goes p.tables e below (T9.setTop (mkF m 154 #[.val (.int x0), .val (.long x1), .second, .val (.long x2), .second, .val (.int ((x0 &&& (2147483647 : Int32)) % (6 : Int32))), .val (.ref a_Constraints_Size_MAX_LENGTH), .val (.int (1 : Int32)), .val (.int (own_adm (1 : Int32) x1 x2)), .val (.int (0 : Int32))] [(.int (0 : Int32))])) _
          obtain ⟨fs, hr, hrun, hended, hW, hsame⟩ := X9.leave (v := some (.int (0 : Int32))) (fun h => by rw [Bd.returns] at h; cases h)
          have hv : (some (.int (0 : Int32)) : Option Value) = some (.int (1 : Int32)) := by
            exfalso
            apply hc11
            rw [own_adm, if_neg (by decide), if_pos hc10]
          exact ⟨_, _, retN X9 hx (t := .boolean) Bd.returns (by simp) (hb hby at_154) hr, hrun, hended, _, _, rfl, ⟨hv, N9⟩, ⟨_, rfl⟩, hW, hsame.mono (by decide) (by decide)⟩
      · refine Goes.to (fun _ k => XS.ifNo X9.here hx rfl (hb hby at_118) rfl ((if0 _ _).trans (flt (fun q => hc10 ((lw_gt x1 x2).mp q))).2.2.1) k) ?_
        show Goes p.tables e below (T9.setTop (mkF m 121 #[.val (.int x0), .val (.long x1), .second, .val (.long x2), .second, .val (.int ((x0 &&& (2147483647 : Int32)) % (6 : Int32))), .val (.ref a_Constraints_Size_MAX_LENGTH), .val (.int (1 : Int32)), .val (.int (own_adm (1 : Int32) x1 x2)), .unset] [])) _
        refine Goes.to (fun _ k => XS.iconst X9.here hx rfl (hb hby at_121) k) ?_
        show Goes p.tables e below (T9.setTop (mkF m 122 #[.val (.int x0), .val (.long x1), .second, .val (.long x2), .second, .val (.int ((x0 &&& (2147483647 : Int32)) % (6 : Int32))), .val (.ref a_Constraints_Size_MAX_LENGTH), .val (.int (1 : Int32)), .val (.int (own_adm (1 : Int32) x1 x2)), .unset] [(.int (1 : Int32))])) _
        refine Goes.to (fun _ k => XS.goto X9.here hx rfl (pc0 := 122) (pc' := 140) rfl (hb hby at_122) (by decide) (by decide) k) ?_
        show Goes p.tables e below (T9.setTop (mkF m 140 #[.val (.int x0), .val (.long x1), .second, .val (.long x2), .second, .val (.int ((x0 &&& (2147483647 : Int32)) % (6 : Int32))), .val (.ref a_Constraints_Size_MAX_LENGTH), .val (.int (1 : Int32)), .val (.int (own_adm (1 : Int32) x1 x2)), .unset] [(.int (1 : Int32))])) _
        refine Goes.to (fun _ k => XS.istore X9.here hx rfl (hb hby at_140) rfl (l' := #[.val (.int x0), .val (.long x1), .second, .val (.long x2), .second, .val (.int ((x0 &&& (2147483647 : Int32)) % (6 : Int32))), .val (.ref a_Constraints_Size_MAX_LENGTH), .val (.int (1 : Int32)), .val (.int (own_adm (1 : Int32) x1 x2)), .val (.int (1 : Int32))]) rfl k) ?_
        show Goes p.tables e below (T9.setTop (mkF m 142 #[.val (.int x0), .val (.long x1), .second, .val (.long x2), .second, .val (.int ((x0 &&& (2147483647 : Int32)) % (6 : Int32))), .val (.ref a_Constraints_Size_MAX_LENGTH), .val (.int (1 : Int32)), .val (.int (own_adm (1 : Int32) x1 x2)), .val (.int (1 : Int32))] [])) _
        refine Goes.to (fun _ k => XS.iload X9.here hx rfl (hb hby at_142) rfl k) ?_
        show Goes p.tables e below (T9.setTop (mkF m 144 #[.val (.int x0), .val (.long x1), .second, .val (.long x2), .second, .val (.int ((x0 &&& (2147483647 : Int32)) % (6 : Int32))), .val (.ref a_Constraints_Size_MAX_LENGTH), .val (.int (1 : Int32)), .val (.int (own_adm (1 : Int32) x1 x2)), .val (.int (1 : Int32))] [(.int (own_adm (1 : Int32) x1 x2))])) _
        refine Goes.to (fun _ k => XS.iload X9.here hx rfl (hb hby at_144) rfl k) ?_
        show Goes p.tables e below (T9.setTop (mkF m 146 #[.val (.int x0), .val (.long x1), .second, .val (.long x2), .second, .val (.int ((x0 &&& (2147483647 : Int32)) % (6 : Int32))), .val (.ref a_Constraints_Size_MAX_LENGTH), .val (.int (1 : Int32)), .val (.int (own_adm (1 : Int32) x1 x2)), .val (.int (1 : Int32))] [(.int (1 : Int32)), (.int (own_adm (1 : Int32) x1 x2))])) _
        by_cases hc12 : (own_adm (1 : Int32) x1 x2) = (1 : Int32)
        · refine Goes.to (fun _ k => XS.icmpNo X9.here hx rfl (hb hby at_146) rfl (teq hc12).2 k) ?_
          show Goes p.tables e below (T9.setTop (mkF m 149 #[.val (.int x0), .val (.long x1), .second, .val (.long x2), .second, .val (.int ((x0 &&& (2147483647 : Int32)) % (6 : Int32))), .val (.ref a_Constraints_Size_MAX_LENGTH), .val (.int (1 : Int32)), .val (.int (own_adm (1 : Int32) x1 x2)), .val (.int (1 : Int32))] [])) _
          refine Goes.to (fun _ k => XS.iconst X9.here hx rfl (hb hby at_149) k) ?_
          show Goes p.tables e below (T9.setTop (mkF m 150 #[.val (.int x0), .val (.long x1), .second, .val (.long x2), .second, .val (.int ((x0 &&& (2147483647 : Int32)) % (6 : Int32))), .val (.ref a_Constraints_Size_MAX_LENGTH), .val (.int (1 : Int32)), .val (.int (own_adm (1 : Int32) x1 x2)), .val (.int (1 : Int32))] [(.int (1 : Int32))])) _
          refine Goes.to (fun _ k => XS.goto X9.here hx rfl (pc0 := 150) (pc' := 154) rfl (hb hby at_150) (by decide) (by decide) k) ?_
          show Goes p.tables e below (T9.setTop (mkF m 154 #[.val (.int x0), .val (.long x1), .second, .val (.long x2), .second, .val (.int ((x0 &&& (2147483647 : Int32)) % (6 : Int32))), .val (.ref a_Constraints_Size_MAX_LENGTH), .val (.int (1 : Int32)), .val (.int (own_adm (1 : Int32) x1 x2)), .val (.int (1 : Int32))] [(.int (1 : Int32))])) _
          obtain ⟨fs, hr, hrun, hended, hW, hsame⟩ := X9.leave (v := some (.int (1 : Int32))) (fun h => by rw [Bd.returns] at h; cases h)
          have hv : (some (.int (1 : Int32)) : Option Value) = some (.int (1 : Int32)) := by
            rfl
          exact ⟨_, _, retN X9 hx (t := .boolean) Bd.returns (by simp) (hb hby at_154) hr, hrun, hended, _, _, rfl, ⟨hv, N9⟩, ⟨_, rfl⟩, hW, hsame.mono (by decide) (by decide)⟩
        · refine Goes.to (fun _ k => XS.icmpYes X9.here hx rfl (pc0 := 146) (pc' := 153) rfl (hb hby at_146) rfl (feq hc12).2 (by decide) (by decide) k) ?_
          show Goes p.tables e below (T9.setTop (mkF m 153 #[.val (.int x0), .val (.long x1), .second, .val (.long x2), .second, .val (.int ((x0 &&& (2147483647 : Int32)) % (6 : Int32))), .val (.ref a_Constraints_Size_MAX_LENGTH), .val (.int (1 : Int32)), .val (.int (own_adm (1 : Int32) x1 x2)), .val (.int (1 : Int32))] [])) _
          refine Goes.to (fun _ k => XS.iconst X9.here hx rfl (hb hby at_153) k) ?_
          show Goes p.tables e below (T9.setTop (mkF m 154 #[.val (.int x0), .val (.long x1), .second, .val (.long x2), .second, .val (.int ((x0 &&& (2147483647 : Int32)) % (6 : Int32))), .val (.ref a_Constraints_Size_MAX_LENGTH), .val (.int (1 : Int32)), .val (.int (own_adm (1 : Int32) x1 x2)), .val (.int (1 : Int32))] [(.int (0 : Int32))])) _
          obtain ⟨fs, hr, hrun, hended, hW, hsame⟩ := X9.leave (v := some (.int (0 : Int32))) (fun h => by rw [Bd.returns] at h; cases h)
          have hv : (some (.int (0 : Int32)) : Option Value) = some (.int (1 : Int32)) := by
            exfalso
            apply hc12
            rw [own_adm, if_neg (by decide), if_neg hc10]
          exact ⟨_, _, retN X9 hx (t := .boolean) Bd.returns (by simp) (hb hby at_154) hr, hrun, hended, _, _, rfl, ⟨hv, N9⟩, ⟨_, rfl⟩, hW, hsame.mono (by decide) (by decide)⟩
    · refine Goes.to (fun _ k => XS.icmpYes X0.here hx rfl (pc0 := 28) (pc' := 42) rfl (hb hby at_28) rfl (feq hc7).2 (by decide) (by decide) k) ?_
      show Goes p.tables e below (s₁.setTop (mkF m 42 #[.val (.int x0), .val (.long x1), .second, .val (.long x2), .second, .val (.int ((x0 &&& (2147483647 : Int32)) % (6 : Int32))), .unset, .unset, .unset, .unset] [])) _
      refine Goes.to (fun _ k => XS.iload X0.here hx rfl (hb hby at_42) rfl k) ?_
      show Goes p.tables e below (s₁.setTop (mkF m 44 #[.val (.int x0), .val (.long x1), .second, .val (.long x2), .second, .val (.int ((x0 &&& (2147483647 : Int32)) % (6 : Int32))), .unset, .unset, .unset, .unset] [(.int ((x0 &&& (2147483647 : Int32)) % (6 : Int32)))])) _
      refine Goes.to (fun _ k => XS.iconst X0.here hx rfl (hb hby at_44) k) ?_
      show Goes p.tables e below (s₁.setTop (mkF m 45 #[.val (.int x0), .val (.long x1), .second, .val (.long x2), .second, .val (.int ((x0 &&& (2147483647 : Int32)) % (6 : Int32))), .unset, .unset, .unset, .unset] [(.int (2 : Int32)), (.int ((x0 &&& (2147483647 : Int32)) % (6 : Int32)))])) _
      by_cases hc13 : ((x0 &&& (2147483647 : Int32)) % (6 : Int32)) = (2 : Int32)
      · refine Goes.to (fun _ k => XS.icmpNo X0.here hx rfl (hb hby at_45) rfl (teq hc13).2 k) ?_
        show Goes p.tables e below (s₁.setTop (mkF m 48 #[.val (.int x0), .val (.long x1), .second, .val (.long x2), .second, .val (.int ((x0 &&& (2147483647 : Int32)) % (6 : Int32))), .unset, .unset, .unset, .unset] [])) _
        obtain ⟨T14, X14, e14, st14⟩ := getS2 X0 hx hZ hown (host := "") (Or.inl (hw _ (List.mem_of_getElem? (i := 15) rfl))) Via.refl e0 (S_Constraints_Size_MIN_ITEMS.ext O0.2) (g := (mkF m 48 #[.val (.int x0), .val (.long x1), .second, .val (.long x2), .second, .val (.int ((x0 &&& (2147483647 : Int32)) % (6 : Int32))), .unset, .unset, .unset, .unset] [])) rfl (hb hby at_48)
        refine Goes.to st14 ?_
        show Goes p.tables e below (T14.setTop (mkF m 51 #[.val (.int x0), .val (.long x1), .second, .val (.long x2), .second, .val (.int ((x0 &&& (2147483647 : Int32)) % (6 : Int32))), .unset, .unset, .unset, .unset] [(.ref a_Constraints_Size_MIN_ITEMS)])) _
        refine Goes.to (fun _ k => XS.astore X14.here hx rfl (hb hby at_51) rfl rfl (l' := #[.val (.int x0), .val (.long x1), .second, .val (.long x2), .second, .val (.int ((x0 &&& (2147483647 : Int32)) % (6 : Int32))), .val (.ref a_Constraints_Size_MIN_ITEMS), .unset, .unset, .unset]) rfl k) ?_
        show Goes p.tables e below (T14.setTop (mkF m 53 #[.val (.int x0), .val (.long x1), .second, .val (.long x2), .second, .val (.int ((x0 &&& (2147483647 : Int32)) % (6 : Int32))), .val (.ref a_Constraints_Size_MIN_ITEMS), .unset, .unset, .unset] [])) _
        refine Goes.to (fun _ k => XS.iconst X14.here hx rfl (hb hby at_53) k) ?_
        show Goes p.tables e below (T14.setTop (mkF m 54 #[.val (.int x0), .val (.long x1), .second, .val (.long x2), .second, .val (.int ((x0 &&& (2147483647 : Int32)) % (6 : Int32))), .val (.ref a_Constraints_Size_MIN_ITEMS), .unset, .unset, .unset] [(.int (0 : Int32))])) _
        refine Goes.to (fun _ k => XS.istore X14.here hx rfl (hb hby at_54) rfl (l' := #[.val (.int x0), .val (.long x1), .second, .val (.long x2), .second, .val (.int ((x0 &&& (2147483647 : Int32)) % (6 : Int32))), .val (.ref a_Constraints_Size_MIN_ITEMS), .val (.int (0 : Int32)), .unset, .unset]) rfl k) ?_
        show Goes p.tables e below (T14.setTop (mkF m 56 #[.val (.int x0), .val (.long x1), .second, .val (.long x2), .second, .val (.int ((x0 &&& (2147483647 : Int32)) % (6 : Int32))), .val (.ref a_Constraints_Size_MIN_ITEMS), .val (.int (0 : Int32)), .unset, .unset] [])) _
        refine Goes.to (fun _ k => XS.goto X14.here hx rfl (pc0 := 56) (pc' := 101) rfl (hb hby at_56) (by decide) (by decide) k) ?_
        show Goes p.tables e below (T14.setTop (mkF m 101 #[.val (.int x0), .val (.long x1), .second, .val (.long x2), .second, .val (.int ((x0 &&& (2147483647 : Int32)) % (6 : Int32))), .val (.ref a_Constraints_Size_MIN_ITEMS), .val (.int (0 : Int32)), .unset, .unset] [])) _
        refine Goes.to (fun _ k => XS.aload X14.here hx rfl (hb hby at_101) rfl rfl k) ?_
        show Goes p.tables e below (T14.setTop (mkF m 103 #[.val (.int x0), .val (.long x1), .second, .val (.long x2), .second, .val (.int ((x0 &&& (2147483647 : Int32)) % (6 : Int32))), .val (.ref a_Constraints_Size_MIN_ITEMS), .val (.int (0 : Int32)), .unset, .unset] [(.ref a_Constraints_Size_MIN_ITEMS)])) _
        refine Goes.to (fun _ k => XS.lloadN X14.here hx rfl (hb hby at_103) rfl k) ?_
        show Goes p.tables e below (T14.setTop (mkF m 104 #[.val (.int x0), .val (.long x1), .second, .val (.long x2), .second, .val (.int ((x0 &&& (2147483647 : Int32)) % (6 : Int32))), .val (.ref a_Constraints_Size_MIN_ITEMS), .val (.int (0 : Int32)), .unset, .unset] [(.long x1), (.ref a_Constraints_Size_MIN_ITEMS)])) _
        refine Goes.to (fun _ k => XS.lloadN X14.here hx rfl (hb hby at_104) rfl k) ?_
        show Goes p.tables e below (T14.setTop (mkF m 105 #[.val (.int x0), .val (.long x1), .second, .val (.long x2), .second, .val (.int ((x0 &&& (2147483647 : Int32)) % (6 : Int32))), .val (.ref a_Constraints_Size_MIN_ITEMS), .val (.int (0 : Int32)), .unset, .unset] [(.long x2), (.long x1), (.ref a_Constraints_Size_MIN_ITEMS)])) _
        obtain ⟨cq15, kq15, q15a, q15b, q15c⟩ := isOf hZ e14 (E_Constraints_Size_MIN_ITEMS.ext O0.2)
        obtain ⟨_, _, ⟨T15, L15, k15, n15⟩, -, X15, ⟨Lc15, hQ15, l15, y15, z15⟩, st15⟩ := X14.virtualBack hx (y := (⟨"com/example/unipar/unipar/Constraints$Size", "admits", "(JJ)Z"⟩ : MethodName)) (z := (⟨"com/example/unipar/unipar/Constraints$Size", "admits", "(JJ)Z"⟩ : MethodName)) hown (mvT hZ (hw _ (List.mem_of_getElem? (i := 4) rfl))) (mvT hZ (hw _ (List.mem_of_getElem? (i := 5) rfl))) (notFace_of_selects (args := #[]) (mvT hZ (hw _ (List.mem_of_getElem? (i := 7) rfl)))) (mvT hZ (hw _ (List.mem_of_getElem? (i := 7) rfl))) (mvT hZ (hw _ (List.mem_of_getElem? (i := 6) rfl))) (by decide) (backOf (W := 0) (own_rm1 l Z a0 hw [] a_Constraints_Size_MIN_ITEMS x1 x2 (0 : Int32) h0 n0 Z0 (F_Constraints_Size_MIN_ITEMS_upper.ext O0.2)) hZ (hw _ (List.mem_of_getElem? (i := 8) rfl)) (hw _ (List.mem_of_getElem? (i := 2) rfl)) (by decide) (by decide)) q15a q15c (g := (mkF m 105 #[.val (.int x0), .val (.long x1), .second, .val (.long x2), .second, .val (.int ((x0 &&& (2147483647 : Int32)) % (6 : Int32))), .val (.ref a_Constraints_Size_MIN_ITEMS), .val (.int (0 : Int32)), .unset, .unset] [(.long x2), (.long x1), (.ref a_Constraints_Size_MIN_ITEMS)])) rfl (by rw [hml]; rfl) (Steps.refl _) (argsL := [(.long x1), (.long x2)]) (rest := []) (lenOf own_pd_pJJqZ rfl) rfl (by show 2 * 0 + _ ≤ _; exact Nat.le_of_eq rfl) (hb hby at_105) (fun _ _ => ⟨rfl, e14, (by decide : 0 + 0 ≤ _), (by decide : 0 + 0 ≤ _)⟩)
        dsimp only [Pt.U, Pt.locs, Pt.cells, Pt.slots] at X15 l15 y15 z15 st15 hQ15
        subst l15 y15 z15
        obtain ⟨hv15, Nq15, hp15_0⟩ := hQ15
        have N15 := Fr.app N0 Nq15
        subst hv15
        refine Goes.tr st15 ?_
        show Goes p.tables e below (T15.setTop (mkF m 108 #[.val (.int x0), .val (.long x1), .second, .val (.long x2), .second, .val (.int ((x0 &&& (2147483647 : Int32)) % (6 : Int32))), .val (.ref a_Constraints_Size_MIN_ITEMS), .val (.int (0 : Int32)), .unset, .unset] [(.int (own_adm (0 : Int32) x1 x2))])) _
        refine Goes.to (fun _ k => XS.istore X15.here hx rfl (hb hby at_108) rfl (l' := #[.val (.int x0), .val (.long x1), .second, .val (.long x2), .second, .val (.int ((x0 &&& (2147483647 : Int32)) % (6 : Int32))), .val (.ref a_Constraints_Size_MIN_ITEMS), .val (.int (0 : Int32)), .val (.int (own_adm (0 : Int32) x1 x2)), .unset]) rfl k) ?_
        show Goes p.tables e below (T15.setTop (mkF m 110 #[.val (.int x0), .val (.long x1), .second, .val (.long x2), .second, .val (.int ((x0 &&& (2147483647 : Int32)) % (6 : Int32))), .val (.ref a_Constraints_Size_MIN_ITEMS), .val (.int (0 : Int32)), .val (.int (own_adm (0 : Int32) x1 x2)), .unset] [])) _
        refine Goes.to (fun _ k => XS.iload X15.here hx rfl (hb hby at_110) rfl k) ?_
        show Goes p.tables e below (T15.setTop (mkF m 112 #[.val (.int x0), .val (.long x1), .second, .val (.long x2), .second, .val (.int ((x0 &&& (2147483647 : Int32)) % (6 : Int32))), .val (.ref a_Constraints_Size_MIN_ITEMS), .val (.int (0 : Int32)), .val (.int (own_adm (0 : Int32) x1 x2)), .unset] [(.int (0 : Int32))])) _
        refine Goes.to (fun _ k => XS.ifYes X15.here hx rfl (pc0 := 112) (pc' := 129) rfl (hb hby at_112) rfl ((if0 _ _).trans (teq (by decide : (0 : Int32) = (0 : Int32))).1) (by decide) (by decide) k) ?_
        show Goes p.tables e below (T15.setTop (mkF m 129 #[.val (.int x0), .val (.long x1), .second, .val (.long x2), .second, .val (.int ((x0 &&& (2147483647 : Int32)) % (6 : Int32))), .val (.ref a_Constraints_Size_MIN_ITEMS), .val (.int (0 : Int32)), .val (.int (own_adm (0 : Int32) x1 x2)), .unset] [])) _
        refine Goes.to (fun _ k => XS.lloadN X15.here hx rfl (hb hby at_129) rfl k) ?_
        show Goes p.tables e below (T15.setTop (mkF m 130 #[.val (.int x0), .val (.long x1), .second, .val (.long x2), .second, .val (.int ((x0 &&& (2147483647 : Int32)) % (6 : Int32))), .val (.ref a_Constraints_Size_MIN_ITEMS), .val (.int (0 : Int32)), .val (.int (own_adm (0 : Int32) x1 x2)), .unset] [(.long x1)])) _
        refine Goes.to (fun _ k => XS.lloadN X15.here hx rfl (hb hby at_130) rfl k) ?_
        show Goes p.tables e below (T15.setTop (mkF m 131 #[.val (.int x0), .val (.long x1), .second, .val (.long x2), .second, .val (.int ((x0 &&& (2147483647 : Int32)) % (6 : Int32))), .val (.ref a_Constraints_Size_MIN_ITEMS), .val (.int (0 : Int32)), .val (.int (own_adm (0 : Int32) x1 x2)), .unset] [(.long x2), (.long x1)])) _
        refine Goes.to (fun _ k => XS.lcmp X15.here hx rfl (hb hby at_131) rfl k) ?_
        show Goes p.tables e below (T15.setTop (mkF m 132 #[.val (.int x0), .val (.long x1), .second, .val (.long x2), .second, .val (.int ((x0 &&& (2147483647 : Int32)) % (6 : Int32))), .val (.ref a_Constraints_Size_MIN_ITEMS), .val (.int (0 : Int32)), .val (.int (own_adm (0 : Int32) x1 x2)), .unset] [(.int (lcmpW x1 x2))])) _
        by_cases hc16 : x1 < x2
        · refine Goes.to (fun _ k => XS.ifYes X15.here hx rfl (pc0 := 132) (pc' := 139) rfl (hb hby at_132) rfl ((if0 _ _).trans (tlt ((lw_lt x1 x2).mpr hc16)).1) (by decide) (by decide) k) ?_
          show Goes p.tables e below (T15.setTop (mkF m 139 #[.val (.int x0), .val (.long x1), .second, .val (.long x2), .second, .val (.int ((x0 &&& (2147483647 : Int32)) % (6 : Int32))), .val (.ref a_Constraints_Size_MIN_ITEMS), .val (.int (0 : Int32)), .val (.int (own_adm (0 : Int32) x1 x2)), .unset] [])) _
          refine Goes.to (fun _ k => XS.iconst X15.here hx rfl (hb hby at_139) k) ?_
          show Goes p.tables e below (T15.setTop (mkF m 140 #[.val (.int x0), .val (.long x1), .second, .val (.long x2), .second, .val (.int ((x0 &&& (2147483647 : Int32)) % (6 : Int32))), .val (.ref a_Constraints_Size_MIN_ITEMS), .val (.int (0 : Int32)), .val (.int (own_adm (0 : Int32) x1 x2)), .unset] [(.int (0 : Int32))])) _
          refine Goes.to (fun _ k => XS.istore X15.here hx rfl (hb hby at_140) rfl (l' := #[.val (.int x0), .val (.long x1), .second, .val (.long x2), .second, .val (.int ((x0 &&& (2147483647 : Int32)) % (6 : Int32))), .val (.ref a_Constraints_Size_MIN_ITEMS), .val (.int (0 : Int32)), .val (.int (own_adm (0 : Int32) x1 x2)), .val (.int (0 : Int32))]) rfl k) ?_
          show Goes p.tables e below (T15.setTop (mkF m 142 #[.val (.int x0), .val (.long x1), .second, .val (.long x2), .second, .val (.int ((x0 &&& (2147483647 : Int32)) % (6 : Int32))), .val (.ref a_Constraints_Size_MIN_ITEMS), .val (.int (0 : Int32)), .val (.int (own_adm (0 : Int32) x1 x2)), .val (.int (0 : Int32))] [])) _
          refine Goes.to (fun _ k => XS.iload X15.here hx rfl (hb hby at_142) rfl k) ?_
          show Goes p.tables e below (T15.setTop (mkF m 144 #[.val (.int x0), .val (.long x1), .second, .val (.long x2), .second, .val (.int ((x0 &&& (2147483647 : Int32)) % (6 : Int32))), .val (.ref a_Constraints_Size_MIN_ITEMS), .val (.int (0 : Int32)), .val (.int (own_adm (0 : Int32) x1 x2)), .val (.int (0 : Int32))] [(.int (own_adm (0 : Int32) x1 x2))])) _
          refine Goes.to (fun _ k => XS.iload X15.here hx rfl (hb hby at_144) rfl k) ?_
          show Goes p.tables e below (T15.setTop (mkF m 146 #[.val (.int x0), .val (.long x1), .second, .val (.long x2), .second, .val (.int ((x0 &&& (2147483647 : Int32)) % (6 : Int32))), .val (.ref a_Constraints_Size_MIN_ITEMS), .val (.int (0 : Int32)), .val (.int (own_adm (0 : Int32) x1 x2)), .val (.int (0 : Int32))] [(.int (0 : Int32)), (.int (own_adm (0 : Int32) x1 x2))])) _
          by_cases hc17 : (own_adm (0 : Int32) x1 x2) = (0 : Int32)
          · refine Goes.to (fun _ k => XS.icmpNo X15.here hx rfl (hb hby at_146) rfl (teq hc17).2 k) ?_
            show Goes p.tables e below (T15.setTop (mkF m 149 #[.val (.int x0), .val (.long x1), .second, .val (.long x2), .second, .val (.int ((x0 &&& (2147483647 : Int32)) % (6 : Int32))), .val (.ref a_Constraints_Size_MIN_ITEMS), .val (.int (0 : Int32)), .val (.int (own_adm (0 : Int32) x1 x2)), .val (.int (0 : Int32))] [])) _
            refine Goes.to (fun _ k => XS.iconst X15.here hx rfl (hb hby at_149) k) ?_
            show Goes p.tables e below (T15.setTop (mkF m 150 #[.val (.int x0), .val (.long x1), .second, .val (.long x2), .second, .val (.int ((x0 &&& (2147483647 : Int32)) % (6 : Int32))), .val (.ref a_Constraints_Size_MIN_ITEMS), .val (.int (0 : Int32)), .val (.int (own_adm (0 : Int32) x1 x2)), .val (.int (0 : Int32))] [(.int (1 : Int32))])) _
            refine Goes.to (fun _ k => XS.goto X15.here hx rfl (pc0 := 150) (pc' := 154) rfl (hb hby at_150) (by decide) (by decide) k) ?_
            show Goes p.tables e below (T15.setTop (mkF m 154 #[.val (.int x0), .val (.long x1), .second, .val (.long x2), .second, .val (.int ((x0 &&& (2147483647 : Int32)) % (6 : Int32))), .val (.ref a_Constraints_Size_MIN_ITEMS), .val (.int (0 : Int32)), .val (.int (own_adm (0 : Int32) x1 x2)), .val (.int (0 : Int32))] [(.int (1 : Int32))])) _
            obtain ⟨fs, hr, hrun, hended, hW, hsame⟩ := X15.leave (v := some (.int (1 : Int32))) (fun h => by rw [Bd.returns] at h; cases h)
            have hv : (some (.int (1 : Int32)) : Option Value) = some (.int (1 : Int32)) := by
              rfl
            exact ⟨_, _, retN X15 hx (t := .boolean) Bd.returns (by simp) (hb hby at_154) hr, hrun, hended, _, _, rfl, ⟨hv, N15⟩, ⟨_, rfl⟩, hW, hsame.mono (by decide) (by decide)⟩
          · refine Goes.to (fun _ k => XS.icmpYes X15.here hx rfl (pc0 := 146) (pc' := 153) rfl (hb hby at_146) rfl (feq hc17).2 (by decide) (by decide) k) ?_
            show Goes p.tables e below (T15.setTop (mkF m 153 #[.val (.int x0), .val (.long x1), .second, .val (.long x2), .second, .val (.int ((x0 &&& (2147483647 : Int32)) % (6 : Int32))), .val (.ref a_Constraints_Size_MIN_ITEMS), .val (.int (0 : Int32)), .val (.int (own_adm (0 : Int32) x1 x2)), .val (.int (0 : Int32))] [])) _
            refine Goes.to (fun _ k => XS.iconst X15.here hx rfl (hb hby at_153) k) ?_
            show Goes p.tables e below (T15.setTop (mkF m 154 #[.val (.int x0), .val (.long x1), .second, .val (.long x2), .second, .val (.int ((x0 &&& (2147483647 : Int32)) % (6 : Int32))), .val (.ref a_Constraints_Size_MIN_ITEMS), .val (.int (0 : Int32)), .val (.int (own_adm (0 : Int32) x1 x2)), .val (.int (0 : Int32))] [(.int (0 : Int32))])) _
            obtain ⟨fs, hr, hrun, hended, hW, hsame⟩ := X15.leave (v := some (.int (0 : Int32))) (fun h => by rw [Bd.returns] at h; cases h)
            have hv : (some (.int (0 : Int32)) : Option Value) = some (.int (1 : Int32)) := by
              exfalso
              apply hc17
              rw [own_adm, if_pos rfl, if_pos hc16]
            exact ⟨_, _, retN X15 hx (t := .boolean) Bd.returns (by simp) (hb hby at_154) hr, hrun, hended, _, _, rfl, ⟨hv, N15⟩, ⟨_, rfl⟩, hW, hsame.mono (by decide) (by decide)⟩
        · refine Goes.to (fun _ k => XS.ifNo X15.here hx rfl (hb hby at_132) rfl ((if0 _ _).trans (flt (fun q => hc16 ((lw_lt x1 x2).mp q))).1) k) ?_
          show Goes p.tables e below (T15.setTop (mkF m 135 #[.val (.int x0), .val (.long x1), .second, .val (.long x2), .second, .val (.int ((x0 &&& (2147483647 : Int32)) % (6 : Int32))), .val (.ref a_Constraints_Size_MIN_ITEMS), .val (.int (0 : Int32)), .val (.int (own_adm (0 : Int32) x1 x2)), .unset] [])) _
          refine Goes.to (fun _ k => XS.iconst X15.here hx rfl (hb hby at_135) k) ?_
          show Goes p.tables e below (T15.setTop (mkF m 136 #[.val (.int x0), .val (.long x1), .second, .val (.long x2), .second, .val (.int ((x0 &&& (2147483647 : Int32)) % (6 : Int32))), .val (.ref a_Constraints_Size_MIN_ITEMS), .val (.int (0 : Int32)), .val (.int (own_adm (0 : Int32) x1 x2)), .unset] [(.int (1 : Int32))])) _
          refine Goes.to (fun _ k => XS.goto X15.here hx rfl (pc0 := 136) (pc' := 140) rfl (hb hby at_136) (by decide) (by decide) k) ?_
          show Goes p.tables e below (T15.setTop (mkF m 140 #[.val (.int x0), .val (.long x1), .second, .val (.long x2), .second, .val (.int ((x0 &&& (2147483647 : Int32)) % (6 : Int32))), .val (.ref a_Constraints_Size_MIN_ITEMS), .val (.int (0 : Int32)), .val (.int (own_adm (0 : Int32) x1 x2)), .unset] [(.int (1 : Int32))])) _
          refine Goes.to (fun _ k => XS.istore X15.here hx rfl (hb hby at_140) rfl (l' := #[.val (.int x0), .val (.long x1), .second, .val (.long x2), .second, .val (.int ((x0 &&& (2147483647 : Int32)) % (6 : Int32))), .val (.ref a_Constraints_Size_MIN_ITEMS), .val (.int (0 : Int32)), .val (.int (own_adm (0 : Int32) x1 x2)), .val (.int (1 : Int32))]) rfl k) ?_
          show Goes p.tables e below (T15.setTop (mkF m 142 #[.val (.int x0), .val (.long x1), .second, .val (.long x2), .second, .val (.int ((x0 &&& (2147483647 : Int32)) % (6 : Int32))), .val (.ref a_Constraints_Size_MIN_ITEMS), .val (.int (0 : Int32)), .val (.int (own_adm (0 : Int32) x1 x2)), .val (.int (1 : Int32))] [])) _
          refine Goes.to (fun _ k => XS.iload X15.here hx rfl (hb hby at_142) rfl k) ?_
          show Goes p.tables e below (T15.setTop (mkF m 144 #[.val (.int x0), .val (.long x1), .second, .val (.long x2), .second, .val (.int ((x0 &&& (2147483647 : Int32)) % (6 : Int32))), .val (.ref a_Constraints_Size_MIN_ITEMS), .val (.int (0 : Int32)), .val (.int (own_adm (0 : Int32) x1 x2)), .val (.int (1 : Int32))] [(.int (own_adm (0 : Int32) x1 x2))])) _
          refine Goes.to (fun _ k => XS.iload X15.here hx rfl (hb hby at_144) rfl k) ?_
          show Goes p.tables e below (T15.setTop (mkF m 146 #[.val (.int x0), .val (.long x1), .second, .val (.long x2), .second, .val (.int ((x0 &&& (2147483647 : Int32)) % (6 : Int32))), .val (.ref a_Constraints_Size_MIN_ITEMS), .val (.int (0 : Int32)), .val (.int (own_adm (0 : Int32) x1 x2)), .val (.int (1 : Int32))] [(.int (1 : Int32)), (.int (own_adm (0 : Int32) x1 x2))])) _
          by_cases hc18 : (own_adm (0 : Int32) x1 x2) = (1 : Int32)
          · refine Goes.to (fun _ k => XS.icmpNo X15.here hx rfl (hb hby at_146) rfl (teq hc18).2 k) ?_
            show Goes p.tables e below (T15.setTop (mkF m 149 #[.val (.int x0), .val (.long x1), .second, .val (.long x2), .second, .val (.int ((x0 &&& (2147483647 : Int32)) % (6 : Int32))), .val (.ref a_Constraints_Size_MIN_ITEMS), .val (.int (0 : Int32)), .val (.int (own_adm (0 : Int32) x1 x2)), .val (.int (1 : Int32))] [])) _
            refine Goes.to (fun _ k => XS.iconst X15.here hx rfl (hb hby at_149) k) ?_
            show Goes p.tables e below (T15.setTop (mkF m 150 #[.val (.int x0), .val (.long x1), .second, .val (.long x2), .second, .val (.int ((x0 &&& (2147483647 : Int32)) % (6 : Int32))), .val (.ref a_Constraints_Size_MIN_ITEMS), .val (.int (0 : Int32)), .val (.int (own_adm (0 : Int32) x1 x2)), .val (.int (1 : Int32))] [(.int (1 : Int32))])) _
            refine Goes.to (fun _ k => XS.goto X15.here hx rfl (pc0 := 150) (pc' := 154) rfl (hb hby at_150) (by decide) (by decide) k) ?_
            show Goes p.tables e below (T15.setTop (mkF m 154 #[.val (.int x0), .val (.long x1), .second, .val (.long x2), .second, .val (.int ((x0 &&& (2147483647 : Int32)) % (6 : Int32))), .val (.ref a_Constraints_Size_MIN_ITEMS), .val (.int (0 : Int32)), .val (.int (own_adm (0 : Int32) x1 x2)), .val (.int (1 : Int32))] [(.int (1 : Int32))])) _
            obtain ⟨fs, hr, hrun, hended, hW, hsame⟩ := X15.leave (v := some (.int (1 : Int32))) (fun h => by rw [Bd.returns] at h; cases h)
            have hv : (some (.int (1 : Int32)) : Option Value) = some (.int (1 : Int32)) := by
              rfl
            exact ⟨_, _, retN X15 hx (t := .boolean) Bd.returns (by simp) (hb hby at_154) hr, hrun, hended, _, _, rfl, ⟨hv, N15⟩, ⟨_, rfl⟩, hW, hsame.mono (by decide) (by decide)⟩
          · refine Goes.to (fun _ k => XS.icmpYes X15.here hx rfl (pc0 := 146) (pc' := 153) rfl (hb hby at_146) rfl (feq hc18).2 (by decide) (by decide) k) ?_
            show Goes p.tables e below (T15.setTop (mkF m 153 #[.val (.int x0), .val (.long x1), .second, .val (.long x2), .second, .val (.int ((x0 &&& (2147483647 : Int32)) % (6 : Int32))), .val (.ref a_Constraints_Size_MIN_ITEMS), .val (.int (0 : Int32)), .val (.int (own_adm (0 : Int32) x1 x2)), .val (.int (1 : Int32))] [])) _
            refine Goes.to (fun _ k => XS.iconst X15.here hx rfl (hb hby at_153) k) ?_
            show Goes p.tables e below (T15.setTop (mkF m 154 #[.val (.int x0), .val (.long x1), .second, .val (.long x2), .second, .val (.int ((x0 &&& (2147483647 : Int32)) % (6 : Int32))), .val (.ref a_Constraints_Size_MIN_ITEMS), .val (.int (0 : Int32)), .val (.int (own_adm (0 : Int32) x1 x2)), .val (.int (1 : Int32))] [(.int (0 : Int32))])) _
            obtain ⟨fs, hr, hrun, hended, hW, hsame⟩ := X15.leave (v := some (.int (0 : Int32))) (fun h => by rw [Bd.returns] at h; cases h)
            have hv : (some (.int (0 : Int32)) : Option Value) = some (.int (1 : Int32)) := by
              exfalso
              apply hc18
              rw [own_adm, if_pos rfl, if_neg hc16]
            exact ⟨_, _, retN X15 hx (t := .boolean) Bd.returns (by simp) (hb hby at_154) hr, hrun, hended, _, _, rfl, ⟨hv, N15⟩, ⟨_, rfl⟩, hW, hsame.mono (by decide) (by decide)⟩
      · refine Goes.to (fun _ k => XS.icmpYes X0.here hx rfl (pc0 := 45) (pc' := 59) rfl (hb hby at_45) rfl (feq hc13).2 (by decide) (by decide) k) ?_
        show Goes p.tables e below (s₁.setTop (mkF m 59 #[.val (.int x0), .val (.long x1), .second, .val (.long x2), .second, .val (.int ((x0 &&& (2147483647 : Int32)) % (6 : Int32))), .unset, .unset, .unset, .unset] [])) _
        refine Goes.to (fun _ k => XS.iload X0.here hx rfl (hb hby at_59) rfl k) ?_
        show Goes p.tables e below (s₁.setTop (mkF m 61 #[.val (.int x0), .val (.long x1), .second, .val (.long x2), .second, .val (.int ((x0 &&& (2147483647 : Int32)) % (6 : Int32))), .unset, .unset, .unset, .unset] [(.int ((x0 &&& (2147483647 : Int32)) % (6 : Int32)))])) _
        refine Goes.to (fun _ k => XS.iconst X0.here hx rfl (hb hby at_61) k) ?_
        show Goes p.tables e below (s₁.setTop (mkF m 62 #[.val (.int x0), .val (.long x1), .second, .val (.long x2), .second, .val (.int ((x0 &&& (2147483647 : Int32)) % (6 : Int32))), .unset, .unset, .unset, .unset] [(.int (3 : Int32)), (.int ((x0 &&& (2147483647 : Int32)) % (6 : Int32)))])) _
        by_cases hc19 : ((x0 &&& (2147483647 : Int32)) % (6 : Int32)) = (3 : Int32)
        · refine Goes.to (fun _ k => XS.icmpNo X0.here hx rfl (hb hby at_62) rfl (teq hc19).2 k) ?_
          show Goes p.tables e below (s₁.setTop (mkF m 65 #[.val (.int x0), .val (.long x1), .second, .val (.long x2), .second, .val (.int ((x0 &&& (2147483647 : Int32)) % (6 : Int32))), .unset, .unset, .unset, .unset] [])) _
          obtain ⟨T20, X20, e20, st20⟩ := getS2 X0 hx hZ hown (host := "") (Or.inl (hw _ (List.mem_of_getElem? (i := 13) rfl))) Via.refl e0 (S_Constraints_Size_MAX_ITEMS.ext O0.2) (g := (mkF m 65 #[.val (.int x0), .val (.long x1), .second, .val (.long x2), .second, .val (.int ((x0 &&& (2147483647 : Int32)) % (6 : Int32))), .unset, .unset, .unset, .unset] [])) rfl (hb hby at_65)
          refine Goes.to st20 ?_
          show Goes p.tables e below (T20.setTop (mkF m 68 #[.val (.int x0), .val (.long x1), .second, .val (.long x2), .second, .val (.int ((x0 &&& (2147483647 : Int32)) % (6 : Int32))), .unset, .unset, .unset, .unset] [(.ref a_Constraints_Size_MAX_ITEMS)])) _
          refine Goes.to (fun _ k => XS.astore X20.here hx rfl (hb hby at_68) rfl rfl (l' := #[.val (.int x0), .val (.long x1), .second, .val (.long x2), .second, .val (.int ((x0 &&& (2147483647 : Int32)) % (6 : Int32))), .val (.ref a_Constraints_Size_MAX_ITEMS), .unset, .unset, .unset]) rfl k) ?_
          show Goes p.tables e below (T20.setTop (mkF m 70 #[.val (.int x0), .val (.long x1), .second, .val (.long x2), .second, .val (.int ((x0 &&& (2147483647 : Int32)) % (6 : Int32))), .val (.ref a_Constraints_Size_MAX_ITEMS), .unset, .unset, .unset] [])) _
          refine Goes.to (fun _ k => XS.iconst X20.here hx rfl (hb hby at_70) k) ?_
          show Goes p.tables e below (T20.setTop (mkF m 71 #[.val (.int x0), .val (.long x1), .second, .val (.long x2), .second, .val (.int ((x0 &&& (2147483647 : Int32)) % (6 : Int32))), .val (.ref a_Constraints_Size_MAX_ITEMS), .unset, .unset, .unset] [(.int (1 : Int32))])) _
          refine Goes.to (fun _ k => XS.istore X20.here hx rfl (hb hby at_71) rfl (l' := #[.val (.int x0), .val (.long x1), .second, .val (.long x2), .second, .val (.int ((x0 &&& (2147483647 : Int32)) % (6 : Int32))), .val (.ref a_Constraints_Size_MAX_ITEMS), .val (.int (1 : Int32)), .unset, .unset]) rfl k) ?_
          show Goes p.tables e below (T20.setTop (mkF m 73 #[.val (.int x0), .val (.long x1), .second, .val (.long x2), .second, .val (.int ((x0 &&& (2147483647 : Int32)) % (6 : Int32))), .val (.ref a_Constraints_Size_MAX_ITEMS), .val (.int (1 : Int32)), .unset, .unset] [])) _
          refine Goes.to (fun _ k => XS.goto X20.here hx rfl (pc0 := 73) (pc' := 101) rfl (hb hby at_73) (by decide) (by decide) k) ?_
          show Goes p.tables e below (T20.setTop (mkF m 101 #[.val (.int x0), .val (.long x1), .second, .val (.long x2), .second, .val (.int ((x0 &&& (2147483647 : Int32)) % (6 : Int32))), .val (.ref a_Constraints_Size_MAX_ITEMS), .val (.int (1 : Int32)), .unset, .unset] [])) _
          refine Goes.to (fun _ k => XS.aload X20.here hx rfl (hb hby at_101) rfl rfl k) ?_
          show Goes p.tables e below (T20.setTop (mkF m 103 #[.val (.int x0), .val (.long x1), .second, .val (.long x2), .second, .val (.int ((x0 &&& (2147483647 : Int32)) % (6 : Int32))), .val (.ref a_Constraints_Size_MAX_ITEMS), .val (.int (1 : Int32)), .unset, .unset] [(.ref a_Constraints_Size_MAX_ITEMS)])) _
          refine Goes.to (fun _ k => XS.lloadN X20.here hx rfl (hb hby at_103) rfl k) ?_
          show Goes p.tables e below (T20.setTop (mkF m 104 #[.val (.int x0), .val (.long x1), .second, .val (.long x2), .second, .val (.int ((x0 &&& (2147483647 : Int32)) % (6 : Int32))), .val (.ref a_Constraints_Size_MAX_ITEMS), .val (.int (1 : Int32)), .unset, .unset] [(.long x1), (.ref a_Constraints_Size_MAX_ITEMS)])) _
          refine Goes.to (fun _ k => XS.lloadN X20.here hx rfl (hb hby at_104) rfl k) ?_
          show Goes p.tables e below (T20.setTop (mkF m 105 #[.val (.int x0), .val (.long x1), .second, .val (.long x2), .second, .val (.int ((x0 &&& (2147483647 : Int32)) % (6 : Int32))), .val (.ref a_Constraints_Size_MAX_ITEMS), .val (.int (1 : Int32)), .unset, .unset] [(.long x2), (.long x1), (.ref a_Constraints_Size_MAX_ITEMS)])) _
          obtain ⟨cq21, kq21, q21a, q21b, q21c⟩ := isOf hZ e20 (E_Constraints_Size_MAX_ITEMS.ext O0.2)
          obtain ⟨_, _, ⟨T21, L21, k21, n21⟩, -, X21, ⟨Lc21, hQ21, l21, y21, z21⟩, st21⟩ := X20.virtualBack hx (y := (⟨"com/example/unipar/unipar/Constraints$Size", "admits", "(JJ)Z"⟩ : MethodName)) (z := (⟨"com/example/unipar/unipar/Constraints$Size", "admits", "(JJ)Z"⟩ : MethodName)) hown (mvT hZ (hw _ (List.mem_of_getElem? (i := 4) rfl))) (mvT hZ (hw _ (List.mem_of_getElem? (i := 5) rfl))) (notFace_of_selects (args := #[]) (mvT hZ (hw _ (List.mem_of_getElem? (i := 7) rfl)))) (mvT hZ (hw _ (List.mem_of_getElem? (i := 7) rfl))) (mvT hZ (hw _ (List.mem_of_getElem? (i := 6) rfl))) (by decide) (backOf (W := 0) (own_rm1 l Z a0 hw [] a_Constraints_Size_MAX_ITEMS x1 x2 (1 : Int32) h0 n0 Z0 (F_Constraints_Size_MAX_ITEMS_upper.ext O0.2)) hZ (hw _ (List.mem_of_getElem? (i := 8) rfl)) (hw _ (List.mem_of_getElem? (i := 2) rfl)) (by decide) (by decide)) q21a q21c (g := (mkF m 105 #[.val (.int x0), .val (.long x1), .second, .val (.long x2), .second, .val (.int ((x0 &&& (2147483647 : Int32)) % (6 : Int32))), .val (.ref a_Constraints_Size_MAX_ITEMS), .val (.int (1 : Int32)), .unset, .unset] [(.long x2), (.long x1), (.ref a_Constraints_Size_MAX_ITEMS)])) rfl (by rw [hml]; rfl) (Steps.refl _) (argsL := [(.long x1), (.long x2)]) (rest := []) (lenOf own_pd_pJJqZ rfl) rfl (by show 2 * 0 + _ ≤ _; exact Nat.le_of_eq rfl) (hb hby at_105) (fun _ _ => ⟨rfl, e20, (by decide : 0 + 0 ≤ _), (by decide : 0 + 0 ≤ _)⟩)
          dsimp only [Pt.U, Pt.locs, Pt.cells, Pt.slots] at X21 l21 y21 z21 st21 hQ21
          subst l21 y21 z21
          obtain ⟨hv21, Nq21, hp21_0⟩ := hQ21
          have N21 := Fr.app N0 Nq21
          subst hv21
          refine Goes.tr st21 ?_
          show Goes p.tables e below (T21.setTop (mkF m 108 #[.val (.int x0), .val (.long x1), .second, .val (.long x2), .second, .val (.int ((x0 &&& (2147483647 : Int32)) % (6 : Int32))), .val (.ref a_Constraints_Size_MAX_ITEMS), .val (.int (1 : Int32)), .unset, .unset] [(.int (own_adm (1 : Int32) x1 x2))])) _
          refine Goes.to (fun _ k => XS.istore X21.here hx rfl (hb hby at_108) rfl (l' := #[.val (.int x0), .val (.long x1), .second, .val (.long x2), .second, .val (.int ((x0 &&& (2147483647 : Int32)) % (6 : Int32))), .val (.ref a_Constraints_Size_MAX_ITEMS), .val (.int (1 : Int32)), .val (.int (own_adm (1 : Int32) x1 x2)), .unset]) rfl k) ?_
          show Goes p.tables e below (T21.setTop (mkF m 110 #[.val (.int x0), .val (.long x1), .second, .val (.long x2), .second, .val (.int ((x0 &&& (2147483647 : Int32)) % (6 : Int32))), .val (.ref a_Constraints_Size_MAX_ITEMS), .val (.int (1 : Int32)), .val (.int (own_adm (1 : Int32) x1 x2)), .unset] [])) _
          refine Goes.to (fun _ k => XS.iload X21.here hx rfl (hb hby at_110) rfl k) ?_
          show Goes p.tables e below (T21.setTop (mkF m 112 #[.val (.int x0), .val (.long x1), .second, .val (.long x2), .second, .val (.int ((x0 &&& (2147483647 : Int32)) % (6 : Int32))), .val (.ref a_Constraints_Size_MAX_ITEMS), .val (.int (1 : Int32)), .val (.int (own_adm (1 : Int32) x1 x2)), .unset] [(.int (1 : Int32))])) _
          refine Goes.to (fun _ k => XS.ifNo X21.here hx rfl (hb hby at_112) rfl ((if0 _ _).trans (feq (by decide : ¬ ((1 : Int32) = (0 : Int32)))).1) k) ?_
          show Goes p.tables e below (T21.setTop (mkF m 115 #[.val (.int x0), .val (.long x1), .second, .val (.long x2), .second, .val (.int ((x0 &&& (2147483647 : Int32)) % (6 : Int32))), .val (.ref a_Constraints_Size_MAX_ITEMS), .val (.int (1 : Int32)), .val (.int (own_adm (1 : Int32) x1 x2)), .unset] [])) _
          refine Goes.to (fun _ k => XS.lloadN X21.here hx rfl (hb hby at_115) rfl k) ?_
          show Goes p.tables e below (T21.setTop (mkF m 116 #[.val (.int x0), .val (.long x1), .second, .val (.long x2), .second, .val (.int ((x0 &&& (2147483647 : Int32)) % (6 : Int32))), .val (.ref a_Constraints_Size_MAX_ITEMS), .val (.int (1 : Int32)), .val (.int (own_adm (1 : Int32) x1 x2)), .unset] [(.long x1)])) _
          refine Goes.to (fun _ k => XS.lloadN X21.here hx rfl (hb hby at_116) rfl k) ?_
          show Goes p.tables e below (T21.setTop (mkF m 117 #[.val (.int x0), .val (.long x1), .second, .val (.long x2), .second, .val (.int ((x0 &&& (2147483647 : Int32)) % (6 : Int32))), .val (.ref a_Constraints_Size_MAX_ITEMS), .val (.int (1 : Int32)), .val (.int (own_adm (1 : Int32) x1 x2)), .unset] [(.long x2), (.long x1)])) _
          refine Goes.to (fun _ k => XS.lcmp X21.here hx rfl (hb hby at_117) rfl k) ?_
          show Goes p.tables e below (T21.setTop (mkF m 118 #[.val (.int x0), .val (.long x1), .second, .val (.long x2), .second, .val (.int ((x0 &&& (2147483647 : Int32)) % (6 : Int32))), .val (.ref a_Constraints_Size_MAX_ITEMS), .val (.int (1 : Int32)), .val (.int (own_adm (1 : Int32) x1 x2)), .unset] [(.int (lcmpW x1 x2))])) _
          by_cases hc22 : x2 < x1
          · refine Goes.to (fun _ k => XS.ifYes X21.here hx rfl (pc0 := 118) (pc' := 125) rfl (hb hby at_118) rfl ((if0 _ _).trans (tlt ((lw_gt x1 x2).mpr hc22)).2.2.1) (by decide) (by decide) k) ?_
            show Goes p.tables e below (T21.setTop (mkF m 125 #[.val (.int x0), .val (.long x1), .second, .val (.long x2), .second, .val (.int ((x0 &&& (2147483647 : Int32)) % (6 : Int32))), .val (.ref a_Constraints_Size_MAX_ITEMS), .val (.int (1 : Int32)), .val (.int (own_adm (1 : Int32) x1 x2)), .unset] [])) _
            refine Goes.to (fun _ k => XS.iconst X21.here hx rfl (hb hby at_125) k) ?_
            show Goes p.tables e below (T21.setTop (mkF m 126 #[.val (.int x0), .val (.long x1), .second, .val (.long x2), .second, .val (.int ((x0 &&& (2147483647 : Int32)) % (6 : Int32))), .val (.ref a_Constraints_Size_MAX_ITEMS), .val (.int (1 : Int32)), .val (.int (own_adm (1 : Int32) x1 x2)), .unset] [(.int (0 : Int32))])) _
            refine Goes.to (fun _ k => XS.goto X21.here hx rfl (pc0 := 126) (pc' := 140) rfl (hb hby at_126) (by decide) (by decide) k) ?_
            show Goes p.tables e below (T21.setTop (mkF m 140 #[.val (.int x0), .val (.long x1), .second, .val (.long x2), .second, .val (.int ((x0 &&& (2147483647 : Int32)) % (6 : Int32))), .val (.ref a_Constraints_Size_MAX_ITEMS), .val (.int (1 : Int32)), .val (.int (own_adm (1 : Int32) x1 x2)), .unset] [(.int (0 : Int32))])) _
            refine Goes.to (fun _ k => XS.istore X21.here hx rfl (hb hby at_140) rfl (l' := #[.val (.int x0), .val (.long x1), .second, .val (.long x2), .second, .val (.int ((x0 &&& (2147483647 : Int32)) % (6 : Int32))), .val (.ref a_Constraints_Size_MAX_ITEMS), .val (.int (1 : Int32)), .val (.int (own_adm (1 : Int32) x1 x2)), .val (.int (0 : Int32))]) rfl k) ?_
            show Goes p.tables e below (T21.setTop (mkF m 142 #[.val (.int x0), .val (.long x1), .second, .val (.long x2), .second, .val (.int ((x0 &&& (2147483647 : Int32)) % (6 : Int32))), .val (.ref a_Constraints_Size_MAX_ITEMS), .val (.int (1 : Int32)), .val (.int (own_adm (1 : Int32) x1 x2)), .val (.int (0 : Int32))] [])) _
            refine Goes.to (fun _ k => XS.iload X21.here hx rfl (hb hby at_142) rfl k) ?_
            show Goes p.tables e below (T21.setTop (mkF m 144 #[.val (.int x0), .val (.long x1), .second, .val (.long x2), .second, .val (.int ((x0 &&& (2147483647 : Int32)) % (6 : Int32))), .val (.ref a_Constraints_Size_MAX_ITEMS), .val (.int (1 : Int32)), .val (.int (own_adm (1 : Int32) x1 x2)), .val (.int (0 : Int32))] [(.int (own_adm (1 : Int32) x1 x2))])) _
            refine Goes.to (fun _ k => XS.iload X21.here hx rfl (hb hby at_144) rfl k) ?_
            show Goes p.tables e below (T21.setTop (mkF m 146 #[.val (.int x0), .val (.long x1), .second, .val (.long x2), .second, .val (.int ((x0 &&& (2147483647 : Int32)) % (6 : Int32))), .val (.ref a_Constraints_Size_MAX_ITEMS), .val (.int (1 : Int32)), .val (.int (own_adm (1 : Int32) x1 x2)), .val (.int (0 : Int32))] [(.int (0 : Int32)), (.int (own_adm (1 : Int32) x1 x2))])) _
            by_cases hc23 : (own_adm (1 : Int32) x1 x2) = (0 : Int32)
            · refine Goes.to (fun _ k => XS.icmpNo X21.here hx rfl (hb hby at_146) rfl (teq hc23).2 k) ?_
              show Goes p.tables e below (T21.setTop (mkF m 149 #[.val (.int x0), .val (.long x1), .second, .val (.long x2), .second, .val (.int ((x0 &&& (2147483647 : Int32)) % (6 : Int32))), .val (.ref a_Constraints_Size_MAX_ITEMS), .val (.int (1 : Int32)), .val (.int (own_adm (1 : Int32) x1 x2)), .val (.int (0 : Int32))] [])) _
              refine Goes.to (fun _ k => XS.iconst X21.here hx rfl (hb hby at_149) k) ?_
              show Goes p.tables e below (T21.setTop (mkF m 150 #[.val (.int x0), .val (.long x1), .second, .val (.long x2), .second, .val (.int ((x0 &&& (2147483647 : Int32)) % (6 : Int32))), .val (.ref a_Constraints_Size_MAX_ITEMS), .val (.int (1 : Int32)), .val (.int (own_adm (1 : Int32) x1 x2)), .val (.int (0 : Int32))] [(.int (1 : Int32))])) _
              refine Goes.to (fun _ k => XS.goto X21.here hx rfl (pc0 := 150) (pc' := 154) rfl (hb hby at_150) (by decide) (by decide) k) ?_
              show Goes p.tables e below (T21.setTop (mkF m 154 #[.val (.int x0), .val (.long x1), .second, .val (.long x2), .second, .val (.int ((x0 &&& (2147483647 : Int32)) % (6 : Int32))), .val (.ref a_Constraints_Size_MAX_ITEMS), .val (.int (1 : Int32)), .val (.int (own_adm (1 : Int32) x1 x2)), .val (.int (0 : Int32))] [(.int (1 : Int32))])) _
              obtain ⟨fs, hr, hrun, hended, hW, hsame⟩ := X21.leave (v := some (.int (1 : Int32))) (fun h => by rw [Bd.returns] at h; cases h)
              have hv : (some (.int (1 : Int32)) : Option Value) = some (.int (1 : Int32)) := by
                rfl
              exact ⟨_, _, retN X21 hx (t := .boolean) Bd.returns (by simp) (hb hby at_154) hr, hrun, hended, _, _, rfl, ⟨hv, N21⟩, ⟨_, rfl⟩, hW, hsame.mono (by decide) (by decide)⟩
            · refine Goes.to (fun _ k => XS.icmpYes X21.here hx rfl (pc0 := 146) (pc' := 153) rfl (hb hby at_146) rfl (feq hc23).2 (by decide) (by decide) k) ?_
              show Goes p.tables e below (T21.setTop (mkF m 153 #[.val (.int x0), .val (.long x1), .second, .val (.long x2), .second, .val (.int ((x0 &&& (2147483647 : Int32)) % (6 : Int32))), .val (.ref a_Constraints_Size_MAX_ITEMS), .val (.int (1 : Int32)), .val (.int (own_adm (1 : Int32) x1 x2)), .val (.int (0 : Int32))] [])) _
              refine Goes.to (fun _ k => XS.iconst X21.here hx rfl (hb hby at_153) k) ?_
              show Goes p.tables e below (T21.setTop (mkF m 154 #[.val (.int x0), .val (.long x1), .second, .val (.long x2), .second, .val (.int ((x0 &&& (2147483647 : Int32)) % (6 : Int32))), .val (.ref a_Constraints_Size_MAX_ITEMS), .val (.int (1 : Int32)), .val (.int (own_adm (1 : Int32) x1 x2)), .val (.int (0 : Int32))] [(.int (0 : Int32))])) _
              obtain ⟨fs, hr, hrun, hended, hW, hsame⟩ := X21.leave (v := some (.int (0 : Int32))) (fun h => by rw [Bd.returns] at h; cases h)
              have hv : (some (.int (0 : Int32)) : Option Value) = some (.int (1 : Int32)) := by
                exfalso
                apply hc23
                rw [own_adm, if_neg (by decide), if_pos hc22]
              exact ⟨_, _, retN X21 hx (t := .boolean) Bd.returns (by simp) (hb hby at_154) hr, hrun, hended, _, _, rfl, ⟨hv, N21⟩, ⟨_, rfl⟩, hW, hsame.mono (by decide) (by decide)⟩
          · refine Goes.to (fun _ k => XS.ifNo X21.here hx rfl (hb hby at_118) rfl ((if0 _ _).trans (flt (fun q => hc22 ((lw_gt x1 x2).mp q))).2.2.1) k) ?_
            show Goes p.tables e below (T21.setTop (mkF m 121 #[.val (.int x0), .val (.long x1), .second, .val (.long x2), .second, .val (.int ((x0 &&& (2147483647 : Int32)) % (6 : Int32))), .val (.ref a_Constraints_Size_MAX_ITEMS), .val (.int (1 : Int32)), .val (.int (own_adm (1 : Int32) x1 x2)), .unset] [])) _
            refine Goes.to (fun _ k => XS.iconst X21.here hx rfl (hb hby at_121) k) ?_
            show Goes p.tables e below (T21.setTop (mkF m 122 #[.val (.int x0), .val (.long x1), .second, .val (.long x2), .second, .val (.int ((x0 &&& (2147483647 : Int32)) % (6 : Int32))), .val (.ref a_Constraints_Size_MAX_ITEMS), .val (.int (1 : Int32)), .val (.int (own_adm (1 : Int32) x1 x2)), .unset] [(.int (1 : Int32))])) _
            refine Goes.to (fun _ k => XS.goto X21.here hx rfl (pc0 := 122) (pc' := 140) rfl (hb hby at_122) (by decide) (by decide) k) ?_
            show Goes p.tables e below (T21.setTop (mkF m 140 #[.val (.int x0), .val (.long x1), .second, .val (.long x2), .second, .val (.int ((x0 &&& (2147483647 : Int32)) % (6 : Int32))), .val (.ref a_Constraints_Size_MAX_ITEMS), .val (.int (1 : Int32)), .val (.int (own_adm (1 : Int32) x1 x2)), .unset] [(.int (1 : Int32))])) _
            refine Goes.to (fun _ k => XS.istore X21.here hx rfl (hb hby at_140) rfl (l' := #[.val (.int x0), .val (.long x1), .second, .val (.long x2), .second, .val (.int ((x0 &&& (2147483647 : Int32)) % (6 : Int32))), .val (.ref a_Constraints_Size_MAX_ITEMS), .val (.int (1 : Int32)), .val (.int (own_adm (1 : Int32) x1 x2)), .val (.int (1 : Int32))]) rfl k) ?_
            show Goes p.tables e below (T21.setTop (mkF m 142 #[.val (.int x0), .val (.long x1), .second, .val (.long x2), .second, .val (.int ((x0 &&& (2147483647 : Int32)) % (6 : Int32))), .val (.ref a_Constraints_Size_MAX_ITEMS), .val (.int (1 : Int32)), .val (.int (own_adm (1 : Int32) x1 x2)), .val (.int (1 : Int32))] [])) _
            refine Goes.to (fun _ k => XS.iload X21.here hx rfl (hb hby at_142) rfl k) ?_
            show Goes p.tables e below (T21.setTop (mkF m 144 #[.val (.int x0), .val (.long x1), .second, .val (.long x2), .second, .val (.int ((x0 &&& (2147483647 : Int32)) % (6 : Int32))), .val (.ref a_Constraints_Size_MAX_ITEMS), .val (.int (1 : Int32)), .val (.int (own_adm (1 : Int32) x1 x2)), .val (.int (1 : Int32))] [(.int (own_adm (1 : Int32) x1 x2))])) _
            refine Goes.to (fun _ k => XS.iload X21.here hx rfl (hb hby at_144) rfl k) ?_
            show Goes p.tables e below (T21.setTop (mkF m 146 #[.val (.int x0), .val (.long x1), .second, .val (.long x2), .second, .val (.int ((x0 &&& (2147483647 : Int32)) % (6 : Int32))), .val (.ref a_Constraints_Size_MAX_ITEMS), .val (.int (1 : Int32)), .val (.int (own_adm (1 : Int32) x1 x2)), .val (.int (1 : Int32))] [(.int (1 : Int32)), (.int (own_adm (1 : Int32) x1 x2))])) _
            by_cases hc24 : (own_adm (1 : Int32) x1 x2) = (1 : Int32)
            · refine Goes.to (fun _ k => XS.icmpNo X21.here hx rfl (hb hby at_146) rfl (teq hc24).2 k) ?_
              show Goes p.tables e below (T21.setTop (mkF m 149 #[.val (.int x0), .val (.long x1), .second, .val (.long x2), .second, .val (.int ((x0 &&& (2147483647 : Int32)) % (6 : Int32))), .val (.ref a_Constraints_Size_MAX_ITEMS), .val (.int (1 : Int32)), .val (.int (own_adm (1 : Int32) x1 x2)), .val (.int (1 : Int32))] [])) _
              refine Goes.to (fun _ k => XS.iconst X21.here hx rfl (hb hby at_149) k) ?_
              show Goes p.tables e below (T21.setTop (mkF m 150 #[.val (.int x0), .val (.long x1), .second, .val (.long x2), .second, .val (.int ((x0 &&& (2147483647 : Int32)) % (6 : Int32))), .val (.ref a_Constraints_Size_MAX_ITEMS), .val (.int (1 : Int32)), .val (.int (own_adm (1 : Int32) x1 x2)), .val (.int (1 : Int32))] [(.int (1 : Int32))])) _
              refine Goes.to (fun _ k => XS.goto X21.here hx rfl (pc0 := 150) (pc' := 154) rfl (hb hby at_150) (by decide) (by decide) k) ?_
              show Goes p.tables e below (T21.setTop (mkF m 154 #[.val (.int x0), .val (.long x1), .second, .val (.long x2), .second, .val (.int ((x0 &&& (2147483647 : Int32)) % (6 : Int32))), .val (.ref a_Constraints_Size_MAX_ITEMS), .val (.int (1 : Int32)), .val (.int (own_adm (1 : Int32) x1 x2)), .val (.int (1 : Int32))] [(.int (1 : Int32))])) _
              obtain ⟨fs, hr, hrun, hended, hW, hsame⟩ := X21.leave (v := some (.int (1 : Int32))) (fun h => by rw [Bd.returns] at h; cases h)
              have hv : (some (.int (1 : Int32)) : Option Value) = some (.int (1 : Int32)) := by
                rfl
              exact ⟨_, _, retN X21 hx (t := .boolean) Bd.returns (by simp) (hb hby at_154) hr, hrun, hended, _, _, rfl, ⟨hv, N21⟩, ⟨_, rfl⟩, hW, hsame.mono (by decide) (by decide)⟩
            · refine Goes.to (fun _ k => XS.icmpYes X21.here hx rfl (pc0 := 146) (pc' := 153) rfl (hb hby at_146) rfl (feq hc24).2 (by decide) (by decide) k) ?_
              show Goes p.tables e below (T21.setTop (mkF m 153 #[.val (.int x0), .val (.long x1), .second, .val (.long x2), .second, .val (.int ((x0 &&& (2147483647 : Int32)) % (6 : Int32))), .val (.ref a_Constraints_Size_MAX_ITEMS), .val (.int (1 : Int32)), .val (.int (own_adm (1 : Int32) x1 x2)), .val (.int (1 : Int32))] [])) _
              refine Goes.to (fun _ k => XS.iconst X21.here hx rfl (hb hby at_153) k) ?_
              show Goes p.tables e below (T21.setTop (mkF m 154 #[.val (.int x0), .val (.long x1), .second, .val (.long x2), .second, .val (.int ((x0 &&& (2147483647 : Int32)) % (6 : Int32))), .val (.ref a_Constraints_Size_MAX_ITEMS), .val (.int (1 : Int32)), .val (.int (own_adm (1 : Int32) x1 x2)), .val (.int (1 : Int32))] [(.int (0 : Int32))])) _
              obtain ⟨fs, hr, hrun, hended, hW, hsame⟩ := X21.leave (v := some (.int (0 : Int32))) (fun h => by rw [Bd.returns] at h; cases h)
              have hv : (some (.int (0 : Int32)) : Option Value) = some (.int (1 : Int32)) := by
                exfalso
                apply hc24
                rw [own_adm, if_neg (by decide), if_neg hc22]
              exact ⟨_, _, retN X21 hx (t := .boolean) Bd.returns (by simp) (hb hby at_154) hr, hrun, hended, _, _, rfl, ⟨hv, N21⟩, ⟨_, rfl⟩, hW, hsame.mono (by decide) (by decide)⟩
        · refine Goes.to (fun _ k => XS.icmpYes X0.here hx rfl (pc0 := 62) (pc' := 76) rfl (hb hby at_62) rfl (feq hc19).2 (by decide) (by decide) k) ?_
          show Goes p.tables e below (s₁.setTop (mkF m 76 #[.val (.int x0), .val (.long x1), .second, .val (.long x2), .second, .val (.int ((x0 &&& (2147483647 : Int32)) % (6 : Int32))), .unset, .unset, .unset, .unset] [])) _
          refine Goes.to (fun _ k => XS.iload X0.here hx rfl (hb hby at_76) rfl k) ?_
          show Goes p.tables e below (s₁.setTop (mkF m 78 #[.val (.int x0), .val (.long x1), .second, .val (.long x2), .second, .val (.int ((x0 &&& (2147483647 : Int32)) % (6 : Int32))), .unset, .unset, .unset, .unset] [(.int ((x0 &&& (2147483647 : Int32)) % (6 : Int32)))])) _
          refine Goes.to (fun _ k => XS.iconst X0.here hx rfl (hb hby at_78) k) ?_
          show Goes p.tables e below (s₁.setTop (mkF m 79 #[.val (.int x0), .val (.long x1), .second, .val (.long x2), .second, .val (.int ((x0 &&& (2147483647 : Int32)) % (6 : Int32))), .unset, .unset, .unset, .unset] [(.int (4 : Int32)), (.int ((x0 &&& (2147483647 : Int32)) % (6 : Int32)))])) _
          by_cases hc25 : ((x0 &&& (2147483647 : Int32)) % (6 : Int32)) = (4 : Int32)
          · refine Goes.to (fun _ k => XS.icmpNo X0.here hx rfl (hb hby at_79) rfl (teq hc25).2 k) ?_
            show Goes p.tables e below (s₁.setTop (mkF m 82 #[.val (.int x0), .val (.long x1), .second, .val (.long x2), .second, .val (.int ((x0 &&& (2147483647 : Int32)) % (6 : Int32))), .unset, .unset, .unset, .unset] [])) _
            obtain ⟨T26, X26, e26, st26⟩ := getS2 X0 hx hZ hown (host := "") (Or.inl (hw _ (List.mem_of_getElem? (i := 11) rfl))) Via.refl e0 (S_Constraints_Size_MIN_PROPERTIES.ext O0.2) (g := (mkF m 82 #[.val (.int x0), .val (.long x1), .second, .val (.long x2), .second, .val (.int ((x0 &&& (2147483647 : Int32)) % (6 : Int32))), .unset, .unset, .unset, .unset] [])) rfl (hb hby at_82)
            refine Goes.to st26 ?_
            show Goes p.tables e below (T26.setTop (mkF m 85 #[.val (.int x0), .val (.long x1), .second, .val (.long x2), .second, .val (.int ((x0 &&& (2147483647 : Int32)) % (6 : Int32))), .unset, .unset, .unset, .unset] [(.ref a_Constraints_Size_MIN_PROPERTIES)])) _
            refine Goes.to (fun _ k => XS.astore X26.here hx rfl (hb hby at_85) rfl rfl (l' := #[.val (.int x0), .val (.long x1), .second, .val (.long x2), .second, .val (.int ((x0 &&& (2147483647 : Int32)) % (6 : Int32))), .val (.ref a_Constraints_Size_MIN_PROPERTIES), .unset, .unset, .unset]) rfl k) ?_
            show Goes p.tables e below (T26.setTop (mkF m 87 #[.val (.int x0), .val (.long x1), .second, .val (.long x2), .second, .val (.int ((x0 &&& (2147483647 : Int32)) % (6 : Int32))), .val (.ref a_Constraints_Size_MIN_PROPERTIES), .unset, .unset, .unset] [])) _
            refine Goes.to (fun _ k => XS.iconst X26.here hx rfl (hb hby at_87) k) ?_
            show Goes p.tables e below (T26.setTop (mkF m 88 #[.val (.int x0), .val (.long x1), .second, .val (.long x2), .second, .val (.int ((x0 &&& (2147483647 : Int32)) % (6 : Int32))), .val (.ref a_Constraints_Size_MIN_PROPERTIES), .unset, .unset, .unset] [(.int (0 : Int32))])) _
            refine Goes.to (fun _ k => XS.istore X26.here hx rfl (hb hby at_88) rfl (l' := #[.val (.int x0), .val (.long x1), .second, .val (.long x2), .second, .val (.int ((x0 &&& (2147483647 : Int32)) % (6 : Int32))), .val (.ref a_Constraints_Size_MIN_PROPERTIES), .val (.int (0 : Int32)), .unset, .unset]) rfl k) ?_
            show Goes p.tables e below (T26.setTop (mkF m 90 #[.val (.int x0), .val (.long x1), .second, .val (.long x2), .second, .val (.int ((x0 &&& (2147483647 : Int32)) % (6 : Int32))), .val (.ref a_Constraints_Size_MIN_PROPERTIES), .val (.int (0 : Int32)), .unset, .unset] [])) _
            refine Goes.to (fun _ k => XS.goto X26.here hx rfl (pc0 := 90) (pc' := 101) rfl (hb hby at_90) (by decide) (by decide) k) ?_
            show Goes p.tables e below (T26.setTop (mkF m 101 #[.val (.int x0), .val (.long x1), .second, .val (.long x2), .second, .val (.int ((x0 &&& (2147483647 : Int32)) % (6 : Int32))), .val (.ref a_Constraints_Size_MIN_PROPERTIES), .val (.int (0 : Int32)), .unset, .unset] [])) _
            refine Goes.to (fun _ k => XS.aload X26.here hx rfl (hb hby at_101) rfl rfl k) ?_
            show Goes p.tables e below (T26.setTop (mkF m 103 #[.val (.int x0), .val (.long x1), .second, .val (.long x2), .second, .val (.int ((x0 &&& (2147483647 : Int32)) % (6 : Int32))), .val (.ref a_Constraints_Size_MIN_PROPERTIES), .val (.int (0 : Int32)), .unset, .unset] [(.ref a_Constraints_Size_MIN_PROPERTIES)])) _
            refine Goes.to (fun _ k => XS.lloadN X26.here hx rfl (hb hby at_103) rfl k) ?_
            show Goes p.tables e below (T26.setTop (mkF m 104 #[.val (.int x0), .val (.long x1), .second, .val (.long x2), .second, .val (.int ((x0 &&& (2147483647 : Int32)) % (6 : Int32))), .val (.ref a_Constraints_Size_MIN_PROPERTIES), .val (.int (0 : Int32)), .unset, .unset] [(.long x1), (.ref a_Constraints_Size_MIN_PROPERTIES)])) _
            refine Goes.to (fun _ k => XS.lloadN X26.here hx rfl (hb hby at_104) rfl k) ?_
            show Goes p.tables e below (T26.setTop (mkF m 105 #[.val (.int x0), .val (.long x1), .second, .val (.long x2), .second, .val (.int ((x0 &&& (2147483647 : Int32)) % (6 : Int32))), .val (.ref a_Constraints_Size_MIN_PROPERTIES), .val (.int (0 : Int32)), .unset, .unset] [(.long x2), (.long x1), (.ref a_Constraints_Size_MIN_PROPERTIES)])) _
            obtain ⟨cq27, kq27, q27a, q27b, q27c⟩ := isOf hZ e26 (E_Constraints_Size_MIN_PROPERTIES.ext O0.2)
            obtain ⟨_, _, ⟨T27, L27, k27, n27⟩, -, X27, ⟨Lc27, hQ27, l27, y27, z27⟩, st27⟩ := X26.virtualBack hx (y := (⟨"com/example/unipar/unipar/Constraints$Size", "admits", "(JJ)Z"⟩ : MethodName)) (z := (⟨"com/example/unipar/unipar/Constraints$Size", "admits", "(JJ)Z"⟩ : MethodName)) hown (mvT hZ (hw _ (List.mem_of_getElem? (i := 4) rfl))) (mvT hZ (hw _ (List.mem_of_getElem? (i := 5) rfl))) (notFace_of_selects (args := #[]) (mvT hZ (hw _ (List.mem_of_getElem? (i := 7) rfl)))) (mvT hZ (hw _ (List.mem_of_getElem? (i := 7) rfl))) (mvT hZ (hw _ (List.mem_of_getElem? (i := 6) rfl))) (by decide) (backOf (W := 0) (own_rm1 l Z a0 hw [] a_Constraints_Size_MIN_PROPERTIES x1 x2 (0 : Int32) h0 n0 Z0 (F_Constraints_Size_MIN_PROPERTIES_upper.ext O0.2)) hZ (hw _ (List.mem_of_getElem? (i := 8) rfl)) (hw _ (List.mem_of_getElem? (i := 2) rfl)) (by decide) (by decide)) q27a q27c (g := (mkF m 105 #[.val (.int x0), .val (.long x1), .second, .val (.long x2), .second, .val (.int ((x0 &&& (2147483647 : Int32)) % (6 : Int32))), .val (.ref a_Constraints_Size_MIN_PROPERTIES), .val (.int (0 : Int32)), .unset, .unset] [(.long x2), (.long x1), (.ref a_Constraints_Size_MIN_PROPERTIES)])) rfl (by rw [hml]; rfl) (Steps.refl _) (argsL := [(.long x1), (.long x2)]) (rest := []) (lenOf own_pd_pJJqZ rfl) rfl (by show 2 * 0 + _ ≤ _; exact Nat.le_of_eq rfl) (hb hby at_105) (fun _ _ => ⟨rfl, e26, (by decide : 0 + 0 ≤ _), (by decide : 0 + 0 ≤ _)⟩)
            dsimp only [Pt.U, Pt.locs, Pt.cells, Pt.slots] at X27 l27 y27 z27 st27 hQ27
            subst l27 y27 z27
            obtain ⟨hv27, Nq27, hp27_0⟩ := hQ27
            have N27 := Fr.app N0 Nq27
            subst hv27
            refine Goes.tr st27 ?_
            show Goes p.tables e below (T27.setTop (mkF m 108 #[.val (.int x0), .val (.long x1), .second, .val (.long x2), .second, .val (.int ((x0 &&& (2147483647 : Int32)) % (6 : Int32))), .val (.ref a_Constraints_Size_MIN_PROPERTIES), .val (.int (0 : Int32)), .unset, .unset] [(.int (own_adm (0 : Int32) x1 x2))])) _
            refine Goes.to (fun _ k => XS.istore X27.here hx rfl (hb hby at_108) rfl (l' := #[.val (.int x0), .val (.long x1), .second, .val (.long x2), .second, .val (.int ((x0 &&& (2147483647 : Int32)) % (6 : Int32))), .val (.ref a_Constraints_Size_MIN_PROPERTIES), .val (.int (0 : Int32)), .val (.int (own_adm (0 : Int32) x1 x2)), .unset]) rfl k) ?_
            show Goes p.tables e below (T27.setTop (mkF m 110 #[.val (.int x0), .val (.long x1), .second, .val (.long x2), .second, .val (.int ((x0 &&& (2147483647 : Int32)) % (6 : Int32))), .val (.ref a_Constraints_Size_MIN_PROPERTIES), .val (.int (0 : Int32)), .val (.int (own_adm (0 : Int32) x1 x2)), .unset] [])) _
            refine Goes.to (fun _ k => XS.iload X27.here hx rfl (hb hby at_110) rfl k) ?_
            show Goes p.tables e below (T27.setTop (mkF m 112 #[.val (.int x0), .val (.long x1), .second, .val (.long x2), .second, .val (.int ((x0 &&& (2147483647 : Int32)) % (6 : Int32))), .val (.ref a_Constraints_Size_MIN_PROPERTIES), .val (.int (0 : Int32)), .val (.int (own_adm (0 : Int32) x1 x2)), .unset] [(.int (0 : Int32))])) _
            refine Goes.to (fun _ k => XS.ifYes X27.here hx rfl (pc0 := 112) (pc' := 129) rfl (hb hby at_112) rfl ((if0 _ _).trans (teq (by decide : (0 : Int32) = (0 : Int32))).1) (by decide) (by decide) k) ?_
            show Goes p.tables e below (T27.setTop (mkF m 129 #[.val (.int x0), .val (.long x1), .second, .val (.long x2), .second, .val (.int ((x0 &&& (2147483647 : Int32)) % (6 : Int32))), .val (.ref a_Constraints_Size_MIN_PROPERTIES), .val (.int (0 : Int32)), .val (.int (own_adm (0 : Int32) x1 x2)), .unset] [])) _
            refine Goes.to (fun _ k => XS.lloadN X27.here hx rfl (hb hby at_129) rfl k) ?_
            show Goes p.tables e below (T27.setTop (mkF m 130 #[.val (.int x0), .val (.long x1), .second, .val (.long x2), .second, .val (.int ((x0 &&& (2147483647 : Int32)) % (6 : Int32))), .val (.ref a_Constraints_Size_MIN_PROPERTIES), .val (.int (0 : Int32)), .val (.int (own_adm (0 : Int32) x1 x2)), .unset] [(.long x1)])) _
            refine Goes.to (fun _ k => XS.lloadN X27.here hx rfl (hb hby at_130) rfl k) ?_
            show Goes p.tables e below (T27.setTop (mkF m 131 #[.val (.int x0), .val (.long x1), .second, .val (.long x2), .second, .val (.int ((x0 &&& (2147483647 : Int32)) % (6 : Int32))), .val (.ref a_Constraints_Size_MIN_PROPERTIES), .val (.int (0 : Int32)), .val (.int (own_adm (0 : Int32) x1 x2)), .unset] [(.long x2), (.long x1)])) _
            refine Goes.to (fun _ k => XS.lcmp X27.here hx rfl (hb hby at_131) rfl k) ?_
            show Goes p.tables e below (T27.setTop (mkF m 132 #[.val (.int x0), .val (.long x1), .second, .val (.long x2), .second, .val (.int ((x0 &&& (2147483647 : Int32)) % (6 : Int32))), .val (.ref a_Constraints_Size_MIN_PROPERTIES), .val (.int (0 : Int32)), .val (.int (own_adm (0 : Int32) x1 x2)), .unset] [(.int (lcmpW x1 x2))])) _
            by_cases hc28 : x1 < x2
            · refine Goes.to (fun _ k => XS.ifYes X27.here hx rfl (pc0 := 132) (pc' := 139) rfl (hb hby at_132) rfl ((if0 _ _).trans (tlt ((lw_lt x1 x2).mpr hc28)).1) (by decide) (by decide) k) ?_
              show Goes p.tables e below (T27.setTop (mkF m 139 #[.val (.int x0), .val (.long x1), .second, .val (.long x2), .second, .val (.int ((x0 &&& (2147483647 : Int32)) % (6 : Int32))), .val (.ref a_Constraints_Size_MIN_PROPERTIES), .val (.int (0 : Int32)), .val (.int (own_adm (0 : Int32) x1 x2)), .unset] [])) _
              refine Goes.to (fun _ k => XS.iconst X27.here hx rfl (hb hby at_139) k) ?_
              show Goes p.tables e below (T27.setTop (mkF m 140 #[.val (.int x0), .val (.long x1), .second, .val (.long x2), .second, .val (.int ((x0 &&& (2147483647 : Int32)) % (6 : Int32))), .val (.ref a_Constraints_Size_MIN_PROPERTIES), .val (.int (0 : Int32)), .val (.int (own_adm (0 : Int32) x1 x2)), .unset] [(.int (0 : Int32))])) _
              refine Goes.to (fun _ k => XS.istore X27.here hx rfl (hb hby at_140) rfl (l' := #[.val (.int x0), .val (.long x1), .second, .val (.long x2), .second, .val (.int ((x0 &&& (2147483647 : Int32)) % (6 : Int32))), .val (.ref a_Constraints_Size_MIN_PROPERTIES), .val (.int (0 : Int32)), .val (.int (own_adm (0 : Int32) x1 x2)), .val (.int (0 : Int32))]) rfl k) ?_
              show Goes p.tables e below (T27.setTop (mkF m 142 #[.val (.int x0), .val (.long x1), .second, .val (.long x2), .second, .val (.int ((x0 &&& (2147483647 : Int32)) % (6 : Int32))), .val (.ref a_Constraints_Size_MIN_PROPERTIES), .val (.int (0 : Int32)), .val (.int (own_adm (0 : Int32) x1 x2)), .val (.int (0 : Int32))] [])) _
              refine Goes.to (fun _ k => XS.iload X27.here hx rfl (hb hby at_142) rfl k) ?_
              show Goes p.tables e below (T27.setTop (mkF m 144 #[.val (.int x0), .val (.long x1), .second, .val (.long x2), .second, .val (.int ((x0 &&& (2147483647 : Int32)) % (6 : Int32))), .val (.ref a_Constraints_Size_MIN_PROPERTIES), .val (.int (0 : Int32)), .val (.int (own_adm (0 : Int32) x1 x2)), .val (.int (0 : Int32))] [(.int (own_adm (0 : Int32) x1 x2))])) _
              refine Goes.to (fun _ k => XS.iload X27.here hx rfl (hb hby at_144) rfl k) ?_
              show Goes p.tables e below (T27.setTop (mkF m 146 #[.val (.int x0), .val (.long x1), .second, .val (.long x2), .second, .val (.int ((x0 &&& (2147483647 : Int32)) % (6 : Int32))), .val (.ref a_Constraints_Size_MIN_PROPERTIES), .val (.int (0 : Int32)), .val (.int (own_adm (0 : Int32) x1 x2)), .val (.int (0 : Int32))] [(.int (0 : Int32)), (.int (own_adm (0 : Int32) x1 x2))])) _
              by_cases hc29 : (own_adm (0 : Int32) x1 x2) = (0 : Int32)
              · refine Goes.to (fun _ k => XS.icmpNo X27.here hx rfl (hb hby at_146) rfl (teq hc29).2 k) ?_
                show Goes p.tables e below (T27.setTop (mkF m 149 #[.val (.int x0), .val (.long x1), .second, .val (.long x2), .second, .val (.int ((x0 &&& (2147483647 : Int32)) % (6 : Int32))), .val (.ref a_Constraints_Size_MIN_PROPERTIES), .val (.int (0 : Int32)), .val (.int (own_adm (0 : Int32) x1 x2)), .val (.int (0 : Int32))] [])) _
                refine Goes.to (fun _ k => XS.iconst X27.here hx rfl (hb hby at_149) k) ?_
                show Goes p.tables e below (T27.setTop (mkF m 150 #[.val (.int x0), .val (.long x1), .second, .val (.long x2), .second, .val (.int ((x0 &&& (2147483647 : Int32)) % (6 : Int32))), .val (.ref a_Constraints_Size_MIN_PROPERTIES), .val (.int (0 : Int32)), .val (.int (own_adm (0 : Int32) x1 x2)), .val (.int (0 : Int32))] [(.int (1 : Int32))])) _
                refine Goes.to (fun _ k => XS.goto X27.here hx rfl (pc0 := 150) (pc' := 154) rfl (hb hby at_150) (by decide) (by decide) k) ?_
                show Goes p.tables e below (T27.setTop (mkF m 154 #[.val (.int x0), .val (.long x1), .second, .val (.long x2), .second, .val (.int ((x0 &&& (2147483647 : Int32)) % (6 : Int32))), .val (.ref a_Constraints_Size_MIN_PROPERTIES), .val (.int (0 : Int32)), .val (.int (own_adm (0 : Int32) x1 x2)), .val (.int (0 : Int32))] [(.int (1 : Int32))])) _
                obtain ⟨fs, hr, hrun, hended, hW, hsame⟩ := X27.leave (v := some (.int (1 : Int32))) (fun h => by rw [Bd.returns] at h; cases h)
                have hv : (some (.int (1 : Int32)) : Option Value) = some (.int (1 : Int32)) := by
                  rfl
                exact ⟨_, _, retN X27 hx (t := .boolean) Bd.returns (by simp) (hb hby at_154) hr, hrun, hended, _, _, rfl, ⟨hv, N27⟩, ⟨_, rfl⟩, hW, hsame.mono (by decide) (by decide)⟩
              · refine Goes.to (fun _ k => XS.icmpYes X27.here hx rfl (pc0 := 146) (pc' := 153) rfl (hb hby at_146) rfl (feq hc29).2 (by decide) (by decide) k) ?_
                show Goes p.tables e below (T27.setTop (mkF m 153 #[.val (.int x0), .val (.long x1), .second, .val (.long x2), .second, .val (.int ((x0 &&& (2147483647 : Int32)) % (6 : Int32))), .val (.ref a_Constraints_Size_MIN_PROPERTIES), .val (.int (0 : Int32)), .val (.int (own_adm (0 : Int32) x1 x2)), .val (.int (0 : Int32))] [])) _
                refine Goes.to (fun _ k => XS.iconst X27.here hx rfl (hb hby at_153) k) ?_
                show Goes p.tables e below (T27.setTop (mkF m 154 #[.val (.int x0), .val (.long x1), .second, .val (.long x2), .second, .val (.int ((x0 &&& (2147483647 : Int32)) % (6 : Int32))), .val (.ref a_Constraints_Size_MIN_PROPERTIES), .val (.int (0 : Int32)), .val (.int (own_adm (0 : Int32) x1 x2)), .val (.int (0 : Int32))] [(.int (0 : Int32))])) _
                obtain ⟨fs, hr, hrun, hended, hW, hsame⟩ := X27.leave (v := some (.int (0 : Int32))) (fun h => by rw [Bd.returns] at h; cases h)
                have hv : (some (.int (0 : Int32)) : Option Value) = some (.int (1 : Int32)) := by
                  exfalso
                  apply hc29
                  rw [own_adm, if_pos rfl, if_pos hc28]
                exact ⟨_, _, retN X27 hx (t := .boolean) Bd.returns (by simp) (hb hby at_154) hr, hrun, hended, _, _, rfl, ⟨hv, N27⟩, ⟨_, rfl⟩, hW, hsame.mono (by decide) (by decide)⟩
            · refine Goes.to (fun _ k => XS.ifNo X27.here hx rfl (hb hby at_132) rfl ((if0 _ _).trans (flt (fun q => hc28 ((lw_lt x1 x2).mp q))).1) k) ?_
              show Goes p.tables e below (T27.setTop (mkF m 135 #[.val (.int x0), .val (.long x1), .second, .val (.long x2), .second, .val (.int ((x0 &&& (2147483647 : Int32)) % (6 : Int32))), .val (.ref a_Constraints_Size_MIN_PROPERTIES), .val (.int (0 : Int32)), .val (.int (own_adm (0 : Int32) x1 x2)), .unset] [])) _
              refine Goes.to (fun _ k => XS.iconst X27.here hx rfl (hb hby at_135) k) ?_
              show Goes p.tables e below (T27.setTop (mkF m 136 #[.val (.int x0), .val (.long x1), .second, .val (.long x2), .second, .val (.int ((x0 &&& (2147483647 : Int32)) % (6 : Int32))), .val (.ref a_Constraints_Size_MIN_PROPERTIES), .val (.int (0 : Int32)), .val (.int (own_adm (0 : Int32) x1 x2)), .unset] [(.int (1 : Int32))])) _
              refine Goes.to (fun _ k => XS.goto X27.here hx rfl (pc0 := 136) (pc' := 140) rfl (hb hby at_136) (by decide) (by decide) k) ?_
              show Goes p.tables e below (T27.setTop (mkF m 140 #[.val (.int x0), .val (.long x1), .second, .val (.long x2), .second, .val (.int ((x0 &&& (2147483647 : Int32)) % (6 : Int32))), .val (.ref a_Constraints_Size_MIN_PROPERTIES), .val (.int (0 : Int32)), .val (.int (own_adm (0 : Int32) x1 x2)), .unset] [(.int (1 : Int32))])) _
              refine Goes.to (fun _ k => XS.istore X27.here hx rfl (hb hby at_140) rfl (l' := #[.val (.int x0), .val (.long x1), .second, .val (.long x2), .second, .val (.int ((x0 &&& (2147483647 : Int32)) % (6 : Int32))), .val (.ref a_Constraints_Size_MIN_PROPERTIES), .val (.int (0 : Int32)), .val (.int (own_adm (0 : Int32) x1 x2)), .val (.int (1 : Int32))]) rfl k) ?_
              show Goes p.tables e below (T27.setTop (mkF m 142 #[.val (.int x0), .val (.long x1), .second, .val (.long x2), .second, .val (.int ((x0 &&& (2147483647 : Int32)) % (6 : Int32))), .val (.ref a_Constraints_Size_MIN_PROPERTIES), .val (.int (0 : Int32)), .val (.int (own_adm (0 : Int32) x1 x2)), .val (.int (1 : Int32))] [])) _
              refine Goes.to (fun _ k => XS.iload X27.here hx rfl (hb hby at_142) rfl k) ?_
              show Goes p.tables e below (T27.setTop (mkF m 144 #[.val (.int x0), .val (.long x1), .second, .val (.long x2), .second, .val (.int ((x0 &&& (2147483647 : Int32)) % (6 : Int32))), .val (.ref a_Constraints_Size_MIN_PROPERTIES), .val (.int (0 : Int32)), .val (.int (own_adm (0 : Int32) x1 x2)), .val (.int (1 : Int32))] [(.int (own_adm (0 : Int32) x1 x2))])) _
              refine Goes.to (fun _ k => XS.iload X27.here hx rfl (hb hby at_144) rfl k) ?_
              show Goes p.tables e below (T27.setTop (mkF m 146 #[.val (.int x0), .val (.long x1), .second, .val (.long x2), .second, .val (.int ((x0 &&& (2147483647 : Int32)) % (6 : Int32))), .val (.ref a_Constraints_Size_MIN_PROPERTIES), .val (.int (0 : Int32)), .val (.int (own_adm (0 : Int32) x1 x2)), .val (.int (1 : Int32))] [(.int (1 : Int32)), (.int (own_adm (0 : Int32) x1 x2))])) _
              by_cases hc30 : (own_adm (0 : Int32) x1 x2) = (1 : Int32)
              · refine Goes.to (fun _ k => XS.icmpNo X27.here hx rfl (hb hby at_146) rfl (teq hc30).2 k) ?_
                show Goes p.tables e below (T27.setTop (mkF m 149 #[.val (.int x0), .val (.long x1), .second, .val (.long x2), .second, .val (.int ((x0 &&& (2147483647 : Int32)) % (6 : Int32))), .val (.ref a_Constraints_Size_MIN_PROPERTIES), .val (.int (0 : Int32)), .val (.int (own_adm (0 : Int32) x1 x2)), .val (.int (1 : Int32))] [])) _
                refine Goes.to (fun _ k => XS.iconst X27.here hx rfl (hb hby at_149) k) ?_
                show Goes p.tables e below (T27.setTop (mkF m 150 #[.val (.int x0), .val (.long x1), .second, .val (.long x2), .second, .val (.int ((x0 &&& (2147483647 : Int32)) % (6 : Int32))), .val (.ref a_Constraints_Size_MIN_PROPERTIES), .val (.int (0 : Int32)), .val (.int (own_adm (0 : Int32) x1 x2)), .val (.int (1 : Int32))] [(.int (1 : Int32))])) _
                refine Goes.to (fun _ k => XS.goto X27.here hx rfl (pc0 := 150) (pc' := 154) rfl (hb hby at_150) (by decide) (by decide) k) ?_
                show Goes p.tables e below (T27.setTop (mkF m 154 #[.val (.int x0), .val (.long x1), .second, .val (.long x2), .second, .val (.int ((x0 &&& (2147483647 : Int32)) % (6 : Int32))), .val (.ref a_Constraints_Size_MIN_PROPERTIES), .val (.int (0 : Int32)), .val (.int (own_adm (0 : Int32) x1 x2)), .val (.int (1 : Int32))] [(.int (1 : Int32))])) _
                obtain ⟨fs, hr, hrun, hended, hW, hsame⟩ := X27.leave (v := some (.int (1 : Int32))) (fun h => by rw [Bd.returns] at h; cases h)
                have hv : (some (.int (1 : Int32)) : Option Value) = some (.int (1 : Int32)) := by
                  rfl
                exact ⟨_, _, retN X27 hx (t := .boolean) Bd.returns (by simp) (hb hby at_154) hr, hrun, hended, _, _, rfl, ⟨hv, N27⟩, ⟨_, rfl⟩, hW, hsame.mono (by decide) (by decide)⟩
              · refine Goes.to (fun _ k => XS.icmpYes X27.here hx rfl (pc0 := 146) (pc' := 153) rfl (hb hby at_146) rfl (feq hc30).2 (by decide) (by decide) k) ?_
                show Goes p.tables e below (T27.setTop (mkF m 153 #[.val (.int x0), .val (.long x1), .second, .val (.long x2), .second, .val (.int ((x0 &&& (2147483647 : Int32)) % (6 : Int32))), .val (.ref a_Constraints_Size_MIN_PROPERTIES), .val (.int (0 : Int32)), .val (.int (own_adm (0 : Int32) x1 x2)), .val (.int (1 : Int32))] [])) _
                refine Goes.to (fun _ k => XS.iconst X27.here hx rfl (hb hby at_153) k) ?_
                show Goes p.tables e below (T27.setTop (mkF m 154 #[.val (.int x0), .val (.long x1), .second, .val (.long x2), .second, .val (.int ((x0 &&& (2147483647 : Int32)) % (6 : Int32))), .val (.ref a_Constraints_Size_MIN_PROPERTIES), .val (.int (0 : Int32)), .val (.int (own_adm (0 : Int32) x1 x2)), .val (.int (1 : Int32))] [(.int (0 : Int32))])) _
                obtain ⟨fs, hr, hrun, hended, hW, hsame⟩ := X27.leave (v := some (.int (0 : Int32))) (fun h => by rw [Bd.returns] at h; cases h)
                have hv : (some (.int (0 : Int32)) : Option Value) = some (.int (1 : Int32)) := by
                  exfalso
                  apply hc30
                  rw [own_adm, if_pos rfl, if_neg hc28]
                exact ⟨_, _, retN X27 hx (t := .boolean) Bd.returns (by simp) (hb hby at_154) hr, hrun, hended, _, _, rfl, ⟨hv, N27⟩, ⟨_, rfl⟩, hW, hsame.mono (by decide) (by decide)⟩
          · refine Goes.to (fun _ k => XS.icmpYes X0.here hx rfl (pc0 := 79) (pc' := 93) rfl (hb hby at_79) rfl (feq hc25).2 (by decide) (by decide) k) ?_
            show Goes p.tables e below (s₁.setTop (mkF m 93 #[.val (.int x0), .val (.long x1), .second, .val (.long x2), .second, .val (.int ((x0 &&& (2147483647 : Int32)) % (6 : Int32))), .unset, .unset, .unset, .unset] [])) _
            obtain ⟨T31, X31, e31, st31⟩ := getS2 X0 hx hZ hown (host := "") (Or.inl (hw _ (List.mem_of_getElem? (i := 19) rfl))) Via.refl e0 (S_Constraints_Size_MAX_PROPERTIES.ext O0.2) (g := (mkF m 93 #[.val (.int x0), .val (.long x1), .second, .val (.long x2), .second, .val (.int ((x0 &&& (2147483647 : Int32)) % (6 : Int32))), .unset, .unset, .unset, .unset] [])) rfl (hb hby at_93)
            refine Goes.to st31 ?_
            show Goes p.tables e below (T31.setTop (mkF m 96 #[.val (.int x0), .val (.long x1), .second, .val (.long x2), .second, .val (.int ((x0 &&& (2147483647 : Int32)) % (6 : Int32))), .unset, .unset, .unset, .unset] [(.ref a_Constraints_Size_MAX_PROPERTIES)])) _
            refine Goes.to (fun _ k => XS.astore X31.here hx rfl (hb hby at_96) rfl rfl (l' := #[.val (.int x0), .val (.long x1), .second, .val (.long x2), .second, .val (.int ((x0 &&& (2147483647 : Int32)) % (6 : Int32))), .val (.ref a_Constraints_Size_MAX_PROPERTIES), .unset, .unset, .unset]) rfl k) ?_
            show Goes p.tables e below (T31.setTop (mkF m 98 #[.val (.int x0), .val (.long x1), .second, .val (.long x2), .second, .val (.int ((x0 &&& (2147483647 : Int32)) % (6 : Int32))), .val (.ref a_Constraints_Size_MAX_PROPERTIES), .unset, .unset, .unset] [])) _
            refine Goes.to (fun _ k => XS.iconst X31.here hx rfl (hb hby at_98) k) ?_
            show Goes p.tables e below (T31.setTop (mkF m 99 #[.val (.int x0), .val (.long x1), .second, .val (.long x2), .second, .val (.int ((x0 &&& (2147483647 : Int32)) % (6 : Int32))), .val (.ref a_Constraints_Size_MAX_PROPERTIES), .unset, .unset, .unset] [(.int (1 : Int32))])) _
            refine Goes.to (fun _ k => XS.istore X31.here hx rfl (hb hby at_99) rfl (l' := #[.val (.int x0), .val (.long x1), .second, .val (.long x2), .second, .val (.int ((x0 &&& (2147483647 : Int32)) % (6 : Int32))), .val (.ref a_Constraints_Size_MAX_PROPERTIES), .val (.int (1 : Int32)), .unset, .unset]) rfl k) ?_
            show Goes p.tables e below (T31.setTop (mkF m 101 #[.val (.int x0), .val (.long x1), .second, .val (.long x2), .second, .val (.int ((x0 &&& (2147483647 : Int32)) % (6 : Int32))), .val (.ref a_Constraints_Size_MAX_PROPERTIES), .val (.int (1 : Int32)), .unset, .unset] [])) _
            refine Goes.to (fun _ k => XS.aload X31.here hx rfl (hb hby at_101) rfl rfl k) ?_
            show Goes p.tables e below (T31.setTop (mkF m 103 #[.val (.int x0), .val (.long x1), .second, .val (.long x2), .second, .val (.int ((x0 &&& (2147483647 : Int32)) % (6 : Int32))), .val (.ref a_Constraints_Size_MAX_PROPERTIES), .val (.int (1 : Int32)), .unset, .unset] [(.ref a_Constraints_Size_MAX_PROPERTIES)])) _
            refine Goes.to (fun _ k => XS.lloadN X31.here hx rfl (hb hby at_103) rfl k) ?_
            show Goes p.tables e below (T31.setTop (mkF m 104 #[.val (.int x0), .val (.long x1), .second, .val (.long x2), .second, .val (.int ((x0 &&& (2147483647 : Int32)) % (6 : Int32))), .val (.ref a_Constraints_Size_MAX_PROPERTIES), .val (.int (1 : Int32)), .unset, .unset] [(.long x1), (.ref a_Constraints_Size_MAX_PROPERTIES)])) _
            refine Goes.to (fun _ k => XS.lloadN X31.here hx rfl (hb hby at_104) rfl k) ?_
            show Goes p.tables e below (T31.setTop (mkF m 105 #[.val (.int x0), .val (.long x1), .second, .val (.long x2), .second, .val (.int ((x0 &&& (2147483647 : Int32)) % (6 : Int32))), .val (.ref a_Constraints_Size_MAX_PROPERTIES), .val (.int (1 : Int32)), .unset, .unset] [(.long x2), (.long x1), (.ref a_Constraints_Size_MAX_PROPERTIES)])) _
            obtain ⟨cq32, kq32, q32a, q32b, q32c⟩ := isOf hZ e31 (E_Constraints_Size_MAX_PROPERTIES.ext O0.2)
            obtain ⟨_, _, ⟨T32, L32, k32, n32⟩, -, X32, ⟨Lc32, hQ32, l32, y32, z32⟩, st32⟩ := X31.virtualBack hx (y := (⟨"com/example/unipar/unipar/Constraints$Size", "admits", "(JJ)Z"⟩ : MethodName)) (z := (⟨"com/example/unipar/unipar/Constraints$Size", "admits", "(JJ)Z"⟩ : MethodName)) hown (mvT hZ (hw _ (List.mem_of_getElem? (i := 4) rfl))) (mvT hZ (hw _ (List.mem_of_getElem? (i := 5) rfl))) (notFace_of_selects (args := #[]) (mvT hZ (hw _ (List.mem_of_getElem? (i := 7) rfl)))) (mvT hZ (hw _ (List.mem_of_getElem? (i := 7) rfl))) (mvT hZ (hw _ (List.mem_of_getElem? (i := 6) rfl))) (by decide) (backOf (W := 0) (own_rm1 l Z a0 hw [] a_Constraints_Size_MAX_PROPERTIES x1 x2 (1 : Int32) h0 n0 Z0 (F_Constraints_Size_MAX_PROPERTIES_upper.ext O0.2)) hZ (hw _ (List.mem_of_getElem? (i := 8) rfl)) (hw _ (List.mem_of_getElem? (i := 2) rfl)) (by decide) (by decide)) q32a q32c (g := (mkF m 105 #[.val (.int x0), .val (.long x1), .second, .val (.long x2), .second, .val (.int ((x0 &&& (2147483647 : Int32)) % (6 : Int32))), .val (.ref a_Constraints_Size_MAX_PROPERTIES), .val (.int (1 : Int32)), .unset, .unset] [(.long x2), (.long x1), (.ref a_Constraints_Size_MAX_PROPERTIES)])) rfl (by rw [hml]; rfl) (Steps.refl _) (argsL := [(.long x1), (.long x2)]) (rest := []) (lenOf own_pd_pJJqZ rfl) rfl (by show 2 * 0 + _ ≤ _; exact Nat.le_of_eq rfl) (hb hby at_105) (fun _ _ => ⟨rfl, e31, (by decide : 0 + 0 ≤ _), (by decide : 0 + 0 ≤ _)⟩)
            dsimp only [Pt.U, Pt.locs, Pt.cells, Pt.slots] at X32 l32 y32 z32 st32 hQ32
            subst l32 y32 z32
            obtain ⟨hv32, Nq32, hp32_0⟩ := hQ32
            have N32 := Fr.app N0 Nq32
            subst hv32
            refine Goes.tr st32 ?_
            show Goes p.tables e below (T32.setTop (mkF m 108 #[.val (.int x0), .val (.long x1), .second, .val (.long x2), .second, .val (.int ((x0 &&& (2147483647 : Int32)) % (6 : Int32))), .val (.ref a_Constraints_Size_MAX_PROPERTIES), .val (.int (1 : Int32)), .unset, .unset] [(.int (own_adm (1 : Int32) x1 x2))])) _
            refine Goes.to (fun _ k => XS.istore X32.here hx rfl (hb hby at_108) rfl (l' := #[.val (.int x0), .val (.long x1), .second, .val (.long x2), .second, .val (.int ((x0 &&& (2147483647 : Int32)) % (6 : Int32))), .val (.ref a_Constraints_Size_MAX_PROPERTIES), .val (.int (1 : Int32)), .val (.int (own_adm (1 : Int32) x1 x2)), .unset]) rfl k) ?_
            show Goes p.tables e below (T32.setTop (mkF m 110 #[.val (.int x0), .val (.long x1), .second, .val (.long x2), .second, .val (.int ((x0 &&& (2147483647 : Int32)) % (6 : Int32))), .val (.ref a_Constraints_Size_MAX_PROPERTIES), .val (.int (1 : Int32)), .val (.int (own_adm (1 : Int32) x1 x2)), .unset] [])) _
            refine Goes.to (fun _ k => XS.iload X32.here hx rfl (hb hby at_110) rfl k) ?_
            show Goes p.tables e below (T32.setTop (mkF m 112 #[.val (.int x0), .val (.long x1), .second, .val (.long x2), .second, .val (.int ((x0 &&& (2147483647 : Int32)) % (6 : Int32))), .val (.ref a_Constraints_Size_MAX_PROPERTIES), .val (.int (1 : Int32)), .val (.int (own_adm (1 : Int32) x1 x2)), .unset] [(.int (1 : Int32))])) _
            refine Goes.to (fun _ k => XS.ifNo X32.here hx rfl (hb hby at_112) rfl ((if0 _ _).trans (feq (by decide : ¬ ((1 : Int32) = (0 : Int32)))).1) k) ?_
            show Goes p.tables e below (T32.setTop (mkF m 115 #[.val (.int x0), .val (.long x1), .second, .val (.long x2), .second, .val (.int ((x0 &&& (2147483647 : Int32)) % (6 : Int32))), .val (.ref a_Constraints_Size_MAX_PROPERTIES), .val (.int (1 : Int32)), .val (.int (own_adm (1 : Int32) x1 x2)), .unset] [])) _
            refine Goes.to (fun _ k => XS.lloadN X32.here hx rfl (hb hby at_115) rfl k) ?_
            show Goes p.tables e below (T32.setTop (mkF m 116 #[.val (.int x0), .val (.long x1), .second, .val (.long x2), .second, .val (.int ((x0 &&& (2147483647 : Int32)) % (6 : Int32))), .val (.ref a_Constraints_Size_MAX_PROPERTIES), .val (.int (1 : Int32)), .val (.int (own_adm (1 : Int32) x1 x2)), .unset] [(.long x1)])) _
            refine Goes.to (fun _ k => XS.lloadN X32.here hx rfl (hb hby at_116) rfl k) ?_
            show Goes p.tables e below (T32.setTop (mkF m 117 #[.val (.int x0), .val (.long x1), .second, .val (.long x2), .second, .val (.int ((x0 &&& (2147483647 : Int32)) % (6 : Int32))), .val (.ref a_Constraints_Size_MAX_PROPERTIES), .val (.int (1 : Int32)), .val (.int (own_adm (1 : Int32) x1 x2)), .unset] [(.long x2), (.long x1)])) _
            refine Goes.to (fun _ k => XS.lcmp X32.here hx rfl (hb hby at_117) rfl k) ?_
            show Goes p.tables e below (T32.setTop (mkF m 118 #[.val (.int x0), .val (.long x1), .second, .val (.long x2), .second, .val (.int ((x0 &&& (2147483647 : Int32)) % (6 : Int32))), .val (.ref a_Constraints_Size_MAX_PROPERTIES), .val (.int (1 : Int32)), .val (.int (own_adm (1 : Int32) x1 x2)), .unset] [(.int (lcmpW x1 x2))])) _
            by_cases hc33 : x2 < x1
            · refine Goes.to (fun _ k => XS.ifYes X32.here hx rfl (pc0 := 118) (pc' := 125) rfl (hb hby at_118) rfl ((if0 _ _).trans (tlt ((lw_gt x1 x2).mpr hc33)).2.2.1) (by decide) (by decide) k) ?_
              show Goes p.tables e below (T32.setTop (mkF m 125 #[.val (.int x0), .val (.long x1), .second, .val (.long x2), .second, .val (.int ((x0 &&& (2147483647 : Int32)) % (6 : Int32))), .val (.ref a_Constraints_Size_MAX_PROPERTIES), .val (.int (1 : Int32)), .val (.int (own_adm (1 : Int32) x1 x2)), .unset] [])) _
              refine Goes.to (fun _ k => XS.iconst X32.here hx rfl (hb hby at_125) k) ?_
              show Goes p.tables e below (T32.setTop (mkF m 126 #[.val (.int x0), .val (.long x1), .second, .val (.long x2), .second, .val (.int ((x0 &&& (2147483647 : Int32)) % (6 : Int32))), .val (.ref a_Constraints_Size_MAX_PROPERTIES), .val (.int (1 : Int32)), .val (.int (own_adm (1 : Int32) x1 x2)), .unset] [(.int (0 : Int32))])) _
              refine Goes.to (fun _ k => XS.goto X32.here hx rfl (pc0 := 126) (pc' := 140) rfl (hb hby at_126) (by decide) (by decide) k) ?_
              show Goes p.tables e below (T32.setTop (mkF m 140 #[.val (.int x0), .val (.long x1), .second, .val (.long x2), .second, .val (.int ((x0 &&& (2147483647 : Int32)) % (6 : Int32))), .val (.ref a_Constraints_Size_MAX_PROPERTIES), .val (.int (1 : Int32)), .val (.int (own_adm (1 : Int32) x1 x2)), .unset] [(.int (0 : Int32))])) _
              refine Goes.to (fun _ k => XS.istore X32.here hx rfl (hb hby at_140) rfl (l' := #[.val (.int x0), .val (.long x1), .second, .val (.long x2), .second, .val (.int ((x0 &&& (2147483647 : Int32)) % (6 : Int32))), .val (.ref a_Constraints_Size_MAX_PROPERTIES), .val (.int (1 : Int32)), .val (.int (own_adm (1 : Int32) x1 x2)), .val (.int (0 : Int32))]) rfl k) ?_
              show Goes p.tables e below (T32.setTop (mkF m 142 #[.val (.int x0), .val (.long x1), .second, .val (.long x2), .second, .val (.int ((x0 &&& (2147483647 : Int32)) % (6 : Int32))), .val (.ref a_Constraints_Size_MAX_PROPERTIES), .val (.int (1 : Int32)), .val (.int (own_adm (1 : Int32) x1 x2)), .val (.int (0 : Int32))] [])) _
              refine Goes.to (fun _ k => XS.iload X32.here hx rfl (hb hby at_142) rfl k) ?_
              show Goes p.tables e below (T32.setTop (mkF m 144 #[.val (.int x0), .val (.long x1), .second, .val (.long x2), .second, .val (.int ((x0 &&& (2147483647 : Int32)) % (6 : Int32))), .val (.ref a_Constraints_Size_MAX_PROPERTIES), .val (.int (1 : Int32)), .val (.int (own_adm (1 : Int32) x1 x2)), .val (.int (0 : Int32))] [(.int (own_adm (1 : Int32) x1 x2))])) _
              refine Goes.to (fun _ k => XS.iload X32.here hx rfl (hb hby at_144) rfl k) ?_
              show Goes p.tables e below (T32.setTop (mkF m 146 #[.val (.int x0), .val (.long x1), .second, .val (.long x2), .second, .val (.int ((x0 &&& (2147483647 : Int32)) % (6 : Int32))), .val (.ref a_Constraints_Size_MAX_PROPERTIES), .val (.int (1 : Int32)), .val (.int (own_adm (1 : Int32) x1 x2)), .val (.int (0 : Int32))] [(.int (0 : Int32)), (.int (own_adm (1 : Int32) x1 x2))])) _
              by_cases hc34 : (own_adm (1 : Int32) x1 x2) = (0 : Int32)
              · refine Goes.to (fun _ k => XS.icmpNo X32.here hx rfl (hb hby at_146) rfl (teq hc34).2 k) ?_
                show Goes p.tables e below (T32.setTop (mkF m 149 #[.val (.int x0), .val (.long x1), .second, .val (.long x2), .second, .val (.int ((x0 &&& (2147483647 : Int32)) % (6 : Int32))), .val (.ref a_Constraints_Size_MAX_PROPERTIES), .val (.int (1 : Int32)), .val (.int (own_adm (1 : Int32) x1 x2)), .val (.int (0 : Int32))] [])) _
                refine Goes.to (fun _ k => XS.iconst X32.here hx rfl (hb hby at_149) k) ?_
                show Goes p.tables e below (T32.setTop (mkF m 150 #[.val (.int x0), .val (.long x1), .second, .val (.long x2), .second, .val (.int ((x0 &&& (2147483647 : Int32)) % (6 : Int32))), .val (.ref a_Constraints_Size_MAX_PROPERTIES), .val (.int (1 : Int32)), .val (.int (own_adm (1 : Int32) x1 x2)), .val (.int (0 : Int32))] [(.int (1 : Int32))])) _
                refine Goes.to (fun _ k => XS.goto X32.here hx rfl (pc0 := 150) (pc' := 154) rfl (hb hby at_150) (by decide) (by decide) k) ?_
                show Goes p.tables e below (T32.setTop (mkF m 154 #[.val (.int x0), .val (.long x1), .second, .val (.long x2), .second, .val (.int ((x0 &&& (2147483647 : Int32)) % (6 : Int32))), .val (.ref a_Constraints_Size_MAX_PROPERTIES), .val (.int (1 : Int32)), .val (.int (own_adm (1 : Int32) x1 x2)), .val (.int (0 : Int32))] [(.int (1 : Int32))])) _
                obtain ⟨fs, hr, hrun, hended, hW, hsame⟩ := X32.leave (v := some (.int (1 : Int32))) (fun h => by rw [Bd.returns] at h; cases h)
                have hv : (some (.int (1 : Int32)) : Option Value) = some (.int (1 : Int32)) := by
                  rfl
                exact ⟨_, _, retN X32 hx (t := .boolean) Bd.returns (by simp) (hb hby at_154) hr, hrun, hended, _, _, rfl, ⟨hv, N32⟩, ⟨_, rfl⟩, hW, hsame.mono (by decide) (by decide)⟩
              · refine Goes.to (fun _ k => XS.icmpYes X32.here hx rfl (pc0 := 146) (pc' := 153) rfl (hb hby at_146) rfl (feq hc34).2 (by decide) (by decide) k) ?_
                show Goes p.tables e below (T32.setTop (mkF m 153 #[.val (.int x0), .val (.long x1), .second, .val (.long x2), .second, .val (.int ((x0 &&& (2147483647 : Int32)) % (6 : Int32))), .val (.ref a_Constraints_Size_MAX_PROPERTIES), .val (.int (1 : Int32)), .val (.int (own_adm (1 : Int32) x1 x2)), .val (.int (0 : Int32))] [])) _
                refine Goes.to (fun _ k => XS.iconst X32.here hx rfl (hb hby at_153) k) ?_
                show Goes p.tables e below (T32.setTop (mkF m 154 #[.val (.int x0), .val (.long x1), .second, .val (.long x2), .second, .val (.int ((x0 &&& (2147483647 : Int32)) % (6 : Int32))), .val (.ref a_Constraints_Size_MAX_PROPERTIES), .val (.int (1 : Int32)), .val (.int (own_adm (1 : Int32) x1 x2)), .val (.int (0 : Int32))] [(.int (0 : Int32))])) _
                obtain ⟨fs, hr, hrun, hended, hW, hsame⟩ := X32.leave (v := some (.int (0 : Int32))) (fun h => by rw [Bd.returns] at h; cases h)
                have hv : (some (.int (0 : Int32)) : Option Value) = some (.int (1 : Int32)) := by
                  exfalso
                  apply hc34
                  rw [own_adm, if_neg (by decide), if_pos hc33]
                exact ⟨_, _, retN X32 hx (t := .boolean) Bd.returns (by simp) (hb hby at_154) hr, hrun, hended, _, _, rfl, ⟨hv, N32⟩, ⟨_, rfl⟩, hW, hsame.mono (by decide) (by decide)⟩
            · refine Goes.to (fun _ k => XS.ifNo X32.here hx rfl (hb hby at_118) rfl ((if0 _ _).trans (flt (fun q => hc33 ((lw_gt x1 x2).mp q))).2.2.1) k) ?_
              show Goes p.tables e below (T32.setTop (mkF m 121 #[.val (.int x0), .val (.long x1), .second, .val (.long x2), .second, .val (.int ((x0 &&& (2147483647 : Int32)) % (6 : Int32))), .val (.ref a_Constraints_Size_MAX_PROPERTIES), .val (.int (1 : Int32)), .val (.int (own_adm (1 : Int32) x1 x2)), .unset] [])) _
              refine Goes.to (fun _ k => XS.iconst X32.here hx rfl (hb hby at_121) k) ?_
              show Goes p.tables e below (T32.setTop (mkF m 122 #[.val (.int x0), .val (.long x1), .second, .val (.long x2), .second, .val (.int ((x0 &&& (2147483647 : Int32)) % (6 : Int32))), .val (.ref a_Constraints_Size_MAX_PROPERTIES), .val (.int (1 : Int32)), .val (.int (own_adm (1 : Int32) x1 x2)), .unset] [(.int (1 : Int32))])) _
              refine Goes.to (fun _ k => XS.goto X32.here hx rfl (pc0 := 122) (pc' := 140) rfl (hb hby at_122) (by decide) (by decide) k) ?_
              show Goes p.tables e below (T32.setTop (mkF m 140 #[.val (.int x0), .val (.long x1), .second, .val (.long x2), .second, .val (.int ((x0 &&& (2147483647 : Int32)) % (6 : Int32))), .val (.ref a_Constraints_Size_MAX_PROPERTIES), .val (.int (1 : Int32)), .val (.int (own_adm (1 : Int32) x1 x2)), .unset] [(.int (1 : Int32))])) _
              refine Goes.to (fun _ k => XS.istore X32.here hx rfl (hb hby at_140) rfl (l' := #[.val (.int x0), .val (.long x1), .second, .val (.long x2), .second, .val (.int ((x0 &&& (2147483647 : Int32)) % (6 : Int32))), .val (.ref a_Constraints_Size_MAX_PROPERTIES), .val (.int (1 : Int32)), .val (.int (own_adm (1 : Int32) x1 x2)), .val (.int (1 : Int32))]) rfl k) ?_
              show Goes p.tables e below (T32.setTop (mkF m 142 #[.val (.int x0), .val (.long x1), .second, .val (.long x2), .second, .val (.int ((x0 &&& (2147483647 : Int32)) % (6 : Int32))), .val (.ref a_Constraints_Size_MAX_PROPERTIES), .val (.int (1 : Int32)), .val (.int (own_adm (1 : Int32) x1 x2)), .val (.int (1 : Int32))] [])) _
              refine Goes.to (fun _ k => XS.iload X32.here hx rfl (hb hby at_142) rfl k) ?_
              show Goes p.tables e below (T32.setTop (mkF m 144 #[.val (.int x0), .val (.long x1), .second, .val (.long x2), .second, .val (.int ((x0 &&& (2147483647 : Int32)) % (6 : Int32))), .val (.ref a_Constraints_Size_MAX_PROPERTIES), .val (.int (1 : Int32)), .val (.int (own_adm (1 : Int32) x1 x2)), .val (.int (1 : Int32))] [(.int (own_adm (1 : Int32) x1 x2))])) _
              refine Goes.to (fun _ k => XS.iload X32.here hx rfl (hb hby at_144) rfl k) ?_
              show Goes p.tables e below (T32.setTop (mkF m 146 #[.val (.int x0), .val (.long x1), .second, .val (.long x2), .second, .val (.int ((x0 &&& (2147483647 : Int32)) % (6 : Int32))), .val (.ref a_Constraints_Size_MAX_PROPERTIES), .val (.int (1 : Int32)), .val (.int (own_adm (1 : Int32) x1 x2)), .val (.int (1 : Int32))] [(.int (1 : Int32)), (.int (own_adm (1 : Int32) x1 x2))])) _
              by_cases hc35 : (own_adm (1 : Int32) x1 x2) = (1 : Int32)
              · refine Goes.to (fun _ k => XS.icmpNo X32.here hx rfl (hb hby at_146) rfl (teq hc35).2 k) ?_
                show Goes p.tables e below (T32.setTop (mkF m 149 #[.val (.int x0), .val (.long x1), .second, .val (.long x2), .second, .val (.int ((x0 &&& (2147483647 : Int32)) % (6 : Int32))), .val (.ref a_Constraints_Size_MAX_PROPERTIES), .val (.int (1 : Int32)), .val (.int (own_adm (1 : Int32) x1 x2)), .val (.int (1 : Int32))] [])) _
                refine Goes.to (fun _ k => XS.iconst X32.here hx rfl (hb hby at_149) k) ?_
                show Goes p.tables e below (T32.setTop (mkF m 150 #[.val (.int x0), .val (.long x1), .second, .val (.long x2), .second, .val (.int ((x0 &&& (2147483647 : Int32)) % (6 : Int32))), .val (.ref a_Constraints_Size_MAX_PROPERTIES), .val (.int (1 : Int32)), .val (.int (own_adm (1 : Int32) x1 x2)), .val (.int (1 : Int32))] [(.int (1 : Int32))])) _
                refine Goes.to (fun _ k => XS.goto X32.here hx rfl (pc0 := 150) (pc' := 154) rfl (hb hby at_150) (by decide) (by decide) k) ?_
                show Goes p.tables e below (T32.setTop (mkF m 154 #[.val (.int x0), .val (.long x1), .second, .val (.long x2), .second, .val (.int ((x0 &&& (2147483647 : Int32)) % (6 : Int32))), .val (.ref a_Constraints_Size_MAX_PROPERTIES), .val (.int (1 : Int32)), .val (.int (own_adm (1 : Int32) x1 x2)), .val (.int (1 : Int32))] [(.int (1 : Int32))])) _
                obtain ⟨fs, hr, hrun, hended, hW, hsame⟩ := X32.leave (v := some (.int (1 : Int32))) (fun h => by rw [Bd.returns] at h; cases h)
                have hv : (some (.int (1 : Int32)) : Option Value) = some (.int (1 : Int32)) := by
                  rfl
                exact ⟨_, _, retN X32 hx (t := .boolean) Bd.returns (by simp) (hb hby at_154) hr, hrun, hended, _, _, rfl, ⟨hv, N32⟩, ⟨_, rfl⟩, hW, hsame.mono (by decide) (by decide)⟩
              · refine Goes.to (fun _ k => XS.icmpYes X32.here hx rfl (pc0 := 146) (pc' := 153) rfl (hb hby at_146) rfl (feq hc35).2 (by decide) (by decide) k) ?_
                show Goes p.tables e below (T32.setTop (mkF m 153 #[.val (.int x0), .val (.long x1), .second, .val (.long x2), .second, .val (.int ((x0 &&& (2147483647 : Int32)) % (6 : Int32))), .val (.ref a_Constraints_Size_MAX_PROPERTIES), .val (.int (1 : Int32)), .val (.int (own_adm (1 : Int32) x1 x2)), .val (.int (1 : Int32))] [])) _
                refine Goes.to (fun _ k => XS.iconst X32.here hx rfl (hb hby at_153) k) ?_
                show Goes p.tables e below (T32.setTop (mkF m 154 #[.val (.int x0), .val (.long x1), .second, .val (.long x2), .second, .val (.int ((x0 &&& (2147483647 : Int32)) % (6 : Int32))), .val (.ref a_Constraints_Size_MAX_PROPERTIES), .val (.int (1 : Int32)), .val (.int (own_adm (1 : Int32) x1 x2)), .val (.int (1 : Int32))] [(.int (0 : Int32))])) _
                obtain ⟨fs, hr, hrun, hended, hW, hsame⟩ := X32.leave (v := some (.int (0 : Int32))) (fun h => by rw [Bd.returns] at h; cases h)
                have hv : (some (.int (0 : Int32)) : Option Value) = some (.int (1 : Int32)) := by
                  exfalso
                  apply hc35
                  rw [own_adm, if_neg (by decide), if_neg hc33]
                exact ⟨_, _, retN X32 hx (t := .boolean) Bd.returns (by simp) (hb hby at_154) hr, hrun, hended, _, _, rfl, ⟨hv, N32⟩, ⟨_, rfl⟩, hW, hsame.mono (by decide) (by decide)⟩

set_option maxRecDepth 65536 in
set_option maxHeartbeats 40000000 in
theorem comes_1 {Post : Tables → Env → Array Value → State → Outcome → State → Prop} (hpost : ∀ tb e args s v u, (limb_1_1.after args s (.returned v) u = true ∧ limb_1_2.after args s (.returned v) u = true ∧ True) → FrameEnd s (.returned v) u (Jvm.fieldLocs frame_1_writes args s ++ Jvm.arrayLocs frame_1_arrays args s ++ Jvm.staticLocs frame_1_statics s) 0 0 → Post tb e args s (.returned v) u) :
    ArmFor flags0 classFile x code maxLocals ret World_1 tables_1 room_1 Calls_1 rest_1 Pre_1 Post := by
  intro l hfl _ _ p e ha hc hk s m args below hf hA hF happ hP
  obtain ⟨hcalls, hrest, hpre⟩ := hP
  obtain ⟨-, -, -, hnamed, -, -, -, hat⟩ := (Spec.applies_iff hf).mp happ
  obtain ⟨hg, hn⟩ := and_e (Cond.before_iff.mp (show (Jvm.Cond.and given_1 narrow_1).before args s = true from hpre))
  obtain ⟨hg0, hgr0⟩ := and_e hg
  obtain ⟨hg1, hgr1⟩ := and_e hgr0
  obtain ⟨hg2, hgr2⟩ := and_e hgr1
  obtain ⟨w0, w1, w2, rfl⟩ : ∃ w0 w1 w2 : Value, args = #[w0, w1, w2] := by
    have hs : args.size = 3 := by simpa [Cond.value, given_1] using hg0
    obtain ⟨L⟩ := args
    match L, hs with
    | [w0, w1, w2], _ => exact ⟨w0, w1, w2, rfl⟩
  have hw := fun d (hd : d ∈ tables_1) => atoms_spec (ws := Jvm.Cond.code x code maxLocals ret :: tables_1) hat d (List.mem_cons_of_mem _ hd)
  have hfit : Fit s := fun {y c} hc i hi => by
    obtain ⟨ha, rfl⟩ := Array.getElem?_eq_some_iff.mp hc
    have q := List.all_eq_true.mp ((Array.all_eq_true_iff_forall_mem.mp hF) _ (Array.getElem_mem ha)) i (List.mem_range.mpr hi)
    simpa [Array.getElem?_eq_getElem hi] using q
  obtain ⟨i0, ei0⟩ := is_v hg1
  obtain rfl : w0 = (.int i0) := Option.some.inj ei0
  obtain ⟨i1, ei1⟩ := isL_v hg2
  obtain rfl : w1 = (.long i1) := Option.some.inj ei1
  obtain ⟨i2, ei2⟩ := isL_v hgr2
  obtain rfl : w2 = (.long i2) := Option.some.inj ei2
  obtain ⟨hn0, hnr0⟩ := and_e hn
  obtain ⟨a_Constraints_Size_MIN_LENGTH, ev_Constraints_Size_MIN_LENGTH⟩ := exa_v hn0
  have S_Constraints_Size_MIN_LENGTH : Sta s s.heap "com/example/unipar/unipar/Constraints$Size" "MIN_LENGTH" "Lcom/example/unipar/unipar/Constraints$Size;" (.ref a_Constraints_Size_MIN_LENGTH) := Sta.start ev_Constraints_Size_MIN_LENGTH (Or.inr ⟨(hw _ (List.mem_of_getElem? (i := 2) rfl)), (hw _ (List.mem_of_getElem? (i := 3) rfl))⟩)
  have E_Constraints_Size_MIN_LENGTH : Exa s s.heap a_Constraints_Size_MIN_LENGTH "com/example/unipar/unipar/Constraints$Size" := Exa.start ev_Constraints_Size_MIN_LENGTH hn0
  obtain ⟨hn1, hnr1⟩ := and_e hnr0
  have F_Constraints_Size_MIN_LENGTH_upper : Fld s s.heap a_Constraints_Size_MIN_LENGTH "com/example/unipar/unipar/Constraints$Size" "upper" "Z" (.int (0 : Int32)) := Fld.start ((fld_at ev_Constraints_Size_MIN_LENGTH).symm.trans (own_eqv hn1))
  obtain ⟨hn2, hnr2⟩ := and_e hnr1
  obtain ⟨a_Constraints_Size_MIN_PROPERTIES, ev_Constraints_Size_MIN_PROPERTIES⟩ := exa_v hn2
  have S_Constraints_Size_MIN_PROPERTIES : Sta s s.heap "com/example/unipar/unipar/Constraints$Size" "MIN_PROPERTIES" "Lcom/example/unipar/unipar/Constraints$Size;" (.ref a_Constraints_Size_MIN_PROPERTIES) := Sta.start ev_Constraints_Size_MIN_PROPERTIES (Or.inr ⟨(hw _ (List.mem_of_getElem? (i := 2) rfl)), (hw _ (List.mem_of_getElem? (i := 12) rfl))⟩)
  have E_Constraints_Size_MIN_PROPERTIES : Exa s s.heap a_Constraints_Size_MIN_PROPERTIES "com/example/unipar/unipar/Constraints$Size" := Exa.start ev_Constraints_Size_MIN_PROPERTIES hn2
  obtain ⟨hn3, hnr3⟩ := and_e hnr2
  have F_Constraints_Size_MIN_PROPERTIES_upper : Fld s s.heap a_Constraints_Size_MIN_PROPERTIES "com/example/unipar/unipar/Constraints$Size" "upper" "Z" (.int (0 : Int32)) := Fld.start ((fld_at ev_Constraints_Size_MIN_PROPERTIES).symm.trans (own_eqv hn3))
  obtain ⟨hn4, hnr4⟩ := and_e hnr3
  obtain ⟨a_Constraints_Size_MAX_ITEMS, ev_Constraints_Size_MAX_ITEMS⟩ := exa_v hn4
  have S_Constraints_Size_MAX_ITEMS : Sta s s.heap "com/example/unipar/unipar/Constraints$Size" "MAX_ITEMS" "Lcom/example/unipar/unipar/Constraints$Size;" (.ref a_Constraints_Size_MAX_ITEMS) := Sta.start ev_Constraints_Size_MAX_ITEMS (Or.inr ⟨(hw _ (List.mem_of_getElem? (i := 2) rfl)), (hw _ (List.mem_of_getElem? (i := 14) rfl))⟩)
  have E_Constraints_Size_MAX_ITEMS : Exa s s.heap a_Constraints_Size_MAX_ITEMS "com/example/unipar/unipar/Constraints$Size" := Exa.start ev_Constraints_Size_MAX_ITEMS hn4
  obtain ⟨hn5, hnr5⟩ := and_e hnr4
  have F_Constraints_Size_MAX_ITEMS_upper : Fld s s.heap a_Constraints_Size_MAX_ITEMS "com/example/unipar/unipar/Constraints$Size" "upper" "Z" (.int (1 : Int32)) := Fld.start ((fld_at ev_Constraints_Size_MAX_ITEMS).symm.trans (own_eqv hn5))
  obtain ⟨hn6, hnr6⟩ := and_e hnr5
  obtain ⟨a_Constraints_Size_MIN_ITEMS, ev_Constraints_Size_MIN_ITEMS⟩ := exa_v hn6
  have S_Constraints_Size_MIN_ITEMS : Sta s s.heap "com/example/unipar/unipar/Constraints$Size" "MIN_ITEMS" "Lcom/example/unipar/unipar/Constraints$Size;" (.ref a_Constraints_Size_MIN_ITEMS) := Sta.start ev_Constraints_Size_MIN_ITEMS (Or.inr ⟨(hw _ (List.mem_of_getElem? (i := 2) rfl)), (hw _ (List.mem_of_getElem? (i := 16) rfl))⟩)
  have E_Constraints_Size_MIN_ITEMS : Exa s s.heap a_Constraints_Size_MIN_ITEMS "com/example/unipar/unipar/Constraints$Size" := Exa.start ev_Constraints_Size_MIN_ITEMS hn6
  obtain ⟨hn7, hnr7⟩ := and_e hnr6
  have F_Constraints_Size_MIN_ITEMS_upper : Fld s s.heap a_Constraints_Size_MIN_ITEMS "com/example/unipar/unipar/Constraints$Size" "upper" "Z" (.int (0 : Int32)) := Fld.start ((fld_at ev_Constraints_Size_MIN_ITEMS).symm.trans (own_eqv hn7))
  obtain ⟨hn8, hnr8⟩ := and_e hnr7
  obtain ⟨a_Constraints_Size_MAX_LENGTH, ev_Constraints_Size_MAX_LENGTH⟩ := exa_v hn8
  have S_Constraints_Size_MAX_LENGTH : Sta s s.heap "com/example/unipar/unipar/Constraints$Size" "MAX_LENGTH" "Lcom/example/unipar/unipar/Constraints$Size;" (.ref a_Constraints_Size_MAX_LENGTH) := Sta.start ev_Constraints_Size_MAX_LENGTH (Or.inr ⟨(hw _ (List.mem_of_getElem? (i := 2) rfl)), (hw _ (List.mem_of_getElem? (i := 18) rfl))⟩)
  have E_Constraints_Size_MAX_LENGTH : Exa s s.heap a_Constraints_Size_MAX_LENGTH "com/example/unipar/unipar/Constraints$Size" := Exa.start ev_Constraints_Size_MAX_LENGTH hn8
  obtain ⟨hn9, hnr9⟩ := and_e hnr8
  have F_Constraints_Size_MAX_LENGTH_upper : Fld s s.heap a_Constraints_Size_MAX_LENGTH "com/example/unipar/unipar/Constraints$Size" "upper" "Z" (.int (1 : Int32)) := Fld.start ((fld_at ev_Constraints_Size_MAX_LENGTH).symm.trans (own_eqv hn9))
  obtain ⟨hn10, hnr10⟩ := and_e hnr9
  obtain ⟨a_Constraints_Size_MAX_PROPERTIES, ev_Constraints_Size_MAX_PROPERTIES⟩ := exa_v hn10
  have S_Constraints_Size_MAX_PROPERTIES : Sta s s.heap "com/example/unipar/unipar/Constraints$Size" "MAX_PROPERTIES" "Lcom/example/unipar/unipar/Constraints$Size;" (.ref a_Constraints_Size_MAX_PROPERTIES) := Sta.start ev_Constraints_Size_MAX_PROPERTIES (Or.inr ⟨(hw _ (List.mem_of_getElem? (i := 2) rfl)), (hw _ (List.mem_of_getElem? (i := 20) rfl))⟩)
  have E_Constraints_Size_MAX_PROPERTIES : Exa s s.heap a_Constraints_Size_MAX_PROPERTIES "com/example/unipar/unipar/Constraints$Size" := Exa.start ev_Constraints_Size_MAX_PROPERTIES hn10
  have F_Constraints_Size_MAX_PROPERTIES_upper : Fld s s.heap a_Constraints_Size_MAX_PROPERTIES "com/example/unipar/unipar/Constraints$Size" "upper" "Z" (.int (1 : Int32)) := Fld.start ((fld_at ev_Constraints_Size_MAX_PROPERTIES).symm.trans (own_eqv hnr10))
  obtain ⟨n, o, h1, h2, h3, _, L, rfl, ⟨rfl, N⟩, hq⟩ := own_rm0 l s _ hw tables_1 i0 i1 i2 a_Constraints_Size_MIN_LENGTH a_Constraints_Size_MIN_PROPERTIES a_Constraints_Size_MAX_ITEMS a_Constraints_Size_MIN_ITEMS a_Constraints_Size_MAX_LENGTH a_Constraints_Size_MAX_PROPERTIES s.heap s.heap.size (Nat.le_refl _) (Old.start s) S_Constraints_Size_MIN_LENGTH E_Constraints_Size_MIN_LENGTH S_Constraints_Size_MIN_PROPERTIES E_Constraints_Size_MIN_PROPERTIES S_Constraints_Size_MAX_ITEMS E_Constraints_Size_MAX_ITEMS S_Constraints_Size_MIN_ITEMS E_Constraints_Size_MIN_ITEMS S_Constraints_Size_MAX_LENGTH E_Constraints_Size_MAX_LENGTH S_Constraints_Size_MAX_PROPERTIES E_Constraints_Size_MAX_PROPERTIES F_Constraints_Size_MIN_LENGTH_upper F_Constraints_Size_MIN_PROPERTIES_upper F_Constraints_Size_MAX_ITEMS_upper F_Constraints_Size_MIN_ITEMS_upper F_Constraints_Size_MAX_LENGTH_upper F_Constraints_Size_MAX_PROPERTIES_upper p e ha hc hk s m _ below hf ((Spec.applies_iff_loose hf).mp happ).1 ⟨rfl, State.Warmed39.refl s, rfl⟩ trivial
  refine ⟨n, _, h1, h2, h3, hpost _ _ _ _ _ _ ⟨Cond.after_iff.mpr rfl, Cond.after_iff.mpr (eq_i res_at (Term.int_eval (1)) rfl), trivial⟩ ⟨hq.1, hq.2.1, (hq.2.2.sift fun y hy => Or.inr (N y hy)).mono (by decide) (by decide)⟩⟩
theorem main_1_1 : Claimed_1_1 := comes_1 fun _ _ _ _ _ _ h hF => ⟨h.1, hF⟩
theorem main_1_2 : Claimed_1_2 := comes_1 fun _ _ _ _ _ _ h hF => ⟨h.2.1, hF⟩
end Jvm.Pilot.@@N@@
namespace Jvm.Pilot.@@N@@
open Jvm Jvm.ClassFile Sem Op Lib Jvm.Free Jvm.Stand Jvm.Pilot.@@N@@.Jvm.D
/-! MADE BY PROGRAM (witnessworld.py) out of the Statement's table words and the real class files: 12 classes; the members and pool entries that the words name. The judged class is class 1, her method 1. -/
namespace start1
open Jvm.ClassFile
def u (s : String) : CpInfo := .utf8 (stringToUtf16 s)
/-- a pool by its gaps: so many unusable entries, then the entry; so many at the end -/
def gap : Nat → List CpInfo → List CpInfo
  | 0, r => r
  | n + 1, r => .unusable :: gap n r
def poolList (es : List (Nat × CpInfo)) (last : Nat) : List CpInfo := es.foldr (fun e r => gap e.1 (e.2 :: r)) (gap last [])
def pool (es : List (Nat × CpInfo)) (last : Nat) : Array CpInfo := ⟨poolList es last⟩
def fileOf (pool : Array CpInfo) (this : Nat) (attrs : Array Attribute := #[]) (ms : Array MethodInfo := #[]) (fl : Nat := 33) (sup : Nat := 0) (ifs : Array Nat := #[]) (fds : Array FieldInfo := #[]) : ClassFile where
  minorVersion := 0
  majorVersion := 65
  constantPool := pool
  accessFlags := fl
  thisClass := this
  superClass := sup
  interfaces := ifs
  fields := fds
  methods := ms
  attributes := attrs
def plain (name : String) (sup : Option ClassId) : Class where
  name := name
  kind := .ordinary
  loader := none
  accessFlags := 33
  super := sup
  interfaces := #[]
  cf := none
  fields := #[]
  methods := #[]
  instanceTypes := #[]
  staticTypes := #[]
  resolved := #[]
  callSites := []
  init := .initialized
  statics := none
  mirror := none

def pool0 : Array CpInfo := pool [(5, u "<init>"), (0, u "()V"), (1, .class_ 10), (1, u "java/lang/Object")] 113

def k0m0 : Method := { name := "<init>", desc := "()V", sig := { parameters := [], returnType := none }, accessFlags := 1, code := none }
/-- java/lang/Object -/
def k0 : Class := { plain "java/lang/Object" none with
  accessFlags := 33
  interfaces := #[]
  cf := some (fileOf pool0 8 #[] #[{ accessFlags := 1, nameIndex := 5, descriptorIndex := 6, attributes := #[] }] 33 0 #[] #[])
  fields := #[]
  methods := #[k0m0]
  instanceTypes := #[]
  staticTypes := #[]
  resolved := Array.replicate 124 none
  statics := none }

def pool1 : Array CpInfo := pool [(2, .class_ 4), (1, u "java/lang/Object"), (0, u "<init>"), (0, u "()V"), (0, .integer 2147483647), (0, .fieldref 9 10), (0, .class_ 11), (0, .nameAndType 12 13), (0, u "com/example/unipar/unipar/Constraints$Size"), (0, u "MIN_LENGTH"), (0, u "Lcom/example/unipar/unipar/Constraints$Size;"), (0, .fieldref 9 15), (0, .nameAndType 16 13), (0, u "MAX_LENGTH"), (0, .fieldref 9 18), (0, .nameAndType 19 13), (0, u "MIN_ITEMS"), (0, .fieldref 9 21), (0, .nameAndType 22 13), (0, u "MAX_ITEMS"), (0, .fieldref 9 24), (0, .nameAndType 25 13), (0, u "MIN_PROPERTIES"), (0, .fieldref 9 27), (0, .nameAndType 28 13), (0, u "MAX_PROPERTIES"), (0, .methodref 9 30), (0, .nameAndType 31 32), (0, u "admits"), (0, u "(JJ)Z"), (0, .class_ 34), (0, u "com/example/unipar/unipar/SizeAdmitsPinLaw"), (2, u "law"), (0, u "(IJJ)Z")] 7

def k1m0 : Method := { name := "<init>", desc := "()V", sig := { parameters := [], returnType := none }, accessFlags := 2, code := none }
def k1c1 : Code := { maxStack := 5, maxLocals := 10, code := code, exceptionTable := #[], attributes := #[] }
def k1m1 : Method := { name := "law", desc := "(IJJ)Z", sig := { parameters := [.int, .long, .long], returnType := some .boolean }, accessFlags := 9, code := some k1c1 }
/-- com/example/unipar/unipar/SizeAdmitsPinLaw -/
def k1 : Class := { plain "com/example/unipar/unipar/SizeAdmitsPinLaw" (some 0) with
  accessFlags := 49
  interfaces := #[]
  cf := some (fileOf pool1 33 #[] #[{ accessFlags := 2, nameIndex := 5, descriptorIndex := 6, attributes := #[] }, { accessFlags := 9, nameIndex := 37, descriptorIndex := 38, attributes := #[] }] 49 2 #[] #[])
  fields := #[]
  methods := #[k1m0, k1m1]
  instanceTypes := #[]
  staticTypes := #[]
  resolved := Array.replicate 46 none
  statics := none }

def pool2 : Array CpInfo := pool [(1, .class_ 2), (0, u "java/lang/constant/Constable"), (0, .class_ 4), (0, u "java/lang/Object")] 6

/-- java/lang/constant/Constable -/
def k2 : Class := { plain "java/lang/constant/Constable" (some 0) with
  accessFlags := 1537
  interfaces := #[]
  cf := some (fileOf pool2 1 #[] #[] 1537 3 #[] #[])
  fields := #[]
  methods := #[]
  instanceTypes := #[]
  staticTypes := #[]
  resolved := Array.replicate 11 none
  statics := none }

def pool3 : Array CpInfo := pool [(1, .class_ 2), (0, u "java/lang/Comparable"), (0, .class_ 4), (0, u "java/lang/Object")] 7

/-- java/lang/Comparable -/
def k3 : Class := { plain "java/lang/Comparable" (some 0) with
  accessFlags := 1537
  interfaces := #[]
  cf := some (fileOf pool3 1 #[] #[] 1537 3 #[] #[])
  fields := #[]
  methods := #[]
  instanceTypes := #[]
  staticTypes := #[]
  resolved := Array.replicate 12 none
  statics := none }

def pool4 : Array CpInfo := pool [(1, .class_ 2), (0, u "java/io/Serializable"), (0, .class_ 4), (0, u "java/lang/Object")] 2

/-- java/io/Serializable -/
def k4 : Class := { plain "java/io/Serializable" (some 0) with
  accessFlags := 1537
  interfaces := #[]
  cf := some (fileOf pool4 1 #[] #[] 1537 3 #[] #[])
  fields := #[]
  methods := #[]
  instanceTypes := #[]
  staticTypes := #[]
  resolved := Array.replicate 7 none
  statics := none }

def pool5 : Array CpInfo := pool [(2, .class_ 4), (1, u "java/lang/Enum"), (0, u "name"), (0, u "Ljava/lang/String;"), (2, u "ordinal"), (0, u "I"), (1, .class_ 14), (1, u "java/lang/Object"), (4, u "hash"), (86, .class_ 108), (1, u "java/lang/Enum$EnumDesc"), (2, .class_ 112), (0, u "java/lang/constant/Constable"), (0, .class_ 114), (0, u "java/lang/Comparable"), (0, .class_ 116), (0, u "java/io/Serializable")] 87

/-- java/lang/Enum -/
def k5 : Class := { plain "java/lang/Enum" (some 0) with
  accessFlags := 1057
  interfaces := #[2, 3, 4]
  cf := some (fileOf pool5 2 #[.nestMembers #[106]] #[] 1057 12 #[111, 113, 115] #[{ accessFlags := 18, nameIndex := 5, descriptorIndex := 6, attributes := #[] }, { accessFlags := 18, nameIndex := 9, descriptorIndex := 10, attributes := #[] }, { accessFlags := 2, nameIndex := 19, descriptorIndex := 10, attributes := #[] }])
  fields := #[{ name := "name", type := (.object "java/lang/String"), accessFlags := 18, slot := 0, constantValue := 0 }, { name := "ordinal", type := .int, accessFlags := 18, slot := 1, constantValue := 0 }, { name := "hash", type := .int, accessFlags := 2, slot := 2, constantValue := 0 }]
  methods := #[]
  instanceTypes := #[(.object "java/lang/String"), .int, .int]
  staticTypes := #[]
  resolved := Array.replicate 204 none
  statics := none }

def pool6 : Array CpInfo := pool [(1, .class_ 2), (0, u "com/example/unipar/unipar/Constraints$Size"), (2, u "MIN_LENGTH"), (0, u "Lcom/example/unipar/unipar/Constraints$Size;"), (2, u "MAX_LENGTH"), (2, u "MIN_ITEMS"), (2, u "MAX_ITEMS"), (2, u "MIN_PROPERTIES"), (2, u "MAX_PROPERTIES"), (2, u "$VALUES"), (0, u "[Lcom/example/unipar/unipar/Constraints$Size;"), (6, .class_ 34), (1, u "java/lang/Enum"), (8, u "keyword"), (0, u "Ljava/lang/String;"), (2, u "measures"), (0, u "Ljava/lang/Class;"), (2, u "unit"), (0, .fieldref 1 53), (0, .nameAndType 54 55), (0, u "upper"), (0, u "Z"), (52, u "admits"), (0, u "(JJ)Z"), (7, .class_ 118), (0, u "com/example/unipar/unipar/Constraints")] 2

def k6c0 : Code := { maxStack := 4, maxLocals := 5, code := prog_7_method_7_code, exceptionTable := #[], attributes := #[] }
def k6m0 : Method := { name := "admits", desc := "(JJ)Z", sig := { parameters := [.long, .long], returnType := some .boolean }, accessFlags := 0, code := some k6c0 }
/-- com/example/unipar/unipar/Constraints$Size -/
def k6 : Class := { plain "com/example/unipar/unipar/Constraints$Size" (some 5) with
  accessFlags := 16432
  interfaces := #[]
  cf := some (fileOf pool6 1 #[.nestHost 117] #[{ accessFlags := 0, nameIndex := 108, descriptorIndex := 109, attributes := #[] }] 16432 32 #[] #[{ accessFlags := 16409, nameIndex := 5, descriptorIndex := 6, attributes := #[] }, { accessFlags := 16409, nameIndex := 9, descriptorIndex := 6, attributes := #[] }, { accessFlags := 16409, nameIndex := 12, descriptorIndex := 6, attributes := #[] }, { accessFlags := 16409, nameIndex := 15, descriptorIndex := 6, attributes := #[] }, { accessFlags := 16409, nameIndex := 18, descriptorIndex := 6, attributes := #[] }, { accessFlags := 16409, nameIndex := 21, descriptorIndex := 6, attributes := #[] }, { accessFlags := 18, nameIndex := 43, descriptorIndex := 44, attributes := #[] }, { accessFlags := 18, nameIndex := 47, descriptorIndex := 48, attributes := #[] }, { accessFlags := 18, nameIndex := 51, descriptorIndex := 44, attributes := #[] }, { accessFlags := 18, nameIndex := 54, descriptorIndex := 55, attributes := #[] }, { accessFlags := 4122, nameIndex := 24, descriptorIndex := 25, attributes := #[] }])
  fields := #[{ name := "MIN_LENGTH", type := (.object "com/example/unipar/unipar/Constraints$Size"), accessFlags := 16409, slot := 0, constantValue := 0 }, { name := "MAX_LENGTH", type := (.object "com/example/unipar/unipar/Constraints$Size"), accessFlags := 16409, slot := 1, constantValue := 0 }, { name := "MIN_ITEMS", type := (.object "com/example/unipar/unipar/Constraints$Size"), accessFlags := 16409, slot := 2, constantValue := 0 }, { name := "MAX_ITEMS", type := (.object "com/example/unipar/unipar/Constraints$Size"), accessFlags := 16409, slot := 3, constantValue := 0 }, { name := "MIN_PROPERTIES", type := (.object "com/example/unipar/unipar/Constraints$Size"), accessFlags := 16409, slot := 4, constantValue := 0 }, { name := "MAX_PROPERTIES", type := (.object "com/example/unipar/unipar/Constraints$Size"), accessFlags := 16409, slot := 5, constantValue := 0 }, { name := "keyword", type := (.object "java/lang/String"), accessFlags := 18, slot := 3, constantValue := 0 }, { name := "measures", type := (.object "java/lang/Class"), accessFlags := 18, slot := 4, constantValue := 0 }, { name := "unit", type := (.object "java/lang/String"), accessFlags := 18, slot := 5, constantValue := 0 }, { name := "upper", type := .boolean, accessFlags := 18, slot := 6, constantValue := 0 }, { name := "$VALUES", type := (.array (.object "com/example/unipar/unipar/Constraints$Size")), accessFlags := 4122, slot := 6, constantValue := 0 }]
  methods := #[k6m0]
  instanceTypes := #[(.object "java/lang/String"), .int, .int, (.object "java/lang/String"), (.object "java/lang/Class"), (.object "java/lang/String"), .boolean]
  staticTypes := #[(.object "com/example/unipar/unipar/Constraints$Size"), (.object "com/example/unipar/unipar/Constraints$Size"), (.object "com/example/unipar/unipar/Constraints$Size"), (.object "com/example/unipar/unipar/Constraints$Size"), (.object "com/example/unipar/unipar/Constraints$Size"), (.object "com/example/unipar/unipar/Constraints$Size"), (.array (.object "com/example/unipar/unipar/Constraints$Size"))]
  resolved := Array.replicate 121 none
  statics := some 0 }

def pool7 : Array CpInfo := pool [(1, u "java/lang/Cloneable"), (0, .class_ 1), (0, u "java/lang/Object"), (0, .class_ 3)] 3

/-- java/lang/Cloneable -/
def k7 : Class := { plain "java/lang/Cloneable" (some 0) with
  accessFlags := 1537
  interfaces := #[]
  cf := some (fileOf pool7 2 #[] #[] 1537 4 #[] #[])
  fields := #[]
  methods := #[]
  instanceTypes := #[]
  staticTypes := #[]
  resolved := Array.replicate 8 none
  statics := none }

/-- the primitive byte -/
def k8 : Class := { plain "byte" none with kind := .primitive 'B', accessFlags := 0x411 }
/-- [B -/
def k9 : Class := { plain "[B" (some 0) with kind := .array 8 .byte, interfaces := #[7, 4], accessFlags := 1041 }

/-- the primitive int -/
def k10 : Class := { plain "int" none with kind := .primitive 'I', accessFlags := 0x411 }
/-- [I -/
def k11 : Class := { plain "[I" (some 0) with kind := .array 10 .int, interfaces := #[7, 4], accessFlags := 1041 }

def heap : Heap := #[{ cls := 6, slots := #[.ref 1, .ref 2, .ref 3, .ref 4, .ref 5, .ref 6, .null], vm := .statics 6 },
  { cls := 6, slots := #[.null, .int 0, .int 0, .null, .null, .null, .int 0], vm := .none },
  { cls := 6, slots := #[.null, .int 1, .int 0, .null, .null, .null, .int 1], vm := .none },
  { cls := 6, slots := #[.null, .int 2, .int 0, .null, .null, .null, .int 0], vm := .none },
  { cls := 6, slots := #[.null, .int 3, .int 0, .null, .null, .null, .int 1], vm := .none },
  { cls := 6, slots := #[.null, .int 4, .int 0, .null, .null, .null, .int 0], vm := .none },
  { cls := 6, slots := #[.null, .int 5, .int 0, .null, .null, .null, .int 1], vm := .none }]
def classes : Array Class := #[k0, k1, k2, k3, k4, k5, k6, k7, k8, k9, k10, k11]
def interned : List (Array UInt16 × Addr) := []
def slotsUsed : Nat := 49
def theMethod : MethodId := ⟨1, 1⟩
def args0 : Array Value := #[.int 3, .long 5, .long 9]
def aboutOver (below : List Frame) : State where
  vm := { classes := classes, interned := interned.toArray }
  heap := heap
  slotsUsed := slotsUsed
  threads := #[{ frames := .invoking theMethod args0 :: below }]
def below0 : List Frame := [.native { method := ⟨0, 0⟩, args := #[] }]
def about1 : State := aboutOver below0
def p0 : Program := .bare "" "" ""
def e0 : Env := launch0.env 0 0 0
theorem w_frames : about1.frames = Frame.invoking theMethod args0 :: below0 := rfl
set_option maxRecDepth 65536 in
theorem w_args : argsFit about1.vm theMethod args0 = true := by decide +kernel
set_option maxRecDepth 65536 in
theorem w_heap : heapFits about1 = true := by decide +kernel
set_option maxRecDepth 65536 in
theorem w_runnable : about1.curStatus? = some .runnable := by decide +kernel
set_option maxRecDepth 65536 in
theorem w_alone : about1.alone = true := by decide +kernel
set_option maxRecDepth 65536 in
theorem w_named : about1.methodNamed? x = some theMethod := by decide +kernel
set_option maxRecDepth 65536 in
theorem w_hears : about1.hears theMethod below0 = true := by decide +kernel
set_option maxRecDepth 65536 in
theorem w_ripe : about1.ripe theMethod args0 below0 = true := by decide +kernel
theorem w_running : about1.status = .running := rfl
set_option maxRecDepth 65536 in
theorem w_room : about1.hasRoom e0.platform room_1 = true :=
  launch0.hasRoom_least _ room_1 (by decide +kernel) (by decide +kernel) (by decide +kernel) (by decide +kernel) (by decide +kernel) (by decide +kernel)
theorem allAtoms_all (ts : List Jvm.Cond) (a : Array Jvm.Value) (st : Jvm.State) : (allAtoms ts).before a st = ts.all (fun c => c.before a st) := by
  induction ts with
  | nil => rfl
  | cons c t ih =>
    show (Jvm.Cond.and c (allAtoms t)).before a st = _
    rw [Jvm.Cond.before_and, ih, List.all_cons]
def words1 : List Jvm.Cond := Jvm.Cond.code x code maxLocals ret :: tables_1
/-- a 'code' word, met by the world's own term for the bytes: nothing is compared byte by byte -/
theorem code_word {y : MethodName} {bytes : ByteArray} {mx : Nat} {rt : Option FieldType} {a : Array Value} {s : State} {m : MethodId} {meth : Method} {c : Code} (h1 : s.methodNamed? y = some m) (h2 : s.vm.method? m = some meth) (h3 : meth.code = some c) (h4 : c.code = bytes)
    (h5 : (c.maxLocals == mx && c.exceptionTable.isEmpty && decide (c.maxStack ≤ mostOperands) && decide (meth.sig.returnType = rt) && !meth.locks && decide (parseMethodDescriptor y.desc = some meth.sig)) = true) : (Jvm.Cond.code y bytes mx rt).before a s = true := by
  simp only [Bool.and_eq_true, beq_iff_eq, Bool.not_eq_true', decide_eq_true_eq] at h5
  obtain ⟨⟨⟨⟨⟨g1, g2⟩, g3⟩, g4⟩, g5⟩, g6⟩ := h5
  simp [Cond.before, Cond.holds, Cond.value, h1, h2, h3, h4, g1, g2, g3, g4, g5, g6]
def isCode : Jvm.Cond → Bool
  | .code _ _ _ _ => true
  | _ => false
theorem all_split {L : List Jvm.Cond} {P : Jvm.Cond → Bool} (h1 : L.all (fun c => isCode c || P c) = true) (h2 : ∀ c ∈ L.filter isCode, P c = true) : L.all P = true := by
  refine List.all_eq_true.mpr fun c hc => ?_
  have h := List.all_eq_true.mp h1 c hc
  rcases Bool.eq_false_or_eq_true (isCode c) with hi | hi
  · exact h2 c (List.mem_filter.mpr ⟨hc, hi⟩)
  · simpa [hi] using h
set_option maxRecDepth 65536 in
theorem w_c0 : (Jvm.Cond.code x code maxLocals ret).before args0 about1 = true := code_word (m := ⟨1, 1⟩) (meth := k1m1) (c := k1c1) (by decide +kernel) rfl rfl rfl (by decide +kernel)
set_option maxRecDepth 65536 in
theorem w_c1 : (Jvm.Cond.code ({ cls := "com/example/unipar/unipar/Constraints$Size", name := "admits", desc := "(JJ)Z" } : Jvm.MethodName) prog_7_method_7_code (5 : Nat) (Option.some Jvm.ClassFile.FieldType.boolean)).before args0 about1 = true := code_word (m := ⟨6, 0⟩) (meth := k6m0) (c := k6c0) (by decide +kernel) rfl rfl rfl (by decide +kernel)
def codes1 : List Jvm.Cond := [Jvm.Cond.code x code maxLocals ret, Jvm.Cond.code ({ cls := "com/example/unipar/unipar/Constraints$Size", name := "admits", desc := "(JJ)Z" } : Jvm.MethodName) prog_7_method_7_code (5 : Nat) (Option.some Jvm.ClassFile.FieldType.boolean)]
set_option maxRecDepth 65536 in
theorem codes_eq : words1.filter isCode = codes1 := rfl
theorem w_codes : ∀ c ∈ words1.filter isCode, c.before args0 about1 = true := by
  rw [codes_eq]
  intro c hc
  simp only [codes1, List.mem_cons, List.not_mem_nil, or_false] at hc
  rcases hc with rfl | rfl
  · exact w_c0
  · exact w_c1
set_option maxRecDepth 65536 in
theorem w_t1 : words1.all (fun c => isCode c || c.before args0 about1) = true := by decide +kernel
theorem w_tables : (allAtoms (Jvm.Cond.code x code maxLocals ret :: tables_1)).before args0 about1 = true := by
  rw [allAtoms_all]
  show words1.all (fun c => c.before args0 about1) = true
  refine all_split ?_ w_codes
  rw [w_t1]
set_option maxRecDepth 65536 in
theorem w_case : (Jvm.Cond.and given_1 narrow_1).before args0 about1 = true := by decide +kernel
theorem w_applies : (headSpec (Jvm.Cond.code x code maxLocals ret :: tables_1) room_1).applies x e0.platform about1 = true :=
  (Spec.applies_iff w_frames).mpr ⟨w_running, w_runnable, w_alone, w_named, w_hears, w_ripe, w_room, w_tables⟩
theorem atStart : AtStart classFile x code maxLocals ret World_1 tables_1 room_1 Calls_1 rest_1 Pre_1 launch0 p0 e0 about1 theMethod args0 below0 :=
  ⟨lists_1, trivial, launch0.admits_env _ _ _, launch0.least_env, fairChoices_fair.cas, fairChoices_fair.clock, w_frames, w_args, w_heap, w_applies, trivial, trivial, w_case⟩
end start1
theorem witness_1 : WitnessClaimed_1 := ⟨start1.p0, start1.e0, start1.about1, start1.theMethod, start1.args0, start1.below0, start1.atStart⟩
end Jvm.Pilot.@@N@@
