import JvmDerived
import JvmDerived.Pilot.@@N@@Statement
import JvmDerived.Pilot.@@N@@Code
set_option linter.unusedVariables false
set_option linter.unusedSimpArgs false
namespace Jvm.RoadKit
open Sem ClassFile Op Lib Jvm.Stand Jvm.Free Jvm.LawKit
section New
variable {p : Program} {l : Launch} {e : Env} {R : Room} {s : State} {m : MethodId} {args : Array Value} {below : List Frame} {meth : Method} {c : Code} {T : State} {locs : List Loc} {cells slots : Nat}
theorem retI (X : Stand p l e R s m args below meth c T locs cells slots) (hx : p.tables.exec = Jvm.exec) {pc : Nat} {Ls : Array Slot} {z : Int32} {rest : List Value} (hret : meth.sig.returnType = some .int) (hd : decode c.code pc = .ok (.ireturn, 1)) {fs : List Frame}
    (hl : ∀ (f : JFrame) (acts : List Action), f.method = m → f.locked = none → f.entered = [] → (doReturn e (T.setTop f) acts (some (.int z))).1 = T.setFrames fs) : Steps p.tables e below (T.setTop (mkF m pc Ls (.int z :: rest))) (T.setFrames fs) := by
  have hm' : T.vm.method? m = some meth := X.method'
  have hn : narrow .int (.int z) = .int z := rfl
  show Steps p.tables e below (T.setTop { method := m, pc := pc, locals := Ls, stack := _ :: rest, locked := none }) _
  jvm_step X.here [X.here.top, hx, hd, hm', hret, hn]
  first | (intro acts; rw [hl _ acts rfl rfl rfl]) | rw [hl _ _ rfl rfl rfl]
  exact Steps.refl _
end New
end Jvm.RoadKit
namespace Jvm.Pilot.@@N@@
open Jvm Jvm.ClassFile Sem Op Lib Jvm.Free Jvm.Stand Jvm.LawKit Jvm.RoadKit Bundle Jvm.Pilot.@@N@@.Jvm.D
/-- the run comes from A to some end of which R holds -/
def Goes (tb : Tables) (e : Env) (below : List Frame) (A : State) (R : State → Outcome → Prop) : Prop := ∃ t o, Steps tb e below A t ∧ R t o
theorem Goes.to {tb : Tables} {e : Env} {below : List Frame} {A B : State} {R : State → Outcome → Prop} (k : ∀ t, Steps tb e below A t → Steps tb e below B t) (h : Goes tb e below A R) : Goes tb e below B R := by
  obtain ⟨t, o, h1, h2⟩ := h
  exact ⟨t, o, k t h1, h2⟩
/-- how a body ends: it has returned, of value and heap Q holds, and no more than that many cells and slots are new -/
def own_R (below : List Frame) (s : State) (Q : Option Value → Heap → List Loc → Prop) (k n : Nat) : State → Outcome → Prop := fun s₂ o => s₂.status = .running ∧ Ended s₂ below o ∧ ∃ v L, o = .returned v ∧ Q v s₂.heap L ∧ FrameEnd s o s₂ L k n
theorem Goes.tr {tb : Tables} {e : Env} {below : List Frame} {A B : State} {R : State → Outcome → Prop} (k : Steps tb e below B A) (h : Goes tb e below A R) : Goes tb e below B R := Goes.to (fun _ z => k.trans z) h


theorem own_eqv {args : Array Value} {first s : State} {o : Option Outcome} {idx : List Nat} {t : Term} {k : Int32} (h : (Jvm.Cond.eq t (.int k)).value args first o s idx = some true) : t.eval args first o idx s = some (.int k) := by
  obtain ⟨x, y, h1, h2, k1, k2⟩ := cmp_v (Or.inl h)
  cases (Option.some.inj (h2.symm.trans (Term.int_eval k)))
  obtain ⟨z, rfl⟩ := k2
  have e : z = k := by
    have q := h
    simp [Jvm.Cond.value, h1, h2] at q
    exact q
  rw [h1, e]


def own_df (o : Int32) (a b : Addr) : Addr := if o = (1 : Int32) ∨ o = (4 : Int32) ∨ o = (5 : Int32) then a else b
theorem own_len {args : Array Value} {s : State} {t : Term} {a : Addr} {c : Cell} {k : Int32} (ev : t.eval args s none [] s = some (.ref a)) (ha : s.arrayAt? a = some c) (h : (Jvm.Term.length t).eval args s none [] s = some (.int k)) : c.slots.size < 2 ^ 31 ∧ c.slots.size.toInt32 = k := by
  have q : c.slots.size < 2 ^ 31 := by
    by_cases q : c.slots.size < 2 ^ 31
    · exact q
    · simp [Jvm.Term.eval, ev, ha, q] at h
  exact ⟨q, Value.int.inj (Option.some.inj ((len_f ev ha q).symm.trans h))⟩

theorem d1_0 : decode prog_47_method_5_code 0 = .ok (.aload_n 0, 1) := by decide +kernel
theorem d1_1 : decode prog_47_method_5_code 1 = .ok (.getstatic 10, 3) := by decide +kernel
theorem d1_4 : decode prog_47_method_5_code 4 = .ok (.if_acmp .eq 10, 3) := by decide +kernel
theorem d1_7 : decode prog_47_method_5_code 7 = .ok (.aload_n 0, 1) := by decide +kernel
theorem d1_8 : decode prog_47_method_5_code 8 = .ok (.getstatic 25, 3) := by decide +kernel
theorem d1_11 : decode prog_47_method_5_code 11 = .ok (.if_acmp .ne 7, 3) := by decide +kernel
theorem d1_14 : decode prog_47_method_5_code 14 = .ok (.iconst 1, 1) := by decide +kernel
theorem d1_15 : decode prog_47_method_5_code 15 = .ok (.goto 4, 3) := by decide +kernel
theorem d1_18 : decode prog_47_method_5_code 18 = .ok (.iconst 0, 1) := by decide +kernel
theorem d1_19 : decode prog_47_method_5_code 19 = .ok (.ireturn, 1) := by decide +kernel
theorem own_pn_1 : plainName "com/example/unipar/unipar/Style" = true := by first | (simp [plainName, overriddenIn]; done) | decide +kernel
theorem own_ef_own_rm1 (m : MethodId) (x0 : Addr) : entryFrame m #[(.ref x0)] 1 = mkF m 0 #[.val (.ref x0)] [] := by first | (simp [entryFrame, mkF, argsToLocals, Value.category]; done) | rfl
def own_Q_own_rm1 (Z : State) (x0 : Addr) (aC : Addr) (aF : Addr) (h0 : Heap) (n0 : Nat) (v : Option Value) (h : Heap) (L : List Loc) : Prop := v = some (.int (if x0 = aC ∨ x0 = aF then (1 : Int32) else (0 : Int32))) ∧ Fr n0 L ∧ h = h0

set_option maxRecDepth 65536 in
set_option maxHeartbeats 40000000 in
theorem own_rm1 (l : Launch) (Z : State) (a0 : Array Value) (hw : ∀ d ∈ tables_1, d.before a0 Z = true) (ws : List Jvm.Cond) (x0 : Addr) (aC : Addr) (aF : Addr) (h0 : Heap) (n0 : Nat) (Z0 : n0 ≤ h0.size) (SC : Sta Z h0 "com/example/unipar/unipar/Style" "FORM" "Lcom/example/unipar/unipar/Style;" (.ref aC)) (SF : Sta Z h0 "com/example/unipar/unipar/Style" "COOKIE" "Lcom/example/unipar/unipar/Style;" (.ref aF)) :
    MetFree l (⟨"com/example/unipar/unipar/Style", "explodesByDefault", "()Z"⟩ : MethodName) (head1 (Jvm.Cond.code (⟨"com/example/unipar/unipar/Style", "explodesByDefault", "()Z"⟩ : MethodName) prog_47_method_5_code 1 (some .boolean) :: ws) ({ frames := 0, cells := 0, slots := 0, locals := 0 } : Room)) (fun a U => a = #[(.ref x0)] ∧ Z.Warmed39 U.vm ∧ U.heap = h0) (fun _ _ _ _ _ => True) (fun _ U o U' => ∃ v L, o = .returned v ∧ own_Q_own_rm1 Z x0 aC aF h0 n0 v U'.heap L ∧ FrameEnd U o U' L ({ frames := 0, cells := 0, slots := 0, locals := 0 } : Room).cells ({ frames := 0, cells := 0, slots := 0, locals := 0 } : Room).slots) := by
  refine MetFree.of_bodySF (plainFor_of_name own_pn_1) hisR ?_
  intro p e s m args below meth c s₁ Bd hml0 hP hK
  obtain ⟨rfl, hZ, hh⟩ := hP
  have hx := Bd.exec
  have hby := Bd.bytes
  have hml : c.maxLocals = 1 := hml0
  have hown : s.vm.findClass "com/example/unipar/unipar/Style" = some m.cls := findClass_of_methodNamed Bd.named
  have hnm := (name_of_methodNamed Bd.named Bd.method).1
  have X0 : Stand p l e ({ frames := 0, cells := 0, slots := 0, locals := 0 } : Room) s m #[(.ref x0)] below meth c s₁ [] 0 0 := Stand.of_body Bd
  have e0 : s₁.heap = h0 := by rw [← hh, Bd.state]; rfl
  have N0 := Fr.nil n0
  show Goes p.tables e below _ (own_R below s (own_Q_own_rm1 Z x0 aC aF h0 n0) ({ frames := 0, cells := 0, slots := 0, locals := 0 } : Room).cells ({ frames := 0, cells := 0, slots := 0, locals := 0 } : Room).slots)
  refine Goes.to (fun t k => castTop (own_ef_own_rm1 m x0) k) ?_
  show Goes p.tables e below (s₁.setTop (mkF m 0 #[.val (.ref x0)] [])) _
  refine Goes.to (fun _ k => XS.aloadN X0.here hx rfl (hb hby d1_0) rfl rfl k) ?_
  show Goes p.tables e below (s₁.setTop (mkF m 1 #[.val (.ref x0)] [(.ref x0)])) _
  obtain ⟨T1, X1, e1, st1⟩ := getS2 X0 hx hZ hown (host := "") (Or.inl (hw _ (List.mem_of_getElem? (i := 45) rfl))) Via.refl e0 SC (g := (mkF m 1 #[.val (.ref x0)] [(.ref x0)])) rfl (hb hby d1_1)
  refine Goes.to st1 ?_
  show Goes p.tables e below (T1.setTop (mkF m 4 #[.val (.ref x0)] [(.ref aC), (.ref x0)])) _
  by_cases hc2 : x0 = aC
  · refine Goes.to (fun _ k => Jvm.RoadKit.acmp (g := (mkF m 4 #[.val (.ref x0)] [(.ref aC), (.ref x0)])) X1 hx rfl rfl rfl (pc0 := 4) (pc' := 14) (same := true) rfl (hb hby d1_4) rfl (decide_eq_true (congrArg Value.ref hc2)) (by decide) (by decide) k) ?_
    show Goes p.tables e below (T1.setTop (mkF m 14 #[.val (.ref x0)] [])) _
    refine Goes.to (fun _ k => XS.iconst X1.here hx rfl (hb hby d1_14) k) ?_
    show Goes p.tables e below (T1.setTop (mkF m 15 #[.val (.ref x0)] [(.int (1 : Int32))])) _
    refine Goes.to (fun _ k => XS.goto X1.here hx rfl (pc0 := 15) (pc' := 19) rfl (hb hby d1_15) (by decide) (by decide) k) ?_
    show Goes p.tables e below (T1.setTop (mkF m 19 #[.val (.ref x0)] [(.int (1 : Int32))])) _
    obtain ⟨fs, hr, hrun, hended, hW, hsame⟩ := X1.leave (v := some (.int (1 : Int32))) (fun h => by rw [Bd.returns] at h; cases h)
    have hv : (some (.int (1 : Int32)) : Option Value) = some (.int (if x0 = aC ∨ x0 = aF then (1 : Int32) else (0 : Int32))) := by
      rw [if_pos (Or.inl hc2)]
    exact ⟨_, _, retN X1 hx (t := .boolean) Bd.returns (by simp) (hb hby d1_19) hr, hrun, hended, _, _, rfl, ⟨hv, N0, e1⟩, ⟨_, rfl⟩, hW, hsame.mono (by decide) (by decide)⟩
  · refine Goes.to (fun _ k => Jvm.RoadKit.acmp (g := (mkF m 4 #[.val (.ref x0)] [(.ref aC), (.ref x0)])) X1 hx rfl rfl rfl (pc0 := 4) (pc' := 7) (same := false) rfl (hb hby d1_4) rfl (decide_eq_false fun q => hc2 (Value.ref.inj q)) (by decide) (by decide) k) ?_
    show Goes p.tables e below (T1.setTop (mkF m 7 #[.val (.ref x0)] [])) _
    refine Goes.to (fun _ k => XS.aloadN X1.here hx rfl (hb hby d1_7) rfl rfl k) ?_
    show Goes p.tables e below (T1.setTop (mkF m 8 #[.val (.ref x0)] [(.ref x0)])) _
    obtain ⟨T3, X3, e3, st3⟩ := getS2 X1 hx hZ hown (host := "") (Or.inl (hw _ (List.mem_of_getElem? (i := 46) rfl))) Via.refl e1 SF (g := (mkF m 8 #[.val (.ref x0)] [(.ref x0)])) rfl (hb hby d1_8)
    refine Goes.to st3 ?_
    show Goes p.tables e below (T3.setTop (mkF m 11 #[.val (.ref x0)] [(.ref aF), (.ref x0)])) _
    by_cases hc4 : x0 = aF
    · refine Goes.to (fun _ k => Jvm.RoadKit.acmp (g := (mkF m 11 #[.val (.ref x0)] [(.ref aF), (.ref x0)])) X3 hx rfl rfl rfl (pc0 := 11) (pc' := 14) (same := true) rfl (hb hby d1_11) rfl (decide_eq_true (congrArg Value.ref hc4)) (by decide) (by decide) k) ?_
      show Goes p.tables e below (T3.setTop (mkF m 14 #[.val (.ref x0)] [])) _
      refine Goes.to (fun _ k => XS.iconst X3.here hx rfl (hb hby d1_14) k) ?_
      show Goes p.tables e below (T3.setTop (mkF m 15 #[.val (.ref x0)] [(.int (1 : Int32))])) _
      refine Goes.to (fun _ k => XS.goto X3.here hx rfl (pc0 := 15) (pc' := 19) rfl (hb hby d1_15) (by decide) (by decide) k) ?_
      show Goes p.tables e below (T3.setTop (mkF m 19 #[.val (.ref x0)] [(.int (1 : Int32))])) _
      obtain ⟨fs, hr, hrun, hended, hW, hsame⟩ := X3.leave (v := some (.int (1 : Int32))) (fun h => by rw [Bd.returns] at h; cases h)
      have hv : (some (.int (1 : Int32)) : Option Value) = some (.int (if x0 = aC ∨ x0 = aF then (1 : Int32) else (0 : Int32))) := by
        rw [if_pos (Or.inr hc4)]
      exact ⟨_, _, retN X3 hx (t := .boolean) Bd.returns (by simp) (hb hby d1_19) hr, hrun, hended, _, _, rfl, ⟨hv, N0, e3⟩, ⟨_, rfl⟩, hW, hsame.mono (by decide) (by decide)⟩
    · refine Goes.to (fun _ k => Jvm.RoadKit.acmp (g := (mkF m 11 #[.val (.ref x0)] [(.ref aF), (.ref x0)])) X3 hx rfl rfl rfl (pc0 := 11) (pc' := 18) (same := false) rfl (hb hby d1_11) rfl (decide_eq_false fun q => hc4 (Value.ref.inj q)) (by decide) (by decide) k) ?_
      show Goes p.tables e below (T3.setTop (mkF m 18 #[.val (.ref x0)] [])) _
      refine Goes.to (fun _ k => XS.iconst X3.here hx rfl (hb hby d1_18) k) ?_
      show Goes p.tables e below (T3.setTop (mkF m 19 #[.val (.ref x0)] [(.int (0 : Int32))])) _
      obtain ⟨fs, hr, hrun, hended, hW, hsame⟩ := X3.leave (v := some (.int (0 : Int32))) (fun h => by rw [Bd.returns] at h; cases h)
      have hv : (some (.int (0 : Int32)) : Option Value) = some (.int (if x0 = aC ∨ x0 = aF then (1 : Int32) else (0 : Int32))) := by
        rw [if_neg (fun q => q.elim hc2 hc4)]
      exact ⟨_, _, retN X3 hx (t := .boolean) Bd.returns (by simp) (hb hby d1_19) hr, hrun, hended, _, _, rfl, ⟨hv, N0, e3⟩, ⟨_, rfl⟩, hW, hsame.mono (by decide) (by decide)⟩

theorem d3_0 : decode jdk_37_method_2_code 0 = .ok (.aload_n 0, 1) := by decide +kernel
theorem d3_1 : decode jdk_37_method_2_code 1 = .ok (.getfield 7, 3) := by decide +kernel
theorem d3_4 : decode jdk_37_method_2_code 4 = .ok (.ireturn, 1) := by decide +kernel
theorem own_pn_3 : plainName "java/lang/Enum" = true := by first | (simp [plainName, overriddenIn]; done) | decide +kernel
theorem own_ef_own_rm3 (m : MethodId) (x0 : Addr) : entryFrame m #[(.ref x0)] 1 = mkF m 0 #[.val (.ref x0)] [] := by first | (simp [entryFrame, mkF, argsToLocals, Value.category]; done) | rfl
def own_Q_own_rm3 (Z : State) (x0 : Addr) (w : Int32) (h0 : Heap) (n0 : Nat) (v : Option Value) (h : Heap) (L : List Loc) : Prop := v = some (.int w) ∧ Fr n0 L ∧ h = h0

set_option maxRecDepth 65536 in
set_option maxHeartbeats 40000000 in
theorem own_rm3 (l : Launch) (Z : State) (a0 : Array Value) (hw : ∀ d ∈ tables_1, d.before a0 Z = true) (ws : List Jvm.Cond) (x0 : Addr) (w : Int32) (h0 : Heap) (n0 : Nat) (Z0 : n0 ≤ h0.size) (Fw : Fld Z h0 x0 "java/lang/Enum" "ordinal" "I" (.int w)) :
    MetFree l (⟨"java/lang/Enum", "ordinal", "()I"⟩ : MethodName) (head1 (Jvm.Cond.code (⟨"java/lang/Enum", "ordinal", "()I"⟩ : MethodName) jdk_37_method_2_code 1 (some .int) :: ws) ({ frames := 0, cells := 0, slots := 0, locals := 0 } : Room)) (fun a U => a = #[(.ref x0)] ∧ Z.Warmed39 U.vm ∧ U.heap = h0) (fun _ _ _ _ _ => True) (fun _ U o U' => ∃ v L, o = .returned v ∧ own_Q_own_rm3 Z x0 w h0 n0 v U'.heap L ∧ FrameEnd U o U' L ({ frames := 0, cells := 0, slots := 0, locals := 0 } : Room).cells ({ frames := 0, cells := 0, slots := 0, locals := 0 } : Room).slots) := by
  refine MetFree.of_bodySF (plainFor_of_name own_pn_3) hisR ?_
  intro p e s m args below meth c s₁ Bd hml0 hP hK
  obtain ⟨rfl, hZ, hh⟩ := hP
  have hx := Bd.exec
  have hby := Bd.bytes
  have hml : c.maxLocals = 1 := hml0
  have hown : s.vm.findClass "java/lang/Enum" = some m.cls := findClass_of_methodNamed Bd.named
  have hnm := (name_of_methodNamed Bd.named Bd.method).1
  have X0 : Stand p l e ({ frames := 0, cells := 0, slots := 0, locals := 0 } : Room) s m #[(.ref x0)] below meth c s₁ [] 0 0 := Stand.of_body Bd
  have e0 : s₁.heap = h0 := by rw [← hh, Bd.state]; rfl
  have N0 := Fr.nil n0
  show Goes p.tables e below _ (own_R below s (own_Q_own_rm3 Z x0 w h0 n0) ({ frames := 0, cells := 0, slots := 0, locals := 0 } : Room).cells ({ frames := 0, cells := 0, slots := 0, locals := 0 } : Room).slots)
  refine Goes.to (fun t k => castTop (own_ef_own_rm3 m x0) k) ?_
  show Goes p.tables e below (s₁.setTop (mkF m 0 #[.val (.ref x0)] [])) _
  refine Goes.to (fun _ k => XS.aloadN X0.here hx rfl (hb hby d3_0) rfl rfl k) ?_
  show Goes p.tables e below (s₁.setTop (mkF m 1 #[.val (.ref x0)] [(.ref x0)])) _
  obtain ⟨T1, X1, e1, st1⟩ := getF X0 hx hZ hown (host := "") (Or.inl (hw _ (List.mem_of_getElem? (i := 60) rfl))) Via.refl e0 Fw (g := (mkF m 1 #[.val (.ref x0)] [(.ref x0)])) rfl rfl (hb hby d3_1)
  refine Goes.to st1 ?_
  show Goes p.tables e below (T1.setTop (mkF m 4 #[.val (.ref x0)] [(.int w)])) _
  obtain ⟨fs, hr, hrun, hended, hW, hsame⟩ := X1.leave (v := some (.int w)) (fun h => by rw [Bd.returns] at h; cases h)
  have hv : (some (.int w) : Option Value) = some (.int w) := by
    rfl
  exact ⟨_, _, retI X1 hx Bd.returns (hb hby d3_4) hr, hrun, hended, _, _, rfl, ⟨hv, N0, e1⟩, ⟨_, rfl⟩, hW, hsame.mono (by decide) (by decide)⟩

theorem d2_0 : decode prog_47_method_4_code 0 = .ok (.getstatic 50, 3) := by decide +kernel
theorem d2_3 : decode prog_47_method_4_code 3 = .ok (.aload_n 0, 1) := by decide +kernel
theorem d2_4 : decode prog_47_method_4_code 4 = .ok (.invokevirtual 56, 3) := by decide +kernel
theorem d2_7 : decode prog_47_method_4_code 7 = .ok (.iaload, 1) := by decide +kernel
theorem d2_8 : decode prog_47_method_4_code 8 = .ok (.tableswitch 40 1 6 #[50, 50, 50, 56, 56, 56], 40) := by decide +kernel
theorem d2_58 : decode prog_47_method_4_code 58 = .ok (.getstatic 10, 3) := by decide +kernel
theorem d2_61 : decode prog_47_method_4_code 61 = .ok (.goto 6, 3) := by decide +kernel
theorem d2_64 : decode prog_47_method_4_code 64 = .ok (.getstatic 13, 3) := by decide +kernel
theorem d2_67 : decode prog_47_method_4_code 67 = .ok (.areturn, 1) := by decide +kernel
theorem own_pd_pqI : parseMethodDescriptor "()I" = some ⟨[], some .int⟩ := by decide +kernel
theorem own_pn_2 : plainName "com/example/unipar/unipar/Style" = true := by first | (simp [plainName, overriddenIn]; done) | decide +kernel
theorem own_ef_own_rm2 (m : MethodId) (x0 : Addr) : entryFrame m #[(.ref x0)] 1 = mkF m 0 #[.val (.ref x0)] [] := by first | (simp [entryFrame, mkF, argsToLocals, Value.category]; done) | rfl
def own_Q_own_rm2 (Z : State) (x0 : Addr) (od : Int32) (aF : Addr) (aS : Addr) (aM : Addr) (kM : ClassId) (h0 : Heap) (n0 : Nat) (v : Option Value) (h : Heap) (L : List Loc) : Prop := v = some (.ref (own_df od aF aS)) ∧ Fr n0 L ∧ h = h0

set_option maxRecDepth 65536 in
set_option maxHeartbeats 40000000 in
theorem own_rm2 (l : Launch) (Z : State) (a0 : Array Value) (hw : ∀ d ∈ tables_1, d.before a0 Z = true) (ws : List Jvm.Cond) (x0 : Addr) (od : Int32) (aF : Addr) (aS : Addr) (aM : Addr) (kM : ClassId) (h0 : Heap) (n0 : Nat) (Z0 : n0 ≤ h0.size) (Ex : Exa Z h0 x0 "com/example/unipar/unipar/Location") (Fo : Fld Z h0 x0 "java/lang/Enum" "ordinal" "I" (.int od)) (SF : Sta Z h0 "com/example/unipar/unipar/Style" "FORM" "Lcom/example/unipar/unipar/Style;" (.ref aF)) (SS : Sta Z h0 "com/example/unipar/unipar/Style" "SIMPLE" "Lcom/example/unipar/unipar/Style;" (.ref aS)) (SM : Sta Z h0 "com/example/unipar/unipar/Style$1" "$SwitchMap$com$example$unipar$unipar$Location" "[I" (.ref aM)) (VM : Arv Z h0 aM kM .int (6 : Int32) [(.int (4 : Int32)), (.int (1 : Int32)), (.int (6 : Int32)), (.int (5 : Int32)), (.int (2 : Int32)), (.int (3 : Int32))] (.int (0 : Int32))) (ho0 : ¬ (od < (0 : Int32))) (ho1 : od < (6 : Int32)) :
    MetFree l (⟨"com/example/unipar/unipar/Style", "defaultFor", "(Lcom/example/unipar/unipar/Location;)Lcom/example/unipar/unipar/Style;"⟩ : MethodName) (head1 (Jvm.Cond.code (⟨"com/example/unipar/unipar/Style", "defaultFor", "(Lcom/example/unipar/unipar/Location;)Lcom/example/unipar/unipar/Style;"⟩ : MethodName) prog_47_method_4_code 1 (some (.object "com/example/unipar/unipar/Style")) :: ws) ({ frames := 1, cells := 0, slots := 0, locals := 13 } : Room)) (fun a U => a = #[(.ref x0)] ∧ Z.Warmed39 U.vm ∧ U.heap = h0) (fun _ _ _ _ _ => True) (fun _ U o U' => ∃ v L, o = .returned v ∧ own_Q_own_rm2 Z x0 od aF aS aM kM h0 n0 v U'.heap L ∧ FrameEnd U o U' L ({ frames := 1, cells := 0, slots := 0, locals := 13 } : Room).cells ({ frames := 1, cells := 0, slots := 0, locals := 13 } : Room).slots) := by
  refine MetFree.of_bodySF (plainFor_of_name own_pn_2) hisR ?_
  intro p e s m args below meth c s₁ Bd hml0 hP hK
  obtain ⟨rfl, hZ, hh⟩ := hP
  have hx := Bd.exec
  have hby := Bd.bytes
  have hml : c.maxLocals = 1 := hml0
  have hown : s.vm.findClass "com/example/unipar/unipar/Style" = some m.cls := findClass_of_methodNamed Bd.named
  have hnm := (name_of_methodNamed Bd.named Bd.method).1
  have X0 : Stand p l e ({ frames := 1, cells := 0, slots := 0, locals := 13 } : Room) s m #[(.ref x0)] below meth c s₁ [] 0 0 := Stand.of_body Bd
  have e0 : s₁.heap = h0 := by rw [← hh, Bd.state]; rfl
  have N0 := Fr.nil n0
  show Goes p.tables e below _ (own_R below s (own_Q_own_rm2 Z x0 od aF aS aM kM h0 n0) ({ frames := 1, cells := 0, slots := 0, locals := 13 } : Room).cells ({ frames := 1, cells := 0, slots := 0, locals := 13 } : Room).slots)
  refine Goes.to (fun t k => castTop (own_ef_own_rm2 m x0) k) ?_
  show Goes p.tables e below (s₁.setTop (mkF m 0 #[.val (.ref x0)] [])) _
  obtain ⟨T1, X1, e1, st1⟩ := getS2 X0 hx hZ hown (host := "") (Or.inl (hw _ (List.mem_of_getElem? (i := 50) rfl))) Via.refl e0 SM (g := (mkF m 0 #[.val (.ref x0)] [])) rfl (hb hby d2_0)
  refine Goes.to st1 ?_
  show Goes p.tables e below (T1.setTop (mkF m 3 #[.val (.ref x0)] [(.ref aM)])) _
  refine Goes.to (fun _ k => XS.aloadN X1.here hx rfl (hb hby d2_3) rfl rfl k) ?_
  show Goes p.tables e below (T1.setTop (mkF m 4 #[.val (.ref x0)] [(.ref x0), (.ref aM)])) _
  obtain ⟨cq2, kq2, q2a, q2b, q2c⟩ := isOf hZ e1 Ex
  obtain ⟨_, _, ⟨T2, L2, k2, n2⟩, -, X2, ⟨Lc2, hQ2, l2, y2, z2⟩, st2⟩ := X1.virtualBackUp hx (x := (⟨"com/example/unipar/unipar/Location", "ordinal", "()I"⟩ : MethodName)) (y := (⟨"java/lang/Enum", "ordinal", "()I"⟩ : MethodName)) (owner := "java/lang/Enum") hown (mvT hZ (hw _ (List.mem_of_getElem? (i := 53) rfl))) (mvT hZ (hw _ (List.mem_of_getElem? (i := 54) rfl))) (mvT hZ (hw _ (List.mem_of_getElem? (i := 55) rfl))) (by decide) (mvT hZ (hw _ (List.mem_of_getElem? (i := 57) rfl))) (mvT hZ (hw _ (List.mem_of_getElem? (i := 56) rfl))) (backOf (W := 1) (own_rm3 l Z a0 hw [] x0 od h0 n0 Z0 Fo) hZ (hw _ (List.mem_of_getElem? (i := 59) rfl)) (hw _ (List.mem_of_getElem? (i := 58) rfl)) (by decide) (by decide)) q2a q2c (g := (mkF m 4 #[.val (.ref x0)] [(.ref x0), (.ref aM)])) rfl (by rw [hml]; rfl) (Steps.refl _) (argsL := []) (rest := [(.ref aM)]) (lenOf own_pd_pqI rfl) rfl (by show 2 * 0 + _ ≤ _; exact Nat.le_of_eq rfl) (hb hby d2_4) (fun _ _ => ⟨rfl, e1, (by decide : 0 + 0 ≤ _), (by decide : 0 + 0 ≤ _)⟩)
  dsimp only [Pt.U, Pt.locs, Pt.cells, Pt.slots] at X2 l2 y2 z2 st2 hQ2
  subst l2 y2 z2
  obtain ⟨hv2, Nq2, hp2_0⟩ := hQ2
  have N2 := Fr.app N0 Nq2
  subst hv2
  refine Goes.tr st2 ?_
  show Goes p.tables e below (T2.setTop (mkF m 7 #[.val (.ref x0)] [(.int od), (.ref aM)])) _
  obtain ⟨cl3, Ar3, q3, S3, N3, H3, G3⟩ := id VM
  have hin3 : ¬ (od < 0 ∨ cl3.slots.size ≤ (od).toNatClampNeg) := by
    have k1 := rng32 od
    have k2 : (0 : Int32).toInt = 0 := rfl
    have k3 : ¬ od.toInt < (0 : Int32).toInt := fun z => ho0 (Int32.lt_iff_toInt_lt.mpr z)
    have k4 : (6 : Int32).toInt = 6 := rfl
    have k5 : od.toInt < (6 : Int32).toInt := Int32.lt_iff_toInt_lt.mp ho1
    refine inb_of S3 ⟨fun hq => ?_, Int32.lt_iff_toInt_lt.mpr ?_⟩
    · have hq' := Int32.lt_iff_toInt_lt.mp hq
      omega
    · omega
  by_cases hc4 : od = (0 : Int32)
  · have hat3 : cl3.slots[(od).toNatClampNeg]? = some (.int (4 : Int32)) := Has.at H3 hin3 (by rw [hc4]; rfl)
    refine Goes.to (fun _ k => X2.iaload hx (j := od) (v := (.int (4 : Int32))) (by rw [hp2_0]; exact Ar3.1) (State.isArrayOf_alike hZ.alike Ar3.2.1) Ar3.2.2 hin3 hat3 (g := (mkF m 7 #[.val (.ref x0)] [(.int od), (.ref aM)])) rfl rfl (hb hby d2_7) _ k) ?_
    show Goes p.tables e below (T2.setTop (mkF m 8 #[.val (.ref x0)] [(.int (4 : Int32))])) _
    refine Goes.to (fun _ k => XS.tswIn X2.here hx rfl (o := 56) (pc0 := 8) (pc' := 64) rfl (hb hby d2_8) rfl (by decide) rfl (by decide) (by decide) k) ?_
    show Goes p.tables e below (T2.setTop (mkF m 64 #[.val (.ref x0)] [])) _
    obtain ⟨T5, X5, e5, st5⟩ := getS2 X2 hx hZ hown (host := "") (Or.inl (hw _ (List.mem_of_getElem? (i := 62) rfl))) Via.refl hp2_0 SS (g := (mkF m 64 #[.val (.ref x0)] [])) rfl (hb hby d2_64)
    refine Goes.to st5 ?_
    show Goes p.tables e below (T5.setTop (mkF m 67 #[.val (.ref x0)] [(.ref aS)])) _
    obtain ⟨fs, hr, hrun, hended, hW, hsame⟩ := X5.leave (v := some (.ref aS)) (fun h => by rw [Bd.returns] at h; cases h)
    have hv : (some (.ref aS) : Option Value) = some (.ref (own_df od aF aS)) := by
      unfold own_df
      rw [if_neg (by rw [hc4]; decide)]
    exact ⟨_, _, retOut X5 hx Bd.returns rfl (Or.inr (Or.inr (Or.inr (Or.inr ⟨rfl, rfl, rfl⟩)))) (hb hby d2_67) hr, hrun, hended, _, _, rfl, ⟨hv, N2, e5⟩, ⟨_, rfl⟩, hW, hsame.mono (by decide) (by decide)⟩
  · by_cases hc6 : od = (1 : Int32)
    · have hat3 : cl3.slots[(od).toNatClampNeg]? = some (.int (1 : Int32)) := Has.at H3 hin3 (by rw [hc6]; rfl)
      refine Goes.to (fun _ k => X2.iaload hx (j := od) (v := (.int (1 : Int32))) (by rw [hp2_0]; exact Ar3.1) (State.isArrayOf_alike hZ.alike Ar3.2.1) Ar3.2.2 hin3 hat3 (g := (mkF m 7 #[.val (.ref x0)] [(.int od), (.ref aM)])) rfl rfl (hb hby d2_7) _ k) ?_
      show Goes p.tables e below (T2.setTop (mkF m 8 #[.val (.ref x0)] [(.int (1 : Int32))])) _
      refine Goes.to (fun _ k => XS.tswIn X2.here hx rfl (o := 50) (pc0 := 8) (pc' := 58) rfl (hb hby d2_8) rfl (by decide) rfl (by decide) (by decide) k) ?_
      show Goes p.tables e below (T2.setTop (mkF m 58 #[.val (.ref x0)] [])) _
      obtain ⟨T7, X7, e7, st7⟩ := getS2 X2 hx hZ hown (host := "") (Or.inl (hw _ (List.mem_of_getElem? (i := 45) rfl))) Via.refl hp2_0 SF (g := (mkF m 58 #[.val (.ref x0)] [])) rfl (hb hby d2_58)
      refine Goes.to st7 ?_
      show Goes p.tables e below (T7.setTop (mkF m 61 #[.val (.ref x0)] [(.ref aF)])) _
      refine Goes.to (fun _ k => XS.goto X7.here hx rfl (pc0 := 61) (pc' := 67) rfl (hb hby d2_61) (by decide) (by decide) k) ?_
      show Goes p.tables e below (T7.setTop (mkF m 67 #[.val (.ref x0)] [(.ref aF)])) _
      obtain ⟨fs, hr, hrun, hended, hW, hsame⟩ := X7.leave (v := some (.ref aF)) (fun h => by rw [Bd.returns] at h; cases h)
      have hv : (some (.ref aF) : Option Value) = some (.ref (own_df od aF aS)) := by
        unfold own_df
        rw [if_pos (by rw [hc6]; decide)]
      exact ⟨_, _, retOut X7 hx Bd.returns rfl (Or.inr (Or.inr (Or.inr (Or.inr ⟨rfl, rfl, rfl⟩)))) (hb hby d2_67) hr, hrun, hended, _, _, rfl, ⟨hv, N2, e7⟩, ⟨_, rfl⟩, hW, hsame.mono (by decide) (by decide)⟩
    · by_cases hc8 : od = (2 : Int32)
      · have hat3 : cl3.slots[(od).toNatClampNeg]? = some (.int (6 : Int32)) := Has.at H3 hin3 (by rw [hc8]; rfl)
        refine Goes.to (fun _ k => X2.iaload hx (j := od) (v := (.int (6 : Int32))) (by rw [hp2_0]; exact Ar3.1) (State.isArrayOf_alike hZ.alike Ar3.2.1) Ar3.2.2 hin3 hat3 (g := (mkF m 7 #[.val (.ref x0)] [(.int od), (.ref aM)])) rfl rfl (hb hby d2_7) _ k) ?_
        show Goes p.tables e below (T2.setTop (mkF m 8 #[.val (.ref x0)] [(.int (6 : Int32))])) _
        refine Goes.to (fun _ k => XS.tswIn X2.here hx rfl (o := 56) (pc0 := 8) (pc' := 64) rfl (hb hby d2_8) rfl (by decide) rfl (by decide) (by decide) k) ?_
        show Goes p.tables e below (T2.setTop (mkF m 64 #[.val (.ref x0)] [])) _
        obtain ⟨T9, X9, e9, st9⟩ := getS2 X2 hx hZ hown (host := "") (Or.inl (hw _ (List.mem_of_getElem? (i := 62) rfl))) Via.refl hp2_0 SS (g := (mkF m 64 #[.val (.ref x0)] [])) rfl (hb hby d2_64)
        refine Goes.to st9 ?_
        show Goes p.tables e below (T9.setTop (mkF m 67 #[.val (.ref x0)] [(.ref aS)])) _
        obtain ⟨fs, hr, hrun, hended, hW, hsame⟩ := X9.leave (v := some (.ref aS)) (fun h => by rw [Bd.returns] at h; cases h)
        have hv : (some (.ref aS) : Option Value) = some (.ref (own_df od aF aS)) := by
          unfold own_df
          rw [if_neg (by rw [hc8]; decide)]
        exact ⟨_, _, retOut X9 hx Bd.returns rfl (Or.inr (Or.inr (Or.inr (Or.inr ⟨rfl, rfl, rfl⟩)))) (hb hby d2_67) hr, hrun, hended, _, _, rfl, ⟨hv, N2, e9⟩, ⟨_, rfl⟩, hW, hsame.mono (by decide) (by decide)⟩
      · by_cases hc10 : od = (3 : Int32)
        · have hat3 : cl3.slots[(od).toNatClampNeg]? = some (.int (5 : Int32)) := Has.at H3 hin3 (by rw [hc10]; rfl)
          refine Goes.to (fun _ k => X2.iaload hx (j := od) (v := (.int (5 : Int32))) (by rw [hp2_0]; exact Ar3.1) (State.isArrayOf_alike hZ.alike Ar3.2.1) Ar3.2.2 hin3 hat3 (g := (mkF m 7 #[.val (.ref x0)] [(.int od), (.ref aM)])) rfl rfl (hb hby d2_7) _ k) ?_
          show Goes p.tables e below (T2.setTop (mkF m 8 #[.val (.ref x0)] [(.int (5 : Int32))])) _
          refine Goes.to (fun _ k => XS.tswIn X2.here hx rfl (o := 56) (pc0 := 8) (pc' := 64) rfl (hb hby d2_8) rfl (by decide) rfl (by decide) (by decide) k) ?_
          show Goes p.tables e below (T2.setTop (mkF m 64 #[.val (.ref x0)] [])) _
          obtain ⟨T11, X11, e11, st11⟩ := getS2 X2 hx hZ hown (host := "") (Or.inl (hw _ (List.mem_of_getElem? (i := 62) rfl))) Via.refl hp2_0 SS (g := (mkF m 64 #[.val (.ref x0)] [])) rfl (hb hby d2_64)
          refine Goes.to st11 ?_
          show Goes p.tables e below (T11.setTop (mkF m 67 #[.val (.ref x0)] [(.ref aS)])) _
          obtain ⟨fs, hr, hrun, hended, hW, hsame⟩ := X11.leave (v := some (.ref aS)) (fun h => by rw [Bd.returns] at h; cases h)
          have hv : (some (.ref aS) : Option Value) = some (.ref (own_df od aF aS)) := by
            unfold own_df
            rw [if_neg (by rw [hc10]; decide)]
          exact ⟨_, _, retOut X11 hx Bd.returns rfl (Or.inr (Or.inr (Or.inr (Or.inr ⟨rfl, rfl, rfl⟩)))) (hb hby d2_67) hr, hrun, hended, _, _, rfl, ⟨hv, N2, e11⟩, ⟨_, rfl⟩, hW, hsame.mono (by decide) (by decide)⟩
        · by_cases hc12 : od = (4 : Int32)
          · have hat3 : cl3.slots[(od).toNatClampNeg]? = some (.int (2 : Int32)) := Has.at H3 hin3 (by rw [hc12]; rfl)
            refine Goes.to (fun _ k => X2.iaload hx (j := od) (v := (.int (2 : Int32))) (by rw [hp2_0]; exact Ar3.1) (State.isArrayOf_alike hZ.alike Ar3.2.1) Ar3.2.2 hin3 hat3 (g := (mkF m 7 #[.val (.ref x0)] [(.int od), (.ref aM)])) rfl rfl (hb hby d2_7) _ k) ?_
            show Goes p.tables e below (T2.setTop (mkF m 8 #[.val (.ref x0)] [(.int (2 : Int32))])) _
            refine Goes.to (fun _ k => XS.tswIn X2.here hx rfl (o := 50) (pc0 := 8) (pc' := 58) rfl (hb hby d2_8) rfl (by decide) rfl (by decide) (by decide) k) ?_
            show Goes p.tables e below (T2.setTop (mkF m 58 #[.val (.ref x0)] [])) _
            obtain ⟨T13, X13, e13, st13⟩ := getS2 X2 hx hZ hown (host := "") (Or.inl (hw _ (List.mem_of_getElem? (i := 45) rfl))) Via.refl hp2_0 SF (g := (mkF m 58 #[.val (.ref x0)] [])) rfl (hb hby d2_58)
            refine Goes.to st13 ?_
            show Goes p.tables e below (T13.setTop (mkF m 61 #[.val (.ref x0)] [(.ref aF)])) _
            refine Goes.to (fun _ k => XS.goto X13.here hx rfl (pc0 := 61) (pc' := 67) rfl (hb hby d2_61) (by decide) (by decide) k) ?_
            show Goes p.tables e below (T13.setTop (mkF m 67 #[.val (.ref x0)] [(.ref aF)])) _
            obtain ⟨fs, hr, hrun, hended, hW, hsame⟩ := X13.leave (v := some (.ref aF)) (fun h => by rw [Bd.returns] at h; cases h)
            have hv : (some (.ref aF) : Option Value) = some (.ref (own_df od aF aS)) := by
              unfold own_df
              rw [if_pos (by rw [hc12]; decide)]
            exact ⟨_, _, retOut X13 hx Bd.returns rfl (Or.inr (Or.inr (Or.inr (Or.inr ⟨rfl, rfl, rfl⟩)))) (hb hby d2_67) hr, hrun, hended, _, _, rfl, ⟨hv, N2, e13⟩, ⟨_, rfl⟩, hW, hsame.mono (by decide) (by decide)⟩
          · by_cases hc14 : od = (5 : Int32)
            · have hat3 : cl3.slots[(od).toNatClampNeg]? = some (.int (3 : Int32)) := Has.at H3 hin3 (by rw [hc14]; rfl)
              refine Goes.to (fun _ k => X2.iaload hx (j := od) (v := (.int (3 : Int32))) (by rw [hp2_0]; exact Ar3.1) (State.isArrayOf_alike hZ.alike Ar3.2.1) Ar3.2.2 hin3 hat3 (g := (mkF m 7 #[.val (.ref x0)] [(.int od), (.ref aM)])) rfl rfl (hb hby d2_7) _ k) ?_
              show Goes p.tables e below (T2.setTop (mkF m 8 #[.val (.ref x0)] [(.int (3 : Int32))])) _
              refine Goes.to (fun _ k => XS.tswIn X2.here hx rfl (o := 50) (pc0 := 8) (pc' := 58) rfl (hb hby d2_8) rfl (by decide) rfl (by decide) (by decide) k) ?_
              show Goes p.tables e below (T2.setTop (mkF m 58 #[.val (.ref x0)] [])) _
              obtain ⟨T15, X15, e15, st15⟩ := getS2 X2 hx hZ hown (host := "") (Or.inl (hw _ (List.mem_of_getElem? (i := 45) rfl))) Via.refl hp2_0 SF (g := (mkF m 58 #[.val (.ref x0)] [])) rfl (hb hby d2_58)
              refine Goes.to st15 ?_
              show Goes p.tables e below (T15.setTop (mkF m 61 #[.val (.ref x0)] [(.ref aF)])) _
              refine Goes.to (fun _ k => XS.goto X15.here hx rfl (pc0 := 61) (pc' := 67) rfl (hb hby d2_61) (by decide) (by decide) k) ?_
              show Goes p.tables e below (T15.setTop (mkF m 67 #[.val (.ref x0)] [(.ref aF)])) _
              obtain ⟨fs, hr, hrun, hended, hW, hsame⟩ := X15.leave (v := some (.ref aF)) (fun h => by rw [Bd.returns] at h; cases h)
              have hv : (some (.ref aF) : Option Value) = some (.ref (own_df od aF aS)) := by
                unfold own_df
                rw [if_pos (by rw [hc14]; decide)]
              exact ⟨_, _, retOut X15 hx Bd.returns rfl (Or.inr (Or.inr (Or.inr (Or.inr ⟨rfl, rfl, rfl⟩)))) (hb hby d2_67) hr, hrun, hended, _, _, rfl, ⟨hv, N2, e15⟩, ⟨_, rfl⟩, hW, hsame.mono (by decide) (by decide)⟩
            · exfalso
              have k1 := rng32 od
              have k2 : (0 : Int32).toInt = 0 := rfl
              have k3 : ¬ od.toInt < (0 : Int32).toInt := fun z => ho0 (Int32.lt_iff_toInt_lt.mpr z)
              have k4 : (6 : Int32).toInt = 6 := rfl
              have k5 : od.toInt < (6 : Int32).toInt := Int32.lt_iff_toInt_lt.mp ho1
              have k6 : ¬ od.toInt = (0 : Int32).toInt := fun z => hc4 (Int32.toInt_inj.mp z)
              have k7 : (1 : Int32).toInt = 1 := rfl
              have k8 : ¬ od.toInt = (1 : Int32).toInt := fun z => hc6 (Int32.toInt_inj.mp z)
              have k9 : (2 : Int32).toInt = 2 := rfl
              have k10 : ¬ od.toInt = (2 : Int32).toInt := fun z => hc8 (Int32.toInt_inj.mp z)
              have k11 : (3 : Int32).toInt = 3 := rfl
              have k12 : ¬ od.toInt = (3 : Int32).toInt := fun z => hc10 (Int32.toInt_inj.mp z)
              have k13 : (4 : Int32).toInt = 4 := rfl
              have k14 : ¬ od.toInt = (4 : Int32).toInt := fun z => hc12 (Int32.toInt_inj.mp z)
              have k15 : (5 : Int32).toInt = 5 := rfl
              have k16 : ¬ od.toInt = (5 : Int32).toInt := fun z => hc14 (Int32.toInt_inj.mp z)
              omega

theorem own_pd_pqZ : parseMethodDescriptor "()Z" = some ⟨[], some .boolean⟩ := by decide +kernel
theorem own_pd_pLcomlexampleluniparluniparlLocationsqLcomlexampleluniparluniparlStyles : parseMethodDescriptor "(Lcom/example/unipar/unipar/Location;)Lcom/example/unipar/unipar/Style;" = some ⟨[(.object "com/example/unipar/unipar/Location")], some (.object "com/example/unipar/unipar/Style")⟩ := by decide +kernel
theorem own_pn_0 : plainName "com/example/unipar/unipar/StyleExplodesByDefaultPinLaw" = true := by first | (simp [plainName, overriddenIn]; done) | decide +kernel
theorem own_ef_own_rm0 (m : MethodId) (x0 : Int32) (x1 : Int32) : entryFrame m #[(.int x0), (.int x1)] maxLocals = mkF m 0 #[.val (.int x0), .val (.int x1), .unset, .unset, .unset, .unset, .unset, .unset, .unset, .unset] [] := by first | (simp [entryFrame, mkF, argsToLocals, Value.category, maxLocals]; done) | rfl
def own_Q_own_rm0 (Z : State) (x0 : Int32) (x1 : Int32) (a_Style_MATRIX : Addr) (a_Style_LABEL : Addr) (a_Style_FORM : Addr) (a_Style_SIMPLE : Addr) (a_Style_SPACE_DELIMITED : Addr) (a_Style_PIPE_DELIMITED : Addr) (a_Style_DEEP_OBJECT : Addr) (a_Style_COOKIE : Addr) (a_Style_TAB_DELIMITED : Addr) (a_Location_PATH : Addr) (a_Location_QUERY : Addr) (a_Location_QUERYSTRING : Addr) (a_Location_HEADER : Addr) (a_Location_COOKIE : Addr) (a_Location_FORM_DATA : Addr) (a_M : Addr) (k_M : ClassId) (h0 : Heap) (n0 : Nat) (v : Option Value) (h : Heap) (L : List Loc) : Prop := v = some (.int (1 : Int32)) ∧ Fr n0 L
set_option maxRecDepth 65536 in
set_option maxHeartbeats 40000000 in
theorem own_pt_own_rm0_203 (l : Launch) (Z : State) (a0 : Array Value) (hw : ∀ d ∈ tables_1, d.before a0 Z = true) (ws : List Jvm.Cond) (x0 : Int32) (x1 : Int32) (a_Style_MATRIX : Addr) (a_Style_LABEL : Addr) (a_Style_FORM : Addr) (a_Style_SIMPLE : Addr) (a_Style_SPACE_DELIMITED : Addr) (a_Style_PIPE_DELIMITED : Addr) (a_Style_DEEP_OBJECT : Addr) (a_Style_COOKIE : Addr) (a_Style_TAB_DELIMITED : Addr) (a_Location_PATH : Addr) (a_Location_QUERY : Addr) (a_Location_QUERYSTRING : Addr) (a_Location_HEADER : Addr) (a_Location_COOKIE : Addr) (a_Location_FORM_DATA : Addr) (a_M : Addr) (k_M : ClassId) (h0 : Heap) (n0 : Nat) (Z0 : n0 ≤ h0.size) (O0 : Old Z n0 h0) (S_Style_MATRIX : Sta Z Z.heap "com/example/unipar/unipar/Style" "MATRIX" "Lcom/example/unipar/unipar/Style;" (.ref a_Style_MATRIX)) (E_Style_MATRIX : Exa Z Z.heap a_Style_MATRIX "com/example/unipar/unipar/Style") (S_Style_LABEL : Sta Z Z.heap "com/example/unipar/unipar/Style" "LABEL" "Lcom/example/unipar/unipar/Style;" (.ref a_Style_LABEL)) (E_Style_LABEL : Exa Z Z.heap a_Style_LABEL "com/example/unipar/unipar/Style") (S_Style_FORM : Sta Z Z.heap "com/example/unipar/unipar/Style" "FORM" "Lcom/example/unipar/unipar/Style;" (.ref a_Style_FORM)) (E_Style_FORM : Exa Z Z.heap a_Style_FORM "com/example/unipar/unipar/Style") (S_Style_SIMPLE : Sta Z Z.heap "com/example/unipar/unipar/Style" "SIMPLE" "Lcom/example/unipar/unipar/Style;" (.ref a_Style_SIMPLE)) (E_Style_SIMPLE : Exa Z Z.heap a_Style_SIMPLE "com/example/unipar/unipar/Style") (S_Style_SPACE_DELIMITED : Sta Z Z.heap "com/example/unipar/unipar/Style" "SPACE_DELIMITED" "Lcom/example/unipar/unipar/Style;" (.ref a_Style_SPACE_DELIMITED)) (E_Style_SPACE_DELIMITED : Exa Z Z.heap a_Style_SPACE_DELIMITED "com/example/unipar/unipar/Style") (S_Style_PIPE_DELIMITED : Sta Z Z.heap "com/example/unipar/unipar/Style" "PIPE_DELIMITED" "Lcom/example/unipar/unipar/Style;" (.ref a_Style_PIPE_DELIMITED)) (E_Style_PIPE_DELIMITED : Exa Z Z.heap a_Style_PIPE_DELIMITED "com/example/unipar/unipar/Style") (S_Style_DEEP_OBJECT : Sta Z Z.heap "com/example/unipar/unipar/Style" "DEEP_OBJECT" "Lcom/example/unipar/unipar/Style;" (.ref a_Style_DEEP_OBJECT)) (E_Style_DEEP_OBJECT : Exa Z Z.heap a_Style_DEEP_OBJECT "com/example/unipar/unipar/Style") (S_Style_COOKIE : Sta Z Z.heap "com/example/unipar/unipar/Style" "COOKIE" "Lcom/example/unipar/unipar/Style;" (.ref a_Style_COOKIE)) (E_Style_COOKIE : Exa Z Z.heap a_Style_COOKIE "com/example/unipar/unipar/Style") (S_Style_TAB_DELIMITED : Sta Z Z.heap "com/example/unipar/unipar/Style" "TAB_DELIMITED" "Lcom/example/unipar/unipar/Style;" (.ref a_Style_TAB_DELIMITED)) (E_Style_TAB_DELIMITED : Exa Z Z.heap a_Style_TAB_DELIMITED "com/example/unipar/unipar/Style") (S_Location_PATH : Sta Z Z.heap "com/example/unipar/unipar/Location" "PATH" "Lcom/example/unipar/unipar/Location;" (.ref a_Location_PATH)) (E_Location_PATH : Exa Z Z.heap a_Location_PATH "com/example/unipar/unipar/Location") (S_Location_QUERY : Sta Z Z.heap "com/example/unipar/unipar/Location" "QUERY" "Lcom/example/unipar/unipar/Location;" (.ref a_Location_QUERY)) (E_Location_QUERY : Exa Z Z.heap a_Location_QUERY "com/example/unipar/unipar/Location") (S_Location_QUERYSTRING : Sta Z Z.heap "com/example/unipar/unipar/Location" "QUERYSTRING" "Lcom/example/unipar/unipar/Location;" (.ref a_Location_QUERYSTRING)) (E_Location_QUERYSTRING : Exa Z Z.heap a_Location_QUERYSTRING "com/example/unipar/unipar/Location") (S_Location_HEADER : Sta Z Z.heap "com/example/unipar/unipar/Location" "HEADER" "Lcom/example/unipar/unipar/Location;" (.ref a_Location_HEADER)) (E_Location_HEADER : Exa Z Z.heap a_Location_HEADER "com/example/unipar/unipar/Location") (S_Location_COOKIE : Sta Z Z.heap "com/example/unipar/unipar/Location" "COOKIE" "Lcom/example/unipar/unipar/Location;" (.ref a_Location_COOKIE)) (E_Location_COOKIE : Exa Z Z.heap a_Location_COOKIE "com/example/unipar/unipar/Location") (S_Location_FORM_DATA : Sta Z Z.heap "com/example/unipar/unipar/Location" "FORM_DATA" "Lcom/example/unipar/unipar/Location;" (.ref a_Location_FORM_DATA)) (E_Location_FORM_DATA : Exa Z Z.heap a_Location_FORM_DATA "com/example/unipar/unipar/Location") (F_Style_MATRIX_ordinal : Fld Z Z.heap a_Style_MATRIX "java/lang/Enum" "ordinal" "I" (.int (0 : Int32))) (F_Style_FORM_ordinal : Fld Z Z.heap a_Style_FORM "java/lang/Enum" "ordinal" "I" (.int (2 : Int32))) (F_Style_COOKIE_ordinal : Fld Z Z.heap a_Style_COOKIE "java/lang/Enum" "ordinal" "I" (.int (7 : Int32))) (F_Location_HEADER_ordinal : Fld Z Z.heap a_Location_HEADER "java/lang/Enum" "ordinal" "I" (.int (3 : Int32))) (F_Style_SIMPLE_ordinal : Fld Z Z.heap a_Style_SIMPLE "java/lang/Enum" "ordinal" "I" (.int (3 : Int32))) (F_Style_PIPE_DELIMITED_ordinal : Fld Z Z.heap a_Style_PIPE_DELIMITED "java/lang/Enum" "ordinal" "I" (.int (5 : Int32))) (F_Location_QUERY_ordinal : Fld Z Z.heap a_Location_QUERY "java/lang/Enum" "ordinal" "I" (.int (1 : Int32))) (F_Location_FORM_DATA_ordinal : Fld Z Z.heap a_Location_FORM_DATA "java/lang/Enum" "ordinal" "I" (.int (5 : Int32))) (F_Location_QUERYSTRING_ordinal : Fld Z Z.heap a_Location_QUERYSTRING "java/lang/Enum" "ordinal" "I" (.int (2 : Int32))) (F_Style_SPACE_DELIMITED_ordinal : Fld Z Z.heap a_Style_SPACE_DELIMITED "java/lang/Enum" "ordinal" "I" (.int (4 : Int32))) (F_Location_PATH_ordinal : Fld Z Z.heap a_Location_PATH "java/lang/Enum" "ordinal" "I" (.int (0 : Int32))) (F_Style_LABEL_ordinal : Fld Z Z.heap a_Style_LABEL "java/lang/Enum" "ordinal" "I" (.int (1 : Int32))) (F_Style_DEEP_OBJECT_ordinal : Fld Z Z.heap a_Style_DEEP_OBJECT "java/lang/Enum" "ordinal" "I" (.int (6 : Int32))) (F_Location_COOKIE_ordinal : Fld Z Z.heap a_Location_COOKIE "java/lang/Enum" "ordinal" "I" (.int (4 : Int32))) (F_Style_TAB_DELIMITED_ordinal : Fld Z Z.heap a_Style_TAB_DELIMITED "java/lang/Enum" "ordinal" "I" (.int (8 : Int32))) (ne_Style_MATRIX__Style_FORM : a_Style_MATRIX ≠ a_Style_FORM) (ne_Style_MATRIX__Style_COOKIE : a_Style_MATRIX ≠ a_Style_COOKIE) (ne_Style_LABEL__Style_FORM : a_Style_LABEL ≠ a_Style_FORM) (ne_Style_LABEL__Style_COOKIE : a_Style_LABEL ≠ a_Style_COOKIE) (ne_Style_FORM__Style_SIMPLE : a_Style_FORM ≠ a_Style_SIMPLE) (ne_Style_FORM__Style_SPACE_DELIMITED : a_Style_FORM ≠ a_Style_SPACE_DELIMITED) (ne_Style_FORM__Style_PIPE_DELIMITED : a_Style_FORM ≠ a_Style_PIPE_DELIMITED) (ne_Style_FORM__Style_DEEP_OBJECT : a_Style_FORM ≠ a_Style_DEEP_OBJECT) (ne_Style_FORM__Style_COOKIE : a_Style_FORM ≠ a_Style_COOKIE) (ne_Style_FORM__Style_TAB_DELIMITED : a_Style_FORM ≠ a_Style_TAB_DELIMITED) (ne_Style_SIMPLE__Style_COOKIE : a_Style_SIMPLE ≠ a_Style_COOKIE) (ne_Style_SPACE_DELIMITED__Style_COOKIE : a_Style_SPACE_DELIMITED ≠ a_Style_COOKIE) (ne_Style_PIPE_DELIMITED__Style_COOKIE : a_Style_PIPE_DELIMITED ≠ a_Style_COOKIE) (ne_Style_DEEP_OBJECT__Style_COOKIE : a_Style_DEEP_OBJECT ≠ a_Style_COOKIE) (ne_Style_COOKIE__Style_TAB_DELIMITED : a_Style_COOKIE ≠ a_Style_TAB_DELIMITED) (SM : Sta Z Z.heap "com/example/unipar/unipar/Style$1" "$SwitchMap$com$example$unipar$unipar$Location" "[I" (.ref a_M)) (VM : Arv Z Z.heap a_M k_M .int (6 : Int32) [(.int (4 : Int32)), (.int (1 : Int32)), (.int (6 : Int32)), (.int (5 : Int32)), (.int (2 : Int32)), (.int (3 : Int32))] (.int (0 : Int32)))
    {p : Program} {e : Env} {s : State} {m : MethodId} {below : List Frame} {meth : Method} {c : Code} {s₁ : State} (Bd : BodyLoose p l x (head1 (Jvm.Cond.code x code maxLocals ret :: ws) room_1) code maxLocals ret e s m #[(.int x0), (.int x1)] below meth c s₁) (hml0 : c.maxLocals = maxLocals) (hh : s.heap = h0) (hZ : Z.Warmed39 s.vm)
    (b1 : Addr) (k1 : ClassId) (b49 : Addr) (k49 : ClassId) (b98 : Addr) (k98 : ClassId) (b147 : Addr) (k147 : ClassId)
    (Tpt : State) (lpt : List Loc)  (hpt : Heap)
    (Xpt : Stand p l e room_1 s m #[(.int x0), (.int x1)] below meth c Tpt lpt 4 30) (Ept : Tpt.heap = hpt) (Npt : Fr n0 lpt) (Zpt : n0 ≤ hpt.size) 
    (Pf203_0 : Arv Z hpt b1 k1 (.object "com/example/unipar/unipar/Style") (9 : Int32) [(.ref a_Style_MATRIX), (.ref a_Style_LABEL), (.ref a_Style_FORM), (.ref a_Style_SIMPLE), (.ref a_Style_SPACE_DELIMITED), (.ref a_Style_PIPE_DELIMITED), (.ref a_Style_DEEP_OBJECT), (.ref a_Style_COOKIE), (.ref a_Style_TAB_DELIMITED)] .null)
    (Pf203_1 : Arv Z hpt b49 k49 .boolean (9 : Int32) [(.int (0 : Int32)), (.int (0 : Int32)), (.int (1 : Int32)), (.int (0 : Int32)), (.int (0 : Int32)), (.int (0 : Int32)), (.int (0 : Int32)), (.int (1 : Int32)), (.int (0 : Int32))] (.int (0 : Int32)))
    (Pf203_2 : Arv Z hpt b98 k98 (.object "com/example/unipar/unipar/Location") (6 : Int32) [(.ref a_Location_PATH), (.ref a_Location_QUERY), (.ref a_Location_QUERYSTRING), (.ref a_Location_HEADER), (.ref a_Location_COOKIE), (.ref a_Location_FORM_DATA)] .null)
    (Pf203_3 : Arv Z hpt b147 k147 .boolean (6 : Int32) [(.int (0 : Int32)), (.int (1 : Int32)), (.int (0 : Int32)), (.int (0 : Int32)), (.int (1 : Int32)), (.int (1 : Int32))] (.int (0 : Int32)))
    (Po203_4 : Ovr Z k1 "com/example/unipar/unipar/Style")
    (Pn203_5 : a_Style_MATRIX ≠ b1)
    (Pn203_6 : a_Style_LABEL ≠ b1)
    (Pn203_7 : a_Style_FORM ≠ b1)
    (Pn203_8 : a_Style_SIMPLE ≠ b1)
    (Pn203_9 : a_Style_SPACE_DELIMITED ≠ b1)
    (Pn203_10 : a_Style_PIPE_DELIMITED ≠ b1)
    (Pn203_11 : a_Style_DEEP_OBJECT ≠ b1)
    (Pn203_12 : a_Style_COOKIE ≠ b1)
    (Pn203_13 : a_Style_TAB_DELIMITED ≠ b1)
    (Pn203_14 : a_Location_PATH ≠ b1)
    (Pn203_15 : a_Location_QUERY ≠ b1)
    (Pn203_16 : a_Location_QUERYSTRING ≠ b1)
    (Pn203_17 : a_Location_HEADER ≠ b1)
    (Pn203_18 : a_Location_COOKIE ≠ b1)
    (Pn203_19 : a_Location_FORM_DATA ≠ b1)
    (Pn203_20 : a_M ≠ b1)
    (Pg203_21 : n0 ≤ b1)
    (Pn203_22 : a_Style_MATRIX ≠ b49)
    (Pn203_23 : a_Style_LABEL ≠ b49)
    (Pn203_24 : a_Style_FORM ≠ b49)
    (Pn203_25 : a_Style_SIMPLE ≠ b49)
    (Pn203_26 : a_Style_SPACE_DELIMITED ≠ b49)
    (Pn203_27 : a_Style_PIPE_DELIMITED ≠ b49)
    (Pn203_28 : a_Style_DEEP_OBJECT ≠ b49)
    (Pn203_29 : a_Style_COOKIE ≠ b49)
    (Pn203_30 : a_Style_TAB_DELIMITED ≠ b49)
    (Pn203_31 : a_Location_PATH ≠ b49)
    (Pn203_32 : a_Location_QUERY ≠ b49)
    (Pn203_33 : a_Location_QUERYSTRING ≠ b49)
    (Pn203_34 : a_Location_HEADER ≠ b49)
    (Pn203_35 : a_Location_COOKIE ≠ b49)
    (Pn203_36 : a_Location_FORM_DATA ≠ b49)
    (Pn203_37 : a_M ≠ b49)
    (Pn203_38 : b1 ≠ b49)
    (Pg203_39 : n0 ≤ b49)
    (Po203_40 : Ovr Z k98 "com/example/unipar/unipar/Location")
    (Pn203_41 : a_Style_MATRIX ≠ b98)
    (Pn203_42 : a_Style_LABEL ≠ b98)
    (Pn203_43 : a_Style_FORM ≠ b98)
    (Pn203_44 : a_Style_SIMPLE ≠ b98)
    (Pn203_45 : a_Style_SPACE_DELIMITED ≠ b98)
    (Pn203_46 : a_Style_PIPE_DELIMITED ≠ b98)
    (Pn203_47 : a_Style_DEEP_OBJECT ≠ b98)
    (Pn203_48 : a_Style_COOKIE ≠ b98)
    (Pn203_49 : a_Style_TAB_DELIMITED ≠ b98)
    (Pn203_50 : a_Location_PATH ≠ b98)
    (Pn203_51 : a_Location_QUERY ≠ b98)
    (Pn203_52 : a_Location_QUERYSTRING ≠ b98)
    (Pn203_53 : a_Location_HEADER ≠ b98)
    (Pn203_54 : a_Location_COOKIE ≠ b98)
    (Pn203_55 : a_Location_FORM_DATA ≠ b98)
    (Pn203_56 : a_M ≠ b98)
    (Pn203_57 : b1 ≠ b98)
    (Pn203_58 : b49 ≠ b98)
    (Pg203_59 : n0 ≤ b98)
    (Pn203_60 : a_Style_MATRIX ≠ b147)
    (Pn203_61 : a_Style_LABEL ≠ b147)
    (Pn203_62 : a_Style_FORM ≠ b147)
    (Pn203_63 : a_Style_SIMPLE ≠ b147)
    (Pn203_64 : a_Style_SPACE_DELIMITED ≠ b147)
    (Pn203_65 : a_Style_PIPE_DELIMITED ≠ b147)
    (Pn203_66 : a_Style_DEEP_OBJECT ≠ b147)
    (Pn203_67 : a_Style_COOKIE ≠ b147)
    (Pn203_68 : a_Style_TAB_DELIMITED ≠ b147)
    (Pn203_69 : a_Location_PATH ≠ b147)
    (Pn203_70 : a_Location_QUERY ≠ b147)
    (Pn203_71 : a_Location_QUERYSTRING ≠ b147)
    (Pn203_72 : a_Location_HEADER ≠ b147)
    (Pn203_73 : a_Location_COOKIE ≠ b147)
    (Pn203_74 : a_Location_FORM_DATA ≠ b147)
    (Pn203_75 : a_M ≠ b147)
    (Pn203_76 : b1 ≠ b147)
    (Pn203_77 : b49 ≠ b147)
    (Pn203_78 : b98 ≠ b147)
    (Pg203_79 : n0 ≤ b147)
    (Old203 : Old Z n0 hpt)
    : Goes p.tables e below (Tpt.setTop (mkF m 219 #[.val (.int x0), .val (.int x1), .val (.ref b1), .val (.ref b49), .val (.ref b98), .val (.ref b147), .val (.int ((x0 &&& (2147483647 : Int32)) % (9 : Int32))), .val (.int ((x1 &&& (2147483647 : Int32)) % (6 : Int32))), .val (.int (1 : Int32)), .unset] [])) (own_R below s (own_Q_own_rm0 Z x0 x1 a_Style_MATRIX a_Style_LABEL a_Style_FORM a_Style_SIMPLE a_Style_SPACE_DELIMITED a_Style_PIPE_DELIMITED a_Style_DEEP_OBJECT a_Style_COOKIE a_Style_TAB_DELIMITED a_Location_PATH a_Location_QUERY a_Location_QUERYSTRING a_Location_HEADER a_Location_COOKIE a_Location_FORM_DATA a_M k_M h0 n0) 4 30) := by
  have hx := Bd.exec
  have hby := Bd.bytes
  have hml : c.maxLocals = 10 := hml0
  have hnm := (name_of_methodNamed Bd.named Bd.method).1
  have hown : s.vm.findClass "com/example/unipar/unipar/StyleExplodesByDefaultPinLaw" = some m.cls := findClass_of_methodNamed Bd.named
  show Goes p.tables e below (Tpt.setTop (mkF m 219 #[.val (.int x0), .val (.int x1), .val (.ref b1), .val (.ref b49), .val (.ref b98), .val (.ref b147), .val (.int ((x0 &&& (2147483647 : Int32)) % (9 : Int32))), .val (.int ((x1 &&& (2147483647 : Int32)) % (6 : Int32))), .val (.int (1 : Int32)), .unset] [])) _
  refine Goes.to (fun _ k => XS.aload Xpt.here hx rfl (hb hby at_219) rfl rfl k) ?_
  show Goes p.tables e below (Tpt.setTop (mkF m 221 #[.val (.int x0), .val (.int x1), .val (.ref b1), .val (.ref b49), .val (.ref b98), .val (.ref b147), .val (.int ((x0 &&& (2147483647 : Int32)) % (9 : Int32))), .val (.int ((x1 &&& (2147483647 : Int32)) % (6 : Int32))), .val (.int (1 : Int32)), .unset] [(.ref b98)])) _
  refine Goes.to (fun _ k => XS.iload Xpt.here hx rfl (hb hby at_221) rfl k) ?_
  show Goes p.tables e below (Tpt.setTop (mkF m 223 #[.val (.int x0), .val (.int x1), .val (.ref b1), .val (.ref b49), .val (.ref b98), .val (.ref b147), .val (.int ((x0 &&& (2147483647 : Int32)) % (9 : Int32))), .val (.int ((x1 &&& (2147483647 : Int32)) % (6 : Int32))), .val (.int (1 : Int32)), .unset] [(.int ((x1 &&& (2147483647 : Int32)) % (6 : Int32))), (.ref b98)])) _
  obtain ⟨cl204, Ar204, q204, S204, N204, H204, G204⟩ := id Pf203_2
  have hin204 : ¬ (((x1 &&& (2147483647 : Int32)) % (6 : Int32)) < 0 ∨ cl204.slots.size ≤ (((x1 &&& (2147483647 : Int32)) % (6 : Int32))).toNatClampNeg) := by
    have k1 := rng32 x1
    have k2 : (x1 &&& (2147483647 : Int32)).toInt = x1.toInt % 2147483648 := c_mask x1 (2147483647 : Int32) 31 (by decide) (by decide)
    have k3 := c_irem (x1 &&& (2147483647 : Int32)) (6 : Int32) 6 rfl
    have k4 := rng32 ((x1 &&& (2147483647 : Int32)) % (6 : Int32))
    have k5 : (6 : Int32).toInt = 6 := rfl
    have k6 : (0 : Int32).toInt = 0 := rfl
    refine inb_of S204 ⟨fun hq => ?_, Int32.lt_iff_toInt_lt.mpr ?_⟩
    · have hq' := Int32.lt_iff_toInt_lt.mp hq
      omega
    · omega
  by_cases hc205 : ((x1 &&& (2147483647 : Int32)) % (6 : Int32)) = (0 : Int32)
  · have hat204 : cl204.slots[(((x1 &&& (2147483647 : Int32)) % (6 : Int32))).toNatClampNeg]? = some (.ref a_Location_PATH) := Has.at H204 hin204 (by rw [hc205]; rfl)
    refine Goes.to (fun _ k => Xpt.aaload hx (j := ((x1 &&& (2147483647 : Int32)) % (6 : Int32))) (v := (.ref a_Location_PATH)) (by rw [Ept]; exact Ar204.1) (State.isArrayOf_alike hZ.alike Ar204.2.1) rfl Ar204.2.2 hin204 hat204 (g := (mkF m 223 #[.val (.int x0), .val (.int x1), .val (.ref b1), .val (.ref b49), .val (.ref b98), .val (.ref b147), .val (.int ((x0 &&& (2147483647 : Int32)) % (9 : Int32))), .val (.int ((x1 &&& (2147483647 : Int32)) % (6 : Int32))), .val (.int (1 : Int32)), .unset] [(.int ((x1 &&& (2147483647 : Int32)) % (6 : Int32))), (.ref b98)])) rfl rfl (hb hby at_223) _ k) ?_
    show Goes p.tables e below (Tpt.setTop (mkF m 224 #[.val (.int x0), .val (.int x1), .val (.ref b1), .val (.ref b49), .val (.ref b98), .val (.ref b147), .val (.int ((x0 &&& (2147483647 : Int32)) % (9 : Int32))), .val (.int ((x1 &&& (2147483647 : Int32)) % (6 : Int32))), .val (.int (1 : Int32)), .unset] [(.ref a_Location_PATH)])) _
    obtain ⟨_, _, ⟨T206, L206, k206, n206⟩, -, X206, ⟨Lc206, hQ206, l206, y206, z206⟩, st206⟩ := Jvm.LawKit.callS Xpt hx (y := (⟨"com/example/unipar/unipar/Style", "defaultFor", "(Lcom/example/unipar/unipar/Location;)Lcom/example/unipar/unipar/Style;"⟩ : MethodName)) hown (mvT hZ (hw _ (List.mem_of_getElem? (i := 47) rfl))) (mvT hZ (hw _ (List.mem_of_getElem? (i := 48) rfl))) (mvT hZ (hw _ (List.mem_of_getElem? (i := 3) rfl))) (mvT hZ (hw _ (List.mem_of_getElem? (i := 49) rfl))) (by decide) (backOf (W := 0) (own_rm2 l Z a0 hw [] a_Location_PATH (0 : Int32) a_Style_FORM a_Style_SIMPLE a_M k_M hpt n0 Zpt (E_Location_PATH.ext Old203.2) (F_Location_PATH_ordinal.ext Old203.2) (S_Style_FORM.ext Old203.2) (S_Style_SIMPLE.ext Old203.2) (SM.ext Old203.2) (VM.ext Old203.2) (by decide) (by decide)) hZ (hw _ (List.mem_of_getElem? (i := 49) rfl)) (hw _ (List.mem_of_getElem? (i := 3) rfl)) (by decide) (by decide)) (g := (mkF m 224 #[.val (.int x0), .val (.int x1), .val (.ref b1), .val (.ref b49), .val (.ref b98), .val (.ref b147), .val (.int ((x0 &&& (2147483647 : Int32)) % (9 : Int32))), .val (.int ((x1 &&& (2147483647 : Int32)) % (6 : Int32))), .val (.int (1 : Int32)), .unset] [(.ref a_Location_PATH)])) rfl (by rw [hml]; rfl) (argsL := [(.ref a_Location_PATH)]) (rest := []) (lenOf own_pd_pLcomlexampleluniparluniparlLocationsqLcomlexampleluniparluniparlStyles rfl) rfl (by show 2 * 0 + _ ≤ _; exact Nat.le_of_eq rfl) (hb hby at_224) (fun _ _ => ⟨rfl, Ept, (by decide : 4 + 0 ≤ _), (by decide : 30 + 0 ≤ _)⟩)
    dsimp only [Pt.U, Pt.locs, Pt.cells, Pt.slots] at X206 l206 y206 z206 st206 hQ206
    subst l206 y206 z206
    obtain ⟨hv206, Nq206, hp206_0⟩ := hQ206
    have N206 := Fr.app Npt Nq206
    rw [show own_df (0 : Int32) a_Style_FORM a_Style_SIMPLE = a_Style_SIMPLE from by unfold own_df; exact if_neg (by decide)] at hv206
    subst hv206
    refine Goes.to st206 ?_
    show Goes p.tables e below (T206.setTop (mkF m 227 #[.val (.int x0), .val (.int x1), .val (.ref b1), .val (.ref b49), .val (.ref b98), .val (.ref b147), .val (.int ((x0 &&& (2147483647 : Int32)) % (9 : Int32))), .val (.int ((x1 &&& (2147483647 : Int32)) % (6 : Int32))), .val (.int (1 : Int32)), .unset] [(.ref a_Style_SIMPLE)])) _
    obtain ⟨cq207, kq207, q207a, q207b, q207c⟩ := isOf hZ hp206_0 (E_Style_SIMPLE.ext Old203.2)
    obtain ⟨_, _, ⟨T207, L207, k207, n207⟩, -, X207, ⟨Lc207, hQ207, l207, y207, z207⟩, st207⟩ := X206.virtualBack hx (y := (⟨"com/example/unipar/unipar/Style", "explodesByDefault", "()Z"⟩ : MethodName)) (z := (⟨"com/example/unipar/unipar/Style", "explodesByDefault", "()Z"⟩ : MethodName)) hown (mvT hZ (hw _ (List.mem_of_getElem? (i := 40) rfl))) (mvT hZ (hw _ (List.mem_of_getElem? (i := 41) rfl))) (notFace_of_selects (args := #[]) (mvT hZ (hw _ (List.mem_of_getElem? (i := 43) rfl)))) (mvT hZ (hw _ (List.mem_of_getElem? (i := 43) rfl))) (mvT hZ (hw _ (List.mem_of_getElem? (i := 42) rfl))) (by decide) (backOf (W := 0) (own_rm1 l Z a0 hw [] a_Style_SIMPLE a_Style_FORM a_Style_COOKIE hpt n0 Zpt (S_Style_FORM.ext Old203.2) (S_Style_COOKIE.ext Old203.2)) hZ (hw _ (List.mem_of_getElem? (i := 44) rfl)) (hw _ (List.mem_of_getElem? (i := 3) rfl)) (by decide) (by decide)) q207a q207c (g := (mkF m 227 #[.val (.int x0), .val (.int x1), .val (.ref b1), .val (.ref b49), .val (.ref b98), .val (.ref b147), .val (.int ((x0 &&& (2147483647 : Int32)) % (9 : Int32))), .val (.int ((x1 &&& (2147483647 : Int32)) % (6 : Int32))), .val (.int (1 : Int32)), .unset] [(.ref a_Style_SIMPLE)])) rfl (by rw [hml]; rfl) (Steps.refl _) (argsL := []) (rest := []) (lenOf own_pd_pqZ rfl) rfl (by show 2 * 0 + _ ≤ _; exact Nat.le_of_eq rfl) (hb hby at_227) (fun _ _ => ⟨rfl, hp206_0, (by decide : 4 + 0 ≤ _), (by decide : 30 + 0 ≤ _)⟩)
    dsimp only [Pt.U, Pt.locs, Pt.cells, Pt.slots] at X207 l207 y207 z207 st207 hQ207
    subst l207 y207 z207
    obtain ⟨hv207, Nq207, hp207_0⟩ := hQ207
    have N207 := Fr.app N206 Nq207
    by_cases hc208 : a_Style_SIMPLE = a_Style_FORM ∨ a_Style_SIMPLE = a_Style_COOKIE
    · exact absurd hc208 (fun q => q.elim (Ne.symm ne_Style_FORM__Style_SIMPLE) (ne_Style_SIMPLE__Style_COOKIE))
    · rw [if_neg hc208] at hv207
      subst hv207
      refine Goes.tr st207 ?_
      show Goes p.tables e below (T207.setTop (mkF m 230 #[.val (.int x0), .val (.int x1), .val (.ref b1), .val (.ref b49), .val (.ref b98), .val (.ref b147), .val (.int ((x0 &&& (2147483647 : Int32)) % (9 : Int32))), .val (.int ((x1 &&& (2147483647 : Int32)) % (6 : Int32))), .val (.int (1 : Int32)), .unset] [(.int (0 : Int32))])) _
      refine Goes.to (fun _ k => XS.aload X207.here hx rfl (hb hby at_230) rfl rfl k) ?_
      show Goes p.tables e below (T207.setTop (mkF m 232 #[.val (.int x0), .val (.int x1), .val (.ref b1), .val (.ref b49), .val (.ref b98), .val (.ref b147), .val (.int ((x0 &&& (2147483647 : Int32)) % (9 : Int32))), .val (.int ((x1 &&& (2147483647 : Int32)) % (6 : Int32))), .val (.int (1 : Int32)), .unset] [(.ref b147), (.int (0 : Int32))])) _
      refine Goes.to (fun _ k => XS.iload X207.here hx rfl (hb hby at_232) rfl k) ?_
      show Goes p.tables e below (T207.setTop (mkF m 234 #[.val (.int x0), .val (.int x1), .val (.ref b1), .val (.ref b49), .val (.ref b98), .val (.ref b147), .val (.int ((x0 &&& (2147483647 : Int32)) % (9 : Int32))), .val (.int ((x1 &&& (2147483647 : Int32)) % (6 : Int32))), .val (.int (1 : Int32)), .unset] [(.int ((x1 &&& (2147483647 : Int32)) % (6 : Int32))), (.ref b147), (.int (0 : Int32))])) _
      obtain ⟨cl209, Ar209, q209, S209, N209, H209, G209⟩ := id Pf203_3
      have hin209 : ¬ (((x1 &&& (2147483647 : Int32)) % (6 : Int32)) < 0 ∨ cl209.slots.size ≤ (((x1 &&& (2147483647 : Int32)) % (6 : Int32))).toNatClampNeg) := by
        have k1 := rng32 x1
        have k2 : (x1 &&& (2147483647 : Int32)).toInt = x1.toInt % 2147483648 := c_mask x1 (2147483647 : Int32) 31 (by decide) (by decide)
        have k3 := c_irem (x1 &&& (2147483647 : Int32)) (6 : Int32) 6 rfl
        have k4 := rng32 ((x1 &&& (2147483647 : Int32)) % (6 : Int32))
        have k5 : (0 : Int32).toInt = 0 := rfl
        have k6 : ((x1 &&& (2147483647 : Int32)) % (6 : Int32)).toInt = (0 : Int32).toInt := congrArg Int32.toInt hc205
        have k7 : (6 : Int32).toInt = 6 := rfl
        refine inb_of S209 ⟨fun hq => ?_, Int32.lt_iff_toInt_lt.mpr ?_⟩
        · have hq' := Int32.lt_iff_toInt_lt.mp hq
          omega
        · omega
      have hat209 : cl209.slots[(((x1 &&& (2147483647 : Int32)) % (6 : Int32))).toNatClampNeg]? = some (.int (0 : Int32)) := Has.at H209 hin209 (by rw [hc205]; rfl)
      refine Goes.to (fun _ k => X207.baloadBooleans hx (j := ((x1 &&& (2147483647 : Int32)) % (6 : Int32))) (v := (.int (0 : Int32))) (by rw [hp207_0]; exact Ar209.1) (State.isArrayOf_alike hZ.alike Ar209.2.1) Ar209.2.2 hin209 hat209 (g := (mkF m 234 #[.val (.int x0), .val (.int x1), .val (.ref b1), .val (.ref b49), .val (.ref b98), .val (.ref b147), .val (.int ((x0 &&& (2147483647 : Int32)) % (9 : Int32))), .val (.int ((x1 &&& (2147483647 : Int32)) % (6 : Int32))), .val (.int (1 : Int32)), .unset] [(.int ((x1 &&& (2147483647 : Int32)) % (6 : Int32))), (.ref b147), (.int (0 : Int32))])) rfl rfl (hb hby at_234) _ k) ?_
      show Goes p.tables e below (T207.setTop (mkF m 235 #[.val (.int x0), .val (.int x1), .val (.ref b1), .val (.ref b49), .val (.ref b98), .val (.ref b147), .val (.int ((x0 &&& (2147483647 : Int32)) % (9 : Int32))), .val (.int ((x1 &&& (2147483647 : Int32)) % (6 : Int32))), .val (.int (1 : Int32)), .unset] [(.int (0 : Int32)), (.int (0 : Int32))])) _
      refine Goes.to (fun _ k => XS.icmpNo X207.here hx rfl (hb hby at_235) rfl (teq (by decide : (0 : Int32) = (0 : Int32))).2 k) ?_
      show Goes p.tables e below (T207.setTop (mkF m 238 #[.val (.int x0), .val (.int x1), .val (.ref b1), .val (.ref b49), .val (.ref b98), .val (.ref b147), .val (.int ((x0 &&& (2147483647 : Int32)) % (9 : Int32))), .val (.int ((x1 &&& (2147483647 : Int32)) % (6 : Int32))), .val (.int (1 : Int32)), .unset] [])) _
      refine Goes.to (fun _ k => XS.iconst X207.here hx rfl (hb hby at_238) k) ?_
      show Goes p.tables e below (T207.setTop (mkF m 239 #[.val (.int x0), .val (.int x1), .val (.ref b1), .val (.ref b49), .val (.ref b98), .val (.ref b147), .val (.int ((x0 &&& (2147483647 : Int32)) % (9 : Int32))), .val (.int ((x1 &&& (2147483647 : Int32)) % (6 : Int32))), .val (.int (1 : Int32)), .unset] [(.int (1 : Int32))])) _
      refine Goes.to (fun _ k => XS.goto X207.here hx rfl (pc0 := 239) (pc' := 243) rfl (hb hby at_239) (by decide) (by decide) k) ?_
      show Goes p.tables e below (T207.setTop (mkF m 243 #[.val (.int x0), .val (.int x1), .val (.ref b1), .val (.ref b49), .val (.ref b98), .val (.ref b147), .val (.int ((x0 &&& (2147483647 : Int32)) % (9 : Int32))), .val (.int ((x1 &&& (2147483647 : Int32)) % (6 : Int32))), .val (.int (1 : Int32)), .unset] [(.int (1 : Int32))])) _
      refine Goes.to (fun _ k => XS.istore X207.here hx rfl (hb hby at_243) rfl (l' := #[.val (.int x0), .val (.int x1), .val (.ref b1), .val (.ref b49), .val (.ref b98), .val (.ref b147), .val (.int ((x0 &&& (2147483647 : Int32)) % (9 : Int32))), .val (.int ((x1 &&& (2147483647 : Int32)) % (6 : Int32))), .val (.int (1 : Int32)), .val (.int (1 : Int32))]) rfl k) ?_
      show Goes p.tables e below (T207.setTop (mkF m 245 #[.val (.int x0), .val (.int x1), .val (.ref b1), .val (.ref b49), .val (.ref b98), .val (.ref b147), .val (.int ((x0 &&& (2147483647 : Int32)) % (9 : Int32))), .val (.int ((x1 &&& (2147483647 : Int32)) % (6 : Int32))), .val (.int (1 : Int32)), .val (.int (1 : Int32))] [])) _
      refine Goes.to (fun _ k => XS.iload X207.here hx rfl (hb hby at_245) rfl k) ?_
      show Goes p.tables e below (T207.setTop (mkF m 247 #[.val (.int x0), .val (.int x1), .val (.ref b1), .val (.ref b49), .val (.ref b98), .val (.ref b147), .val (.int ((x0 &&& (2147483647 : Int32)) % (9 : Int32))), .val (.int ((x1 &&& (2147483647 : Int32)) % (6 : Int32))), .val (.int (1 : Int32)), .val (.int (1 : Int32))] [(.int (1 : Int32))])) _
      refine Goes.to (fun _ k => XS.ifNo X207.here hx rfl (hb hby at_247) rfl ((if0 _ _).trans (feq (by decide : ¬ ((1 : Int32) = (0 : Int32)))).1) k) ?_
      show Goes p.tables e below (T207.setTop (mkF m 250 #[.val (.int x0), .val (.int x1), .val (.ref b1), .val (.ref b49), .val (.ref b98), .val (.ref b147), .val (.int ((x0 &&& (2147483647 : Int32)) % (9 : Int32))), .val (.int ((x1 &&& (2147483647 : Int32)) % (6 : Int32))), .val (.int (1 : Int32)), .val (.int (1 : Int32))] [])) _
      refine Goes.to (fun _ k => XS.iload X207.here hx rfl (hb hby at_250) rfl k) ?_
      show Goes p.tables e below (T207.setTop (mkF m 252 #[.val (.int x0), .val (.int x1), .val (.ref b1), .val (.ref b49), .val (.ref b98), .val (.ref b147), .val (.int ((x0 &&& (2147483647 : Int32)) % (9 : Int32))), .val (.int ((x1 &&& (2147483647 : Int32)) % (6 : Int32))), .val (.int (1 : Int32)), .val (.int (1 : Int32))] [(.int (1 : Int32))])) _
      refine Goes.to (fun _ k => XS.ifNo X207.here hx rfl (hb hby at_252) rfl ((if0 _ _).trans (feq (by decide : ¬ ((1 : Int32) = (0 : Int32)))).1) k) ?_
      show Goes p.tables e below (T207.setTop (mkF m 255 #[.val (.int x0), .val (.int x1), .val (.ref b1), .val (.ref b49), .val (.ref b98), .val (.ref b147), .val (.int ((x0 &&& (2147483647 : Int32)) % (9 : Int32))), .val (.int ((x1 &&& (2147483647 : Int32)) % (6 : Int32))), .val (.int (1 : Int32)), .val (.int (1 : Int32))] [])) _
      refine Goes.to (fun _ k => XS.iconst X207.here hx rfl (hb hby at_255) k) ?_
      show Goes p.tables e below (T207.setTop (mkF m 256 #[.val (.int x0), .val (.int x1), .val (.ref b1), .val (.ref b49), .val (.ref b98), .val (.ref b147), .val (.int ((x0 &&& (2147483647 : Int32)) % (9 : Int32))), .val (.int ((x1 &&& (2147483647 : Int32)) % (6 : Int32))), .val (.int (1 : Int32)), .val (.int (1 : Int32))] [(.int (1 : Int32))])) _
      refine Goes.to (fun _ k => XS.goto X207.here hx rfl (pc0 := 256) (pc' := 260) rfl (hb hby at_256) (by decide) (by decide) k) ?_
      show Goes p.tables e below (T207.setTop (mkF m 260 #[.val (.int x0), .val (.int x1), .val (.ref b1), .val (.ref b49), .val (.ref b98), .val (.ref b147), .val (.int ((x0 &&& (2147483647 : Int32)) % (9 : Int32))), .val (.int ((x1 &&& (2147483647 : Int32)) % (6 : Int32))), .val (.int (1 : Int32)), .val (.int (1 : Int32))] [(.int (1 : Int32))])) _
      obtain ⟨fs, hr, hrun, hended, hW, hsame⟩ := X207.leave (v := some (.int (1 : Int32))) (fun h => by rw [Bd.returns] at h; cases h)
      have hv : (some (.int (1 : Int32)) : Option Value) = some (.int (1 : Int32)) := by
        rfl
      exact ⟨_, _, retN X207 hx (t := .boolean) Bd.returns (by simp) (hb hby at_260) hr, hrun, hended, _, _, rfl, ⟨hv, N207⟩, ⟨_, rfl⟩, hW, hsame.mono (by decide) (by decide)⟩
  · by_cases hc210 : ((x1 &&& (2147483647 : Int32)) % (6 : Int32)) = (1 : Int32)
    · have hat204 : cl204.slots[(((x1 &&& (2147483647 : Int32)) % (6 : Int32))).toNatClampNeg]? = some (.ref a_Location_QUERY) := Has.at H204 hin204 (by rw [hc210]; rfl)
      refine Goes.to (fun _ k => Xpt.aaload hx (j := ((x1 &&& (2147483647 : Int32)) % (6 : Int32))) (v := (.ref a_Location_QUERY)) (by rw [Ept]; exact Ar204.1) (State.isArrayOf_alike hZ.alike Ar204.2.1) rfl Ar204.2.2 hin204 hat204 (g := (mkF m 223 #[.val (.int x0), .val (.int x1), .val (.ref b1), .val (.ref b49), .val (.ref b98), .val (.ref b147), .val (.int ((x0 &&& (2147483647 : Int32)) % (9 : Int32))), .val (.int ((x1 &&& (2147483647 : Int32)) % (6 : Int32))), .val (.int (1 : Int32)), .unset] [(.int ((x1 &&& (2147483647 : Int32)) % (6 : Int32))), (.ref b98)])) rfl rfl (hb hby at_223) _ k) ?_
      show Goes p.tables e below (Tpt.setTop (mkF m 224 #[.val (.int x0), .val (.int x1), .val (.ref b1), .val (.ref b49), .val (.ref b98), .val (.ref b147), .val (.int ((x0 &&& (2147483647 : Int32)) % (9 : Int32))), .val (.int ((x1 &&& (2147483647 : Int32)) % (6 : Int32))), .val (.int (1 : Int32)), .unset] [(.ref a_Location_QUERY)])) _
      obtain ⟨_, _, ⟨T211, L211, k211, n211⟩, -, X211, ⟨Lc211, hQ211, l211, y211, z211⟩, st211⟩ := Jvm.LawKit.callS Xpt hx (y := (⟨"com/example/unipar/unipar/Style", "defaultFor", "(Lcom/example/unipar/unipar/Location;)Lcom/example/unipar/unipar/Style;"⟩ : MethodName)) hown (mvT hZ (hw _ (List.mem_of_getElem? (i := 47) rfl))) (mvT hZ (hw _ (List.mem_of_getElem? (i := 48) rfl))) (mvT hZ (hw _ (List.mem_of_getElem? (i := 3) rfl))) (mvT hZ (hw _ (List.mem_of_getElem? (i := 49) rfl))) (by decide) (backOf (W := 0) (own_rm2 l Z a0 hw [] a_Location_QUERY (1 : Int32) a_Style_FORM a_Style_SIMPLE a_M k_M hpt n0 Zpt (E_Location_QUERY.ext Old203.2) (F_Location_QUERY_ordinal.ext Old203.2) (S_Style_FORM.ext Old203.2) (S_Style_SIMPLE.ext Old203.2) (SM.ext Old203.2) (VM.ext Old203.2) (by decide) (by decide)) hZ (hw _ (List.mem_of_getElem? (i := 49) rfl)) (hw _ (List.mem_of_getElem? (i := 3) rfl)) (by decide) (by decide)) (g := (mkF m 224 #[.val (.int x0), .val (.int x1), .val (.ref b1), .val (.ref b49), .val (.ref b98), .val (.ref b147), .val (.int ((x0 &&& (2147483647 : Int32)) % (9 : Int32))), .val (.int ((x1 &&& (2147483647 : Int32)) % (6 : Int32))), .val (.int (1 : Int32)), .unset] [(.ref a_Location_QUERY)])) rfl (by rw [hml]; rfl) (argsL := [(.ref a_Location_QUERY)]) (rest := []) (lenOf own_pd_pLcomlexampleluniparluniparlLocationsqLcomlexampleluniparluniparlStyles rfl) rfl (by show 2 * 0 + _ ≤ _; exact Nat.le_of_eq rfl) (hb hby at_224) (fun _ _ => ⟨rfl, Ept, (by decide : 4 + 0 ≤ _), (by decide : 30 + 0 ≤ _)⟩)
      dsimp only [Pt.U, Pt.locs, Pt.cells, Pt.slots] at X211 l211 y211 z211 st211 hQ211
      subst l211 y211 z211
      obtain ⟨hv211, Nq211, hp211_0⟩ := hQ211
      have N211 := Fr.app Npt Nq211
      rw [show own_df (1 : Int32) a_Style_FORM a_Style_SIMPLE = a_Style_FORM from by unfold own_df; exact if_pos (by decide)] at hv211
      subst hv211
      refine Goes.to st211 ?_
      show Goes p.tables e below (T211.setTop (mkF m 227 #[.val (.int x0), .val (.int x1), .val (.ref b1), .val (.ref b49), .val (.ref b98), .val (.ref b147), .val (.int ((x0 &&& (2147483647 : Int32)) % (9 : Int32))), .val (.int ((x1 &&& (2147483647 : Int32)) % (6 : Int32))), .val (.int (1 : Int32)), .unset] [(.ref a_Style_FORM)])) _
      obtain ⟨cq212, kq212, q212a, q212b, q212c⟩ := isOf hZ hp211_0 (E_Style_FORM.ext Old203.2)
      obtain ⟨_, _, ⟨T212, L212, k212, n212⟩, -, X212, ⟨Lc212, hQ212, l212, y212, z212⟩, st212⟩ := X211.virtualBack hx (y := (⟨"com/example/unipar/unipar/Style", "explodesByDefault", "()Z"⟩ : MethodName)) (z := (⟨"com/example/unipar/unipar/Style", "explodesByDefault", "()Z"⟩ : MethodName)) hown (mvT hZ (hw _ (List.mem_of_getElem? (i := 40) rfl))) (mvT hZ (hw _ (List.mem_of_getElem? (i := 41) rfl))) (notFace_of_selects (args := #[]) (mvT hZ (hw _ (List.mem_of_getElem? (i := 43) rfl)))) (mvT hZ (hw _ (List.mem_of_getElem? (i := 43) rfl))) (mvT hZ (hw _ (List.mem_of_getElem? (i := 42) rfl))) (by decide) (backOf (W := 0) (own_rm1 l Z a0 hw [] a_Style_FORM a_Style_FORM a_Style_COOKIE hpt n0 Zpt (S_Style_FORM.ext Old203.2) (S_Style_COOKIE.ext Old203.2)) hZ (hw _ (List.mem_of_getElem? (i := 44) rfl)) (hw _ (List.mem_of_getElem? (i := 3) rfl)) (by decide) (by decide)) q212a q212c (g := (mkF m 227 #[.val (.int x0), .val (.int x1), .val (.ref b1), .val (.ref b49), .val (.ref b98), .val (.ref b147), .val (.int ((x0 &&& (2147483647 : Int32)) % (9 : Int32))), .val (.int ((x1 &&& (2147483647 : Int32)) % (6 : Int32))), .val (.int (1 : Int32)), .unset] [(.ref a_Style_FORM)])) rfl (by rw [hml]; rfl) (Steps.refl _) (argsL := []) (rest := []) (lenOf own_pd_pqZ rfl) rfl (by show 2 * 0 + _ ≤ _; exact Nat.le_of_eq rfl) (hb hby at_227) (fun _ _ => ⟨rfl, hp211_0, (by decide : 4 + 0 ≤ _), (by decide : 30 + 0 ≤ _)⟩)
      dsimp only [Pt.U, Pt.locs, Pt.cells, Pt.slots] at X212 l212 y212 z212 st212 hQ212
      subst l212 y212 z212
      obtain ⟨hv212, Nq212, hp212_0⟩ := hQ212
      have N212 := Fr.app N211 Nq212
      by_cases hc213 : a_Style_FORM = a_Style_FORM ∨ a_Style_FORM = a_Style_COOKIE
      · rw [if_pos hc213] at hv212
        subst hv212
        refine Goes.tr st212 ?_
        show Goes p.tables e below (T212.setTop (mkF m 230 #[.val (.int x0), .val (.int x1), .val (.ref b1), .val (.ref b49), .val (.ref b98), .val (.ref b147), .val (.int ((x0 &&& (2147483647 : Int32)) % (9 : Int32))), .val (.int ((x1 &&& (2147483647 : Int32)) % (6 : Int32))), .val (.int (1 : Int32)), .unset] [(.int (1 : Int32))])) _
        refine Goes.to (fun _ k => XS.aload X212.here hx rfl (hb hby at_230) rfl rfl k) ?_
        show Goes p.tables e below (T212.setTop (mkF m 232 #[.val (.int x0), .val (.int x1), .val (.ref b1), .val (.ref b49), .val (.ref b98), .val (.ref b147), .val (.int ((x0 &&& (2147483647 : Int32)) % (9 : Int32))), .val (.int ((x1 &&& (2147483647 : Int32)) % (6 : Int32))), .val (.int (1 : Int32)), .unset] [(.ref b147), (.int (1 : Int32))])) _
        refine Goes.to (fun _ k => XS.iload X212.here hx rfl (hb hby at_232) rfl k) ?_
        show Goes p.tables e below (T212.setTop (mkF m 234 #[.val (.int x0), .val (.int x1), .val (.ref b1), .val (.ref b49), .val (.ref b98), .val (.ref b147), .val (.int ((x0 &&& (2147483647 : Int32)) % (9 : Int32))), .val (.int ((x1 &&& (2147483647 : Int32)) % (6 : Int32))), .val (.int (1 : Int32)), .unset] [(.int ((x1 &&& (2147483647 : Int32)) % (6 : Int32))), (.ref b147), (.int (1 : Int32))])) _
        obtain ⟨cl214, Ar214, q214, S214, N214, H214, G214⟩ := id Pf203_3
        have hin214 : ¬ (((x1 &&& (2147483647 : Int32)) % (6 : Int32)) < 0 ∨ cl214.slots.size ≤ (((x1 &&& (2147483647 : Int32)) % (6 : Int32))).toNatClampNeg) := by
          have k1 := rng32 x1
          have k2 : (x1 &&& (2147483647 : Int32)).toInt = x1.toInt % 2147483648 := c_mask x1 (2147483647 : Int32) 31 (by decide) (by decide)
          have k3 := c_irem (x1 &&& (2147483647 : Int32)) (6 : Int32) 6 rfl
          have k4 := rng32 ((x1 &&& (2147483647 : Int32)) % (6 : Int32))
          have k5 : (0 : Int32).toInt = 0 := rfl
          have k6 : ¬ ((x1 &&& (2147483647 : Int32)) % (6 : Int32)).toInt = (0 : Int32).toInt := fun z => hc205 (Int32.toInt_inj.mp z)
          have k7 : (1 : Int32).toInt = 1 := rfl
          have k8 : ((x1 &&& (2147483647 : Int32)) % (6 : Int32)).toInt = (1 : Int32).toInt := congrArg Int32.toInt hc210
          have k9 : (6 : Int32).toInt = 6 := rfl
          refine inb_of S214 ⟨fun hq => ?_, Int32.lt_iff_toInt_lt.mpr ?_⟩
          · have hq' := Int32.lt_iff_toInt_lt.mp hq
            omega
          · omega
        have hat214 : cl214.slots[(((x1 &&& (2147483647 : Int32)) % (6 : Int32))).toNatClampNeg]? = some (.int (1 : Int32)) := Has.at H214 hin214 (by rw [hc210]; rfl)
        refine Goes.to (fun _ k => X212.baloadBooleans hx (j := ((x1 &&& (2147483647 : Int32)) % (6 : Int32))) (v := (.int (1 : Int32))) (by rw [hp212_0]; exact Ar214.1) (State.isArrayOf_alike hZ.alike Ar214.2.1) Ar214.2.2 hin214 hat214 (g := (mkF m 234 #[.val (.int x0), .val (.int x1), .val (.ref b1), .val (.ref b49), .val (.ref b98), .val (.ref b147), .val (.int ((x0 &&& (2147483647 : Int32)) % (9 : Int32))), .val (.int ((x1 &&& (2147483647 : Int32)) % (6 : Int32))), .val (.int (1 : Int32)), .unset] [(.int ((x1 &&& (2147483647 : Int32)) % (6 : Int32))), (.ref b147), (.int (1 : Int32))])) rfl rfl (hb hby at_234) _ k) ?_
        show Goes p.tables e below (T212.setTop (mkF m 235 #[.val (.int x0), .val (.int x1), .val (.ref b1), .val (.ref b49), .val (.ref b98), .val (.ref b147), .val (.int ((x0 &&& (2147483647 : Int32)) % (9 : Int32))), .val (.int ((x1 &&& (2147483647 : Int32)) % (6 : Int32))), .val (.int (1 : Int32)), .unset] [(.int (1 : Int32)), (.int (1 : Int32))])) _
        refine Goes.to (fun _ k => XS.icmpNo X212.here hx rfl (hb hby at_235) rfl (teq (by decide : (1 : Int32) = (1 : Int32))).2 k) ?_
        show Goes p.tables e below (T212.setTop (mkF m 238 #[.val (.int x0), .val (.int x1), .val (.ref b1), .val (.ref b49), .val (.ref b98), .val (.ref b147), .val (.int ((x0 &&& (2147483647 : Int32)) % (9 : Int32))), .val (.int ((x1 &&& (2147483647 : Int32)) % (6 : Int32))), .val (.int (1 : Int32)), .unset] [])) _
        refine Goes.to (fun _ k => XS.iconst X212.here hx rfl (hb hby at_238) k) ?_
        show Goes p.tables e below (T212.setTop (mkF m 239 #[.val (.int x0), .val (.int x1), .val (.ref b1), .val (.ref b49), .val (.ref b98), .val (.ref b147), .val (.int ((x0 &&& (2147483647 : Int32)) % (9 : Int32))), .val (.int ((x1 &&& (2147483647 : Int32)) % (6 : Int32))), .val (.int (1 : Int32)), .unset] [(.int (1 : Int32))])) _
        refine Goes.to (fun _ k => XS.goto X212.here hx rfl (pc0 := 239) (pc' := 243) rfl (hb hby at_239) (by decide) (by decide) k) ?_
        show Goes p.tables e below (T212.setTop (mkF m 243 #[.val (.int x0), .val (.int x1), .val (.ref b1), .val (.ref b49), .val (.ref b98), .val (.ref b147), .val (.int ((x0 &&& (2147483647 : Int32)) % (9 : Int32))), .val (.int ((x1 &&& (2147483647 : Int32)) % (6 : Int32))), .val (.int (1 : Int32)), .unset] [(.int (1 : Int32))])) _
        refine Goes.to (fun _ k => XS.istore X212.here hx rfl (hb hby at_243) rfl (l' := #[.val (.int x0), .val (.int x1), .val (.ref b1), .val (.ref b49), .val (.ref b98), .val (.ref b147), .val (.int ((x0 &&& (2147483647 : Int32)) % (9 : Int32))), .val (.int ((x1 &&& (2147483647 : Int32)) % (6 : Int32))), .val (.int (1 : Int32)), .val (.int (1 : Int32))]) rfl k) ?_
        show Goes p.tables e below (T212.setTop (mkF m 245 #[.val (.int x0), .val (.int x1), .val (.ref b1), .val (.ref b49), .val (.ref b98), .val (.ref b147), .val (.int ((x0 &&& (2147483647 : Int32)) % (9 : Int32))), .val (.int ((x1 &&& (2147483647 : Int32)) % (6 : Int32))), .val (.int (1 : Int32)), .val (.int (1 : Int32))] [])) _
        refine Goes.to (fun _ k => XS.iload X212.here hx rfl (hb hby at_245) rfl k) ?_
        show Goes p.tables e below (T212.setTop (mkF m 247 #[.val (.int x0), .val (.int x1), .val (.ref b1), .val (.ref b49), .val (.ref b98), .val (.ref b147), .val (.int ((x0 &&& (2147483647 : Int32)) % (9 : Int32))), .val (.int ((x1 &&& (2147483647 : Int32)) % (6 : Int32))), .val (.int (1 : Int32)), .val (.int (1 : Int32))] [(.int (1 : Int32))])) _
        refine Goes.to (fun _ k => XS.ifNo X212.here hx rfl (hb hby at_247) rfl ((if0 _ _).trans (feq (by decide : ¬ ((1 : Int32) = (0 : Int32)))).1) k) ?_
        show Goes p.tables e below (T212.setTop (mkF m 250 #[.val (.int x0), .val (.int x1), .val (.ref b1), .val (.ref b49), .val (.ref b98), .val (.ref b147), .val (.int ((x0 &&& (2147483647 : Int32)) % (9 : Int32))), .val (.int ((x1 &&& (2147483647 : Int32)) % (6 : Int32))), .val (.int (1 : Int32)), .val (.int (1 : Int32))] [])) _
        refine Goes.to (fun _ k => XS.iload X212.here hx rfl (hb hby at_250) rfl k) ?_
        show Goes p.tables e below (T212.setTop (mkF m 252 #[.val (.int x0), .val (.int x1), .val (.ref b1), .val (.ref b49), .val (.ref b98), .val (.ref b147), .val (.int ((x0 &&& (2147483647 : Int32)) % (9 : Int32))), .val (.int ((x1 &&& (2147483647 : Int32)) % (6 : Int32))), .val (.int (1 : Int32)), .val (.int (1 : Int32))] [(.int (1 : Int32))])) _
        refine Goes.to (fun _ k => XS.ifNo X212.here hx rfl (hb hby at_252) rfl ((if0 _ _).trans (feq (by decide : ¬ ((1 : Int32) = (0 : Int32)))).1) k) ?_
        show Goes p.tables e below (T212.setTop (mkF m 255 #[.val (.int x0), .val (.int x1), .val (.ref b1), .val (.ref b49), .val (.ref b98), .val (.ref b147), .val (.int ((x0 &&& (2147483647 : Int32)) % (9 : Int32))), .val (.int ((x1 &&& (2147483647 : Int32)) % (6 : Int32))), .val (.int (1 : Int32)), .val (.int (1 : Int32))] [])) _
        refine Goes.to (fun _ k => XS.iconst X212.here hx rfl (hb hby at_255) k) ?_
        show Goes p.tables e below (T212.setTop (mkF m 256 #[.val (.int x0), .val (.int x1), .val (.ref b1), .val (.ref b49), .val (.ref b98), .val (.ref b147), .val (.int ((x0 &&& (2147483647 : Int32)) % (9 : Int32))), .val (.int ((x1 &&& (2147483647 : Int32)) % (6 : Int32))), .val (.int (1 : Int32)), .val (.int (1 : Int32))] [(.int (1 : Int32))])) _
        refine Goes.to (fun _ k => XS.goto X212.here hx rfl (pc0 := 256) (pc' := 260) rfl (hb hby at_256) (by decide) (by decide) k) ?_
        show Goes p.tables e below (T212.setTop (mkF m 260 #[.val (.int x0), .val (.int x1), .val (.ref b1), .val (.ref b49), .val (.ref b98), .val (.ref b147), .val (.int ((x0 &&& (2147483647 : Int32)) % (9 : Int32))), .val (.int ((x1 &&& (2147483647 : Int32)) % (6 : Int32))), .val (.int (1 : Int32)), .val (.int (1 : Int32))] [(.int (1 : Int32))])) _
        obtain ⟨fs, hr, hrun, hended, hW, hsame⟩ := X212.leave (v := some (.int (1 : Int32))) (fun h => by rw [Bd.returns] at h; cases h)
        have hv : (some (.int (1 : Int32)) : Option Value) = some (.int (1 : Int32)) := by
          rfl
        exact ⟨_, _, retN X212 hx (t := .boolean) Bd.returns (by simp) (hb hby at_260) hr, hrun, hended, _, _, rfl, ⟨hv, N212⟩, ⟨_, rfl⟩, hW, hsame.mono (by decide) (by decide)⟩
      · exact absurd (Or.inl rfl : a_Style_FORM = a_Style_FORM ∨ a_Style_FORM = a_Style_COOKIE) hc213
    · by_cases hc215 : ((x1 &&& (2147483647 : Int32)) % (6 : Int32)) = (2 : Int32)
      · have hat204 : cl204.slots[(((x1 &&& (2147483647 : Int32)) % (6 : Int32))).toNatClampNeg]? = some (.ref a_Location_QUERYSTRING) := Has.at H204 hin204 (by rw [hc215]; rfl)
        refine Goes.to (fun _ k => Xpt.aaload hx (j := ((x1 &&& (2147483647 : Int32)) % (6 : Int32))) (v := (.ref a_Location_QUERYSTRING)) (by rw [Ept]; exact Ar204.1) (State.isArrayOf_alike hZ.alike Ar204.2.1) rfl Ar204.2.2 hin204 hat204 (g := (mkF m 223 #[.val (.int x0), .val (.int x1), .val (.ref b1), .val (.ref b49), .val (.ref b98), .val (.ref b147), .val (.int ((x0 &&& (2147483647 : Int32)) % (9 : Int32))), .val (.int ((x1 &&& (2147483647 : Int32)) % (6 : Int32))), .val (.int (1 : Int32)), .unset] [(.int ((x1 &&& (2147483647 : Int32)) % (6 : Int32))), (.ref b98)])) rfl rfl (hb hby at_223) _ k) ?_
        show Goes p.tables e below (Tpt.setTop (mkF m 224 #[.val (.int x0), .val (.int x1), .val (.ref b1), .val (.ref b49), .val (.ref b98), .val (.ref b147), .val (.int ((x0 &&& (2147483647 : Int32)) % (9 : Int32))), .val (.int ((x1 &&& (2147483647 : Int32)) % (6 : Int32))), .val (.int (1 : Int32)), .unset] [(.ref a_Location_QUERYSTRING)])) _
        obtain ⟨_, _, ⟨T216, L216, k216, n216⟩, -, X216, ⟨Lc216, hQ216, l216, y216, z216⟩, st216⟩ := Jvm.LawKit.callS Xpt hx (y := (⟨"com/example/unipar/unipar/Style", "defaultFor", "(Lcom/example/unipar/unipar/Location;)Lcom/example/unipar/unipar/Style;"⟩ : MethodName)) hown (mvT hZ (hw _ (List.mem_of_getElem? (i := 47) rfl))) (mvT hZ (hw _ (List.mem_of_getElem? (i := 48) rfl))) (mvT hZ (hw _ (List.mem_of_getElem? (i := 3) rfl))) (mvT hZ (hw _ (List.mem_of_getElem? (i := 49) rfl))) (by decide) (backOf (W := 0) (own_rm2 l Z a0 hw [] a_Location_QUERYSTRING (2 : Int32) a_Style_FORM a_Style_SIMPLE a_M k_M hpt n0 Zpt (E_Location_QUERYSTRING.ext Old203.2) (F_Location_QUERYSTRING_ordinal.ext Old203.2) (S_Style_FORM.ext Old203.2) (S_Style_SIMPLE.ext Old203.2) (SM.ext Old203.2) (VM.ext Old203.2) (by decide) (by decide)) hZ (hw _ (List.mem_of_getElem? (i := 49) rfl)) (hw _ (List.mem_of_getElem? (i := 3) rfl)) (by decide) (by decide)) (g := (mkF m 224 #[.val (.int x0), .val (.int x1), .val (.ref b1), .val (.ref b49), .val (.ref b98), .val (.ref b147), .val (.int ((x0 &&& (2147483647 : Int32)) % (9 : Int32))), .val (.int ((x1 &&& (2147483647 : Int32)) % (6 : Int32))), .val (.int (1 : Int32)), .unset] [(.ref a_Location_QUERYSTRING)])) rfl (by rw [hml]; rfl) (argsL := [(.ref a_Location_QUERYSTRING)]) (rest := []) (lenOf own_pd_pLcomlexampleluniparluniparlLocationsqLcomlexampleluniparluniparlStyles rfl) rfl (by show 2 * 0 + _ ≤ _; exact Nat.le_of_eq rfl) (hb hby at_224) (fun _ _ => ⟨rfl, Ept, (by decide : 4 + 0 ≤ _), (by decide : 30 + 0 ≤ _)⟩)
        dsimp only [Pt.U, Pt.locs, Pt.cells, Pt.slots] at X216 l216 y216 z216 st216 hQ216
        subst l216 y216 z216
        obtain ⟨hv216, Nq216, hp216_0⟩ := hQ216
        have N216 := Fr.app Npt Nq216
        rw [show own_df (2 : Int32) a_Style_FORM a_Style_SIMPLE = a_Style_SIMPLE from by unfold own_df; exact if_neg (by decide)] at hv216
        subst hv216
        refine Goes.to st216 ?_
        show Goes p.tables e below (T216.setTop (mkF m 227 #[.val (.int x0), .val (.int x1), .val (.ref b1), .val (.ref b49), .val (.ref b98), .val (.ref b147), .val (.int ((x0 &&& (2147483647 : Int32)) % (9 : Int32))), .val (.int ((x1 &&& (2147483647 : Int32)) % (6 : Int32))), .val (.int (1 : Int32)), .unset] [(.ref a_Style_SIMPLE)])) _
        obtain ⟨cq217, kq217, q217a, q217b, q217c⟩ := isOf hZ hp216_0 (E_Style_SIMPLE.ext Old203.2)
        obtain ⟨_, _, ⟨T217, L217, k217, n217⟩, -, X217, ⟨Lc217, hQ217, l217, y217, z217⟩, st217⟩ := X216.virtualBack hx (y := (⟨"com/example/unipar/unipar/Style", "explodesByDefault", "()Z"⟩ : MethodName)) (z := (⟨"com/example/unipar/unipar/Style", "explodesByDefault", "()Z"⟩ : MethodName)) hown (mvT hZ (hw _ (List.mem_of_getElem? (i := 40) rfl))) (mvT hZ (hw _ (List.mem_of_getElem? (i := 41) rfl))) (notFace_of_selects (args := #[]) (mvT hZ (hw _ (List.mem_of_getElem? (i := 43) rfl)))) (mvT hZ (hw _ (List.mem_of_getElem? (i := 43) rfl))) (mvT hZ (hw _ (List.mem_of_getElem? (i := 42) rfl))) (by decide) (backOf (W := 0) (own_rm1 l Z a0 hw [] a_Style_SIMPLE a_Style_FORM a_Style_COOKIE hpt n0 Zpt (S_Style_FORM.ext Old203.2) (S_Style_COOKIE.ext Old203.2)) hZ (hw _ (List.mem_of_getElem? (i := 44) rfl)) (hw _ (List.mem_of_getElem? (i := 3) rfl)) (by decide) (by decide)) q217a q217c (g := (mkF m 227 #[.val (.int x0), .val (.int x1), .val (.ref b1), .val (.ref b49), .val (.ref b98), .val (.ref b147), .val (.int ((x0 &&& (2147483647 : Int32)) % (9 : Int32))), .val (.int ((x1 &&& (2147483647 : Int32)) % (6 : Int32))), .val (.int (1 : Int32)), .unset] [(.ref a_Style_SIMPLE)])) rfl (by rw [hml]; rfl) (Steps.refl _) (argsL := []) (rest := []) (lenOf own_pd_pqZ rfl) rfl (by show 2 * 0 + _ ≤ _; exact Nat.le_of_eq rfl) (hb hby at_227) (fun _ _ => ⟨rfl, hp216_0, (by decide : 4 + 0 ≤ _), (by decide : 30 + 0 ≤ _)⟩)
        dsimp only [Pt.U, Pt.locs, Pt.cells, Pt.slots] at X217 l217 y217 z217 st217 hQ217
        subst l217 y217 z217
        obtain ⟨hv217, Nq217, hp217_0⟩ := hQ217
        have N217 := Fr.app N216 Nq217
        by_cases hc218 : a_Style_SIMPLE = a_Style_FORM ∨ a_Style_SIMPLE = a_Style_COOKIE
        · exact absurd hc218 (fun q => q.elim (Ne.symm ne_Style_FORM__Style_SIMPLE) (ne_Style_SIMPLE__Style_COOKIE))
        · rw [if_neg hc218] at hv217
          subst hv217
          refine Goes.tr st217 ?_
          show Goes p.tables e below (T217.setTop (mkF m 230 #[.val (.int x0), .val (.int x1), .val (.ref b1), .val (.ref b49), .val (.ref b98), .val (.ref b147), .val (.int ((x0 &&& (2147483647 : Int32)) % (9 : Int32))), .val (.int ((x1 &&& (2147483647 : Int32)) % (6 : Int32))), .val (.int (1 : Int32)), .unset] [(.int (0 : Int32))])) _
          refine Goes.to (fun _ k => XS.aload X217.here hx rfl (hb hby at_230) rfl rfl k) ?_
          show Goes p.tables e below (T217.setTop (mkF m 232 #[.val (.int x0), .val (.int x1), .val (.ref b1), .val (.ref b49), .val (.ref b98), .val (.ref b147), .val (.int ((x0 &&& (2147483647 : Int32)) % (9 : Int32))), .val (.int ((x1 &&& (2147483647 : Int32)) % (6 : Int32))), .val (.int (1 : Int32)), .unset] [(.ref b147), (.int (0 : Int32))])) _
          refine Goes.to (fun _ k => XS.iload X217.here hx rfl (hb hby at_232) rfl k) ?_
          show Goes p.tables e below (T217.setTop (mkF m 234 #[.val (.int x0), .val (.int x1), .val (.ref b1), .val (.ref b49), .val (.ref b98), .val (.ref b147), .val (.int ((x0 &&& (2147483647 : Int32)) % (9 : Int32))), .val (.int ((x1 &&& (2147483647 : Int32)) % (6 : Int32))), .val (.int (1 : Int32)), .unset] [(.int ((x1 &&& (2147483647 : Int32)) % (6 : Int32))), (.ref b147), (.int (0 : Int32))])) _
          obtain ⟨cl219, Ar219, q219, S219, N219, H219, G219⟩ := id Pf203_3
          have hin219 : ¬ (((x1 &&& (2147483647 : Int32)) % (6 : Int32)) < 0 ∨ cl219.slots.size ≤ (((x1 &&& (2147483647 : Int32)) % (6 : Int32))).toNatClampNeg) := by
            have k1 := rng32 x1
            have k2 : (x1 &&& (2147483647 : Int32)).toInt = x1.toInt % 2147483648 := c_mask x1 (2147483647 : Int32) 31 (by decide) (by decide)
            have k3 := c_irem (x1 &&& (2147483647 : Int32)) (6 : Int32) 6 rfl
            have k4 := rng32 ((x1 &&& (2147483647 : Int32)) % (6 : Int32))
            have k5 : (0 : Int32).toInt = 0 := rfl
            have k6 : ¬ ((x1 &&& (2147483647 : Int32)) % (6 : Int32)).toInt = (0 : Int32).toInt := fun z => hc205 (Int32.toInt_inj.mp z)
            have k7 : (1 : Int32).toInt = 1 := rfl
            have k8 : ¬ ((x1 &&& (2147483647 : Int32)) % (6 : Int32)).toInt = (1 : Int32).toInt := fun z => hc210 (Int32.toInt_inj.mp z)
            have k9 : (2 : Int32).toInt = 2 := rfl
            have k10 : ((x1 &&& (2147483647 : Int32)) % (6 : Int32)).toInt = (2 : Int32).toInt := congrArg Int32.toInt hc215
            have k11 : (6 : Int32).toInt = 6 := rfl
            refine inb_of S219 ⟨fun hq => ?_, Int32.lt_iff_toInt_lt.mpr ?_⟩
            · have hq' := Int32.lt_iff_toInt_lt.mp hq
              omega
            · omega
          have hat219 : cl219.slots[(((x1 &&& (2147483647 : Int32)) % (6 : Int32))).toNatClampNeg]? = some (.int (0 : Int32)) := Has.at H219 hin219 (by rw [hc215]; rfl)
          refine Goes.to (fun _ k => X217.baloadBooleans hx (j := ((x1 &&& (2147483647 : Int32)) % (6 : Int32))) (v := (.int (0 : Int32))) (by rw [hp217_0]; exact Ar219.1) (State.isArrayOf_alike hZ.alike Ar219.2.1) Ar219.2.2 hin219 hat219 (g := (mkF m 234 #[.val (.int x0), .val (.int x1), .val (.ref b1), .val (.ref b49), .val (.ref b98), .val (.ref b147), .val (.int ((x0 &&& (2147483647 : Int32)) % (9 : Int32))), .val (.int ((x1 &&& (2147483647 : Int32)) % (6 : Int32))), .val (.int (1 : Int32)), .unset] [(.int ((x1 &&& (2147483647 : Int32)) % (6 : Int32))), (.ref b147), (.int (0 : Int32))])) rfl rfl (hb hby at_234) _ k) ?_
          show Goes p.tables e below (T217.setTop (mkF m 235 #[.val (.int x0), .val (.int x1), .val (.ref b1), .val (.ref b49), .val (.ref b98), .val (.ref b147), .val (.int ((x0 &&& (2147483647 : Int32)) % (9 : Int32))), .val (.int ((x1 &&& (2147483647 : Int32)) % (6 : Int32))), .val (.int (1 : Int32)), .unset] [(.int (0 : Int32)), (.int (0 : Int32))])) _
          refine Goes.to (fun _ k => XS.icmpNo X217.here hx rfl (hb hby at_235) rfl (teq (by decide : (0 : Int32) = (0 : Int32))).2 k) ?_
          show Goes p.tables e below (T217.setTop (mkF m 238 #[.val (.int x0), .val (.int x1), .val (.ref b1), .val (.ref b49), .val (.ref b98), .val (.ref b147), .val (.int ((x0 &&& (2147483647 : Int32)) % (9 : Int32))), .val (.int ((x1 &&& (2147483647 : Int32)) % (6 : Int32))), .val (.int (1 : Int32)), .unset] [])) _
          refine Goes.to (fun _ k => XS.iconst X217.here hx rfl (hb hby at_238) k) ?_
          show Goes p.tables e below (T217.setTop (mkF m 239 #[.val (.int x0), .val (.int x1), .val (.ref b1), .val (.ref b49), .val (.ref b98), .val (.ref b147), .val (.int ((x0 &&& (2147483647 : Int32)) % (9 : Int32))), .val (.int ((x1 &&& (2147483647 : Int32)) % (6 : Int32))), .val (.int (1 : Int32)), .unset] [(.int (1 : Int32))])) _
          refine Goes.to (fun _ k => XS.goto X217.here hx rfl (pc0 := 239) (pc' := 243) rfl (hb hby at_239) (by decide) (by decide) k) ?_
          show Goes p.tables e below (T217.setTop (mkF m 243 #[.val (.int x0), .val (.int x1), .val (.ref b1), .val (.ref b49), .val (.ref b98), .val (.ref b147), .val (.int ((x0 &&& (2147483647 : Int32)) % (9 : Int32))), .val (.int ((x1 &&& (2147483647 : Int32)) % (6 : Int32))), .val (.int (1 : Int32)), .unset] [(.int (1 : Int32))])) _
          refine Goes.to (fun _ k => XS.istore X217.here hx rfl (hb hby at_243) rfl (l' := #[.val (.int x0), .val (.int x1), .val (.ref b1), .val (.ref b49), .val (.ref b98), .val (.ref b147), .val (.int ((x0 &&& (2147483647 : Int32)) % (9 : Int32))), .val (.int ((x1 &&& (2147483647 : Int32)) % (6 : Int32))), .val (.int (1 : Int32)), .val (.int (1 : Int32))]) rfl k) ?_
          show Goes p.tables e below (T217.setTop (mkF m 245 #[.val (.int x0), .val (.int x1), .val (.ref b1), .val (.ref b49), .val (.ref b98), .val (.ref b147), .val (.int ((x0 &&& (2147483647 : Int32)) % (9 : Int32))), .val (.int ((x1 &&& (2147483647 : Int32)) % (6 : Int32))), .val (.int (1 : Int32)), .val (.int (1 : Int32))] [])) _
          refine Goes.to (fun _ k => XS.iload X217.here hx rfl (hb hby at_245) rfl k) ?_
          show Goes p.tables e below (T217.setTop (mkF m 247 #[.val (.int x0), .val (.int x1), .val (.ref b1), .val (.ref b49), .val (.ref b98), .val (.ref b147), .val (.int ((x0 &&& (2147483647 : Int32)) % (9 : Int32))), .val (.int ((x1 &&& (2147483647 : Int32)) % (6 : Int32))), .val (.int (1 : Int32)), .val (.int (1 : Int32))] [(.int (1 : Int32))])) _
          refine Goes.to (fun _ k => XS.ifNo X217.here hx rfl (hb hby at_247) rfl ((if0 _ _).trans (feq (by decide : ¬ ((1 : Int32) = (0 : Int32)))).1) k) ?_
          show Goes p.tables e below (T217.setTop (mkF m 250 #[.val (.int x0), .val (.int x1), .val (.ref b1), .val (.ref b49), .val (.ref b98), .val (.ref b147), .val (.int ((x0 &&& (2147483647 : Int32)) % (9 : Int32))), .val (.int ((x1 &&& (2147483647 : Int32)) % (6 : Int32))), .val (.int (1 : Int32)), .val (.int (1 : Int32))] [])) _
          refine Goes.to (fun _ k => XS.iload X217.here hx rfl (hb hby at_250) rfl k) ?_
          show Goes p.tables e below (T217.setTop (mkF m 252 #[.val (.int x0), .val (.int x1), .val (.ref b1), .val (.ref b49), .val (.ref b98), .val (.ref b147), .val (.int ((x0 &&& (2147483647 : Int32)) % (9 : Int32))), .val (.int ((x1 &&& (2147483647 : Int32)) % (6 : Int32))), .val (.int (1 : Int32)), .val (.int (1 : Int32))] [(.int (1 : Int32))])) _
          refine Goes.to (fun _ k => XS.ifNo X217.here hx rfl (hb hby at_252) rfl ((if0 _ _).trans (feq (by decide : ¬ ((1 : Int32) = (0 : Int32)))).1) k) ?_
          show Goes p.tables e below (T217.setTop (mkF m 255 #[.val (.int x0), .val (.int x1), .val (.ref b1), .val (.ref b49), .val (.ref b98), .val (.ref b147), .val (.int ((x0 &&& (2147483647 : Int32)) % (9 : Int32))), .val (.int ((x1 &&& (2147483647 : Int32)) % (6 : Int32))), .val (.int (1 : Int32)), .val (.int (1 : Int32))] [])) _
          refine Goes.to (fun _ k => XS.iconst X217.here hx rfl (hb hby at_255) k) ?_
          show Goes p.tables e below (T217.setTop (mkF m 256 #[.val (.int x0), .val (.int x1), .val (.ref b1), .val (.ref b49), .val (.ref b98), .val (.ref b147), .val (.int ((x0 &&& (2147483647 : Int32)) % (9 : Int32))), .val (.int ((x1 &&& (2147483647 : Int32)) % (6 : Int32))), .val (.int (1 : Int32)), .val (.int (1 : Int32))] [(.int (1 : Int32))])) _
          refine Goes.to (fun _ k => XS.goto X217.here hx rfl (pc0 := 256) (pc' := 260) rfl (hb hby at_256) (by decide) (by decide) k) ?_
          show Goes p.tables e below (T217.setTop (mkF m 260 #[.val (.int x0), .val (.int x1), .val (.ref b1), .val (.ref b49), .val (.ref b98), .val (.ref b147), .val (.int ((x0 &&& (2147483647 : Int32)) % (9 : Int32))), .val (.int ((x1 &&& (2147483647 : Int32)) % (6 : Int32))), .val (.int (1 : Int32)), .val (.int (1 : Int32))] [(.int (1 : Int32))])) _
          obtain ⟨fs, hr, hrun, hended, hW, hsame⟩ := X217.leave (v := some (.int (1 : Int32))) (fun h => by rw [Bd.returns] at h; cases h)
          have hv : (some (.int (1 : Int32)) : Option Value) = some (.int (1 : Int32)) := by
            rfl
          exact ⟨_, _, retN X217 hx (t := .boolean) Bd.returns (by simp) (hb hby at_260) hr, hrun, hended, _, _, rfl, ⟨hv, N217⟩, ⟨_, rfl⟩, hW, hsame.mono (by decide) (by decide)⟩
      · by_cases hc220 : ((x1 &&& (2147483647 : Int32)) % (6 : Int32)) = (3 : Int32)
        · have hat204 : cl204.slots[(((x1 &&& (2147483647 : Int32)) % (6 : Int32))).toNatClampNeg]? = some (.ref a_Location_HEADER) := Has.at H204 hin204 (by rw [hc220]; rfl)
          refine Goes.to (fun _ k => Xpt.aaload hx (j := ((x1 &&& (2147483647 : Int32)) % (6 : Int32))) (v := (.ref a_Location_HEADER)) (by rw [Ept]; exact Ar204.1) (State.isArrayOf_alike hZ.alike Ar204.2.1) rfl Ar204.2.2 hin204 hat204 (g := (mkF m 223 #[.val (.int x0), .val (.int x1), .val (.ref b1), .val (.ref b49), .val (.ref b98), .val (.ref b147), .val (.int ((x0 &&& (2147483647 : Int32)) % (9 : Int32))), .val (.int ((x1 &&& (2147483647 : Int32)) % (6 : Int32))), .val (.int (1 : Int32)), .unset] [(.int ((x1 &&& (2147483647 : Int32)) % (6 : Int32))), (.ref b98)])) rfl rfl (hb hby at_223) _ k) ?_
          show Goes p.tables e below (Tpt.setTop (mkF m 224 #[.val (.int x0), .val (.int x1), .val (.ref b1), .val (.ref b49), .val (.ref b98), .val (.ref b147), .val (.int ((x0 &&& (2147483647 : Int32)) % (9 : Int32))), .val (.int ((x1 &&& (2147483647 : Int32)) % (6 : Int32))), .val (.int (1 : Int32)), .unset] [(.ref a_Location_HEADER)])) _
          obtain ⟨_, _, ⟨T221, L221, k221, n221⟩, -, X221, ⟨Lc221, hQ221, l221, y221, z221⟩, st221⟩ := Jvm.LawKit.callS Xpt hx (y := (⟨"com/example/unipar/unipar/Style", "defaultFor", "(Lcom/example/unipar/unipar/Location;)Lcom/example/unipar/unipar/Style;"⟩ : MethodName)) hown (mvT hZ (hw _ (List.mem_of_getElem? (i := 47) rfl))) (mvT hZ (hw _ (List.mem_of_getElem? (i := 48) rfl))) (mvT hZ (hw _ (List.mem_of_getElem? (i := 3) rfl))) (mvT hZ (hw _ (List.mem_of_getElem? (i := 49) rfl))) (by decide) (backOf (W := 0) (own_rm2 l Z a0 hw [] a_Location_HEADER (3 : Int32) a_Style_FORM a_Style_SIMPLE a_M k_M hpt n0 Zpt (E_Location_HEADER.ext Old203.2) (F_Location_HEADER_ordinal.ext Old203.2) (S_Style_FORM.ext Old203.2) (S_Style_SIMPLE.ext Old203.2) (SM.ext Old203.2) (VM.ext Old203.2) (by decide) (by decide)) hZ (hw _ (List.mem_of_getElem? (i := 49) rfl)) (hw _ (List.mem_of_getElem? (i := 3) rfl)) (by decide) (by decide)) (g := (mkF m 224 #[.val (.int x0), .val (.int x1), .val (.ref b1), .val (.ref b49), .val (.ref b98), .val (.ref b147), .val (.int ((x0 &&& (2147483647 : Int32)) % (9 : Int32))), .val (.int ((x1 &&& (2147483647 : Int32)) % (6 : Int32))), .val (.int (1 : Int32)), .unset] [(.ref a_Location_HEADER)])) rfl (by rw [hml]; rfl) (argsL := [(.ref a_Location_HEADER)]) (rest := []) (lenOf own_pd_pLcomlexampleluniparluniparlLocationsqLcomlexampleluniparluniparlStyles rfl) rfl (by show 2 * 0 + _ ≤ _; exact Nat.le_of_eq rfl) (hb hby at_224) (fun _ _ => ⟨rfl, Ept, (by decide : 4 + 0 ≤ _), (by decide : 30 + 0 ≤ _)⟩)
          dsimp only [Pt.U, Pt.locs, Pt.cells, Pt.slots] at X221 l221 y221 z221 st221 hQ221
          subst l221 y221 z221
          obtain ⟨hv221, Nq221, hp221_0⟩ := hQ221
          have N221 := Fr.app Npt Nq221
          rw [show own_df (3 : Int32) a_Style_FORM a_Style_SIMPLE = a_Style_SIMPLE from by unfold own_df; exact if_neg (by decide)] at hv221
          subst hv221
          refine Goes.to st221 ?_
          show Goes p.tables e below (T221.setTop (mkF m 227 #[.val (.int x0), .val (.int x1), .val (.ref b1), .val (.ref b49), .val (.ref b98), .val (.ref b147), .val (.int ((x0 &&& (2147483647 : Int32)) % (9 : Int32))), .val (.int ((x1 &&& (2147483647 : Int32)) % (6 : Int32))), .val (.int (1 : Int32)), .unset] [(.ref a_Style_SIMPLE)])) _
          obtain ⟨cq222, kq222, q222a, q222b, q222c⟩ := isOf hZ hp221_0 (E_Style_SIMPLE.ext Old203.2)
          obtain ⟨_, _, ⟨T222, L222, k222, n222⟩, -, X222, ⟨Lc222, hQ222, l222, y222, z222⟩, st222⟩ := X221.virtualBack hx (y := (⟨"com/example/unipar/unipar/Style", "explodesByDefault", "()Z"⟩ : MethodName)) (z := (⟨"com/example/unipar/unipar/Style", "explodesByDefault", "()Z"⟩ : MethodName)) hown (mvT hZ (hw _ (List.mem_of_getElem? (i := 40) rfl))) (mvT hZ (hw _ (List.mem_of_getElem? (i := 41) rfl))) (notFace_of_selects (args := #[]) (mvT hZ (hw _ (List.mem_of_getElem? (i := 43) rfl)))) (mvT hZ (hw _ (List.mem_of_getElem? (i := 43) rfl))) (mvT hZ (hw _ (List.mem_of_getElem? (i := 42) rfl))) (by decide) (backOf (W := 0) (own_rm1 l Z a0 hw [] a_Style_SIMPLE a_Style_FORM a_Style_COOKIE hpt n0 Zpt (S_Style_FORM.ext Old203.2) (S_Style_COOKIE.ext Old203.2)) hZ (hw _ (List.mem_of_getElem? (i := 44) rfl)) (hw _ (List.mem_of_getElem? (i := 3) rfl)) (by decide) (by decide)) q222a q222c (g := (mkF m 227 #[.val (.int x0), .val (.int x1), .val (.ref b1), .val (.ref b49), .val (.ref b98), .val (.ref b147), .val (.int ((x0 &&& (2147483647 : Int32)) % (9 : Int32))), .val (.int ((x1 &&& (2147483647 : Int32)) % (6 : Int32))), .val (.int (1 : Int32)), .unset] [(.ref a_Style_SIMPLE)])) rfl (by rw [hml]; rfl) (Steps.refl _) (argsL := []) (rest := []) (lenOf own_pd_pqZ rfl) rfl (by show 2 * 0 + _ ≤ _; exact Nat.le_of_eq rfl) (hb hby at_227) (fun _ _ => ⟨rfl, hp221_0, (by decide : 4 + 0 ≤ _), (by decide : 30 + 0 ≤ _)⟩)
          dsimp only [Pt.U, Pt.locs, Pt.cells, Pt.slots] at X222 l222 y222 z222 st222 hQ222
          subst l222 y222 z222
          obtain ⟨hv222, Nq222, hp222_0⟩ := hQ222
          have N222 := Fr.app N221 Nq222
          by_cases hc223 : a_Style_SIMPLE = a_Style_FORM ∨ a_Style_SIMPLE = a_Style_COOKIE
          · exact absurd hc223 (fun q => q.elim (Ne.symm ne_Style_FORM__Style_SIMPLE) (ne_Style_SIMPLE__Style_COOKIE))
          · rw [if_neg hc223] at hv222
            subst hv222
            refine Goes.tr st222 ?_
            show Goes p.tables e below (T222.setTop (mkF m 230 #[.val (.int x0), .val (.int x1), .val (.ref b1), .val (.ref b49), .val (.ref b98), .val (.ref b147), .val (.int ((x0 &&& (2147483647 : Int32)) % (9 : Int32))), .val (.int ((x1 &&& (2147483647 : Int32)) % (6 : Int32))), .val (.int (1 : Int32)), .unset] [(.int (0 : Int32))])) _
            refine Goes.to (fun _ k => XS.aload X222.here hx rfl (hb hby at_230) rfl rfl k) ?_
            show Goes p.tables e below (T222.setTop (mkF m 232 #[.val (.int x0), .val (.int x1), .val (.ref b1), .val (.ref b49), .val (.ref b98), .val (.ref b147), .val (.int ((x0 &&& (2147483647 : Int32)) % (9 : Int32))), .val (.int ((x1 &&& (2147483647 : Int32)) % (6 : Int32))), .val (.int (1 : Int32)), .unset] [(.ref b147), (.int (0 : Int32))])) _
            refine Goes.to (fun _ k => XS.iload X222.here hx rfl (hb hby at_232) rfl k) ?_
            show Goes p.tables e below (T222.setTop (mkF m 234 #[.val (.int x0), .val (.int x1), .val (.ref b1), .val (.ref b49), .val (.ref b98), .val (.ref b147), .val (.int ((x0 &&& (2147483647 : Int32)) % (9 : Int32))), .val (.int ((x1 &&& (2147483647 : Int32)) % (6 : Int32))), .val (.int (1 : Int32)), .unset] [(.int ((x1 &&& (2147483647 : Int32)) % (6 : Int32))), (.ref b147), (.int (0 : Int32))])) _
            obtain ⟨cl224, Ar224, q224, S224, N224, H224, G224⟩ := id Pf203_3
            have hin224 : ¬ (((x1 &&& (2147483647 : Int32)) % (6 : Int32)) < 0 ∨ cl224.slots.size ≤ (((x1 &&& (2147483647 : Int32)) % (6 : Int32))).toNatClampNeg) := by
              have k1 := rng32 x1
              have k2 : (x1 &&& (2147483647 : Int32)).toInt = x1.toInt % 2147483648 := c_mask x1 (2147483647 : Int32) 31 (by decide) (by decide)
              have k3 := c_irem (x1 &&& (2147483647 : Int32)) (6 : Int32) 6 rfl
              have k4 := rng32 ((x1 &&& (2147483647 : Int32)) % (6 : Int32))
              have k5 : (0 : Int32).toInt = 0 := rfl
              have k6 : ¬ ((x1 &&& (2147483647 : Int32)) % (6 : Int32)).toInt = (0 : Int32).toInt := fun z => hc205 (Int32.toInt_inj.mp z)
              have k7 : (1 : Int32).toInt = 1 := rfl
              have k8 : ¬ ((x1 &&& (2147483647 : Int32)) % (6 : Int32)).toInt = (1 : Int32).toInt := fun z => hc210 (Int32.toInt_inj.mp z)
              have k9 : (2 : Int32).toInt = 2 := rfl
              have k10 : ¬ ((x1 &&& (2147483647 : Int32)) % (6 : Int32)).toInt = (2 : Int32).toInt := fun z => hc215 (Int32.toInt_inj.mp z)
              have k11 : (3 : Int32).toInt = 3 := rfl
              have k12 : ((x1 &&& (2147483647 : Int32)) % (6 : Int32)).toInt = (3 : Int32).toInt := congrArg Int32.toInt hc220
              have k13 : (6 : Int32).toInt = 6 := rfl
              refine inb_of S224 ⟨fun hq => ?_, Int32.lt_iff_toInt_lt.mpr ?_⟩
              · have hq' := Int32.lt_iff_toInt_lt.mp hq
                omega
              · omega
            have hat224 : cl224.slots[(((x1 &&& (2147483647 : Int32)) % (6 : Int32))).toNatClampNeg]? = some (.int (0 : Int32)) := Has.at H224 hin224 (by rw [hc220]; rfl)
            refine Goes.to (fun _ k => X222.baloadBooleans hx (j := ((x1 &&& (2147483647 : Int32)) % (6 : Int32))) (v := (.int (0 : Int32))) (by rw [hp222_0]; exact Ar224.1) (State.isArrayOf_alike hZ.alike Ar224.2.1) Ar224.2.2 hin224 hat224 (g := (mkF m 234 #[.val (.int x0), .val (.int x1), .val (.ref b1), .val (.ref b49), .val (.ref b98), .val (.ref b147), .val (.int ((x0 &&& (2147483647 : Int32)) % (9 : Int32))), .val (.int ((x1 &&& (2147483647 : Int32)) % (6 : Int32))), .val (.int (1 : Int32)), .unset] [(.int ((x1 &&& (2147483647 : Int32)) % (6 : Int32))), (.ref b147), (.int (0 : Int32))])) rfl rfl (hb hby at_234) _ k) ?_
            show Goes p.tables e below (T222.setTop (mkF m 235 #[.val (.int x0), .val (.int x1), .val (.ref b1), .val (.ref b49), .val (.ref b98), .val (.ref b147), .val (.int ((x0 &&& (2147483647 : Int32)) % (9 : Int32))), .val (.int ((x1 &&& (2147483647 : Int32)) % (6 : Int32))), .val (.int (1 : Int32)), .unset] [(.int (0 : Int32)), (.int (0 : Int32))])) _
            refine Goes.to (fun _ k => XS.icmpNo X222.here hx rfl (hb hby at_235) rfl (teq (by decide : (0 : Int32) = (0 : Int32))).2 k) ?_
            show Goes p.tables e below (T222.setTop (mkF m 238 #[.val (.int x0), .val (.int x1), .val (.ref b1), .val (.ref b49), .val (.ref b98), .val (.ref b147), .val (.int ((x0 &&& (2147483647 : Int32)) % (9 : Int32))), .val (.int ((x1 &&& (2147483647 : Int32)) % (6 : Int32))), .val (.int (1 : Int32)), .unset] [])) _
            refine Goes.to (fun _ k => XS.iconst X222.here hx rfl (hb hby at_238) k) ?_
            show Goes p.tables e below (T222.setTop (mkF m 239 #[.val (.int x0), .val (.int x1), .val (.ref b1), .val (.ref b49), .val (.ref b98), .val (.ref b147), .val (.int ((x0 &&& (2147483647 : Int32)) % (9 : Int32))), .val (.int ((x1 &&& (2147483647 : Int32)) % (6 : Int32))), .val (.int (1 : Int32)), .unset] [(.int (1 : Int32))])) _
            refine Goes.to (fun _ k => XS.goto X222.here hx rfl (pc0 := 239) (pc' := 243) rfl (hb hby at_239) (by decide) (by decide) k) ?_
            show Goes p.tables e below (T222.setTop (mkF m 243 #[.val (.int x0), .val (.int x1), .val (.ref b1), .val (.ref b49), .val (.ref b98), .val (.ref b147), .val (.int ((x0 &&& (2147483647 : Int32)) % (9 : Int32))), .val (.int ((x1 &&& (2147483647 : Int32)) % (6 : Int32))), .val (.int (1 : Int32)), .unset] [(.int (1 : Int32))])) _
            refine Goes.to (fun _ k => XS.istore X222.here hx rfl (hb hby at_243) rfl (l' := #[.val (.int x0), .val (.int x1), .val (.ref b1), .val (.ref b49), .val (.ref b98), .val (.ref b147), .val (.int ((x0 &&& (2147483647 : Int32)) % (9 : Int32))), .val (.int ((x1 &&& (2147483647 : Int32)) % (6 : Int32))), .val (.int (1 : Int32)), .val (.int (1 : Int32))]) rfl k) ?_
            show Goes p.tables e below (T222.setTop (mkF m 245 #[.val (.int x0), .val (.int x1), .val (.ref b1), .val (.ref b49), .val (.ref b98), .val (.ref b147), .val (.int ((x0 &&& (2147483647 : Int32)) % (9 : Int32))), .val (.int ((x1 &&& (2147483647 : Int32)) % (6 : Int32))), .val (.int (1 : Int32)), .val (.int (1 : Int32))] [])) _
            refine Goes.to (fun _ k => XS.iload X222.here hx rfl (hb hby at_245) rfl k) ?_
            show Goes p.tables e below (T222.setTop (mkF m 247 #[.val (.int x0), .val (.int x1), .val (.ref b1), .val (.ref b49), .val (.ref b98), .val (.ref b147), .val (.int ((x0 &&& (2147483647 : Int32)) % (9 : Int32))), .val (.int ((x1 &&& (2147483647 : Int32)) % (6 : Int32))), .val (.int (1 : Int32)), .val (.int (1 : Int32))] [(.int (1 : Int32))])) _
            refine Goes.to (fun _ k => XS.ifNo X222.here hx rfl (hb hby at_247) rfl ((if0 _ _).trans (feq (by decide : ¬ ((1 : Int32) = (0 : Int32)))).1) k) ?_
            show Goes p.tables e below (T222.setTop (mkF m 250 #[.val (.int x0), .val (.int x1), .val (.ref b1), .val (.ref b49), .val (.ref b98), .val (.ref b147), .val (.int ((x0 &&& (2147483647 : Int32)) % (9 : Int32))), .val (.int ((x1 &&& (2147483647 : Int32)) % (6 : Int32))), .val (.int (1 : Int32)), .val (.int (1 : Int32))] [])) _
            refine Goes.to (fun _ k => XS.iload X222.here hx rfl (hb hby at_250) rfl k) ?_
            show Goes p.tables e below (T222.setTop (mkF m 252 #[.val (.int x0), .val (.int x1), .val (.ref b1), .val (.ref b49), .val (.ref b98), .val (.ref b147), .val (.int ((x0 &&& (2147483647 : Int32)) % (9 : Int32))), .val (.int ((x1 &&& (2147483647 : Int32)) % (6 : Int32))), .val (.int (1 : Int32)), .val (.int (1 : Int32))] [(.int (1 : Int32))])) _
            refine Goes.to (fun _ k => XS.ifNo X222.here hx rfl (hb hby at_252) rfl ((if0 _ _).trans (feq (by decide : ¬ ((1 : Int32) = (0 : Int32)))).1) k) ?_
            show Goes p.tables e below (T222.setTop (mkF m 255 #[.val (.int x0), .val (.int x1), .val (.ref b1), .val (.ref b49), .val (.ref b98), .val (.ref b147), .val (.int ((x0 &&& (2147483647 : Int32)) % (9 : Int32))), .val (.int ((x1 &&& (2147483647 : Int32)) % (6 : Int32))), .val (.int (1 : Int32)), .val (.int (1 : Int32))] [])) _
            refine Goes.to (fun _ k => XS.iconst X222.here hx rfl (hb hby at_255) k) ?_
            show Goes p.tables e below (T222.setTop (mkF m 256 #[.val (.int x0), .val (.int x1), .val (.ref b1), .val (.ref b49), .val (.ref b98), .val (.ref b147), .val (.int ((x0 &&& (2147483647 : Int32)) % (9 : Int32))), .val (.int ((x1 &&& (2147483647 : Int32)) % (6 : Int32))), .val (.int (1 : Int32)), .val (.int (1 : Int32))] [(.int (1 : Int32))])) _
            refine Goes.to (fun _ k => XS.goto X222.here hx rfl (pc0 := 256) (pc' := 260) rfl (hb hby at_256) (by decide) (by decide) k) ?_
            show Goes p.tables e below (T222.setTop (mkF m 260 #[.val (.int x0), .val (.int x1), .val (.ref b1), .val (.ref b49), .val (.ref b98), .val (.ref b147), .val (.int ((x0 &&& (2147483647 : Int32)) % (9 : Int32))), .val (.int ((x1 &&& (2147483647 : Int32)) % (6 : Int32))), .val (.int (1 : Int32)), .val (.int (1 : Int32))] [(.int (1 : Int32))])) _
            obtain ⟨fs, hr, hrun, hended, hW, hsame⟩ := X222.leave (v := some (.int (1 : Int32))) (fun h => by rw [Bd.returns] at h; cases h)
            have hv : (some (.int (1 : Int32)) : Option Value) = some (.int (1 : Int32)) := by
              rfl
            exact ⟨_, _, retN X222 hx (t := .boolean) Bd.returns (by simp) (hb hby at_260) hr, hrun, hended, _, _, rfl, ⟨hv, N222⟩, ⟨_, rfl⟩, hW, hsame.mono (by decide) (by decide)⟩
        · by_cases hc225 : ((x1 &&& (2147483647 : Int32)) % (6 : Int32)) = (4 : Int32)
          · have hat204 : cl204.slots[(((x1 &&& (2147483647 : Int32)) % (6 : Int32))).toNatClampNeg]? = some (.ref a_Location_COOKIE) := Has.at H204 hin204 (by rw [hc225]; rfl)
            refine Goes.to (fun _ k => Xpt.aaload hx (j := ((x1 &&& (2147483647 : Int32)) % (6 : Int32))) (v := (.ref a_Location_COOKIE)) (by rw [Ept]; exact Ar204.1) (State.isArrayOf_alike hZ.alike Ar204.2.1) rfl Ar204.2.2 hin204 hat204 (g := (mkF m 223 #[.val (.int x0), .val (.int x1), .val (.ref b1), .val (.ref b49), .val (.ref b98), .val (.ref b147), .val (.int ((x0 &&& (2147483647 : Int32)) % (9 : Int32))), .val (.int ((x1 &&& (2147483647 : Int32)) % (6 : Int32))), .val (.int (1 : Int32)), .unset] [(.int ((x1 &&& (2147483647 : Int32)) % (6 : Int32))), (.ref b98)])) rfl rfl (hb hby at_223) _ k) ?_
            show Goes p.tables e below (Tpt.setTop (mkF m 224 #[.val (.int x0), .val (.int x1), .val (.ref b1), .val (.ref b49), .val (.ref b98), .val (.ref b147), .val (.int ((x0 &&& (2147483647 : Int32)) % (9 : Int32))), .val (.int ((x1 &&& (2147483647 : Int32)) % (6 : Int32))), .val (.int (1 : Int32)), .unset] [(.ref a_Location_COOKIE)])) _
            obtain ⟨_, _, ⟨T226, L226, k226, n226⟩, -, X226, ⟨Lc226, hQ226, l226, y226, z226⟩, st226⟩ := Jvm.LawKit.callS Xpt hx (y := (⟨"com/example/unipar/unipar/Style", "defaultFor", "(Lcom/example/unipar/unipar/Location;)Lcom/example/unipar/unipar/Style;"⟩ : MethodName)) hown (mvT hZ (hw _ (List.mem_of_getElem? (i := 47) rfl))) (mvT hZ (hw _ (List.mem_of_getElem? (i := 48) rfl))) (mvT hZ (hw _ (List.mem_of_getElem? (i := 3) rfl))) (mvT hZ (hw _ (List.mem_of_getElem? (i := 49) rfl))) (by decide) (backOf (W := 0) (own_rm2 l Z a0 hw [] a_Location_COOKIE (4 : Int32) a_Style_FORM a_Style_SIMPLE a_M k_M hpt n0 Zpt (E_Location_COOKIE.ext Old203.2) (F_Location_COOKIE_ordinal.ext Old203.2) (S_Style_FORM.ext Old203.2) (S_Style_SIMPLE.ext Old203.2) (SM.ext Old203.2) (VM.ext Old203.2) (by decide) (by decide)) hZ (hw _ (List.mem_of_getElem? (i := 49) rfl)) (hw _ (List.mem_of_getElem? (i := 3) rfl)) (by decide) (by decide)) (g := (mkF m 224 #[.val (.int x0), .val (.int x1), .val (.ref b1), .val (.ref b49), .val (.ref b98), .val (.ref b147), .val (.int ((x0 &&& (2147483647 : Int32)) % (9 : Int32))), .val (.int ((x1 &&& (2147483647 : Int32)) % (6 : Int32))), .val (.int (1 : Int32)), .unset] [(.ref a_Location_COOKIE)])) rfl (by rw [hml]; rfl) (argsL := [(.ref a_Location_COOKIE)]) (rest := []) (lenOf own_pd_pLcomlexampleluniparluniparlLocationsqLcomlexampleluniparluniparlStyles rfl) rfl (by show 2 * 0 + _ ≤ _; exact Nat.le_of_eq rfl) (hb hby at_224) (fun _ _ => ⟨rfl, Ept, (by decide : 4 + 0 ≤ _), (by decide : 30 + 0 ≤ _)⟩)
            dsimp only [Pt.U, Pt.locs, Pt.cells, Pt.slots] at X226 l226 y226 z226 st226 hQ226
            subst l226 y226 z226
            obtain ⟨hv226, Nq226, hp226_0⟩ := hQ226
            have N226 := Fr.app Npt Nq226
            rw [show own_df (4 : Int32) a_Style_FORM a_Style_SIMPLE = a_Style_FORM from by unfold own_df; exact if_pos (by decide)] at hv226
            subst hv226
            refine Goes.to st226 ?_
            show Goes p.tables e below (T226.setTop (mkF m 227 #[.val (.int x0), .val (.int x1), .val (.ref b1), .val (.ref b49), .val (.ref b98), .val (.ref b147), .val (.int ((x0 &&& (2147483647 : Int32)) % (9 : Int32))), .val (.int ((x1 &&& (2147483647 : Int32)) % (6 : Int32))), .val (.int (1 : Int32)), .unset] [(.ref a_Style_FORM)])) _
            obtain ⟨cq227, kq227, q227a, q227b, q227c⟩ := isOf hZ hp226_0 (E_Style_FORM.ext Old203.2)
            obtain ⟨_, _, ⟨T227, L227, k227, n227⟩, -, X227, ⟨Lc227, hQ227, l227, y227, z227⟩, st227⟩ := X226.virtualBack hx (y := (⟨"com/example/unipar/unipar/Style", "explodesByDefault", "()Z"⟩ : MethodName)) (z := (⟨"com/example/unipar/unipar/Style", "explodesByDefault", "()Z"⟩ : MethodName)) hown (mvT hZ (hw _ (List.mem_of_getElem? (i := 40) rfl))) (mvT hZ (hw _ (List.mem_of_getElem? (i := 41) rfl))) (notFace_of_selects (args := #[]) (mvT hZ (hw _ (List.mem_of_getElem? (i := 43) rfl)))) (mvT hZ (hw _ (List.mem_of_getElem? (i := 43) rfl))) (mvT hZ (hw _ (List.mem_of_getElem? (i := 42) rfl))) (by decide) (backOf (W := 0) (own_rm1 l Z a0 hw [] a_Style_FORM a_Style_FORM a_Style_COOKIE hpt n0 Zpt (S_Style_FORM.ext Old203.2) (S_Style_COOKIE.ext Old203.2)) hZ (hw _ (List.mem_of_getElem? (i := 44) rfl)) (hw _ (List.mem_of_getElem? (i := 3) rfl)) (by decide) (by decide)) q227a q227c (g := (mkF m 227 #[.val (.int x0), .val (.int x1), .val (.ref b1), .val (.ref b49), .val (.ref b98), .val (.ref b147), .val (.int ((x0 &&& (2147483647 : Int32)) % (9 : Int32))), .val (.int ((x1 &&& (2147483647 : Int32)) % (6 : Int32))), .val (.int (1 : Int32)), .unset] [(.ref a_Style_FORM)])) rfl (by rw [hml]; rfl) (Steps.refl _) (argsL := []) (rest := []) (lenOf own_pd_pqZ rfl) rfl (by show 2 * 0 + _ ≤ _; exact Nat.le_of_eq rfl) (hb hby at_227) (fun _ _ => ⟨rfl, hp226_0, (by decide : 4 + 0 ≤ _), (by decide : 30 + 0 ≤ _)⟩)
            dsimp only [Pt.U, Pt.locs, Pt.cells, Pt.slots] at X227 l227 y227 z227 st227 hQ227
            subst l227 y227 z227
            obtain ⟨hv227, Nq227, hp227_0⟩ := hQ227
            have N227 := Fr.app N226 Nq227
            by_cases hc228 : a_Style_FORM = a_Style_FORM ∨ a_Style_FORM = a_Style_COOKIE
            · rw [if_pos hc228] at hv227
              subst hv227
              refine Goes.tr st227 ?_
              show Goes p.tables e below (T227.setTop (mkF m 230 #[.val (.int x0), .val (.int x1), .val (.ref b1), .val (.ref b49), .val (.ref b98), .val (.ref b147), .val (.int ((x0 &&& (2147483647 : Int32)) % (9 : Int32))), .val (.int ((x1 &&& (2147483647 : Int32)) % (6 : Int32))), .val (.int (1 : Int32)), .unset] [(.int (1 : Int32))])) _
              refine Goes.to (fun _ k => XS.aload X227.here hx rfl (hb hby at_230) rfl rfl k) ?_
              show Goes p.tables e below (T227.setTop (mkF m 232 #[.val (.int x0), .val (.int x1), .val (.ref b1), .val (.ref b49), .val (.ref b98), .val (.ref b147), .val (.int ((x0 &&& (2147483647 : Int32)) % (9 : Int32))), .val (.int ((x1 &&& (2147483647 : Int32)) % (6 : Int32))), .val (.int (1 : Int32)), .unset] [(.ref b147), (.int (1 : Int32))])) _
              refine Goes.to (fun _ k => XS.iload X227.here hx rfl (hb hby at_232) rfl k) ?_
              show Goes p.tables e below (T227.setTop (mkF m 234 #[.val (.int x0), .val (.int x1), .val (.ref b1), .val (.ref b49), .val (.ref b98), .val (.ref b147), .val (.int ((x0 &&& (2147483647 : Int32)) % (9 : Int32))), .val (.int ((x1 &&& (2147483647 : Int32)) % (6 : Int32))), .val (.int (1 : Int32)), .unset] [(.int ((x1 &&& (2147483647 : Int32)) % (6 : Int32))), (.ref b147), (.int (1 : Int32))])) _
              obtain ⟨cl229, Ar229, q229, S229, N229, H229, G229⟩ := id Pf203_3
              have hin229 : ¬ (((x1 &&& (2147483647 : Int32)) % (6 : Int32)) < 0 ∨ cl229.slots.size ≤ (((x1 &&& (2147483647 : Int32)) % (6 : Int32))).toNatClampNeg) := by
                have k1 := rng32 x1
                have k2 : (x1 &&& (2147483647 : Int32)).toInt = x1.toInt % 2147483648 := c_mask x1 (2147483647 : Int32) 31 (by decide) (by decide)
                have k3 := c_irem (x1 &&& (2147483647 : Int32)) (6 : Int32) 6 rfl
                have k4 := rng32 ((x1 &&& (2147483647 : Int32)) % (6 : Int32))
                have k5 : (0 : Int32).toInt = 0 := rfl
                have k6 : ¬ ((x1 &&& (2147483647 : Int32)) % (6 : Int32)).toInt = (0 : Int32).toInt := fun z => hc205 (Int32.toInt_inj.mp z)
                have k7 : (1 : Int32).toInt = 1 := rfl
                have k8 : ¬ ((x1 &&& (2147483647 : Int32)) % (6 : Int32)).toInt = (1 : Int32).toInt := fun z => hc210 (Int32.toInt_inj.mp z)
                have k9 : (2 : Int32).toInt = 2 := rfl
                have k10 : ¬ ((x1 &&& (2147483647 : Int32)) % (6 : Int32)).toInt = (2 : Int32).toInt := fun z => hc215 (Int32.toInt_inj.mp z)
                have k11 : (3 : Int32).toInt = 3 := rfl
                have k12 : ¬ ((x1 &&& (2147483647 : Int32)) % (6 : Int32)).toInt = (3 : Int32).toInt := fun z => hc220 (Int32.toInt_inj.mp z)
                have k13 : (4 : Int32).toInt = 4 := rfl
                have k14 : ((x1 &&& (2147483647 : Int32)) % (6 : Int32)).toInt = (4 : Int32).toInt := congrArg Int32.toInt hc225
                have k15 : (6 : Int32).toInt = 6 := rfl
                refine inb_of S229 ⟨fun hq => ?_, Int32.lt_iff_toInt_lt.mpr ?_⟩
                · have hq' := Int32.lt_iff_toInt_lt.mp hq
                  omega
                · omega
              have hat229 : cl229.slots[(((x1 &&& (2147483647 : Int32)) % (6 : Int32))).toNatClampNeg]? = some (.int (1 : Int32)) := Has.at H229 hin229 (by rw [hc225]; rfl)
              refine Goes.to (fun _ k => X227.baloadBooleans hx (j := ((x1 &&& (2147483647 : Int32)) % (6 : Int32))) (v := (.int (1 : Int32))) (by rw [hp227_0]; exact Ar229.1) (State.isArrayOf_alike hZ.alike Ar229.2.1) Ar229.2.2 hin229 hat229 (g := (mkF m 234 #[.val (.int x0), .val (.int x1), .val (.ref b1), .val (.ref b49), .val (.ref b98), .val (.ref b147), .val (.int ((x0 &&& (2147483647 : Int32)) % (9 : Int32))), .val (.int ((x1 &&& (2147483647 : Int32)) % (6 : Int32))), .val (.int (1 : Int32)), .unset] [(.int ((x1 &&& (2147483647 : Int32)) % (6 : Int32))), (.ref b147), (.int (1 : Int32))])) rfl rfl (hb hby at_234) _ k) ?_
              show Goes p.tables e below (T227.setTop (mkF m 235 #[.val (.int x0), .val (.int x1), .val (.ref b1), .val (.ref b49), .val (.ref b98), .val (.ref b147), .val (.int ((x0 &&& (2147483647 : Int32)) % (9 : Int32))), .val (.int ((x1 &&& (2147483647 : Int32)) % (6 : Int32))), .val (.int (1 : Int32)), .unset] [(.int (1 : Int32)), (.int (1 : Int32))])) _
              refine Goes.to (fun _ k => XS.icmpNo X227.here hx rfl (hb hby at_235) rfl (teq (by decide : (1 : Int32) = (1 : Int32))).2 k) ?_
              show Goes p.tables e below (T227.setTop (mkF m 238 #[.val (.int x0), .val (.int x1), .val (.ref b1), .val (.ref b49), .val (.ref b98), .val (.ref b147), .val (.int ((x0 &&& (2147483647 : Int32)) % (9 : Int32))), .val (.int ((x1 &&& (2147483647 : Int32)) % (6 : Int32))), .val (.int (1 : Int32)), .unset] [])) _
              refine Goes.to (fun _ k => XS.iconst X227.here hx rfl (hb hby at_238) k) ?_
              show Goes p.tables e below (T227.setTop (mkF m 239 #[.val (.int x0), .val (.int x1), .val (.ref b1), .val (.ref b49), .val (.ref b98), .val (.ref b147), .val (.int ((x0 &&& (2147483647 : Int32)) % (9 : Int32))), .val (.int ((x1 &&& (2147483647 : Int32)) % (6 : Int32))), .val (.int (1 : Int32)), .unset] [(.int (1 : Int32))])) _
              refine Goes.to (fun _ k => XS.goto X227.here hx rfl (pc0 := 239) (pc' := 243) rfl (hb hby at_239) (by decide) (by decide) k) ?_
              show Goes p.tables e below (T227.setTop (mkF m 243 #[.val (.int x0), .val (.int x1), .val (.ref b1), .val (.ref b49), .val (.ref b98), .val (.ref b147), .val (.int ((x0 &&& (2147483647 : Int32)) % (9 : Int32))), .val (.int ((x1 &&& (2147483647 : Int32)) % (6 : Int32))), .val (.int (1 : Int32)), .unset] [(.int (1 : Int32))])) _
              refine Goes.to (fun _ k => XS.istore X227.here hx rfl (hb hby at_243) rfl (l' := #[.val (.int x0), .val (.int x1), .val (.ref b1), .val (.ref b49), .val (.ref b98), .val (.ref b147), .val (.int ((x0 &&& (2147483647 : Int32)) % (9 : Int32))), .val (.int ((x1 &&& (2147483647 : Int32)) % (6 : Int32))), .val (.int (1 : Int32)), .val (.int (1 : Int32))]) rfl k) ?_
              show Goes p.tables e below (T227.setTop (mkF m 245 #[.val (.int x0), .val (.int x1), .val (.ref b1), .val (.ref b49), .val (.ref b98), .val (.ref b147), .val (.int ((x0 &&& (2147483647 : Int32)) % (9 : Int32))), .val (.int ((x1 &&& (2147483647 : Int32)) % (6 : Int32))), .val (.int (1 : Int32)), .val (.int (1 : Int32))] [])) _
              refine Goes.to (fun _ k => XS.iload X227.here hx rfl (hb hby at_245) rfl k) ?_
              show Goes p.tables e below (T227.setTop (mkF m 247 #[.val (.int x0), .val (.int x1), .val (.ref b1), .val (.ref b49), .val (.ref b98), .val (.ref b147), .val (.int ((x0 &&& (2147483647 : Int32)) % (9 : Int32))), .val (.int ((x1 &&& (2147483647 : Int32)) % (6 : Int32))), .val (.int (1 : Int32)), .val (.int (1 : Int32))] [(.int (1 : Int32))])) _
              refine Goes.to (fun _ k => XS.ifNo X227.here hx rfl (hb hby at_247) rfl ((if0 _ _).trans (feq (by decide : ¬ ((1 : Int32) = (0 : Int32)))).1) k) ?_
              show Goes p.tables e below (T227.setTop (mkF m 250 #[.val (.int x0), .val (.int x1), .val (.ref b1), .val (.ref b49), .val (.ref b98), .val (.ref b147), .val (.int ((x0 &&& (2147483647 : Int32)) % (9 : Int32))), .val (.int ((x1 &&& (2147483647 : Int32)) % (6 : Int32))), .val (.int (1 : Int32)), .val (.int (1 : Int32))] [])) _
              refine Goes.to (fun _ k => XS.iload X227.here hx rfl (hb hby at_250) rfl k) ?_
              show Goes p.tables e below (T227.setTop (mkF m 252 #[.val (.int x0), .val (.int x1), .val (.ref b1), .val (.ref b49), .val (.ref b98), .val (.ref b147), .val (.int ((x0 &&& (2147483647 : Int32)) % (9 : Int32))), .val (.int ((x1 &&& (2147483647 : Int32)) % (6 : Int32))), .val (.int (1 : Int32)), .val (.int (1 : Int32))] [(.int (1 : Int32))])) _
              refine Goes.to (fun _ k => XS.ifNo X227.here hx rfl (hb hby at_252) rfl ((if0 _ _).trans (feq (by decide : ¬ ((1 : Int32) = (0 : Int32)))).1) k) ?_
              show Goes p.tables e below (T227.setTop (mkF m 255 #[.val (.int x0), .val (.int x1), .val (.ref b1), .val (.ref b49), .val (.ref b98), .val (.ref b147), .val (.int ((x0 &&& (2147483647 : Int32)) % (9 : Int32))), .val (.int ((x1 &&& (2147483647 : Int32)) % (6 : Int32))), .val (.int (1 : Int32)), .val (.int (1 : Int32))] [])) _
              refine Goes.to (fun _ k => XS.iconst X227.here hx rfl (hb hby at_255) k) ?_
              show Goes p.tables e below (T227.setTop (mkF m 256 #[.val (.int x0), .val (.int x1), .val (.ref b1), .val (.ref b49), .val (.ref b98), .val (.ref b147), .val (.int ((x0 &&& (2147483647 : Int32)) % (9 : Int32))), .val (.int ((x1 &&& (2147483647 : Int32)) % (6 : Int32))), .val (.int (1 : Int32)), .val (.int (1 : Int32))] [(.int (1 : Int32))])) _
              refine Goes.to (fun _ k => XS.goto X227.here hx rfl (pc0 := 256) (pc' := 260) rfl (hb hby at_256) (by decide) (by decide) k) ?_
              show Goes p.tables e below (T227.setTop (mkF m 260 #[.val (.int x0), .val (.int x1), .val (.ref b1), .val (.ref b49), .val (.ref b98), .val (.ref b147), .val (.int ((x0 &&& (2147483647 : Int32)) % (9 : Int32))), .val (.int ((x1 &&& (2147483647 : Int32)) % (6 : Int32))), .val (.int (1 : Int32)), .val (.int (1 : Int32))] [(.int (1 : Int32))])) _
              obtain ⟨fs, hr, hrun, hended, hW, hsame⟩ := X227.leave (v := some (.int (1 : Int32))) (fun h => by rw [Bd.returns] at h; cases h)
              have hv : (some (.int (1 : Int32)) : Option Value) = some (.int (1 : Int32)) := by
                rfl
              exact ⟨_, _, retN X227 hx (t := .boolean) Bd.returns (by simp) (hb hby at_260) hr, hrun, hended, _, _, rfl, ⟨hv, N227⟩, ⟨_, rfl⟩, hW, hsame.mono (by decide) (by decide)⟩
            · exact absurd (Or.inl rfl : a_Style_FORM = a_Style_FORM ∨ a_Style_FORM = a_Style_COOKIE) hc228
          · by_cases hc230 : ((x1 &&& (2147483647 : Int32)) % (6 : Int32)) = (5 : Int32)
            · have hat204 : cl204.slots[(((x1 &&& (2147483647 : Int32)) % (6 : Int32))).toNatClampNeg]? = some (.ref a_Location_FORM_DATA) := Has.at H204 hin204 (by rw [hc230]; rfl)
              refine Goes.to (fun _ k => Xpt.aaload hx (j := ((x1 &&& (2147483647 : Int32)) % (6 : Int32))) (v := (.ref a_Location_FORM_DATA)) (by rw [Ept]; exact Ar204.1) (State.isArrayOf_alike hZ.alike Ar204.2.1) rfl Ar204.2.2 hin204 hat204 (g := (mkF m 223 #[.val (.int x0), .val (.int x1), .val (.ref b1), .val (.ref b49), .val (.ref b98), .val (.ref b147), .val (.int ((x0 &&& (2147483647 : Int32)) % (9 : Int32))), .val (.int ((x1 &&& (2147483647 : Int32)) % (6 : Int32))), .val (.int (1 : Int32)), .unset] [(.int ((x1 &&& (2147483647 : Int32)) % (6 : Int32))), (.ref b98)])) rfl rfl (hb hby at_223) _ k) ?_
              show Goes p.tables e below (Tpt.setTop (mkF m 224 #[.val (.int x0), .val (.int x1), .val (.ref b1), .val (.ref b49), .val (.ref b98), .val (.ref b147), .val (.int ((x0 &&& (2147483647 : Int32)) % (9 : Int32))), .val (.int ((x1 &&& (2147483647 : Int32)) % (6 : Int32))), .val (.int (1 : Int32)), .unset] [(.ref a_Location_FORM_DATA)])) _
              obtain ⟨_, _, ⟨T231, L231, k231, n231⟩, -, X231, ⟨Lc231, hQ231, l231, y231, z231⟩, st231⟩ := Jvm.LawKit.callS Xpt hx (y := (⟨"com/example/unipar/unipar/Style", "defaultFor", "(Lcom/example/unipar/unipar/Location;)Lcom/example/unipar/unipar/Style;"⟩ : MethodName)) hown (mvT hZ (hw _ (List.mem_of_getElem? (i := 47) rfl))) (mvT hZ (hw _ (List.mem_of_getElem? (i := 48) rfl))) (mvT hZ (hw _ (List.mem_of_getElem? (i := 3) rfl))) (mvT hZ (hw _ (List.mem_of_getElem? (i := 49) rfl))) (by decide) (backOf (W := 0) (own_rm2 l Z a0 hw [] a_Location_FORM_DATA (5 : Int32) a_Style_FORM a_Style_SIMPLE a_M k_M hpt n0 Zpt (E_Location_FORM_DATA.ext Old203.2) (F_Location_FORM_DATA_ordinal.ext Old203.2) (S_Style_FORM.ext Old203.2) (S_Style_SIMPLE.ext Old203.2) (SM.ext Old203.2) (VM.ext Old203.2) (by decide) (by decide)) hZ (hw _ (List.mem_of_getElem? (i := 49) rfl)) (hw _ (List.mem_of_getElem? (i := 3) rfl)) (by decide) (by decide)) (g := (mkF m 224 #[.val (.int x0), .val (.int x1), .val (.ref b1), .val (.ref b49), .val (.ref b98), .val (.ref b147), .val (.int ((x0 &&& (2147483647 : Int32)) % (9 : Int32))), .val (.int ((x1 &&& (2147483647 : Int32)) % (6 : Int32))), .val (.int (1 : Int32)), .unset] [(.ref a_Location_FORM_DATA)])) rfl (by rw [hml]; rfl) (argsL := [(.ref a_Location_FORM_DATA)]) (rest := []) (lenOf own_pd_pLcomlexampleluniparluniparlLocationsqLcomlexampleluniparluniparlStyles rfl) rfl (by show 2 * 0 + _ ≤ _; exact Nat.le_of_eq rfl) (hb hby at_224) (fun _ _ => ⟨rfl, Ept, (by decide : 4 + 0 ≤ _), (by decide : 30 + 0 ≤ _)⟩)
              dsimp only [Pt.U, Pt.locs, Pt.cells, Pt.slots] at X231 l231 y231 z231 st231 hQ231
              subst l231 y231 z231
              obtain ⟨hv231, Nq231, hp231_0⟩ := hQ231
              have N231 := Fr.app Npt Nq231
              rw [show own_df (5 : Int32) a_Style_FORM a_Style_SIMPLE = a_Style_FORM from by unfold own_df; exact if_pos (by decide)] at hv231
              subst hv231
              refine Goes.to st231 ?_
              show Goes p.tables e below (T231.setTop (mkF m 227 #[.val (.int x0), .val (.int x1), .val (.ref b1), .val (.ref b49), .val (.ref b98), .val (.ref b147), .val (.int ((x0 &&& (2147483647 : Int32)) % (9 : Int32))), .val (.int ((x1 &&& (2147483647 : Int32)) % (6 : Int32))), .val (.int (1 : Int32)), .unset] [(.ref a_Style_FORM)])) _
              obtain ⟨cq232, kq232, q232a, q232b, q232c⟩ := isOf hZ hp231_0 (E_Style_FORM.ext Old203.2)
              obtain ⟨_, _, ⟨T232, L232, k232, n232⟩, -, X232, ⟨Lc232, hQ232, l232, y232, z232⟩, st232⟩ := X231.virtualBack hx (y := (⟨"com/example/unipar/unipar/Style", "explodesByDefault", "()Z"⟩ : MethodName)) (z := (⟨"com/example/unipar/unipar/Style", "explodesByDefault", "()Z"⟩ : MethodName)) hown (mvT hZ (hw _ (List.mem_of_getElem? (i := 40) rfl))) (mvT hZ (hw _ (List.mem_of_getElem? (i := 41) rfl))) (notFace_of_selects (args := #[]) (mvT hZ (hw _ (List.mem_of_getElem? (i := 43) rfl)))) (mvT hZ (hw _ (List.mem_of_getElem? (i := 43) rfl))) (mvT hZ (hw _ (List.mem_of_getElem? (i := 42) rfl))) (by decide) (backOf (W := 0) (own_rm1 l Z a0 hw [] a_Style_FORM a_Style_FORM a_Style_COOKIE hpt n0 Zpt (S_Style_FORM.ext Old203.2) (S_Style_COOKIE.ext Old203.2)) hZ (hw _ (List.mem_of_getElem? (i := 44) rfl)) (hw _ (List.mem_of_getElem? (i := 3) rfl)) (by decide) (by decide)) q232a q232c (g := (mkF m 227 #[.val (.int x0), .val (.int x1), .val (.ref b1), .val (.ref b49), .val (.ref b98), .val (.ref b147), .val (.int ((x0 &&& (2147483647 : Int32)) % (9 : Int32))), .val (.int ((x1 &&& (2147483647 : Int32)) % (6 : Int32))), .val (.int (1 : Int32)), .unset] [(.ref a_Style_FORM)])) rfl (by rw [hml]; rfl) (Steps.refl _) (argsL := []) (rest := []) (lenOf own_pd_pqZ rfl) rfl (by show 2 * 0 + _ ≤ _; exact Nat.le_of_eq rfl) (hb hby at_227) (fun _ _ => ⟨rfl, hp231_0, (by decide : 4 + 0 ≤ _), (by decide : 30 + 0 ≤ _)⟩)
              dsimp only [Pt.U, Pt.locs, Pt.cells, Pt.slots] at X232 l232 y232 z232 st232 hQ232
              subst l232 y232 z232
              obtain ⟨hv232, Nq232, hp232_0⟩ := hQ232
              have N232 := Fr.app N231 Nq232
              by_cases hc233 : a_Style_FORM = a_Style_FORM ∨ a_Style_FORM = a_Style_COOKIE
              · rw [if_pos hc233] at hv232
                subst hv232
                refine Goes.tr st232 ?_
                show Goes p.tables e below (T232.setTop (mkF m 230 #[.val (.int x0), .val (.int x1), .val (.ref b1), .val (.ref b49), .val (.ref b98), .val (.ref b147), .val (.int ((x0 &&& (2147483647 : Int32)) % (9 : Int32))), .val (.int ((x1 &&& (2147483647 : Int32)) % (6 : Int32))), .val (.int (1 : Int32)), .unset] [(.int (1 : Int32))])) _
                refine Goes.to (fun _ k => XS.aload X232.here hx rfl (hb hby at_230) rfl rfl k) ?_
                show Goes p.tables e below (T232.setTop (mkF m 232 #[.val (.int x0), .val (.int x1), .val (.ref b1), .val (.ref b49), .val (.ref b98), .val (.ref b147), .val (.int ((x0 &&& (2147483647 : Int32)) % (9 : Int32))), .val (.int ((x1 &&& (2147483647 : Int32)) % (6 : Int32))), .val (.int (1 : Int32)), .unset] [(.ref b147), (.int (1 : Int32))])) _
                refine Goes.to (fun _ k => XS.iload X232.here hx rfl (hb hby at_232) rfl k) ?_
                show Goes p.tables e below (T232.setTop (mkF m 234 #[.val (.int x0), .val (.int x1), .val (.ref b1), .val (.ref b49), .val (.ref b98), .val (.ref b147), .val (.int ((x0 &&& (2147483647 : Int32)) % (9 : Int32))), .val (.int ((x1 &&& (2147483647 : Int32)) % (6 : Int32))), .val (.int (1 : Int32)), .unset] [(.int ((x1 &&& (2147483647 : Int32)) % (6 : Int32))), (.ref b147), (.int (1 : Int32))])) _
                obtain ⟨cl234, Ar234, q234, S234, N234, H234, G234⟩ := id Pf203_3
                have hin234 : ¬ (((x1 &&& (2147483647 : Int32)) % (6 : Int32)) < 0 ∨ cl234.slots.size ≤ (((x1 &&& (2147483647 : Int32)) % (6 : Int32))).toNatClampNeg) := by
                  have k1 := rng32 x1
                  have k2 : (x1 &&& (2147483647 : Int32)).toInt = x1.toInt % 2147483648 := c_mask x1 (2147483647 : Int32) 31 (by decide) (by decide)
                  have k3 := c_irem (x1 &&& (2147483647 : Int32)) (6 : Int32) 6 rfl
                  have k4 := rng32 ((x1 &&& (2147483647 : Int32)) % (6 : Int32))
                  have k5 : (0 : Int32).toInt = 0 := rfl
                  have k6 : ¬ ((x1 &&& (2147483647 : Int32)) % (6 : Int32)).toInt = (0 : Int32).toInt := fun z => hc205 (Int32.toInt_inj.mp z)
                  have k7 : (1 : Int32).toInt = 1 := rfl
                  have k8 : ¬ ((x1 &&& (2147483647 : Int32)) % (6 : Int32)).toInt = (1 : Int32).toInt := fun z => hc210 (Int32.toInt_inj.mp z)
                  have k9 : (2 : Int32).toInt = 2 := rfl
                  have k10 : ¬ ((x1 &&& (2147483647 : Int32)) % (6 : Int32)).toInt = (2 : Int32).toInt := fun z => hc215 (Int32.toInt_inj.mp z)
                  have k11 : (3 : Int32).toInt = 3 := rfl
                  have k12 : ¬ ((x1 &&& (2147483647 : Int32)) % (6 : Int32)).toInt = (3 : Int32).toInt := fun z => hc220 (Int32.toInt_inj.mp z)
                  have k13 : (4 : Int32).toInt = 4 := rfl
                  have k14 : ¬ ((x1 &&& (2147483647 : Int32)) % (6 : Int32)).toInt = (4 : Int32).toInt := fun z => hc225 (Int32.toInt_inj.mp z)
                  have k15 : (5 : Int32).toInt = 5 := rfl
                  have k16 : ((x1 &&& (2147483647 : Int32)) % (6 : Int32)).toInt = (5 : Int32).toInt := congrArg Int32.toInt hc230
                  have k17 : (6 : Int32).toInt = 6 := rfl
                  refine inb_of S234 ⟨fun hq => ?_, Int32.lt_iff_toInt_lt.mpr ?_⟩
                  · have hq' := Int32.lt_iff_toInt_lt.mp hq
                    omega
                  · omega
                have hat234 : cl234.slots[(((x1 &&& (2147483647 : Int32)) % (6 : Int32))).toNatClampNeg]? = some (.int (1 : Int32)) := Has.at H234 hin234 (by rw [hc230]; rfl)
                refine Goes.to (fun _ k => X232.baloadBooleans hx (j := ((x1 &&& (2147483647 : Int32)) % (6 : Int32))) (v := (.int (1 : Int32))) (by rw [hp232_0]; exact Ar234.1) (State.isArrayOf_alike hZ.alike Ar234.2.1) Ar234.2.2 hin234 hat234 (g := (mkF m 234 #[.val (.int x0), .val (.int x1), .val (.ref b1), .val (.ref b49), .val (.ref b98), .val (.ref b147), .val (.int ((x0 &&& (2147483647 : Int32)) % (9 : Int32))), .val (.int ((x1 &&& (2147483647 : Int32)) % (6 : Int32))), .val (.int (1 : Int32)), .unset] [(.int ((x1 &&& (2147483647 : Int32)) % (6 : Int32))), (.ref b147), (.int (1 : Int32))])) rfl rfl (hb hby at_234) _ k) ?_
                show Goes p.tables e below (T232.setTop (mkF m 235 #[.val (.int x0), .val (.int x1), .val (.ref b1), .val (.ref b49), .val (.ref b98), .val (.ref b147), .val (.int ((x0 &&& (2147483647 : Int32)) % (9 : Int32))), .val (.int ((x1 &&& (2147483647 : Int32)) % (6 : Int32))), .val (.int (1 : Int32)), .unset] [(.int (1 : Int32)), (.int (1 : Int32))])) _
                refine Goes.to (fun _ k => XS.icmpNo X232.here hx rfl (hb hby at_235) rfl (teq (by decide : (1 : Int32) = (1 : Int32))).2 k) ?_
                show Goes p.tables e below (T232.setTop (mkF m 238 #[.val (.int x0), .val (.int x1), .val (.ref b1), .val (.ref b49), .val (.ref b98), .val (.ref b147), .val (.int ((x0 &&& (2147483647 : Int32)) % (9 : Int32))), .val (.int ((x1 &&& (2147483647 : Int32)) % (6 : Int32))), .val (.int (1 : Int32)), .unset] [])) _
                refine Goes.to (fun _ k => XS.iconst X232.here hx rfl (hb hby at_238) k) ?_
                show Goes p.tables e below (T232.setTop (mkF m 239 #[.val (.int x0), .val (.int x1), .val (.ref b1), .val (.ref b49), .val (.ref b98), .val (.ref b147), .val (.int ((x0 &&& (2147483647 : Int32)) % (9 : Int32))), .val (.int ((x1 &&& (2147483647 : Int32)) % (6 : Int32))), .val (.int (1 : Int32)), .unset] [(.int (1 : Int32))])) _
                refine Goes.to (fun _ k => XS.goto X232.here hx rfl (pc0 := 239) (pc' := 243) rfl (hb hby at_239) (by decide) (by decide) k) ?_
                show Goes p.tables e below (T232.setTop (mkF m 243 #[.val (.int x0), .val (.int x1), .val (.ref b1), .val (.ref b49), .val (.ref b98), .val (.ref b147), .val (.int ((x0 &&& (2147483647 : Int32)) % (9 : Int32))), .val (.int ((x1 &&& (2147483647 : Int32)) % (6 : Int32))), .val (.int (1 : Int32)), .unset] [(.int (1 : Int32))])) _
                refine Goes.to (fun _ k => XS.istore X232.here hx rfl (hb hby at_243) rfl (l' := #[.val (.int x0), .val (.int x1), .val (.ref b1), .val (.ref b49), .val (.ref b98), .val (.ref b147), .val (.int ((x0 &&& (2147483647 : Int32)) % (9 : Int32))), .val (.int ((x1 &&& (2147483647 : Int32)) % (6 : Int32))), .val (.int (1 : Int32)), .val (.int (1 : Int32))]) rfl k) ?_
                show Goes p.tables e below (T232.setTop (mkF m 245 #[.val (.int x0), .val (.int x1), .val (.ref b1), .val (.ref b49), .val (.ref b98), .val (.ref b147), .val (.int ((x0 &&& (2147483647 : Int32)) % (9 : Int32))), .val (.int ((x1 &&& (2147483647 : Int32)) % (6 : Int32))), .val (.int (1 : Int32)), .val (.int (1 : Int32))] [])) _
                refine Goes.to (fun _ k => XS.iload X232.here hx rfl (hb hby at_245) rfl k) ?_
                show Goes p.tables e below (T232.setTop (mkF m 247 #[.val (.int x0), .val (.int x1), .val (.ref b1), .val (.ref b49), .val (.ref b98), .val (.ref b147), .val (.int ((x0 &&& (2147483647 : Int32)) % (9 : Int32))), .val (.int ((x1 &&& (2147483647 : Int32)) % (6 : Int32))), .val (.int (1 : Int32)), .val (.int (1 : Int32))] [(.int (1 : Int32))])) _
                refine Goes.to (fun _ k => XS.ifNo X232.here hx rfl (hb hby at_247) rfl ((if0 _ _).trans (feq (by decide : ¬ ((1 : Int32) = (0 : Int32)))).1) k) ?_
                show Goes p.tables e below (T232.setTop (mkF m 250 #[.val (.int x0), .val (.int x1), .val (.ref b1), .val (.ref b49), .val (.ref b98), .val (.ref b147), .val (.int ((x0 &&& (2147483647 : Int32)) % (9 : Int32))), .val (.int ((x1 &&& (2147483647 : Int32)) % (6 : Int32))), .val (.int (1 : Int32)), .val (.int (1 : Int32))] [])) _
                refine Goes.to (fun _ k => XS.iload X232.here hx rfl (hb hby at_250) rfl k) ?_
                show Goes p.tables e below (T232.setTop (mkF m 252 #[.val (.int x0), .val (.int x1), .val (.ref b1), .val (.ref b49), .val (.ref b98), .val (.ref b147), .val (.int ((x0 &&& (2147483647 : Int32)) % (9 : Int32))), .val (.int ((x1 &&& (2147483647 : Int32)) % (6 : Int32))), .val (.int (1 : Int32)), .val (.int (1 : Int32))] [(.int (1 : Int32))])) _
                refine Goes.to (fun _ k => XS.ifNo X232.here hx rfl (hb hby at_252) rfl ((if0 _ _).trans (feq (by decide : ¬ ((1 : Int32) = (0 : Int32)))).1) k) ?_
                show Goes p.tables e below (T232.setTop (mkF m 255 #[.val (.int x0), .val (.int x1), .val (.ref b1), .val (.ref b49), .val (.ref b98), .val (.ref b147), .val (.int ((x0 &&& (2147483647 : Int32)) % (9 : Int32))), .val (.int ((x1 &&& (2147483647 : Int32)) % (6 : Int32))), .val (.int (1 : Int32)), .val (.int (1 : Int32))] [])) _
                refine Goes.to (fun _ k => XS.iconst X232.here hx rfl (hb hby at_255) k) ?_
                show Goes p.tables e below (T232.setTop (mkF m 256 #[.val (.int x0), .val (.int x1), .val (.ref b1), .val (.ref b49), .val (.ref b98), .val (.ref b147), .val (.int ((x0 &&& (2147483647 : Int32)) % (9 : Int32))), .val (.int ((x1 &&& (2147483647 : Int32)) % (6 : Int32))), .val (.int (1 : Int32)), .val (.int (1 : Int32))] [(.int (1 : Int32))])) _
                refine Goes.to (fun _ k => XS.goto X232.here hx rfl (pc0 := 256) (pc' := 260) rfl (hb hby at_256) (by decide) (by decide) k) ?_
                show Goes p.tables e below (T232.setTop (mkF m 260 #[.val (.int x0), .val (.int x1), .val (.ref b1), .val (.ref b49), .val (.ref b98), .val (.ref b147), .val (.int ((x0 &&& (2147483647 : Int32)) % (9 : Int32))), .val (.int ((x1 &&& (2147483647 : Int32)) % (6 : Int32))), .val (.int (1 : Int32)), .val (.int (1 : Int32))] [(.int (1 : Int32))])) _
                obtain ⟨fs, hr, hrun, hended, hW, hsame⟩ := X232.leave (v := some (.int (1 : Int32))) (fun h => by rw [Bd.returns] at h; cases h)
                have hv : (some (.int (1 : Int32)) : Option Value) = some (.int (1 : Int32)) := by
                  rfl
                exact ⟨_, _, retN X232 hx (t := .boolean) Bd.returns (by simp) (hb hby at_260) hr, hrun, hended, _, _, rfl, ⟨hv, N232⟩, ⟨_, rfl⟩, hW, hsame.mono (by decide) (by decide)⟩
              · exact absurd (Or.inl rfl : a_Style_FORM = a_Style_FORM ∨ a_Style_FORM = a_Style_COOKIE) hc233
            · exfalso
              have k1 := rng32 x1
              have k2 : (x1 &&& (2147483647 : Int32)).toInt = x1.toInt % 2147483648 := c_mask x1 (2147483647 : Int32) 31 (by decide) (by decide)
              have k3 := c_irem (x1 &&& (2147483647 : Int32)) (6 : Int32) 6 rfl
              have k4 := rng32 ((x1 &&& (2147483647 : Int32)) % (6 : Int32))
              have k5 : (0 : Int32).toInt = 0 := rfl
              have k6 : ¬ ((x1 &&& (2147483647 : Int32)) % (6 : Int32)).toInt = (0 : Int32).toInt := fun z => hc205 (Int32.toInt_inj.mp z)
              have k7 : (1 : Int32).toInt = 1 := rfl
              have k8 : ¬ ((x1 &&& (2147483647 : Int32)) % (6 : Int32)).toInt = (1 : Int32).toInt := fun z => hc210 (Int32.toInt_inj.mp z)
              have k9 : (2 : Int32).toInt = 2 := rfl
              have k10 : ¬ ((x1 &&& (2147483647 : Int32)) % (6 : Int32)).toInt = (2 : Int32).toInt := fun z => hc215 (Int32.toInt_inj.mp z)
              have k11 : (3 : Int32).toInt = 3 := rfl
              have k12 : ¬ ((x1 &&& (2147483647 : Int32)) % (6 : Int32)).toInt = (3 : Int32).toInt := fun z => hc220 (Int32.toInt_inj.mp z)
              have k13 : (4 : Int32).toInt = 4 := rfl
              have k14 : ¬ ((x1 &&& (2147483647 : Int32)) % (6 : Int32)).toInt = (4 : Int32).toInt := fun z => hc225 (Int32.toInt_inj.mp z)
              have k15 : (5 : Int32).toInt = 5 := rfl
              have k16 : ¬ ((x1 &&& (2147483647 : Int32)) % (6 : Int32)).toInt = (5 : Int32).toInt := fun z => hc230 (Int32.toInt_inj.mp z)
              omega
set_option maxRecDepth 65536 in
set_option maxHeartbeats 40000000 in
theorem own_pt_own_rm0_176 (l : Launch) (Z : State) (a0 : Array Value) (hw : ∀ d ∈ tables_1, d.before a0 Z = true) (ws : List Jvm.Cond) (x0 : Int32) (x1 : Int32) (a_Style_MATRIX : Addr) (a_Style_LABEL : Addr) (a_Style_FORM : Addr) (a_Style_SIMPLE : Addr) (a_Style_SPACE_DELIMITED : Addr) (a_Style_PIPE_DELIMITED : Addr) (a_Style_DEEP_OBJECT : Addr) (a_Style_COOKIE : Addr) (a_Style_TAB_DELIMITED : Addr) (a_Location_PATH : Addr) (a_Location_QUERY : Addr) (a_Location_QUERYSTRING : Addr) (a_Location_HEADER : Addr) (a_Location_COOKIE : Addr) (a_Location_FORM_DATA : Addr) (a_M : Addr) (k_M : ClassId) (h0 : Heap) (n0 : Nat) (Z0 : n0 ≤ h0.size) (O0 : Old Z n0 h0) (S_Style_MATRIX : Sta Z Z.heap "com/example/unipar/unipar/Style" "MATRIX" "Lcom/example/unipar/unipar/Style;" (.ref a_Style_MATRIX)) (E_Style_MATRIX : Exa Z Z.heap a_Style_MATRIX "com/example/unipar/unipar/Style") (S_Style_LABEL : Sta Z Z.heap "com/example/unipar/unipar/Style" "LABEL" "Lcom/example/unipar/unipar/Style;" (.ref a_Style_LABEL)) (E_Style_LABEL : Exa Z Z.heap a_Style_LABEL "com/example/unipar/unipar/Style") (S_Style_FORM : Sta Z Z.heap "com/example/unipar/unipar/Style" "FORM" "Lcom/example/unipar/unipar/Style;" (.ref a_Style_FORM)) (E_Style_FORM : Exa Z Z.heap a_Style_FORM "com/example/unipar/unipar/Style") (S_Style_SIMPLE : Sta Z Z.heap "com/example/unipar/unipar/Style" "SIMPLE" "Lcom/example/unipar/unipar/Style;" (.ref a_Style_SIMPLE)) (E_Style_SIMPLE : Exa Z Z.heap a_Style_SIMPLE "com/example/unipar/unipar/Style") (S_Style_SPACE_DELIMITED : Sta Z Z.heap "com/example/unipar/unipar/Style" "SPACE_DELIMITED" "Lcom/example/unipar/unipar/Style;" (.ref a_Style_SPACE_DELIMITED)) (E_Style_SPACE_DELIMITED : Exa Z Z.heap a_Style_SPACE_DELIMITED "com/example/unipar/unipar/Style") (S_Style_PIPE_DELIMITED : Sta Z Z.heap "com/example/unipar/unipar/Style" "PIPE_DELIMITED" "Lcom/example/unipar/unipar/Style;" (.ref a_Style_PIPE_DELIMITED)) (E_Style_PIPE_DELIMITED : Exa Z Z.heap a_Style_PIPE_DELIMITED "com/example/unipar/unipar/Style") (S_Style_DEEP_OBJECT : Sta Z Z.heap "com/example/unipar/unipar/Style" "DEEP_OBJECT" "Lcom/example/unipar/unipar/Style;" (.ref a_Style_DEEP_OBJECT)) (E_Style_DEEP_OBJECT : Exa Z Z.heap a_Style_DEEP_OBJECT "com/example/unipar/unipar/Style") (S_Style_COOKIE : Sta Z Z.heap "com/example/unipar/unipar/Style" "COOKIE" "Lcom/example/unipar/unipar/Style;" (.ref a_Style_COOKIE)) (E_Style_COOKIE : Exa Z Z.heap a_Style_COOKIE "com/example/unipar/unipar/Style") (S_Style_TAB_DELIMITED : Sta Z Z.heap "com/example/unipar/unipar/Style" "TAB_DELIMITED" "Lcom/example/unipar/unipar/Style;" (.ref a_Style_TAB_DELIMITED)) (E_Style_TAB_DELIMITED : Exa Z Z.heap a_Style_TAB_DELIMITED "com/example/unipar/unipar/Style") (S_Location_PATH : Sta Z Z.heap "com/example/unipar/unipar/Location" "PATH" "Lcom/example/unipar/unipar/Location;" (.ref a_Location_PATH)) (E_Location_PATH : Exa Z Z.heap a_Location_PATH "com/example/unipar/unipar/Location") (S_Location_QUERY : Sta Z Z.heap "com/example/unipar/unipar/Location" "QUERY" "Lcom/example/unipar/unipar/Location;" (.ref a_Location_QUERY)) (E_Location_QUERY : Exa Z Z.heap a_Location_QUERY "com/example/unipar/unipar/Location") (S_Location_QUERYSTRING : Sta Z Z.heap "com/example/unipar/unipar/Location" "QUERYSTRING" "Lcom/example/unipar/unipar/Location;" (.ref a_Location_QUERYSTRING)) (E_Location_QUERYSTRING : Exa Z Z.heap a_Location_QUERYSTRING "com/example/unipar/unipar/Location") (S_Location_HEADER : Sta Z Z.heap "com/example/unipar/unipar/Location" "HEADER" "Lcom/example/unipar/unipar/Location;" (.ref a_Location_HEADER)) (E_Location_HEADER : Exa Z Z.heap a_Location_HEADER "com/example/unipar/unipar/Location") (S_Location_COOKIE : Sta Z Z.heap "com/example/unipar/unipar/Location" "COOKIE" "Lcom/example/unipar/unipar/Location;" (.ref a_Location_COOKIE)) (E_Location_COOKIE : Exa Z Z.heap a_Location_COOKIE "com/example/unipar/unipar/Location") (S_Location_FORM_DATA : Sta Z Z.heap "com/example/unipar/unipar/Location" "FORM_DATA" "Lcom/example/unipar/unipar/Location;" (.ref a_Location_FORM_DATA)) (E_Location_FORM_DATA : Exa Z Z.heap a_Location_FORM_DATA "com/example/unipar/unipar/Location") (F_Style_MATRIX_ordinal : Fld Z Z.heap a_Style_MATRIX "java/lang/Enum" "ordinal" "I" (.int (0 : Int32))) (F_Style_FORM_ordinal : Fld Z Z.heap a_Style_FORM "java/lang/Enum" "ordinal" "I" (.int (2 : Int32))) (F_Style_COOKIE_ordinal : Fld Z Z.heap a_Style_COOKIE "java/lang/Enum" "ordinal" "I" (.int (7 : Int32))) (F_Location_HEADER_ordinal : Fld Z Z.heap a_Location_HEADER "java/lang/Enum" "ordinal" "I" (.int (3 : Int32))) (F_Style_SIMPLE_ordinal : Fld Z Z.heap a_Style_SIMPLE "java/lang/Enum" "ordinal" "I" (.int (3 : Int32))) (F_Style_PIPE_DELIMITED_ordinal : Fld Z Z.heap a_Style_PIPE_DELIMITED "java/lang/Enum" "ordinal" "I" (.int (5 : Int32))) (F_Location_QUERY_ordinal : Fld Z Z.heap a_Location_QUERY "java/lang/Enum" "ordinal" "I" (.int (1 : Int32))) (F_Location_FORM_DATA_ordinal : Fld Z Z.heap a_Location_FORM_DATA "java/lang/Enum" "ordinal" "I" (.int (5 : Int32))) (F_Location_QUERYSTRING_ordinal : Fld Z Z.heap a_Location_QUERYSTRING "java/lang/Enum" "ordinal" "I" (.int (2 : Int32))) (F_Style_SPACE_DELIMITED_ordinal : Fld Z Z.heap a_Style_SPACE_DELIMITED "java/lang/Enum" "ordinal" "I" (.int (4 : Int32))) (F_Location_PATH_ordinal : Fld Z Z.heap a_Location_PATH "java/lang/Enum" "ordinal" "I" (.int (0 : Int32))) (F_Style_LABEL_ordinal : Fld Z Z.heap a_Style_LABEL "java/lang/Enum" "ordinal" "I" (.int (1 : Int32))) (F_Style_DEEP_OBJECT_ordinal : Fld Z Z.heap a_Style_DEEP_OBJECT "java/lang/Enum" "ordinal" "I" (.int (6 : Int32))) (F_Location_COOKIE_ordinal : Fld Z Z.heap a_Location_COOKIE "java/lang/Enum" "ordinal" "I" (.int (4 : Int32))) (F_Style_TAB_DELIMITED_ordinal : Fld Z Z.heap a_Style_TAB_DELIMITED "java/lang/Enum" "ordinal" "I" (.int (8 : Int32))) (ne_Style_MATRIX__Style_FORM : a_Style_MATRIX ≠ a_Style_FORM) (ne_Style_MATRIX__Style_COOKIE : a_Style_MATRIX ≠ a_Style_COOKIE) (ne_Style_LABEL__Style_FORM : a_Style_LABEL ≠ a_Style_FORM) (ne_Style_LABEL__Style_COOKIE : a_Style_LABEL ≠ a_Style_COOKIE) (ne_Style_FORM__Style_SIMPLE : a_Style_FORM ≠ a_Style_SIMPLE) (ne_Style_FORM__Style_SPACE_DELIMITED : a_Style_FORM ≠ a_Style_SPACE_DELIMITED) (ne_Style_FORM__Style_PIPE_DELIMITED : a_Style_FORM ≠ a_Style_PIPE_DELIMITED) (ne_Style_FORM__Style_DEEP_OBJECT : a_Style_FORM ≠ a_Style_DEEP_OBJECT) (ne_Style_FORM__Style_COOKIE : a_Style_FORM ≠ a_Style_COOKIE) (ne_Style_FORM__Style_TAB_DELIMITED : a_Style_FORM ≠ a_Style_TAB_DELIMITED) (ne_Style_SIMPLE__Style_COOKIE : a_Style_SIMPLE ≠ a_Style_COOKIE) (ne_Style_SPACE_DELIMITED__Style_COOKIE : a_Style_SPACE_DELIMITED ≠ a_Style_COOKIE) (ne_Style_PIPE_DELIMITED__Style_COOKIE : a_Style_PIPE_DELIMITED ≠ a_Style_COOKIE) (ne_Style_DEEP_OBJECT__Style_COOKIE : a_Style_DEEP_OBJECT ≠ a_Style_COOKIE) (ne_Style_COOKIE__Style_TAB_DELIMITED : a_Style_COOKIE ≠ a_Style_TAB_DELIMITED) (SM : Sta Z Z.heap "com/example/unipar/unipar/Style$1" "$SwitchMap$com$example$unipar$unipar$Location" "[I" (.ref a_M)) (VM : Arv Z Z.heap a_M k_M .int (6 : Int32) [(.int (4 : Int32)), (.int (1 : Int32)), (.int (6 : Int32)), (.int (5 : Int32)), (.int (2 : Int32)), (.int (3 : Int32))] (.int (0 : Int32)))
    {p : Program} {e : Env} {s : State} {m : MethodId} {below : List Frame} {meth : Method} {c : Code} {s₁ : State} (Bd : BodyLoose p l x (head1 (Jvm.Cond.code x code maxLocals ret :: ws) room_1) code maxLocals ret e s m #[(.int x0), (.int x1)] below meth c s₁) (hml0 : c.maxLocals = maxLocals) (hh : s.heap = h0) (hZ : Z.Warmed39 s.vm)
    (b1 : Addr) (k1 : ClassId) (b49 : Addr) (k49 : ClassId) (b98 : Addr) (k98 : ClassId) (b147 : Addr) (k147 : ClassId)
    (Tpt : State) (lpt : List Loc)  (hpt : Heap)
    (Xpt : Stand p l e room_1 s m #[(.int x0), (.int x1)] below meth c Tpt lpt 4 30) (Ept : Tpt.heap = hpt) (Npt : Fr n0 lpt) (Zpt : n0 ≤ hpt.size) 
    (Pf176_0 : Arv Z hpt b1 k1 (.object "com/example/unipar/unipar/Style") (9 : Int32) [(.ref a_Style_MATRIX), (.ref a_Style_LABEL), (.ref a_Style_FORM), (.ref a_Style_SIMPLE), (.ref a_Style_SPACE_DELIMITED), (.ref a_Style_PIPE_DELIMITED), (.ref a_Style_DEEP_OBJECT), (.ref a_Style_COOKIE), (.ref a_Style_TAB_DELIMITED)] .null)
    (Pf176_1 : Arv Z hpt b49 k49 .boolean (9 : Int32) [(.int (0 : Int32)), (.int (0 : Int32)), (.int (1 : Int32)), (.int (0 : Int32)), (.int (0 : Int32)), (.int (0 : Int32)), (.int (0 : Int32)), (.int (1 : Int32)), (.int (0 : Int32))] (.int (0 : Int32)))
    (Pf176_2 : Arv Z hpt b98 k98 (.object "com/example/unipar/unipar/Location") (6 : Int32) [(.ref a_Location_PATH), (.ref a_Location_QUERY), (.ref a_Location_QUERYSTRING), (.ref a_Location_HEADER), (.ref a_Location_COOKIE), (.ref a_Location_FORM_DATA)] .null)
    (Pf176_3 : Arv Z hpt b147 k147 .boolean (6 : Int32) [(.int (0 : Int32)), (.int (1 : Int32)), (.int (0 : Int32)), (.int (0 : Int32)), (.int (0 : Int32)), (.int (0 : Int32))] (.int (0 : Int32)))
    (Po176_4 : Ovr Z k1 "com/example/unipar/unipar/Style")
    (Pn176_5 : a_Style_MATRIX ≠ b1)
    (Pn176_6 : a_Style_LABEL ≠ b1)
    (Pn176_7 : a_Style_FORM ≠ b1)
    (Pn176_8 : a_Style_SIMPLE ≠ b1)
    (Pn176_9 : a_Style_SPACE_DELIMITED ≠ b1)
    (Pn176_10 : a_Style_PIPE_DELIMITED ≠ b1)
    (Pn176_11 : a_Style_DEEP_OBJECT ≠ b1)
    (Pn176_12 : a_Style_COOKIE ≠ b1)
    (Pn176_13 : a_Style_TAB_DELIMITED ≠ b1)
    (Pn176_14 : a_Location_PATH ≠ b1)
    (Pn176_15 : a_Location_QUERY ≠ b1)
    (Pn176_16 : a_Location_QUERYSTRING ≠ b1)
    (Pn176_17 : a_Location_HEADER ≠ b1)
    (Pn176_18 : a_Location_COOKIE ≠ b1)
    (Pn176_19 : a_Location_FORM_DATA ≠ b1)
    (Pn176_20 : a_M ≠ b1)
    (Pg176_21 : n0 ≤ b1)
    (Pn176_22 : a_Style_MATRIX ≠ b49)
    (Pn176_23 : a_Style_LABEL ≠ b49)
    (Pn176_24 : a_Style_FORM ≠ b49)
    (Pn176_25 : a_Style_SIMPLE ≠ b49)
    (Pn176_26 : a_Style_SPACE_DELIMITED ≠ b49)
    (Pn176_27 : a_Style_PIPE_DELIMITED ≠ b49)
    (Pn176_28 : a_Style_DEEP_OBJECT ≠ b49)
    (Pn176_29 : a_Style_COOKIE ≠ b49)
    (Pn176_30 : a_Style_TAB_DELIMITED ≠ b49)
    (Pn176_31 : a_Location_PATH ≠ b49)
    (Pn176_32 : a_Location_QUERY ≠ b49)
    (Pn176_33 : a_Location_QUERYSTRING ≠ b49)
    (Pn176_34 : a_Location_HEADER ≠ b49)
    (Pn176_35 : a_Location_COOKIE ≠ b49)
    (Pn176_36 : a_Location_FORM_DATA ≠ b49)
    (Pn176_37 : a_M ≠ b49)
    (Pn176_38 : b1 ≠ b49)
    (Pg176_39 : n0 ≤ b49)
    (Po176_40 : Ovr Z k98 "com/example/unipar/unipar/Location")
    (Pn176_41 : a_Style_MATRIX ≠ b98)
    (Pn176_42 : a_Style_LABEL ≠ b98)
    (Pn176_43 : a_Style_FORM ≠ b98)
    (Pn176_44 : a_Style_SIMPLE ≠ b98)
    (Pn176_45 : a_Style_SPACE_DELIMITED ≠ b98)
    (Pn176_46 : a_Style_PIPE_DELIMITED ≠ b98)
    (Pn176_47 : a_Style_DEEP_OBJECT ≠ b98)
    (Pn176_48 : a_Style_COOKIE ≠ b98)
    (Pn176_49 : a_Style_TAB_DELIMITED ≠ b98)
    (Pn176_50 : a_Location_PATH ≠ b98)
    (Pn176_51 : a_Location_QUERY ≠ b98)
    (Pn176_52 : a_Location_QUERYSTRING ≠ b98)
    (Pn176_53 : a_Location_HEADER ≠ b98)
    (Pn176_54 : a_Location_COOKIE ≠ b98)
    (Pn176_55 : a_Location_FORM_DATA ≠ b98)
    (Pn176_56 : a_M ≠ b98)
    (Pn176_57 : b1 ≠ b98)
    (Pn176_58 : b49 ≠ b98)
    (Pg176_59 : n0 ≤ b98)
    (Pn176_60 : a_Style_MATRIX ≠ b147)
    (Pn176_61 : a_Style_LABEL ≠ b147)
    (Pn176_62 : a_Style_FORM ≠ b147)
    (Pn176_63 : a_Style_SIMPLE ≠ b147)
    (Pn176_64 : a_Style_SPACE_DELIMITED ≠ b147)
    (Pn176_65 : a_Style_PIPE_DELIMITED ≠ b147)
    (Pn176_66 : a_Style_DEEP_OBJECT ≠ b147)
    (Pn176_67 : a_Style_COOKIE ≠ b147)
    (Pn176_68 : a_Style_TAB_DELIMITED ≠ b147)
    (Pn176_69 : a_Location_PATH ≠ b147)
    (Pn176_70 : a_Location_QUERY ≠ b147)
    (Pn176_71 : a_Location_QUERYSTRING ≠ b147)
    (Pn176_72 : a_Location_HEADER ≠ b147)
    (Pn176_73 : a_Location_COOKIE ≠ b147)
    (Pn176_74 : a_Location_FORM_DATA ≠ b147)
    (Pn176_75 : a_M ≠ b147)
    (Pn176_76 : b1 ≠ b147)
    (Pn176_77 : b49 ≠ b147)
    (Pn176_78 : b98 ≠ b147)
    (Pg176_79 : n0 ≤ b147)
    (Old176 : Old Z n0 hpt)
    : Goes p.tables e below (Tpt.setTop (mkF m 167 #[.val (.int x0), .val (.int x1), .val (.ref b1), .val (.ref b49), .val (.ref b98), .unset, .unset, .unset, .unset, .unset] [(.ref b147), (.ref b147)])) (own_R below s (own_Q_own_rm0 Z x0 x1 a_Style_MATRIX a_Style_LABEL a_Style_FORM a_Style_SIMPLE a_Style_SPACE_DELIMITED a_Style_PIPE_DELIMITED a_Style_DEEP_OBJECT a_Style_COOKIE a_Style_TAB_DELIMITED a_Location_PATH a_Location_QUERY a_Location_QUERYSTRING a_Location_HEADER a_Location_COOKIE a_Location_FORM_DATA a_M k_M h0 n0) 4 30) := by
  have hx := Bd.exec
  have hby := Bd.bytes
  have hml : c.maxLocals = 10 := hml0
  have hnm := (name_of_methodNamed Bd.named Bd.method).1
  have hown : s.vm.findClass "com/example/unipar/unipar/StyleExplodesByDefaultPinLaw" = some m.cls := findClass_of_methodNamed Bd.named
  show Goes p.tables e below (Tpt.setTop (mkF m 167 #[.val (.int x0), .val (.int x1), .val (.ref b1), .val (.ref b49), .val (.ref b98), .unset, .unset, .unset, .unset, .unset] [(.ref b147), (.ref b147)])) _
  refine Goes.to (fun _ k => XS.iconst Xpt.here hx rfl (hb hby at_167) k) ?_
  show Goes p.tables e below (Tpt.setTop (mkF m 168 #[.val (.int x0), .val (.int x1), .val (.ref b1), .val (.ref b49), .val (.ref b98), .unset, .unset, .unset, .unset, .unset] [(.int (3 : Int32)), (.ref b147), (.ref b147)])) _
  refine Goes.to (fun _ k => XS.iconst Xpt.here hx rfl (hb hby at_168) k) ?_
  show Goes p.tables e below (Tpt.setTop (mkF m 169 #[.val (.int x0), .val (.int x1), .val (.ref b1), .val (.ref b49), .val (.ref b98), .unset, .unset, .unset, .unset, .unset] [(.int (0 : Int32)), (.int (3 : Int32)), (.ref b147), (.ref b147)])) _
  obtain ⟨cl177, Ar177, q177, S177, N177, H177, G177⟩ := id Pf176_3
  have hin177 : ¬ ((3 : Int32) < 0 ∨ cl177.slots.size ≤ ((3 : Int32)).toNatClampNeg) := inb_of S177 ⟨by decide, by decide⟩
  obtain ⟨T178, h178, X178, e178, W178, st178⟩ := stZ Xpt hx hZ Ept Ar177 (j := (3 : Int32)) hin177 (g := (mkF m 169 #[.val (.int x0), .val (.int x1), .val (.ref b1), .val (.ref b49), .val (.ref b98), .unset, .unset, .unset, .unset, .unset] [(.int (0 : Int32)), (.int (3 : Int32)), (.ref b147), (.ref b147)])) rfl rfl (hb hby at_169)
  subst e178
  have O179 := Old176.wr W178 Pg176_79
  have F180 := Pf176_0.other W178 Pn176_76
  have F181 := Pf176_1.other W178 Pn176_77
  have F182 := Pf176_2.other W178 Pn176_78
  have N178 := Fr.snoc X178 Npt Pg176_79
  have Z178 : n0 ≤ T178.heap.size := Nat.le_trans Zpt (Nat.le_of_eq W178.size.symm)
  have V178 : Arv Z T178.heap b147 k147 .boolean (6 : Int32) [(.int (0 : Int32)), (.int (1 : Int32)), (.int (0 : Int32)), (.int (0 : Int32)), (.int (0 : Int32)), (.int (0 : Int32))] (.int (0 : Int32)) := Arv.set Ar177 q177 S177 N177 H177 G177 (fits_nar_bool _) W178 3 rfl (Nat.le_of_ble_eq_true rfl)
  refine Goes.to st178 ?_
  show Goes p.tables e below (T178.setTop (mkF m 170 #[.val (.int x0), .val (.int x1), .val (.ref b1), .val (.ref b49), .val (.ref b98), .unset, .unset, .unset, .unset, .unset] [(.ref b147)])) _
  refine Goes.to (fun _ k => XS.dup X178.here hx rfl (hb hby at_170) rfl rfl k) ?_
  show Goes p.tables e below (T178.setTop (mkF m 171 #[.val (.int x0), .val (.int x1), .val (.ref b1), .val (.ref b49), .val (.ref b98), .unset, .unset, .unset, .unset, .unset] [(.ref b147), (.ref b147)])) _
  refine Goes.to (fun _ k => XS.iconst X178.here hx rfl (hb hby at_171) k) ?_
  show Goes p.tables e below (T178.setTop (mkF m 172 #[.val (.int x0), .val (.int x1), .val (.ref b1), .val (.ref b49), .val (.ref b98), .unset, .unset, .unset, .unset, .unset] [(.int (4 : Int32)), (.ref b147), (.ref b147)])) _
  refine Goes.to (fun _ k => XS.iconst X178.here hx rfl (hb hby at_172) k) ?_
  show Goes p.tables e below (T178.setTop (mkF m 173 #[.val (.int x0), .val (.int x1), .val (.ref b1), .val (.ref b49), .val (.ref b98), .unset, .unset, .unset, .unset, .unset] [(.int (1 : Int32)), (.int (4 : Int32)), (.ref b147), (.ref b147)])) _
  obtain ⟨cl184, Ar184, q184, S184, N184, H184, G184⟩ := id V178
  have hin184 : ¬ ((4 : Int32) < 0 ∨ cl184.slots.size ≤ ((4 : Int32)).toNatClampNeg) := inb_of S184 ⟨by decide, by decide⟩
  obtain ⟨T185, h185, X185, e185, W185, st185⟩ := stZ X178 hx hZ rfl Ar184 (j := (4 : Int32)) hin184 (g := (mkF m 173 #[.val (.int x0), .val (.int x1), .val (.ref b1), .val (.ref b49), .val (.ref b98), .unset, .unset, .unset, .unset, .unset] [(.int (1 : Int32)), (.int (4 : Int32)), (.ref b147), (.ref b147)])) rfl rfl (hb hby at_173)
  subst e185
  have O186 := O179.wr W185 Pg176_79
  have F187 := F180.other W185 Pn176_76
  have F188 := F181.other W185 Pn176_77
  have F189 := F182.other W185 Pn176_78
  have N185 := Fr.snoc X185 N178 Pg176_79
  have Z185 : n0 ≤ T185.heap.size := Nat.le_trans Z178 (Nat.le_of_eq W185.size.symm)
  have V185 : Arv Z T185.heap b147 k147 .boolean (6 : Int32) [(.int (0 : Int32)), (.int (1 : Int32)), (.int (0 : Int32)), (.int (0 : Int32)), (.int (1 : Int32)), (.int (0 : Int32))] (.int (0 : Int32)) := Arv.set Ar184 q184 S184 N184 H184 G184 (fits_nar_bool _) W185 4 rfl (Nat.le_of_ble_eq_true rfl)
  refine Goes.to st185 ?_
  show Goes p.tables e below (T185.setTop (mkF m 174 #[.val (.int x0), .val (.int x1), .val (.ref b1), .val (.ref b49), .val (.ref b98), .unset, .unset, .unset, .unset, .unset] [(.ref b147)])) _
  refine Goes.to (fun _ k => XS.dup X185.here hx rfl (hb hby at_174) rfl rfl k) ?_
  show Goes p.tables e below (T185.setTop (mkF m 175 #[.val (.int x0), .val (.int x1), .val (.ref b1), .val (.ref b49), .val (.ref b98), .unset, .unset, .unset, .unset, .unset] [(.ref b147), (.ref b147)])) _
  refine Goes.to (fun _ k => XS.iconst X185.here hx rfl (hb hby at_175) k) ?_
  show Goes p.tables e below (T185.setTop (mkF m 176 #[.val (.int x0), .val (.int x1), .val (.ref b1), .val (.ref b49), .val (.ref b98), .unset, .unset, .unset, .unset, .unset] [(.int (5 : Int32)), (.ref b147), (.ref b147)])) _
  refine Goes.to (fun _ k => XS.iconst X185.here hx rfl (hb hby at_176) k) ?_
  show Goes p.tables e below (T185.setTop (mkF m 177 #[.val (.int x0), .val (.int x1), .val (.ref b1), .val (.ref b49), .val (.ref b98), .unset, .unset, .unset, .unset, .unset] [(.int (1 : Int32)), (.int (5 : Int32)), (.ref b147), (.ref b147)])) _
  obtain ⟨cl191, Ar191, q191, S191, N191, H191, G191⟩ := id V185
  have hin191 : ¬ ((5 : Int32) < 0 ∨ cl191.slots.size ≤ ((5 : Int32)).toNatClampNeg) := inb_of S191 ⟨by decide, by decide⟩
  obtain ⟨T192, h192, X192, e192, W192, st192⟩ := stZ X185 hx hZ rfl Ar191 (j := (5 : Int32)) hin191 (g := (mkF m 177 #[.val (.int x0), .val (.int x1), .val (.ref b1), .val (.ref b49), .val (.ref b98), .unset, .unset, .unset, .unset, .unset] [(.int (1 : Int32)), (.int (5 : Int32)), (.ref b147), (.ref b147)])) rfl rfl (hb hby at_177)
  subst e192
  have O193 := O186.wr W192 Pg176_79
  have F194 := F187.other W192 Pn176_76
  have F195 := F188.other W192 Pn176_77
  have F196 := F189.other W192 Pn176_78
  have N192 := Fr.snoc X192 N185 Pg176_79
  have Z192 : n0 ≤ T192.heap.size := Nat.le_trans Z185 (Nat.le_of_eq W192.size.symm)
  have V192 : Arv Z T192.heap b147 k147 .boolean (6 : Int32) [(.int (0 : Int32)), (.int (1 : Int32)), (.int (0 : Int32)), (.int (0 : Int32)), (.int (1 : Int32)), (.int (1 : Int32))] (.int (0 : Int32)) := Arv.set Ar191 q191 S191 N191 H191 G191 (fits_nar_bool _) W192 5 rfl (Nat.le_of_ble_eq_true rfl)
  refine Goes.to st192 ?_
  show Goes p.tables e below (T192.setTop (mkF m 178 #[.val (.int x0), .val (.int x1), .val (.ref b1), .val (.ref b49), .val (.ref b98), .unset, .unset, .unset, .unset, .unset] [(.ref b147)])) _
  refine Goes.to (fun _ k => XS.astore X192.here hx rfl (hb hby at_178) rfl rfl (l' := #[.val (.int x0), .val (.int x1), .val (.ref b1), .val (.ref b49), .val (.ref b98), .val (.ref b147), .unset, .unset, .unset, .unset]) rfl k) ?_
  show Goes p.tables e below (T192.setTop (mkF m 180 #[.val (.int x0), .val (.int x1), .val (.ref b1), .val (.ref b49), .val (.ref b98), .val (.ref b147), .unset, .unset, .unset, .unset] [])) _
  refine Goes.to (fun _ k => XS.iloadN X192.here hx rfl (hb hby at_180) rfl k) ?_
  show Goes p.tables e below (T192.setTop (mkF m 181 #[.val (.int x0), .val (.int x1), .val (.ref b1), .val (.ref b49), .val (.ref b98), .val (.ref b147), .unset, .unset, .unset, .unset] [(.int x0)])) _
  refine Goes.to (fun _ k => X192.ldcInt hx hown (mvT hZ (hw _ (List.mem_of_getElem? (i := 39) rfl))) (g := (mkF m 181 #[.val (.int x0), .val (.int x1), .val (.ref b1), .val (.ref b49), .val (.ref b98), .val (.ref b147), .unset, .unset, .unset, .unset] [(.int x0)])) rfl (hb hby at_181) _ k) ?_
  show Goes p.tables e below (T192.setTop (mkF m 183 #[.val (.int x0), .val (.int x1), .val (.ref b1), .val (.ref b49), .val (.ref b98), .val (.ref b147), .unset, .unset, .unset, .unset] [(.int (2147483647 : Int32)), (.int x0)])) _
  refine Goes.to (fun _ k => XS.iand X192.here hx rfl (hb hby at_183) rfl k) ?_
  show Goes p.tables e below (T192.setTop (mkF m 184 #[.val (.int x0), .val (.int x1), .val (.ref b1), .val (.ref b49), .val (.ref b98), .val (.ref b147), .unset, .unset, .unset, .unset] [(.int (x0 &&& (2147483647 : Int32)))])) _
  refine Goes.to (fun _ k => XS.bipush X192.here hx rfl (hb hby at_184) k) ?_
  show Goes p.tables e below (T192.setTop (mkF m 186 #[.val (.int x0), .val (.int x1), .val (.ref b1), .val (.ref b49), .val (.ref b98), .val (.ref b147), .unset, .unset, .unset, .unset] [(.int (9 : Int32)), (.int (x0 &&& (2147483647 : Int32)))])) _
  refine Goes.to (fun _ k => Jvm.RoadKit.iremM X192 hx rfl (hb hby at_186) rfl (by decide) k) ?_
  show Goes p.tables e below (T192.setTop (mkF m 187 #[.val (.int x0), .val (.int x1), .val (.ref b1), .val (.ref b49), .val (.ref b98), .val (.ref b147), .unset, .unset, .unset, .unset] [(.int ((x0 &&& (2147483647 : Int32)) % (9 : Int32)))])) _
  refine Goes.to (fun _ k => XS.istore X192.here hx rfl (hb hby at_187) rfl (l' := #[.val (.int x0), .val (.int x1), .val (.ref b1), .val (.ref b49), .val (.ref b98), .val (.ref b147), .val (.int ((x0 &&& (2147483647 : Int32)) % (9 : Int32))), .unset, .unset, .unset]) rfl k) ?_
  show Goes p.tables e below (T192.setTop (mkF m 189 #[.val (.int x0), .val (.int x1), .val (.ref b1), .val (.ref b49), .val (.ref b98), .val (.ref b147), .val (.int ((x0 &&& (2147483647 : Int32)) % (9 : Int32))), .unset, .unset, .unset] [])) _
  refine Goes.to (fun _ k => XS.iloadN X192.here hx rfl (hb hby at_189) rfl k) ?_
  show Goes p.tables e below (T192.setTop (mkF m 190 #[.val (.int x0), .val (.int x1), .val (.ref b1), .val (.ref b49), .val (.ref b98), .val (.ref b147), .val (.int ((x0 &&& (2147483647 : Int32)) % (9 : Int32))), .unset, .unset, .unset] [(.int x1)])) _
  refine Goes.to (fun _ k => X192.ldcInt hx hown (mvT hZ (hw _ (List.mem_of_getElem? (i := 39) rfl))) (g := (mkF m 190 #[.val (.int x0), .val (.int x1), .val (.ref b1), .val (.ref b49), .val (.ref b98), .val (.ref b147), .val (.int ((x0 &&& (2147483647 : Int32)) % (9 : Int32))), .unset, .unset, .unset] [(.int x1)])) rfl (hb hby at_190) _ k) ?_
  show Goes p.tables e below (T192.setTop (mkF m 192 #[.val (.int x0), .val (.int x1), .val (.ref b1), .val (.ref b49), .val (.ref b98), .val (.ref b147), .val (.int ((x0 &&& (2147483647 : Int32)) % (9 : Int32))), .unset, .unset, .unset] [(.int (2147483647 : Int32)), (.int x1)])) _
  refine Goes.to (fun _ k => XS.iand X192.here hx rfl (hb hby at_192) rfl k) ?_
  show Goes p.tables e below (T192.setTop (mkF m 193 #[.val (.int x0), .val (.int x1), .val (.ref b1), .val (.ref b49), .val (.ref b98), .val (.ref b147), .val (.int ((x0 &&& (2147483647 : Int32)) % (9 : Int32))), .unset, .unset, .unset] [(.int (x1 &&& (2147483647 : Int32)))])) _
  refine Goes.to (fun _ k => XS.bipush X192.here hx rfl (hb hby at_193) k) ?_
  show Goes p.tables e below (T192.setTop (mkF m 195 #[.val (.int x0), .val (.int x1), .val (.ref b1), .val (.ref b49), .val (.ref b98), .val (.ref b147), .val (.int ((x0 &&& (2147483647 : Int32)) % (9 : Int32))), .unset, .unset, .unset] [(.int (6 : Int32)), (.int (x1 &&& (2147483647 : Int32)))])) _
  refine Goes.to (fun _ k => Jvm.RoadKit.iremM X192 hx rfl (hb hby at_195) rfl (by decide) k) ?_
  show Goes p.tables e below (T192.setTop (mkF m 196 #[.val (.int x0), .val (.int x1), .val (.ref b1), .val (.ref b49), .val (.ref b98), .val (.ref b147), .val (.int ((x0 &&& (2147483647 : Int32)) % (9 : Int32))), .unset, .unset, .unset] [(.int ((x1 &&& (2147483647 : Int32)) % (6 : Int32)))])) _
  refine Goes.to (fun _ k => XS.istore X192.here hx rfl (hb hby at_196) rfl (l' := #[.val (.int x0), .val (.int x1), .val (.ref b1), .val (.ref b49), .val (.ref b98), .val (.ref b147), .val (.int ((x0 &&& (2147483647 : Int32)) % (9 : Int32))), .val (.int ((x1 &&& (2147483647 : Int32)) % (6 : Int32))), .unset, .unset]) rfl k) ?_
  show Goes p.tables e below (T192.setTop (mkF m 198 #[.val (.int x0), .val (.int x1), .val (.ref b1), .val (.ref b49), .val (.ref b98), .val (.ref b147), .val (.int ((x0 &&& (2147483647 : Int32)) % (9 : Int32))), .val (.int ((x1 &&& (2147483647 : Int32)) % (6 : Int32))), .unset, .unset] [])) _
  refine Goes.to (fun _ k => XS.aloadN X192.here hx rfl (hb hby at_198) rfl rfl k) ?_
  show Goes p.tables e below (T192.setTop (mkF m 199 #[.val (.int x0), .val (.int x1), .val (.ref b1), .val (.ref b49), .val (.ref b98), .val (.ref b147), .val (.int ((x0 &&& (2147483647 : Int32)) % (9 : Int32))), .val (.int ((x1 &&& (2147483647 : Int32)) % (6 : Int32))), .unset, .unset] [(.ref b1)])) _
  refine Goes.to (fun _ k => XS.iload X192.here hx rfl (hb hby at_199) rfl k) ?_
  show Goes p.tables e below (T192.setTop (mkF m 201 #[.val (.int x0), .val (.int x1), .val (.ref b1), .val (.ref b49), .val (.ref b98), .val (.ref b147), .val (.int ((x0 &&& (2147483647 : Int32)) % (9 : Int32))), .val (.int ((x1 &&& (2147483647 : Int32)) % (6 : Int32))), .unset, .unset] [(.int ((x0 &&& (2147483647 : Int32)) % (9 : Int32))), (.ref b1)])) _
  obtain ⟨cl198, Ar198, q198, S198, N198, H198, G198⟩ := id F194
  have hin198 : ¬ (((x0 &&& (2147483647 : Int32)) % (9 : Int32)) < 0 ∨ cl198.slots.size ≤ (((x0 &&& (2147483647 : Int32)) % (9 : Int32))).toNatClampNeg) := by
    have k1 := rng32 x0
    have k2 : (x0 &&& (2147483647 : Int32)).toInt = x0.toInt % 2147483648 := c_mask x0 (2147483647 : Int32) 31 (by decide) (by decide)
    have k3 := c_irem (x0 &&& (2147483647 : Int32)) (9 : Int32) 9 rfl
    have k4 := rng32 ((x0 &&& (2147483647 : Int32)) % (9 : Int32))
    have k5 : (9 : Int32).toInt = 9 := rfl
    have k6 : (0 : Int32).toInt = 0 := rfl
    refine inb_of S198 ⟨fun hq => ?_, Int32.lt_iff_toInt_lt.mpr ?_⟩
    · have hq' := Int32.lt_iff_toInt_lt.mp hq
      omega
    · omega
  by_cases hc199 : ((x0 &&& (2147483647 : Int32)) % (9 : Int32)) = (0 : Int32)
  · have hat198 : cl198.slots[(((x0 &&& (2147483647 : Int32)) % (9 : Int32))).toNatClampNeg]? = some (.ref a_Style_MATRIX) := Has.at H198 hin198 (by rw [hc199]; rfl)
    refine Goes.to (fun _ k => X192.aaload hx (j := ((x0 &&& (2147483647 : Int32)) % (9 : Int32))) (v := (.ref a_Style_MATRIX)) Ar198.1 (State.isArrayOf_alike hZ.alike Ar198.2.1) rfl Ar198.2.2 hin198 hat198 (g := (mkF m 201 #[.val (.int x0), .val (.int x1), .val (.ref b1), .val (.ref b49), .val (.ref b98), .val (.ref b147), .val (.int ((x0 &&& (2147483647 : Int32)) % (9 : Int32))), .val (.int ((x1 &&& (2147483647 : Int32)) % (6 : Int32))), .unset, .unset] [(.int ((x0 &&& (2147483647 : Int32)) % (9 : Int32))), (.ref b1)])) rfl rfl (hb hby at_201) _ k) ?_
    show Goes p.tables e below (T192.setTop (mkF m 202 #[.val (.int x0), .val (.int x1), .val (.ref b1), .val (.ref b49), .val (.ref b98), .val (.ref b147), .val (.int ((x0 &&& (2147483647 : Int32)) % (9 : Int32))), .val (.int ((x1 &&& (2147483647 : Int32)) % (6 : Int32))), .unset, .unset] [(.ref a_Style_MATRIX)])) _
    obtain ⟨cq200, kq200, q200a, q200b, q200c⟩ := isOf hZ rfl (E_Style_MATRIX.ext O193.2)
    obtain ⟨_, _, ⟨T200, L200, k200, n200⟩, -, X200, ⟨Lc200, hQ200, l200, y200, z200⟩, st200⟩ := X192.virtualBack hx (y := (⟨"com/example/unipar/unipar/Style", "explodesByDefault", "()Z"⟩ : MethodName)) (z := (⟨"com/example/unipar/unipar/Style", "explodesByDefault", "()Z"⟩ : MethodName)) hown (mvT hZ (hw _ (List.mem_of_getElem? (i := 40) rfl))) (mvT hZ (hw _ (List.mem_of_getElem? (i := 41) rfl))) (notFace_of_selects (args := #[]) (mvT hZ (hw _ (List.mem_of_getElem? (i := 43) rfl)))) (mvT hZ (hw _ (List.mem_of_getElem? (i := 43) rfl))) (mvT hZ (hw _ (List.mem_of_getElem? (i := 42) rfl))) (by decide) (backOf (W := 0) (own_rm1 l Z a0 hw [] a_Style_MATRIX a_Style_FORM a_Style_COOKIE T192.heap n0 Z192 (S_Style_FORM.ext O193.2) (S_Style_COOKIE.ext O193.2)) hZ (hw _ (List.mem_of_getElem? (i := 44) rfl)) (hw _ (List.mem_of_getElem? (i := 3) rfl)) (by decide) (by decide)) q200a q200c (g := (mkF m 202 #[.val (.int x0), .val (.int x1), .val (.ref b1), .val (.ref b49), .val (.ref b98), .val (.ref b147), .val (.int ((x0 &&& (2147483647 : Int32)) % (9 : Int32))), .val (.int ((x1 &&& (2147483647 : Int32)) % (6 : Int32))), .unset, .unset] [(.ref a_Style_MATRIX)])) rfl (by rw [hml]; rfl) (Steps.refl _) (argsL := []) (rest := []) (lenOf own_pd_pqZ rfl) rfl (by show 2 * 0 + _ ≤ _; exact Nat.le_of_eq rfl) (hb hby at_202) (fun _ _ => ⟨rfl, rfl, (by decide : 4 + 0 ≤ _), (by decide : 30 + 0 ≤ _)⟩)
    dsimp only [Pt.U, Pt.locs, Pt.cells, Pt.slots] at X200 l200 y200 z200 st200 hQ200
    subst l200 y200 z200
    obtain ⟨hv200, Nq200, hp200_0⟩ := hQ200
    have N200 := Fr.app N192 Nq200
    by_cases hc201 : a_Style_MATRIX = a_Style_FORM ∨ a_Style_MATRIX = a_Style_COOKIE
    · exact absurd hc201 (fun q => q.elim (ne_Style_MATRIX__Style_FORM) (ne_Style_MATRIX__Style_COOKIE))
    · rw [if_neg hc201] at hv200
      subst hv200
      refine Goes.tr st200 ?_
      show Goes p.tables e below (T200.setTop (mkF m 205 #[.val (.int x0), .val (.int x1), .val (.ref b1), .val (.ref b49), .val (.ref b98), .val (.ref b147), .val (.int ((x0 &&& (2147483647 : Int32)) % (9 : Int32))), .val (.int ((x1 &&& (2147483647 : Int32)) % (6 : Int32))), .unset, .unset] [(.int (0 : Int32))])) _
      refine Goes.to (fun _ k => XS.aloadN X200.here hx rfl (hb hby at_205) rfl rfl k) ?_
      show Goes p.tables e below (T200.setTop (mkF m 206 #[.val (.int x0), .val (.int x1), .val (.ref b1), .val (.ref b49), .val (.ref b98), .val (.ref b147), .val (.int ((x0 &&& (2147483647 : Int32)) % (9 : Int32))), .val (.int ((x1 &&& (2147483647 : Int32)) % (6 : Int32))), .unset, .unset] [(.ref b49), (.int (0 : Int32))])) _
      refine Goes.to (fun _ k => XS.iload X200.here hx rfl (hb hby at_206) rfl k) ?_
      show Goes p.tables e below (T200.setTop (mkF m 208 #[.val (.int x0), .val (.int x1), .val (.ref b1), .val (.ref b49), .val (.ref b98), .val (.ref b147), .val (.int ((x0 &&& (2147483647 : Int32)) % (9 : Int32))), .val (.int ((x1 &&& (2147483647 : Int32)) % (6 : Int32))), .unset, .unset] [(.int ((x0 &&& (2147483647 : Int32)) % (9 : Int32))), (.ref b49), (.int (0 : Int32))])) _
      obtain ⟨cl202, Ar202, q202, S202, N202, H202, G202⟩ := id F195
      have hin202 : ¬ (((x0 &&& (2147483647 : Int32)) % (9 : Int32)) < 0 ∨ cl202.slots.size ≤ (((x0 &&& (2147483647 : Int32)) % (9 : Int32))).toNatClampNeg) := by
        have k1 := rng32 x0
        have k2 : (x0 &&& (2147483647 : Int32)).toInt = x0.toInt % 2147483648 := c_mask x0 (2147483647 : Int32) 31 (by decide) (by decide)
        have k3 := c_irem (x0 &&& (2147483647 : Int32)) (9 : Int32) 9 rfl
        have k4 := rng32 ((x0 &&& (2147483647 : Int32)) % (9 : Int32))
        have k5 : (0 : Int32).toInt = 0 := rfl
        have k6 : ((x0 &&& (2147483647 : Int32)) % (9 : Int32)).toInt = (0 : Int32).toInt := congrArg Int32.toInt hc199
        have k7 : (9 : Int32).toInt = 9 := rfl
        refine inb_of S202 ⟨fun hq => ?_, Int32.lt_iff_toInt_lt.mpr ?_⟩
        · have hq' := Int32.lt_iff_toInt_lt.mp hq
          omega
        · omega
      have hat202 : cl202.slots[(((x0 &&& (2147483647 : Int32)) % (9 : Int32))).toNatClampNeg]? = some (.int (0 : Int32)) := Has.at H202 hin202 (by rw [hc199]; rfl)
      refine Goes.to (fun _ k => X200.baloadBooleans hx (j := ((x0 &&& (2147483647 : Int32)) % (9 : Int32))) (v := (.int (0 : Int32))) (by rw [hp200_0]; exact Ar202.1) (State.isArrayOf_alike hZ.alike Ar202.2.1) Ar202.2.2 hin202 hat202 (g := (mkF m 208 #[.val (.int x0), .val (.int x1), .val (.ref b1), .val (.ref b49), .val (.ref b98), .val (.ref b147), .val (.int ((x0 &&& (2147483647 : Int32)) % (9 : Int32))), .val (.int ((x1 &&& (2147483647 : Int32)) % (6 : Int32))), .unset, .unset] [(.int ((x0 &&& (2147483647 : Int32)) % (9 : Int32))), (.ref b49), (.int (0 : Int32))])) rfl rfl (hb hby at_208) _ k) ?_
      show Goes p.tables e below (T200.setTop (mkF m 209 #[.val (.int x0), .val (.int x1), .val (.ref b1), .val (.ref b49), .val (.ref b98), .val (.ref b147), .val (.int ((x0 &&& (2147483647 : Int32)) % (9 : Int32))), .val (.int ((x1 &&& (2147483647 : Int32)) % (6 : Int32))), .unset, .unset] [(.int (0 : Int32)), (.int (0 : Int32))])) _
      refine Goes.to (fun _ k => XS.icmpNo X200.here hx rfl (hb hby at_209) rfl (teq (by decide : (0 : Int32) = (0 : Int32))).2 k) ?_
      show Goes p.tables e below (T200.setTop (mkF m 212 #[.val (.int x0), .val (.int x1), .val (.ref b1), .val (.ref b49), .val (.ref b98), .val (.ref b147), .val (.int ((x0 &&& (2147483647 : Int32)) % (9 : Int32))), .val (.int ((x1 &&& (2147483647 : Int32)) % (6 : Int32))), .unset, .unset] [])) _
      refine Goes.to (fun _ k => XS.iconst X200.here hx rfl (hb hby at_212) k) ?_
      show Goes p.tables e below (T200.setTop (mkF m 213 #[.val (.int x0), .val (.int x1), .val (.ref b1), .val (.ref b49), .val (.ref b98), .val (.ref b147), .val (.int ((x0 &&& (2147483647 : Int32)) % (9 : Int32))), .val (.int ((x1 &&& (2147483647 : Int32)) % (6 : Int32))), .unset, .unset] [(.int (1 : Int32))])) _
      refine Goes.to (fun _ k => XS.goto X200.here hx rfl (pc0 := 213) (pc' := 217) rfl (hb hby at_213) (by decide) (by decide) k) ?_
      show Goes p.tables e below (T200.setTop (mkF m 217 #[.val (.int x0), .val (.int x1), .val (.ref b1), .val (.ref b49), .val (.ref b98), .val (.ref b147), .val (.int ((x0 &&& (2147483647 : Int32)) % (9 : Int32))), .val (.int ((x1 &&& (2147483647 : Int32)) % (6 : Int32))), .unset, .unset] [(.int (1 : Int32))])) _
      refine Goes.to (fun _ k => XS.istore X200.here hx rfl (hb hby at_217) rfl (l' := #[.val (.int x0), .val (.int x1), .val (.ref b1), .val (.ref b49), .val (.ref b98), .val (.ref b147), .val (.int ((x0 &&& (2147483647 : Int32)) % (9 : Int32))), .val (.int ((x1 &&& (2147483647 : Int32)) % (6 : Int32))), .val (.int (1 : Int32)), .unset]) rfl k) ?_
      exact own_pt_own_rm0_203 l Z a0 hw ws x0 x1 a_Style_MATRIX a_Style_LABEL a_Style_FORM a_Style_SIMPLE a_Style_SPACE_DELIMITED a_Style_PIPE_DELIMITED a_Style_DEEP_OBJECT a_Style_COOKIE a_Style_TAB_DELIMITED a_Location_PATH a_Location_QUERY a_Location_QUERYSTRING a_Location_HEADER a_Location_COOKIE a_Location_FORM_DATA a_M k_M h0 n0 Z0 O0 S_Style_MATRIX E_Style_MATRIX S_Style_LABEL E_Style_LABEL S_Style_FORM E_Style_FORM S_Style_SIMPLE E_Style_SIMPLE S_Style_SPACE_DELIMITED E_Style_SPACE_DELIMITED S_Style_PIPE_DELIMITED E_Style_PIPE_DELIMITED S_Style_DEEP_OBJECT E_Style_DEEP_OBJECT S_Style_COOKIE E_Style_COOKIE S_Style_TAB_DELIMITED E_Style_TAB_DELIMITED S_Location_PATH E_Location_PATH S_Location_QUERY E_Location_QUERY S_Location_QUERYSTRING E_Location_QUERYSTRING S_Location_HEADER E_Location_HEADER S_Location_COOKIE E_Location_COOKIE S_Location_FORM_DATA E_Location_FORM_DATA F_Style_MATRIX_ordinal F_Style_FORM_ordinal F_Style_COOKIE_ordinal F_Location_HEADER_ordinal F_Style_SIMPLE_ordinal F_Style_PIPE_DELIMITED_ordinal F_Location_QUERY_ordinal F_Location_FORM_DATA_ordinal F_Location_QUERYSTRING_ordinal F_Style_SPACE_DELIMITED_ordinal F_Location_PATH_ordinal F_Style_LABEL_ordinal F_Style_DEEP_OBJECT_ordinal F_Location_COOKIE_ordinal F_Style_TAB_DELIMITED_ordinal ne_Style_MATRIX__Style_FORM ne_Style_MATRIX__Style_COOKIE ne_Style_LABEL__Style_FORM ne_Style_LABEL__Style_COOKIE ne_Style_FORM__Style_SIMPLE ne_Style_FORM__Style_SPACE_DELIMITED ne_Style_FORM__Style_PIPE_DELIMITED ne_Style_FORM__Style_DEEP_OBJECT ne_Style_FORM__Style_COOKIE ne_Style_FORM__Style_TAB_DELIMITED ne_Style_SIMPLE__Style_COOKIE ne_Style_SPACE_DELIMITED__Style_COOKIE ne_Style_PIPE_DELIMITED__Style_COOKIE ne_Style_DEEP_OBJECT__Style_COOKIE ne_Style_COOKIE__Style_TAB_DELIMITED SM VM Bd hml0 hh hZ b1 k1 b49 k49 b98 k98 b147 k147 T200 _  T192.heap X200 hp200_0 N200 Z192  F194 F195 F196 V192 Po176_4 Pn176_5 Pn176_6 Pn176_7 Pn176_8 Pn176_9 Pn176_10 Pn176_11 Pn176_12 Pn176_13 Pn176_14 Pn176_15 Pn176_16 Pn176_17 Pn176_18 Pn176_19 Pn176_20 Pg176_21 Pn176_22 Pn176_23 Pn176_24 Pn176_25 Pn176_26 Pn176_27 Pn176_28 Pn176_29 Pn176_30 Pn176_31 Pn176_32 Pn176_33 Pn176_34 Pn176_35 Pn176_36 Pn176_37 Pn176_38 Pg176_39 Po176_40 Pn176_41 Pn176_42 Pn176_43 Pn176_44 Pn176_45 Pn176_46 Pn176_47 Pn176_48 Pn176_49 Pn176_50 Pn176_51 Pn176_52 Pn176_53 Pn176_54 Pn176_55 Pn176_56 Pn176_57 Pn176_58 Pg176_59 Pn176_60 Pn176_61 Pn176_62 Pn176_63 Pn176_64 Pn176_65 Pn176_66 Pn176_67 Pn176_68 Pn176_69 Pn176_70 Pn176_71 Pn176_72 Pn176_73 Pn176_74 Pn176_75 Pn176_76 Pn176_77 Pn176_78 Pg176_79 O193
  · by_cases hc235 : ((x0 &&& (2147483647 : Int32)) % (9 : Int32)) = (1 : Int32)
    · have hat198 : cl198.slots[(((x0 &&& (2147483647 : Int32)) % (9 : Int32))).toNatClampNeg]? = some (.ref a_Style_LABEL) := Has.at H198 hin198 (by rw [hc235]; rfl)
      refine Goes.to (fun _ k => X192.aaload hx (j := ((x0 &&& (2147483647 : Int32)) % (9 : Int32))) (v := (.ref a_Style_LABEL)) Ar198.1 (State.isArrayOf_alike hZ.alike Ar198.2.1) rfl Ar198.2.2 hin198 hat198 (g := (mkF m 201 #[.val (.int x0), .val (.int x1), .val (.ref b1), .val (.ref b49), .val (.ref b98), .val (.ref b147), .val (.int ((x0 &&& (2147483647 : Int32)) % (9 : Int32))), .val (.int ((x1 &&& (2147483647 : Int32)) % (6 : Int32))), .unset, .unset] [(.int ((x0 &&& (2147483647 : Int32)) % (9 : Int32))), (.ref b1)])) rfl rfl (hb hby at_201) _ k) ?_
      show Goes p.tables e below (T192.setTop (mkF m 202 #[.val (.int x0), .val (.int x1), .val (.ref b1), .val (.ref b49), .val (.ref b98), .val (.ref b147), .val (.int ((x0 &&& (2147483647 : Int32)) % (9 : Int32))), .val (.int ((x1 &&& (2147483647 : Int32)) % (6 : Int32))), .unset, .unset] [(.ref a_Style_LABEL)])) _
      obtain ⟨cq236, kq236, q236a, q236b, q236c⟩ := isOf hZ rfl (E_Style_LABEL.ext O193.2)
      obtain ⟨_, _, ⟨T236, L236, k236, n236⟩, -, X236, ⟨Lc236, hQ236, l236, y236, z236⟩, st236⟩ := X192.virtualBack hx (y := (⟨"com/example/unipar/unipar/Style", "explodesByDefault", "()Z"⟩ : MethodName)) (z := (⟨"com/example/unipar/unipar/Style", "explodesByDefault", "()Z"⟩ : MethodName)) hown (mvT hZ (hw _ (List.mem_of_getElem? (i := 40) rfl))) (mvT hZ (hw _ (List.mem_of_getElem? (i := 41) rfl))) (notFace_of_selects (args := #[]) (mvT hZ (hw _ (List.mem_of_getElem? (i := 43) rfl)))) (mvT hZ (hw _ (List.mem_of_getElem? (i := 43) rfl))) (mvT hZ (hw _ (List.mem_of_getElem? (i := 42) rfl))) (by decide) (backOf (W := 0) (own_rm1 l Z a0 hw [] a_Style_LABEL a_Style_FORM a_Style_COOKIE T192.heap n0 Z192 (S_Style_FORM.ext O193.2) (S_Style_COOKIE.ext O193.2)) hZ (hw _ (List.mem_of_getElem? (i := 44) rfl)) (hw _ (List.mem_of_getElem? (i := 3) rfl)) (by decide) (by decide)) q236a q236c (g := (mkF m 202 #[.val (.int x0), .val (.int x1), .val (.ref b1), .val (.ref b49), .val (.ref b98), .val (.ref b147), .val (.int ((x0 &&& (2147483647 : Int32)) % (9 : Int32))), .val (.int ((x1 &&& (2147483647 : Int32)) % (6 : Int32))), .unset, .unset] [(.ref a_Style_LABEL)])) rfl (by rw [hml]; rfl) (Steps.refl _) (argsL := []) (rest := []) (lenOf own_pd_pqZ rfl) rfl (by show 2 * 0 + _ ≤ _; exact Nat.le_of_eq rfl) (hb hby at_202) (fun _ _ => ⟨rfl, rfl, (by decide : 4 + 0 ≤ _), (by decide : 30 + 0 ≤ _)⟩)
      dsimp only [Pt.U, Pt.locs, Pt.cells, Pt.slots] at X236 l236 y236 z236 st236 hQ236
      subst l236 y236 z236
      obtain ⟨hv236, Nq236, hp236_0⟩ := hQ236
      have N236 := Fr.app N192 Nq236
      by_cases hc237 : a_Style_LABEL = a_Style_FORM ∨ a_Style_LABEL = a_Style_COOKIE
      · exact absurd hc237 (fun q => q.elim (ne_Style_LABEL__Style_FORM) (ne_Style_LABEL__Style_COOKIE))
      · rw [if_neg hc237] at hv236
        subst hv236
        refine Goes.tr st236 ?_
        show Goes p.tables e below (T236.setTop (mkF m 205 #[.val (.int x0), .val (.int x1), .val (.ref b1), .val (.ref b49), .val (.ref b98), .val (.ref b147), .val (.int ((x0 &&& (2147483647 : Int32)) % (9 : Int32))), .val (.int ((x1 &&& (2147483647 : Int32)) % (6 : Int32))), .unset, .unset] [(.int (0 : Int32))])) _
        refine Goes.to (fun _ k => XS.aloadN X236.here hx rfl (hb hby at_205) rfl rfl k) ?_
        show Goes p.tables e below (T236.setTop (mkF m 206 #[.val (.int x0), .val (.int x1), .val (.ref b1), .val (.ref b49), .val (.ref b98), .val (.ref b147), .val (.int ((x0 &&& (2147483647 : Int32)) % (9 : Int32))), .val (.int ((x1 &&& (2147483647 : Int32)) % (6 : Int32))), .unset, .unset] [(.ref b49), (.int (0 : Int32))])) _
        refine Goes.to (fun _ k => XS.iload X236.here hx rfl (hb hby at_206) rfl k) ?_
        show Goes p.tables e below (T236.setTop (mkF m 208 #[.val (.int x0), .val (.int x1), .val (.ref b1), .val (.ref b49), .val (.ref b98), .val (.ref b147), .val (.int ((x0 &&& (2147483647 : Int32)) % (9 : Int32))), .val (.int ((x1 &&& (2147483647 : Int32)) % (6 : Int32))), .unset, .unset] [(.int ((x0 &&& (2147483647 : Int32)) % (9 : Int32))), (.ref b49), (.int (0 : Int32))])) _
        obtain ⟨cl238, Ar238, q238, S238, N238, H238, G238⟩ := id F195
        have hin238 : ¬ (((x0 &&& (2147483647 : Int32)) % (9 : Int32)) < 0 ∨ cl238.slots.size ≤ (((x0 &&& (2147483647 : Int32)) % (9 : Int32))).toNatClampNeg) := by
          have k1 := rng32 x0
          have k2 : (x0 &&& (2147483647 : Int32)).toInt = x0.toInt % 2147483648 := c_mask x0 (2147483647 : Int32) 31 (by decide) (by decide)
          have k3 := c_irem (x0 &&& (2147483647 : Int32)) (9 : Int32) 9 rfl
          have k4 := rng32 ((x0 &&& (2147483647 : Int32)) % (9 : Int32))
          have k5 : (0 : Int32).toInt = 0 := rfl
          have k6 : ¬ ((x0 &&& (2147483647 : Int32)) % (9 : Int32)).toInt = (0 : Int32).toInt := fun z => hc199 (Int32.toInt_inj.mp z)
          have k7 : (1 : Int32).toInt = 1 := rfl
          have k8 : ((x0 &&& (2147483647 : Int32)) % (9 : Int32)).toInt = (1 : Int32).toInt := congrArg Int32.toInt hc235
          have k9 : (9 : Int32).toInt = 9 := rfl
          refine inb_of S238 ⟨fun hq => ?_, Int32.lt_iff_toInt_lt.mpr ?_⟩
          · have hq' := Int32.lt_iff_toInt_lt.mp hq
            omega
          · omega
        have hat238 : cl238.slots[(((x0 &&& (2147483647 : Int32)) % (9 : Int32))).toNatClampNeg]? = some (.int (0 : Int32)) := Has.at H238 hin238 (by rw [hc235]; rfl)
        refine Goes.to (fun _ k => X236.baloadBooleans hx (j := ((x0 &&& (2147483647 : Int32)) % (9 : Int32))) (v := (.int (0 : Int32))) (by rw [hp236_0]; exact Ar238.1) (State.isArrayOf_alike hZ.alike Ar238.2.1) Ar238.2.2 hin238 hat238 (g := (mkF m 208 #[.val (.int x0), .val (.int x1), .val (.ref b1), .val (.ref b49), .val (.ref b98), .val (.ref b147), .val (.int ((x0 &&& (2147483647 : Int32)) % (9 : Int32))), .val (.int ((x1 &&& (2147483647 : Int32)) % (6 : Int32))), .unset, .unset] [(.int ((x0 &&& (2147483647 : Int32)) % (9 : Int32))), (.ref b49), (.int (0 : Int32))])) rfl rfl (hb hby at_208) _ k) ?_
        show Goes p.tables e below (T236.setTop (mkF m 209 #[.val (.int x0), .val (.int x1), .val (.ref b1), .val (.ref b49), .val (.ref b98), .val (.ref b147), .val (.int ((x0 &&& (2147483647 : Int32)) % (9 : Int32))), .val (.int ((x1 &&& (2147483647 : Int32)) % (6 : Int32))), .unset, .unset] [(.int (0 : Int32)), (.int (0 : Int32))])) _
        refine Goes.to (fun _ k => XS.icmpNo X236.here hx rfl (hb hby at_209) rfl (teq (by decide : (0 : Int32) = (0 : Int32))).2 k) ?_
        show Goes p.tables e below (T236.setTop (mkF m 212 #[.val (.int x0), .val (.int x1), .val (.ref b1), .val (.ref b49), .val (.ref b98), .val (.ref b147), .val (.int ((x0 &&& (2147483647 : Int32)) % (9 : Int32))), .val (.int ((x1 &&& (2147483647 : Int32)) % (6 : Int32))), .unset, .unset] [])) _
        refine Goes.to (fun _ k => XS.iconst X236.here hx rfl (hb hby at_212) k) ?_
        show Goes p.tables e below (T236.setTop (mkF m 213 #[.val (.int x0), .val (.int x1), .val (.ref b1), .val (.ref b49), .val (.ref b98), .val (.ref b147), .val (.int ((x0 &&& (2147483647 : Int32)) % (9 : Int32))), .val (.int ((x1 &&& (2147483647 : Int32)) % (6 : Int32))), .unset, .unset] [(.int (1 : Int32))])) _
        refine Goes.to (fun _ k => XS.goto X236.here hx rfl (pc0 := 213) (pc' := 217) rfl (hb hby at_213) (by decide) (by decide) k) ?_
        show Goes p.tables e below (T236.setTop (mkF m 217 #[.val (.int x0), .val (.int x1), .val (.ref b1), .val (.ref b49), .val (.ref b98), .val (.ref b147), .val (.int ((x0 &&& (2147483647 : Int32)) % (9 : Int32))), .val (.int ((x1 &&& (2147483647 : Int32)) % (6 : Int32))), .unset, .unset] [(.int (1 : Int32))])) _
        refine Goes.to (fun _ k => XS.istore X236.here hx rfl (hb hby at_217) rfl (l' := #[.val (.int x0), .val (.int x1), .val (.ref b1), .val (.ref b49), .val (.ref b98), .val (.ref b147), .val (.int ((x0 &&& (2147483647 : Int32)) % (9 : Int32))), .val (.int ((x1 &&& (2147483647 : Int32)) % (6 : Int32))), .val (.int (1 : Int32)), .unset]) rfl k) ?_
        exact own_pt_own_rm0_203 l Z a0 hw ws x0 x1 a_Style_MATRIX a_Style_LABEL a_Style_FORM a_Style_SIMPLE a_Style_SPACE_DELIMITED a_Style_PIPE_DELIMITED a_Style_DEEP_OBJECT a_Style_COOKIE a_Style_TAB_DELIMITED a_Location_PATH a_Location_QUERY a_Location_QUERYSTRING a_Location_HEADER a_Location_COOKIE a_Location_FORM_DATA a_M k_M h0 n0 Z0 O0 S_Style_MATRIX E_Style_MATRIX S_Style_LABEL E_Style_LABEL S_Style_FORM E_Style_FORM S_Style_SIMPLE E_Style_SIMPLE S_Style_SPACE_DELIMITED E_Style_SPACE_DELIMITED S_Style_PIPE_DELIMITED E_Style_PIPE_DELIMITED S_Style_DEEP_OBJECT E_Style_DEEP_OBJECT S_Style_COOKIE E_Style_COOKIE S_Style_TAB_DELIMITED E_Style_TAB_DELIMITED S_Location_PATH E_Location_PATH S_Location_QUERY E_Location_QUERY S_Location_QUERYSTRING E_Location_QUERYSTRING S_Location_HEADER E_Location_HEADER S_Location_COOKIE E_Location_COOKIE S_Location_FORM_DATA E_Location_FORM_DATA F_Style_MATRIX_ordinal F_Style_FORM_ordinal F_Style_COOKIE_ordinal F_Location_HEADER_ordinal F_Style_SIMPLE_ordinal F_Style_PIPE_DELIMITED_ordinal F_Location_QUERY_ordinal F_Location_FORM_DATA_ordinal F_Location_QUERYSTRING_ordinal F_Style_SPACE_DELIMITED_ordinal F_Location_PATH_ordinal F_Style_LABEL_ordinal F_Style_DEEP_OBJECT_ordinal F_Location_COOKIE_ordinal F_Style_TAB_DELIMITED_ordinal ne_Style_MATRIX__Style_FORM ne_Style_MATRIX__Style_COOKIE ne_Style_LABEL__Style_FORM ne_Style_LABEL__Style_COOKIE ne_Style_FORM__Style_SIMPLE ne_Style_FORM__Style_SPACE_DELIMITED ne_Style_FORM__Style_PIPE_DELIMITED ne_Style_FORM__Style_DEEP_OBJECT ne_Style_FORM__Style_COOKIE ne_Style_FORM__Style_TAB_DELIMITED ne_Style_SIMPLE__Style_COOKIE ne_Style_SPACE_DELIMITED__Style_COOKIE ne_Style_PIPE_DELIMITED__Style_COOKIE ne_Style_DEEP_OBJECT__Style_COOKIE ne_Style_COOKIE__Style_TAB_DELIMITED SM VM Bd hml0 hh hZ b1 k1 b49 k49 b98 k98 b147 k147 T236 _  T192.heap X236 hp236_0 N236 Z192  F194 F195 F196 V192 Po176_4 Pn176_5 Pn176_6 Pn176_7 Pn176_8 Pn176_9 Pn176_10 Pn176_11 Pn176_12 Pn176_13 Pn176_14 Pn176_15 Pn176_16 Pn176_17 Pn176_18 Pn176_19 Pn176_20 Pg176_21 Pn176_22 Pn176_23 Pn176_24 Pn176_25 Pn176_26 Pn176_27 Pn176_28 Pn176_29 Pn176_30 Pn176_31 Pn176_32 Pn176_33 Pn176_34 Pn176_35 Pn176_36 Pn176_37 Pn176_38 Pg176_39 Po176_40 Pn176_41 Pn176_42 Pn176_43 Pn176_44 Pn176_45 Pn176_46 Pn176_47 Pn176_48 Pn176_49 Pn176_50 Pn176_51 Pn176_52 Pn176_53 Pn176_54 Pn176_55 Pn176_56 Pn176_57 Pn176_58 Pg176_59 Pn176_60 Pn176_61 Pn176_62 Pn176_63 Pn176_64 Pn176_65 Pn176_66 Pn176_67 Pn176_68 Pn176_69 Pn176_70 Pn176_71 Pn176_72 Pn176_73 Pn176_74 Pn176_75 Pn176_76 Pn176_77 Pn176_78 Pg176_79 O193
    · by_cases hc240 : ((x0 &&& (2147483647 : Int32)) % (9 : Int32)) = (2 : Int32)
      · have hat198 : cl198.slots[(((x0 &&& (2147483647 : Int32)) % (9 : Int32))).toNatClampNeg]? = some (.ref a_Style_FORM) := Has.at H198 hin198 (by rw [hc240]; rfl)
        refine Goes.to (fun _ k => X192.aaload hx (j := ((x0 &&& (2147483647 : Int32)) % (9 : Int32))) (v := (.ref a_Style_FORM)) Ar198.1 (State.isArrayOf_alike hZ.alike Ar198.2.1) rfl Ar198.2.2 hin198 hat198 (g := (mkF m 201 #[.val (.int x0), .val (.int x1), .val (.ref b1), .val (.ref b49), .val (.ref b98), .val (.ref b147), .val (.int ((x0 &&& (2147483647 : Int32)) % (9 : Int32))), .val (.int ((x1 &&& (2147483647 : Int32)) % (6 : Int32))), .unset, .unset] [(.int ((x0 &&& (2147483647 : Int32)) % (9 : Int32))), (.ref b1)])) rfl rfl (hb hby at_201) _ k) ?_
        show Goes p.tables e below (T192.setTop (mkF m 202 #[.val (.int x0), .val (.int x1), .val (.ref b1), .val (.ref b49), .val (.ref b98), .val (.ref b147), .val (.int ((x0 &&& (2147483647 : Int32)) % (9 : Int32))), .val (.int ((x1 &&& (2147483647 : Int32)) % (6 : Int32))), .unset, .unset] [(.ref a_Style_FORM)])) _
        obtain ⟨cq241, kq241, q241a, q241b, q241c⟩ := isOf hZ rfl (E_Style_FORM.ext O193.2)
        obtain ⟨_, _, ⟨T241, L241, k241, n241⟩, -, X241, ⟨Lc241, hQ241, l241, y241, z241⟩, st241⟩ := X192.virtualBack hx (y := (⟨"com/example/unipar/unipar/Style", "explodesByDefault", "()Z"⟩ : MethodName)) (z := (⟨"com/example/unipar/unipar/Style", "explodesByDefault", "()Z"⟩ : MethodName)) hown (mvT hZ (hw _ (List.mem_of_getElem? (i := 40) rfl))) (mvT hZ (hw _ (List.mem_of_getElem? (i := 41) rfl))) (notFace_of_selects (args := #[]) (mvT hZ (hw _ (List.mem_of_getElem? (i := 43) rfl)))) (mvT hZ (hw _ (List.mem_of_getElem? (i := 43) rfl))) (mvT hZ (hw _ (List.mem_of_getElem? (i := 42) rfl))) (by decide) (backOf (W := 0) (own_rm1 l Z a0 hw [] a_Style_FORM a_Style_FORM a_Style_COOKIE T192.heap n0 Z192 (S_Style_FORM.ext O193.2) (S_Style_COOKIE.ext O193.2)) hZ (hw _ (List.mem_of_getElem? (i := 44) rfl)) (hw _ (List.mem_of_getElem? (i := 3) rfl)) (by decide) (by decide)) q241a q241c (g := (mkF m 202 #[.val (.int x0), .val (.int x1), .val (.ref b1), .val (.ref b49), .val (.ref b98), .val (.ref b147), .val (.int ((x0 &&& (2147483647 : Int32)) % (9 : Int32))), .val (.int ((x1 &&& (2147483647 : Int32)) % (6 : Int32))), .unset, .unset] [(.ref a_Style_FORM)])) rfl (by rw [hml]; rfl) (Steps.refl _) (argsL := []) (rest := []) (lenOf own_pd_pqZ rfl) rfl (by show 2 * 0 + _ ≤ _; exact Nat.le_of_eq rfl) (hb hby at_202) (fun _ _ => ⟨rfl, rfl, (by decide : 4 + 0 ≤ _), (by decide : 30 + 0 ≤ _)⟩)
        dsimp only [Pt.U, Pt.locs, Pt.cells, Pt.slots] at X241 l241 y241 z241 st241 hQ241
        subst l241 y241 z241
        obtain ⟨hv241, Nq241, hp241_0⟩ := hQ241
        have N241 := Fr.app N192 Nq241
        by_cases hc242 : a_Style_FORM = a_Style_FORM ∨ a_Style_FORM = a_Style_COOKIE
        · rw [if_pos hc242] at hv241
          subst hv241
          refine Goes.tr st241 ?_
          show Goes p.tables e below (T241.setTop (mkF m 205 #[.val (.int x0), .val (.int x1), .val (.ref b1), .val (.ref b49), .val (.ref b98), .val (.ref b147), .val (.int ((x0 &&& (2147483647 : Int32)) % (9 : Int32))), .val (.int ((x1 &&& (2147483647 : Int32)) % (6 : Int32))), .unset, .unset] [(.int (1 : Int32))])) _
          refine Goes.to (fun _ k => XS.aloadN X241.here hx rfl (hb hby at_205) rfl rfl k) ?_
          show Goes p.tables e below (T241.setTop (mkF m 206 #[.val (.int x0), .val (.int x1), .val (.ref b1), .val (.ref b49), .val (.ref b98), .val (.ref b147), .val (.int ((x0 &&& (2147483647 : Int32)) % (9 : Int32))), .val (.int ((x1 &&& (2147483647 : Int32)) % (6 : Int32))), .unset, .unset] [(.ref b49), (.int (1 : Int32))])) _
          refine Goes.to (fun _ k => XS.iload X241.here hx rfl (hb hby at_206) rfl k) ?_
          show Goes p.tables e below (T241.setTop (mkF m 208 #[.val (.int x0), .val (.int x1), .val (.ref b1), .val (.ref b49), .val (.ref b98), .val (.ref b147), .val (.int ((x0 &&& (2147483647 : Int32)) % (9 : Int32))), .val (.int ((x1 &&& (2147483647 : Int32)) % (6 : Int32))), .unset, .unset] [(.int ((x0 &&& (2147483647 : Int32)) % (9 : Int32))), (.ref b49), (.int (1 : Int32))])) _
          obtain ⟨cl243, Ar243, q243, S243, N243, H243, G243⟩ := id F195
          have hin243 : ¬ (((x0 &&& (2147483647 : Int32)) % (9 : Int32)) < 0 ∨ cl243.slots.size ≤ (((x0 &&& (2147483647 : Int32)) % (9 : Int32))).toNatClampNeg) := by
            have k1 := rng32 x0
            have k2 : (x0 &&& (2147483647 : Int32)).toInt = x0.toInt % 2147483648 := c_mask x0 (2147483647 : Int32) 31 (by decide) (by decide)
            have k3 := c_irem (x0 &&& (2147483647 : Int32)) (9 : Int32) 9 rfl
            have k4 := rng32 ((x0 &&& (2147483647 : Int32)) % (9 : Int32))
            have k5 : (0 : Int32).toInt = 0 := rfl
            have k6 : ¬ ((x0 &&& (2147483647 : Int32)) % (9 : Int32)).toInt = (0 : Int32).toInt := fun z => hc199 (Int32.toInt_inj.mp z)
            have k7 : (1 : Int32).toInt = 1 := rfl
            have k8 : ¬ ((x0 &&& (2147483647 : Int32)) % (9 : Int32)).toInt = (1 : Int32).toInt := fun z => hc235 (Int32.toInt_inj.mp z)
            have k9 : (2 : Int32).toInt = 2 := rfl
            have k10 : ((x0 &&& (2147483647 : Int32)) % (9 : Int32)).toInt = (2 : Int32).toInt := congrArg Int32.toInt hc240
            have k11 : (9 : Int32).toInt = 9 := rfl
            refine inb_of S243 ⟨fun hq => ?_, Int32.lt_iff_toInt_lt.mpr ?_⟩
            · have hq' := Int32.lt_iff_toInt_lt.mp hq
              omega
            · omega
          have hat243 : cl243.slots[(((x0 &&& (2147483647 : Int32)) % (9 : Int32))).toNatClampNeg]? = some (.int (1 : Int32)) := Has.at H243 hin243 (by rw [hc240]; rfl)
          refine Goes.to (fun _ k => X241.baloadBooleans hx (j := ((x0 &&& (2147483647 : Int32)) % (9 : Int32))) (v := (.int (1 : Int32))) (by rw [hp241_0]; exact Ar243.1) (State.isArrayOf_alike hZ.alike Ar243.2.1) Ar243.2.2 hin243 hat243 (g := (mkF m 208 #[.val (.int x0), .val (.int x1), .val (.ref b1), .val (.ref b49), .val (.ref b98), .val (.ref b147), .val (.int ((x0 &&& (2147483647 : Int32)) % (9 : Int32))), .val (.int ((x1 &&& (2147483647 : Int32)) % (6 : Int32))), .unset, .unset] [(.int ((x0 &&& (2147483647 : Int32)) % (9 : Int32))), (.ref b49), (.int (1 : Int32))])) rfl rfl (hb hby at_208) _ k) ?_
          show Goes p.tables e below (T241.setTop (mkF m 209 #[.val (.int x0), .val (.int x1), .val (.ref b1), .val (.ref b49), .val (.ref b98), .val (.ref b147), .val (.int ((x0 &&& (2147483647 : Int32)) % (9 : Int32))), .val (.int ((x1 &&& (2147483647 : Int32)) % (6 : Int32))), .unset, .unset] [(.int (1 : Int32)), (.int (1 : Int32))])) _
          refine Goes.to (fun _ k => XS.icmpNo X241.here hx rfl (hb hby at_209) rfl (teq (by decide : (1 : Int32) = (1 : Int32))).2 k) ?_
          show Goes p.tables e below (T241.setTop (mkF m 212 #[.val (.int x0), .val (.int x1), .val (.ref b1), .val (.ref b49), .val (.ref b98), .val (.ref b147), .val (.int ((x0 &&& (2147483647 : Int32)) % (9 : Int32))), .val (.int ((x1 &&& (2147483647 : Int32)) % (6 : Int32))), .unset, .unset] [])) _
          refine Goes.to (fun _ k => XS.iconst X241.here hx rfl (hb hby at_212) k) ?_
          show Goes p.tables e below (T241.setTop (mkF m 213 #[.val (.int x0), .val (.int x1), .val (.ref b1), .val (.ref b49), .val (.ref b98), .val (.ref b147), .val (.int ((x0 &&& (2147483647 : Int32)) % (9 : Int32))), .val (.int ((x1 &&& (2147483647 : Int32)) % (6 : Int32))), .unset, .unset] [(.int (1 : Int32))])) _
          refine Goes.to (fun _ k => XS.goto X241.here hx rfl (pc0 := 213) (pc' := 217) rfl (hb hby at_213) (by decide) (by decide) k) ?_
          show Goes p.tables e below (T241.setTop (mkF m 217 #[.val (.int x0), .val (.int x1), .val (.ref b1), .val (.ref b49), .val (.ref b98), .val (.ref b147), .val (.int ((x0 &&& (2147483647 : Int32)) % (9 : Int32))), .val (.int ((x1 &&& (2147483647 : Int32)) % (6 : Int32))), .unset, .unset] [(.int (1 : Int32))])) _
          refine Goes.to (fun _ k => XS.istore X241.here hx rfl (hb hby at_217) rfl (l' := #[.val (.int x0), .val (.int x1), .val (.ref b1), .val (.ref b49), .val (.ref b98), .val (.ref b147), .val (.int ((x0 &&& (2147483647 : Int32)) % (9 : Int32))), .val (.int ((x1 &&& (2147483647 : Int32)) % (6 : Int32))), .val (.int (1 : Int32)), .unset]) rfl k) ?_
          exact own_pt_own_rm0_203 l Z a0 hw ws x0 x1 a_Style_MATRIX a_Style_LABEL a_Style_FORM a_Style_SIMPLE a_Style_SPACE_DELIMITED a_Style_PIPE_DELIMITED a_Style_DEEP_OBJECT a_Style_COOKIE a_Style_TAB_DELIMITED a_Location_PATH a_Location_QUERY a_Location_QUERYSTRING a_Location_HEADER a_Location_COOKIE a_Location_FORM_DATA a_M k_M h0 n0 Z0 O0 S_Style_MATRIX E_Style_MATRIX S_Style_LABEL E_Style_LABEL S_Style_FORM E_Style_FORM S_Style_SIMPLE E_Style_SIMPLE S_Style_SPACE_DELIMITED E_Style_SPACE_DELIMITED S_Style_PIPE_DELIMITED E_Style_PIPE_DELIMITED S_Style_DEEP_OBJECT E_Style_DEEP_OBJECT S_Style_COOKIE E_Style_COOKIE S_Style_TAB_DELIMITED E_Style_TAB_DELIMITED S_Location_PATH E_Location_PATH S_Location_QUERY E_Location_QUERY S_Location_QUERYSTRING E_Location_QUERYSTRING S_Location_HEADER E_Location_HEADER S_Location_COOKIE E_Location_COOKIE S_Location_FORM_DATA E_Location_FORM_DATA F_Style_MATRIX_ordinal F_Style_FORM_ordinal F_Style_COOKIE_ordinal F_Location_HEADER_ordinal F_Style_SIMPLE_ordinal F_Style_PIPE_DELIMITED_ordinal F_Location_QUERY_ordinal F_Location_FORM_DATA_ordinal F_Location_QUERYSTRING_ordinal F_Style_SPACE_DELIMITED_ordinal F_Location_PATH_ordinal F_Style_LABEL_ordinal F_Style_DEEP_OBJECT_ordinal F_Location_COOKIE_ordinal F_Style_TAB_DELIMITED_ordinal ne_Style_MATRIX__Style_FORM ne_Style_MATRIX__Style_COOKIE ne_Style_LABEL__Style_FORM ne_Style_LABEL__Style_COOKIE ne_Style_FORM__Style_SIMPLE ne_Style_FORM__Style_SPACE_DELIMITED ne_Style_FORM__Style_PIPE_DELIMITED ne_Style_FORM__Style_DEEP_OBJECT ne_Style_FORM__Style_COOKIE ne_Style_FORM__Style_TAB_DELIMITED ne_Style_SIMPLE__Style_COOKIE ne_Style_SPACE_DELIMITED__Style_COOKIE ne_Style_PIPE_DELIMITED__Style_COOKIE ne_Style_DEEP_OBJECT__Style_COOKIE ne_Style_COOKIE__Style_TAB_DELIMITED SM VM Bd hml0 hh hZ b1 k1 b49 k49 b98 k98 b147 k147 T241 _  T192.heap X241 hp241_0 N241 Z192  F194 F195 F196 V192 Po176_4 Pn176_5 Pn176_6 Pn176_7 Pn176_8 Pn176_9 Pn176_10 Pn176_11 Pn176_12 Pn176_13 Pn176_14 Pn176_15 Pn176_16 Pn176_17 Pn176_18 Pn176_19 Pn176_20 Pg176_21 Pn176_22 Pn176_23 Pn176_24 Pn176_25 Pn176_26 Pn176_27 Pn176_28 Pn176_29 Pn176_30 Pn176_31 Pn176_32 Pn176_33 Pn176_34 Pn176_35 Pn176_36 Pn176_37 Pn176_38 Pg176_39 Po176_40 Pn176_41 Pn176_42 Pn176_43 Pn176_44 Pn176_45 Pn176_46 Pn176_47 Pn176_48 Pn176_49 Pn176_50 Pn176_51 Pn176_52 Pn176_53 Pn176_54 Pn176_55 Pn176_56 Pn176_57 Pn176_58 Pg176_59 Pn176_60 Pn176_61 Pn176_62 Pn176_63 Pn176_64 Pn176_65 Pn176_66 Pn176_67 Pn176_68 Pn176_69 Pn176_70 Pn176_71 Pn176_72 Pn176_73 Pn176_74 Pn176_75 Pn176_76 Pn176_77 Pn176_78 Pg176_79 O193
        · exact absurd (Or.inl rfl : a_Style_FORM = a_Style_FORM ∨ a_Style_FORM = a_Style_COOKIE) hc242
      · by_cases hc245 : ((x0 &&& (2147483647 : Int32)) % (9 : Int32)) = (3 : Int32)
        · have hat198 : cl198.slots[(((x0 &&& (2147483647 : Int32)) % (9 : Int32))).toNatClampNeg]? = some (.ref a_Style_SIMPLE) := Has.at H198 hin198 (by rw [hc245]; rfl)
          refine Goes.to (fun _ k => X192.aaload hx (j := ((x0 &&& (2147483647 : Int32)) % (9 : Int32))) (v := (.ref a_Style_SIMPLE)) Ar198.1 (State.isArrayOf_alike hZ.alike Ar198.2.1) rfl Ar198.2.2 hin198 hat198 (g := (mkF m 201 #[.val (.int x0), .val (.int x1), .val (.ref b1), .val (.ref b49), .val (.ref b98), .val (.ref b147), .val (.int ((x0 &&& (2147483647 : Int32)) % (9 : Int32))), .val (.int ((x1 &&& (2147483647 : Int32)) % (6 : Int32))), .unset, .unset] [(.int ((x0 &&& (2147483647 : Int32)) % (9 : Int32))), (.ref b1)])) rfl rfl (hb hby at_201) _ k) ?_
          show Goes p.tables e below (T192.setTop (mkF m 202 #[.val (.int x0), .val (.int x1), .val (.ref b1), .val (.ref b49), .val (.ref b98), .val (.ref b147), .val (.int ((x0 &&& (2147483647 : Int32)) % (9 : Int32))), .val (.int ((x1 &&& (2147483647 : Int32)) % (6 : Int32))), .unset, .unset] [(.ref a_Style_SIMPLE)])) _
          obtain ⟨cq246, kq246, q246a, q246b, q246c⟩ := isOf hZ rfl (E_Style_SIMPLE.ext O193.2)
          obtain ⟨_, _, ⟨T246, L246, k246, n246⟩, -, X246, ⟨Lc246, hQ246, l246, y246, z246⟩, st246⟩ := X192.virtualBack hx (y := (⟨"com/example/unipar/unipar/Style", "explodesByDefault", "()Z"⟩ : MethodName)) (z := (⟨"com/example/unipar/unipar/Style", "explodesByDefault", "()Z"⟩ : MethodName)) hown (mvT hZ (hw _ (List.mem_of_getElem? (i := 40) rfl))) (mvT hZ (hw _ (List.mem_of_getElem? (i := 41) rfl))) (notFace_of_selects (args := #[]) (mvT hZ (hw _ (List.mem_of_getElem? (i := 43) rfl)))) (mvT hZ (hw _ (List.mem_of_getElem? (i := 43) rfl))) (mvT hZ (hw _ (List.mem_of_getElem? (i := 42) rfl))) (by decide) (backOf (W := 0) (own_rm1 l Z a0 hw [] a_Style_SIMPLE a_Style_FORM a_Style_COOKIE T192.heap n0 Z192 (S_Style_FORM.ext O193.2) (S_Style_COOKIE.ext O193.2)) hZ (hw _ (List.mem_of_getElem? (i := 44) rfl)) (hw _ (List.mem_of_getElem? (i := 3) rfl)) (by decide) (by decide)) q246a q246c (g := (mkF m 202 #[.val (.int x0), .val (.int x1), .val (.ref b1), .val (.ref b49), .val (.ref b98), .val (.ref b147), .val (.int ((x0 &&& (2147483647 : Int32)) % (9 : Int32))), .val (.int ((x1 &&& (2147483647 : Int32)) % (6 : Int32))), .unset, .unset] [(.ref a_Style_SIMPLE)])) rfl (by rw [hml]; rfl) (Steps.refl _) (argsL := []) (rest := []) (lenOf own_pd_pqZ rfl) rfl (by show 2 * 0 + _ ≤ _; exact Nat.le_of_eq rfl) (hb hby at_202) (fun _ _ => ⟨rfl, rfl, (by decide : 4 + 0 ≤ _), (by decide : 30 + 0 ≤ _)⟩)
          dsimp only [Pt.U, Pt.locs, Pt.cells, Pt.slots] at X246 l246 y246 z246 st246 hQ246
          subst l246 y246 z246
          obtain ⟨hv246, Nq246, hp246_0⟩ := hQ246
          have N246 := Fr.app N192 Nq246
          by_cases hc247 : a_Style_SIMPLE = a_Style_FORM ∨ a_Style_SIMPLE = a_Style_COOKIE
          · exact absurd hc247 (fun q => q.elim (Ne.symm ne_Style_FORM__Style_SIMPLE) (ne_Style_SIMPLE__Style_COOKIE))
          · rw [if_neg hc247] at hv246
            subst hv246
            refine Goes.tr st246 ?_
            show Goes p.tables e below (T246.setTop (mkF m 205 #[.val (.int x0), .val (.int x1), .val (.ref b1), .val (.ref b49), .val (.ref b98), .val (.ref b147), .val (.int ((x0 &&& (2147483647 : Int32)) % (9 : Int32))), .val (.int ((x1 &&& (2147483647 : Int32)) % (6 : Int32))), .unset, .unset] [(.int (0 : Int32))])) _
            refine Goes.to (fun _ k => XS.aloadN X246.here hx rfl (hb hby at_205) rfl rfl k) ?_
            show Goes p.tables e below (T246.setTop (mkF m 206 #[.val (.int x0), .val (.int x1), .val (.ref b1), .val (.ref b49), .val (.ref b98), .val (.ref b147), .val (.int ((x0 &&& (2147483647 : Int32)) % (9 : Int32))), .val (.int ((x1 &&& (2147483647 : Int32)) % (6 : Int32))), .unset, .unset] [(.ref b49), (.int (0 : Int32))])) _
            refine Goes.to (fun _ k => XS.iload X246.here hx rfl (hb hby at_206) rfl k) ?_
            show Goes p.tables e below (T246.setTop (mkF m 208 #[.val (.int x0), .val (.int x1), .val (.ref b1), .val (.ref b49), .val (.ref b98), .val (.ref b147), .val (.int ((x0 &&& (2147483647 : Int32)) % (9 : Int32))), .val (.int ((x1 &&& (2147483647 : Int32)) % (6 : Int32))), .unset, .unset] [(.int ((x0 &&& (2147483647 : Int32)) % (9 : Int32))), (.ref b49), (.int (0 : Int32))])) _
            obtain ⟨cl248, Ar248, q248, S248, N248, H248, G248⟩ := id F195
            have hin248 : ¬ (((x0 &&& (2147483647 : Int32)) % (9 : Int32)) < 0 ∨ cl248.slots.size ≤ (((x0 &&& (2147483647 : Int32)) % (9 : Int32))).toNatClampNeg) := by
              have k1 := rng32 x0
              have k2 : (x0 &&& (2147483647 : Int32)).toInt = x0.toInt % 2147483648 := c_mask x0 (2147483647 : Int32) 31 (by decide) (by decide)
              have k3 := c_irem (x0 &&& (2147483647 : Int32)) (9 : Int32) 9 rfl
              have k4 := rng32 ((x0 &&& (2147483647 : Int32)) % (9 : Int32))
              have k5 : (0 : Int32).toInt = 0 := rfl
              have k6 : ¬ ((x0 &&& (2147483647 : Int32)) % (9 : Int32)).toInt = (0 : Int32).toInt := fun z => hc199 (Int32.toInt_inj.mp z)
              have k7 : (1 : Int32).toInt = 1 := rfl
              have k8 : ¬ ((x0 &&& (2147483647 : Int32)) % (9 : Int32)).toInt = (1 : Int32).toInt := fun z => hc235 (Int32.toInt_inj.mp z)
              have k9 : (2 : Int32).toInt = 2 := rfl
              have k10 : ¬ ((x0 &&& (2147483647 : Int32)) % (9 : Int32)).toInt = (2 : Int32).toInt := fun z => hc240 (Int32.toInt_inj.mp z)
              have k11 : (3 : Int32).toInt = 3 := rfl
              have k12 : ((x0 &&& (2147483647 : Int32)) % (9 : Int32)).toInt = (3 : Int32).toInt := congrArg Int32.toInt hc245
              have k13 : (9 : Int32).toInt = 9 := rfl
              refine inb_of S248 ⟨fun hq => ?_, Int32.lt_iff_toInt_lt.mpr ?_⟩
              · have hq' := Int32.lt_iff_toInt_lt.mp hq
                omega
              · omega
            have hat248 : cl248.slots[(((x0 &&& (2147483647 : Int32)) % (9 : Int32))).toNatClampNeg]? = some (.int (0 : Int32)) := Has.at H248 hin248 (by rw [hc245]; rfl)
            refine Goes.to (fun _ k => X246.baloadBooleans hx (j := ((x0 &&& (2147483647 : Int32)) % (9 : Int32))) (v := (.int (0 : Int32))) (by rw [hp246_0]; exact Ar248.1) (State.isArrayOf_alike hZ.alike Ar248.2.1) Ar248.2.2 hin248 hat248 (g := (mkF m 208 #[.val (.int x0), .val (.int x1), .val (.ref b1), .val (.ref b49), .val (.ref b98), .val (.ref b147), .val (.int ((x0 &&& (2147483647 : Int32)) % (9 : Int32))), .val (.int ((x1 &&& (2147483647 : Int32)) % (6 : Int32))), .unset, .unset] [(.int ((x0 &&& (2147483647 : Int32)) % (9 : Int32))), (.ref b49), (.int (0 : Int32))])) rfl rfl (hb hby at_208) _ k) ?_
            show Goes p.tables e below (T246.setTop (mkF m 209 #[.val (.int x0), .val (.int x1), .val (.ref b1), .val (.ref b49), .val (.ref b98), .val (.ref b147), .val (.int ((x0 &&& (2147483647 : Int32)) % (9 : Int32))), .val (.int ((x1 &&& (2147483647 : Int32)) % (6 : Int32))), .unset, .unset] [(.int (0 : Int32)), (.int (0 : Int32))])) _
            refine Goes.to (fun _ k => XS.icmpNo X246.here hx rfl (hb hby at_209) rfl (teq (by decide : (0 : Int32) = (0 : Int32))).2 k) ?_
            show Goes p.tables e below (T246.setTop (mkF m 212 #[.val (.int x0), .val (.int x1), .val (.ref b1), .val (.ref b49), .val (.ref b98), .val (.ref b147), .val (.int ((x0 &&& (2147483647 : Int32)) % (9 : Int32))), .val (.int ((x1 &&& (2147483647 : Int32)) % (6 : Int32))), .unset, .unset] [])) _
            refine Goes.to (fun _ k => XS.iconst X246.here hx rfl (hb hby at_212) k) ?_
            show Goes p.tables e below (T246.setTop (mkF m 213 #[.val (.int x0), .val (.int x1), .val (.ref b1), .val (.ref b49), .val (.ref b98), .val (.ref b147), .val (.int ((x0 &&& (2147483647 : Int32)) % (9 : Int32))), .val (.int ((x1 &&& (2147483647 : Int32)) % (6 : Int32))), .unset, .unset] [(.int (1 : Int32))])) _
            refine Goes.to (fun _ k => XS.goto X246.here hx rfl (pc0 := 213) (pc' := 217) rfl (hb hby at_213) (by decide) (by decide) k) ?_
            show Goes p.tables e below (T246.setTop (mkF m 217 #[.val (.int x0), .val (.int x1), .val (.ref b1), .val (.ref b49), .val (.ref b98), .val (.ref b147), .val (.int ((x0 &&& (2147483647 : Int32)) % (9 : Int32))), .val (.int ((x1 &&& (2147483647 : Int32)) % (6 : Int32))), .unset, .unset] [(.int (1 : Int32))])) _
            refine Goes.to (fun _ k => XS.istore X246.here hx rfl (hb hby at_217) rfl (l' := #[.val (.int x0), .val (.int x1), .val (.ref b1), .val (.ref b49), .val (.ref b98), .val (.ref b147), .val (.int ((x0 &&& (2147483647 : Int32)) % (9 : Int32))), .val (.int ((x1 &&& (2147483647 : Int32)) % (6 : Int32))), .val (.int (1 : Int32)), .unset]) rfl k) ?_
            exact own_pt_own_rm0_203 l Z a0 hw ws x0 x1 a_Style_MATRIX a_Style_LABEL a_Style_FORM a_Style_SIMPLE a_Style_SPACE_DELIMITED a_Style_PIPE_DELIMITED a_Style_DEEP_OBJECT a_Style_COOKIE a_Style_TAB_DELIMITED a_Location_PATH a_Location_QUERY a_Location_QUERYSTRING a_Location_HEADER a_Location_COOKIE a_Location_FORM_DATA a_M k_M h0 n0 Z0 O0 S_Style_MATRIX E_Style_MATRIX S_Style_LABEL E_Style_LABEL S_Style_FORM E_Style_FORM S_Style_SIMPLE E_Style_SIMPLE S_Style_SPACE_DELIMITED E_Style_SPACE_DELIMITED S_Style_PIPE_DELIMITED E_Style_PIPE_DELIMITED S_Style_DEEP_OBJECT E_Style_DEEP_OBJECT S_Style_COOKIE E_Style_COOKIE S_Style_TAB_DELIMITED E_Style_TAB_DELIMITED S_Location_PATH E_Location_PATH S_Location_QUERY E_Location_QUERY S_Location_QUERYSTRING E_Location_QUERYSTRING S_Location_HEADER E_Location_HEADER S_Location_COOKIE E_Location_COOKIE S_Location_FORM_DATA E_Location_FORM_DATA F_Style_MATRIX_ordinal F_Style_FORM_ordinal F_Style_COOKIE_ordinal F_Location_HEADER_ordinal F_Style_SIMPLE_ordinal F_Style_PIPE_DELIMITED_ordinal F_Location_QUERY_ordinal F_Location_FORM_DATA_ordinal F_Location_QUERYSTRING_ordinal F_Style_SPACE_DELIMITED_ordinal F_Location_PATH_ordinal F_Style_LABEL_ordinal F_Style_DEEP_OBJECT_ordinal F_Location_COOKIE_ordinal F_Style_TAB_DELIMITED_ordinal ne_Style_MATRIX__Style_FORM ne_Style_MATRIX__Style_COOKIE ne_Style_LABEL__Style_FORM ne_Style_LABEL__Style_COOKIE ne_Style_FORM__Style_SIMPLE ne_Style_FORM__Style_SPACE_DELIMITED ne_Style_FORM__Style_PIPE_DELIMITED ne_Style_FORM__Style_DEEP_OBJECT ne_Style_FORM__Style_COOKIE ne_Style_FORM__Style_TAB_DELIMITED ne_Style_SIMPLE__Style_COOKIE ne_Style_SPACE_DELIMITED__Style_COOKIE ne_Style_PIPE_DELIMITED__Style_COOKIE ne_Style_DEEP_OBJECT__Style_COOKIE ne_Style_COOKIE__Style_TAB_DELIMITED SM VM Bd hml0 hh hZ b1 k1 b49 k49 b98 k98 b147 k147 T246 _  T192.heap X246 hp246_0 N246 Z192  F194 F195 F196 V192 Po176_4 Pn176_5 Pn176_6 Pn176_7 Pn176_8 Pn176_9 Pn176_10 Pn176_11 Pn176_12 Pn176_13 Pn176_14 Pn176_15 Pn176_16 Pn176_17 Pn176_18 Pn176_19 Pn176_20 Pg176_21 Pn176_22 Pn176_23 Pn176_24 Pn176_25 Pn176_26 Pn176_27 Pn176_28 Pn176_29 Pn176_30 Pn176_31 Pn176_32 Pn176_33 Pn176_34 Pn176_35 Pn176_36 Pn176_37 Pn176_38 Pg176_39 Po176_40 Pn176_41 Pn176_42 Pn176_43 Pn176_44 Pn176_45 Pn176_46 Pn176_47 Pn176_48 Pn176_49 Pn176_50 Pn176_51 Pn176_52 Pn176_53 Pn176_54 Pn176_55 Pn176_56 Pn176_57 Pn176_58 Pg176_59 Pn176_60 Pn176_61 Pn176_62 Pn176_63 Pn176_64 Pn176_65 Pn176_66 Pn176_67 Pn176_68 Pn176_69 Pn176_70 Pn176_71 Pn176_72 Pn176_73 Pn176_74 Pn176_75 Pn176_76 Pn176_77 Pn176_78 Pg176_79 O193
        · by_cases hc250 : ((x0 &&& (2147483647 : Int32)) % (9 : Int32)) = (4 : Int32)
          · have hat198 : cl198.slots[(((x0 &&& (2147483647 : Int32)) % (9 : Int32))).toNatClampNeg]? = some (.ref a_Style_SPACE_DELIMITED) := Has.at H198 hin198 (by rw [hc250]; rfl)
            refine Goes.to (fun _ k => X192.aaload hx (j := ((x0 &&& (2147483647 : Int32)) % (9 : Int32))) (v := (.ref a_Style_SPACE_DELIMITED)) Ar198.1 (State.isArrayOf_alike hZ.alike Ar198.2.1) rfl Ar198.2.2 hin198 hat198 (g := (mkF m 201 #[.val (.int x0), .val (.int x1), .val (.ref b1), .val (.ref b49), .val (.ref b98), .val (.ref b147), .val (.int ((x0 &&& (2147483647 : Int32)) % (9 : Int32))), .val (.int ((x1 &&& (2147483647 : Int32)) % (6 : Int32))), .unset, .unset] [(.int ((x0 &&& (2147483647 : Int32)) % (9 : Int32))), (.ref b1)])) rfl rfl (hb hby at_201) _ k) ?_
            show Goes p.tables e below (T192.setTop (mkF m 202 #[.val (.int x0), .val (.int x1), .val (.ref b1), .val (.ref b49), .val (.ref b98), .val (.ref b147), .val (.int ((x0 &&& (2147483647 : Int32)) % (9 : Int32))), .val (.int ((x1 &&& (2147483647 : Int32)) % (6 : Int32))), .unset, .unset] [(.ref a_Style_SPACE_DELIMITED)])) _
            obtain ⟨cq251, kq251, q251a, q251b, q251c⟩ := isOf hZ rfl (E_Style_SPACE_DELIMITED.ext O193.2)
            obtain ⟨_, _, ⟨T251, L251, k251, n251⟩, -, X251, ⟨Lc251, hQ251, l251, y251, z251⟩, st251⟩ := X192.virtualBack hx (y := (⟨"com/example/unipar/unipar/Style", "explodesByDefault", "()Z"⟩ : MethodName)) (z := (⟨"com/example/unipar/unipar/Style", "explodesByDefault", "()Z"⟩ : MethodName)) hown (mvT hZ (hw _ (List.mem_of_getElem? (i := 40) rfl))) (mvT hZ (hw _ (List.mem_of_getElem? (i := 41) rfl))) (notFace_of_selects (args := #[]) (mvT hZ (hw _ (List.mem_of_getElem? (i := 43) rfl)))) (mvT hZ (hw _ (List.mem_of_getElem? (i := 43) rfl))) (mvT hZ (hw _ (List.mem_of_getElem? (i := 42) rfl))) (by decide) (backOf (W := 0) (own_rm1 l Z a0 hw [] a_Style_SPACE_DELIMITED a_Style_FORM a_Style_COOKIE T192.heap n0 Z192 (S_Style_FORM.ext O193.2) (S_Style_COOKIE.ext O193.2)) hZ (hw _ (List.mem_of_getElem? (i := 44) rfl)) (hw _ (List.mem_of_getElem? (i := 3) rfl)) (by decide) (by decide)) q251a q251c (g := (mkF m 202 #[.val (.int x0), .val (.int x1), .val (.ref b1), .val (.ref b49), .val (.ref b98), .val (.ref b147), .val (.int ((x0 &&& (2147483647 : Int32)) % (9 : Int32))), .val (.int ((x1 &&& (2147483647 : Int32)) % (6 : Int32))), .unset, .unset] [(.ref a_Style_SPACE_DELIMITED)])) rfl (by rw [hml]; rfl) (Steps.refl _) (argsL := []) (rest := []) (lenOf own_pd_pqZ rfl) rfl (by show 2 * 0 + _ ≤ _; exact Nat.le_of_eq rfl) (hb hby at_202) (fun _ _ => ⟨rfl, rfl, (by decide : 4 + 0 ≤ _), (by decide : 30 + 0 ≤ _)⟩)
            dsimp only [Pt.U, Pt.locs, Pt.cells, Pt.slots] at X251 l251 y251 z251 st251 hQ251
            subst l251 y251 z251
            obtain ⟨hv251, Nq251, hp251_0⟩ := hQ251
            have N251 := Fr.app N192 Nq251
            by_cases hc252 : a_Style_SPACE_DELIMITED = a_Style_FORM ∨ a_Style_SPACE_DELIMITED = a_Style_COOKIE
            · exact absurd hc252 (fun q => q.elim (Ne.symm ne_Style_FORM__Style_SPACE_DELIMITED) (ne_Style_SPACE_DELIMITED__Style_COOKIE))
            · rw [if_neg hc252] at hv251
              subst hv251
              refine Goes.tr st251 ?_
              show Goes p.tables e below (T251.setTop (mkF m 205 #[.val (.int x0), .val (.int x1), .val (.ref b1), .val (.ref b49), .val (.ref b98), .val (.ref b147), .val (.int ((x0 &&& (2147483647 : Int32)) % (9 : Int32))), .val (.int ((x1 &&& (2147483647 : Int32)) % (6 : Int32))), .unset, .unset] [(.int (0 : Int32))])) _
              refine Goes.to (fun _ k => XS.aloadN X251.here hx rfl (hb hby at_205) rfl rfl k) ?_
              show Goes p.tables e below (T251.setTop (mkF m 206 #[.val (.int x0), .val (.int x1), .val (.ref b1), .val (.ref b49), .val (.ref b98), .val (.ref b147), .val (.int ((x0 &&& (2147483647 : Int32)) % (9 : Int32))), .val (.int ((x1 &&& (2147483647 : Int32)) % (6 : Int32))), .unset, .unset] [(.ref b49), (.int (0 : Int32))])) _
              refine Goes.to (fun _ k => XS.iload X251.here hx rfl (hb hby at_206) rfl k) ?_
              show Goes p.tables e below (T251.setTop (mkF m 208 #[.val (.int x0), .val (.int x1), .val (.ref b1), .val (.ref b49), .val (.ref b98), .val (.ref b147), .val (.int ((x0 &&& (2147483647 : Int32)) % (9 : Int32))), .val (.int ((x1 &&& (2147483647 : Int32)) % (6 : Int32))), .unset, .unset] [(.int ((x0 &&& (2147483647 : Int32)) % (9 : Int32))), (.ref b49), (.int (0 : Int32))])) _
              obtain ⟨cl253, Ar253, q253, S253, N253, H253, G253⟩ := id F195
              have hin253 : ¬ (((x0 &&& (2147483647 : Int32)) % (9 : Int32)) < 0 ∨ cl253.slots.size ≤ (((x0 &&& (2147483647 : Int32)) % (9 : Int32))).toNatClampNeg) := by
                have k1 := rng32 x0
                have k2 : (x0 &&& (2147483647 : Int32)).toInt = x0.toInt % 2147483648 := c_mask x0 (2147483647 : Int32) 31 (by decide) (by decide)
                have k3 := c_irem (x0 &&& (2147483647 : Int32)) (9 : Int32) 9 rfl
                have k4 := rng32 ((x0 &&& (2147483647 : Int32)) % (9 : Int32))
                have k5 : (0 : Int32).toInt = 0 := rfl
                have k6 : ¬ ((x0 &&& (2147483647 : Int32)) % (9 : Int32)).toInt = (0 : Int32).toInt := fun z => hc199 (Int32.toInt_inj.mp z)
                have k7 : (1 : Int32).toInt = 1 := rfl
                have k8 : ¬ ((x0 &&& (2147483647 : Int32)) % (9 : Int32)).toInt = (1 : Int32).toInt := fun z => hc235 (Int32.toInt_inj.mp z)
                have k9 : (2 : Int32).toInt = 2 := rfl
                have k10 : ¬ ((x0 &&& (2147483647 : Int32)) % (9 : Int32)).toInt = (2 : Int32).toInt := fun z => hc240 (Int32.toInt_inj.mp z)
                have k11 : (3 : Int32).toInt = 3 := rfl
                have k12 : ¬ ((x0 &&& (2147483647 : Int32)) % (9 : Int32)).toInt = (3 : Int32).toInt := fun z => hc245 (Int32.toInt_inj.mp z)
                have k13 : (4 : Int32).toInt = 4 := rfl
                have k14 : ((x0 &&& (2147483647 : Int32)) % (9 : Int32)).toInt = (4 : Int32).toInt := congrArg Int32.toInt hc250
                have k15 : (9 : Int32).toInt = 9 := rfl
                refine inb_of S253 ⟨fun hq => ?_, Int32.lt_iff_toInt_lt.mpr ?_⟩
                · have hq' := Int32.lt_iff_toInt_lt.mp hq
                  omega
                · omega
              have hat253 : cl253.slots[(((x0 &&& (2147483647 : Int32)) % (9 : Int32))).toNatClampNeg]? = some (.int (0 : Int32)) := Has.at H253 hin253 (by rw [hc250]; rfl)
              refine Goes.to (fun _ k => X251.baloadBooleans hx (j := ((x0 &&& (2147483647 : Int32)) % (9 : Int32))) (v := (.int (0 : Int32))) (by rw [hp251_0]; exact Ar253.1) (State.isArrayOf_alike hZ.alike Ar253.2.1) Ar253.2.2 hin253 hat253 (g := (mkF m 208 #[.val (.int x0), .val (.int x1), .val (.ref b1), .val (.ref b49), .val (.ref b98), .val (.ref b147), .val (.int ((x0 &&& (2147483647 : Int32)) % (9 : Int32))), .val (.int ((x1 &&& (2147483647 : Int32)) % (6 : Int32))), .unset, .unset] [(.int ((x0 &&& (2147483647 : Int32)) % (9 : Int32))), (.ref b49), (.int (0 : Int32))])) rfl rfl (hb hby at_208) _ k) ?_
              show Goes p.tables e below (T251.setTop (mkF m 209 #[.val (.int x0), .val (.int x1), .val (.ref b1), .val (.ref b49), .val (.ref b98), .val (.ref b147), .val (.int ((x0 &&& (2147483647 : Int32)) % (9 : Int32))), .val (.int ((x1 &&& (2147483647 : Int32)) % (6 : Int32))), .unset, .unset] [(.int (0 : Int32)), (.int (0 : Int32))])) _
              refine Goes.to (fun _ k => XS.icmpNo X251.here hx rfl (hb hby at_209) rfl (teq (by decide : (0 : Int32) = (0 : Int32))).2 k) ?_
              show Goes p.tables e below (T251.setTop (mkF m 212 #[.val (.int x0), .val (.int x1), .val (.ref b1), .val (.ref b49), .val (.ref b98), .val (.ref b147), .val (.int ((x0 &&& (2147483647 : Int32)) % (9 : Int32))), .val (.int ((x1 &&& (2147483647 : Int32)) % (6 : Int32))), .unset, .unset] [])) _
              refine Goes.to (fun _ k => XS.iconst X251.here hx rfl (hb hby at_212) k) ?_
              show Goes p.tables e below (T251.setTop (mkF m 213 #[.val (.int x0), .val (.int x1), .val (.ref b1), .val (.ref b49), .val (.ref b98), .val (.ref b147), .val (.int ((x0 &&& (2147483647 : Int32)) % (9 : Int32))), .val (.int ((x1 &&& (2147483647 : Int32)) % (6 : Int32))), .unset, .unset] [(.int (1 : Int32))])) _
              refine Goes.to (fun _ k => XS.goto X251.here hx rfl (pc0 := 213) (pc' := 217) rfl (hb hby at_213) (by decide) (by decide) k) ?_
              show Goes p.tables e below (T251.setTop (mkF m 217 #[.val (.int x0), .val (.int x1), .val (.ref b1), .val (.ref b49), .val (.ref b98), .val (.ref b147), .val (.int ((x0 &&& (2147483647 : Int32)) % (9 : Int32))), .val (.int ((x1 &&& (2147483647 : Int32)) % (6 : Int32))), .unset, .unset] [(.int (1 : Int32))])) _
              refine Goes.to (fun _ k => XS.istore X251.here hx rfl (hb hby at_217) rfl (l' := #[.val (.int x0), .val (.int x1), .val (.ref b1), .val (.ref b49), .val (.ref b98), .val (.ref b147), .val (.int ((x0 &&& (2147483647 : Int32)) % (9 : Int32))), .val (.int ((x1 &&& (2147483647 : Int32)) % (6 : Int32))), .val (.int (1 : Int32)), .unset]) rfl k) ?_
              exact own_pt_own_rm0_203 l Z a0 hw ws x0 x1 a_Style_MATRIX a_Style_LABEL a_Style_FORM a_Style_SIMPLE a_Style_SPACE_DELIMITED a_Style_PIPE_DELIMITED a_Style_DEEP_OBJECT a_Style_COOKIE a_Style_TAB_DELIMITED a_Location_PATH a_Location_QUERY a_Location_QUERYSTRING a_Location_HEADER a_Location_COOKIE a_Location_FORM_DATA a_M k_M h0 n0 Z0 O0 S_Style_MATRIX E_Style_MATRIX S_Style_LABEL E_Style_LABEL S_Style_FORM E_Style_FORM S_Style_SIMPLE E_Style_SIMPLE S_Style_SPACE_DELIMITED E_Style_SPACE_DELIMITED S_Style_PIPE_DELIMITED E_Style_PIPE_DELIMITED S_Style_DEEP_OBJECT E_Style_DEEP_OBJECT S_Style_COOKIE E_Style_COOKIE S_Style_TAB_DELIMITED E_Style_TAB_DELIMITED S_Location_PATH E_Location_PATH S_Location_QUERY E_Location_QUERY S_Location_QUERYSTRING E_Location_QUERYSTRING S_Location_HEADER E_Location_HEADER S_Location_COOKIE E_Location_COOKIE S_Location_FORM_DATA E_Location_FORM_DATA F_Style_MATRIX_ordinal F_Style_FORM_ordinal F_Style_COOKIE_ordinal F_Location_HEADER_ordinal F_Style_SIMPLE_ordinal F_Style_PIPE_DELIMITED_ordinal F_Location_QUERY_ordinal F_Location_FORM_DATA_ordinal F_Location_QUERYSTRING_ordinal F_Style_SPACE_DELIMITED_ordinal F_Location_PATH_ordinal F_Style_LABEL_ordinal F_Style_DEEP_OBJECT_ordinal F_Location_COOKIE_ordinal F_Style_TAB_DELIMITED_ordinal ne_Style_MATRIX__Style_FORM ne_Style_MATRIX__Style_COOKIE ne_Style_LABEL__Style_FORM ne_Style_LABEL__Style_COOKIE ne_Style_FORM__Style_SIMPLE ne_Style_FORM__Style_SPACE_DELIMITED ne_Style_FORM__Style_PIPE_DELIMITED ne_Style_FORM__Style_DEEP_OBJECT ne_Style_FORM__Style_COOKIE ne_Style_FORM__Style_TAB_DELIMITED ne_Style_SIMPLE__Style_COOKIE ne_Style_SPACE_DELIMITED__Style_COOKIE ne_Style_PIPE_DELIMITED__Style_COOKIE ne_Style_DEEP_OBJECT__Style_COOKIE ne_Style_COOKIE__Style_TAB_DELIMITED SM VM Bd hml0 hh hZ b1 k1 b49 k49 b98 k98 b147 k147 T251 _  T192.heap X251 hp251_0 N251 Z192  F194 F195 F196 V192 Po176_4 Pn176_5 Pn176_6 Pn176_7 Pn176_8 Pn176_9 Pn176_10 Pn176_11 Pn176_12 Pn176_13 Pn176_14 Pn176_15 Pn176_16 Pn176_17 Pn176_18 Pn176_19 Pn176_20 Pg176_21 Pn176_22 Pn176_23 Pn176_24 Pn176_25 Pn176_26 Pn176_27 Pn176_28 Pn176_29 Pn176_30 Pn176_31 Pn176_32 Pn176_33 Pn176_34 Pn176_35 Pn176_36 Pn176_37 Pn176_38 Pg176_39 Po176_40 Pn176_41 Pn176_42 Pn176_43 Pn176_44 Pn176_45 Pn176_46 Pn176_47 Pn176_48 Pn176_49 Pn176_50 Pn176_51 Pn176_52 Pn176_53 Pn176_54 Pn176_55 Pn176_56 Pn176_57 Pn176_58 Pg176_59 Pn176_60 Pn176_61 Pn176_62 Pn176_63 Pn176_64 Pn176_65 Pn176_66 Pn176_67 Pn176_68 Pn176_69 Pn176_70 Pn176_71 Pn176_72 Pn176_73 Pn176_74 Pn176_75 Pn176_76 Pn176_77 Pn176_78 Pg176_79 O193
          · by_cases hc255 : ((x0 &&& (2147483647 : Int32)) % (9 : Int32)) = (5 : Int32)
            · have hat198 : cl198.slots[(((x0 &&& (2147483647 : Int32)) % (9 : Int32))).toNatClampNeg]? = some (.ref a_Style_PIPE_DELIMITED) := Has.at H198 hin198 (by rw [hc255]; rfl)
              refine Goes.to (fun _ k => X192.aaload hx (j := ((x0 &&& (2147483647 : Int32)) % (9 : Int32))) (v := (.ref a_Style_PIPE_DELIMITED)) Ar198.1 (State.isArrayOf_alike hZ.alike Ar198.2.1) rfl Ar198.2.2 hin198 hat198 (g := (mkF m 201 #[.val (.int x0), .val (.int x1), .val (.ref b1), .val (.ref b49), .val (.ref b98), .val (.ref b147), .val (.int ((x0 &&& (2147483647 : Int32)) % (9 : Int32))), .val (.int ((x1 &&& (2147483647 : Int32)) % (6 : Int32))), .unset, .unset] [(.int ((x0 &&& (2147483647 : Int32)) % (9 : Int32))), (.ref b1)])) rfl rfl (hb hby at_201) _ k) ?_
              show Goes p.tables e below (T192.setTop (mkF m 202 #[.val (.int x0), .val (.int x1), .val (.ref b1), .val (.ref b49), .val (.ref b98), .val (.ref b147), .val (.int ((x0 &&& (2147483647 : Int32)) % (9 : Int32))), .val (.int ((x1 &&& (2147483647 : Int32)) % (6 : Int32))), .unset, .unset] [(.ref a_Style_PIPE_DELIMITED)])) _
              obtain ⟨cq256, kq256, q256a, q256b, q256c⟩ := isOf hZ rfl (E_Style_PIPE_DELIMITED.ext O193.2)
              obtain ⟨_, _, ⟨T256, L256, k256, n256⟩, -, X256, ⟨Lc256, hQ256, l256, y256, z256⟩, st256⟩ := X192.virtualBack hx (y := (⟨"com/example/unipar/unipar/Style", "explodesByDefault", "()Z"⟩ : MethodName)) (z := (⟨"com/example/unipar/unipar/Style", "explodesByDefault", "()Z"⟩ : MethodName)) hown (mvT hZ (hw _ (List.mem_of_getElem? (i := 40) rfl))) (mvT hZ (hw _ (List.mem_of_getElem? (i := 41) rfl))) (notFace_of_selects (args := #[]) (mvT hZ (hw _ (List.mem_of_getElem? (i := 43) rfl)))) (mvT hZ (hw _ (List.mem_of_getElem? (i := 43) rfl))) (mvT hZ (hw _ (List.mem_of_getElem? (i := 42) rfl))) (by decide) (backOf (W := 0) (own_rm1 l Z a0 hw [] a_Style_PIPE_DELIMITED a_Style_FORM a_Style_COOKIE T192.heap n0 Z192 (S_Style_FORM.ext O193.2) (S_Style_COOKIE.ext O193.2)) hZ (hw _ (List.mem_of_getElem? (i := 44) rfl)) (hw _ (List.mem_of_getElem? (i := 3) rfl)) (by decide) (by decide)) q256a q256c (g := (mkF m 202 #[.val (.int x0), .val (.int x1), .val (.ref b1), .val (.ref b49), .val (.ref b98), .val (.ref b147), .val (.int ((x0 &&& (2147483647 : Int32)) % (9 : Int32))), .val (.int ((x1 &&& (2147483647 : Int32)) % (6 : Int32))), .unset, .unset] [(.ref a_Style_PIPE_DELIMITED)])) rfl (by rw [hml]; rfl) (Steps.refl _) (argsL := []) (rest := []) (lenOf own_pd_pqZ rfl) rfl (by show 2 * 0 + _ ≤ _; exact Nat.le_of_eq rfl) (hb hby at_202) (fun _ _ => ⟨rfl, rfl, (by decide : 4 + 0 ≤ _), (by decide : 30 + 0 ≤ _)⟩)
              dsimp only [Pt.U, Pt.locs, Pt.cells, Pt.slots] at X256 l256 y256 z256 st256 hQ256
              subst l256 y256 z256
              obtain ⟨hv256, Nq256, hp256_0⟩ := hQ256
              have N256 := Fr.app N192 Nq256
              by_cases hc257 : a_Style_PIPE_DELIMITED = a_Style_FORM ∨ a_Style_PIPE_DELIMITED = a_Style_COOKIE
              · exact absurd hc257 (fun q => q.elim (Ne.symm ne_Style_FORM__Style_PIPE_DELIMITED) (ne_Style_PIPE_DELIMITED__Style_COOKIE))
              · rw [if_neg hc257] at hv256
                subst hv256
                refine Goes.tr st256 ?_
                show Goes p.tables e below (T256.setTop (mkF m 205 #[.val (.int x0), .val (.int x1), .val (.ref b1), .val (.ref b49), .val (.ref b98), .val (.ref b147), .val (.int ((x0 &&& (2147483647 : Int32)) % (9 : Int32))), .val (.int ((x1 &&& (2147483647 : Int32)) % (6 : Int32))), .unset, .unset] [(.int (0 : Int32))])) _
                refine Goes.to (fun _ k => XS.aloadN X256.here hx rfl (hb hby at_205) rfl rfl k) ?_
                show Goes p.tables e below (T256.setTop (mkF m 206 #[.val (.int x0), .val (.int x1), .val (.ref b1), .val (.ref b49), .val (.ref b98), .val (.ref b147), .val (.int ((x0 &&& (2147483647 : Int32)) % (9 : Int32))), .val (.int ((x1 &&& (2147483647 : Int32)) % (6 : Int32))), .unset, .unset] [(.ref b49), (.int (0 : Int32))])) _
                refine Goes.to (fun _ k => XS.iload X256.here hx rfl (hb hby at_206) rfl k) ?_
                show Goes p.tables e below (T256.setTop (mkF m 208 #[.val (.int x0), .val (.int x1), .val (.ref b1), .val (.ref b49), .val (.ref b98), .val (.ref b147), .val (.int ((x0 &&& (2147483647 : Int32)) % (9 : Int32))), .val (.int ((x1 &&& (2147483647 : Int32)) % (6 : Int32))), .unset, .unset] [(.int ((x0 &&& (2147483647 : Int32)) % (9 : Int32))), (.ref b49), (.int (0 : Int32))])) _
                obtain ⟨cl258, Ar258, q258, S258, N258, H258, G258⟩ := id F195
                have hin258 : ¬ (((x0 &&& (2147483647 : Int32)) % (9 : Int32)) < 0 ∨ cl258.slots.size ≤ (((x0 &&& (2147483647 : Int32)) % (9 : Int32))).toNatClampNeg) := by
                  have k1 := rng32 x0
                  have k2 : (x0 &&& (2147483647 : Int32)).toInt = x0.toInt % 2147483648 := c_mask x0 (2147483647 : Int32) 31 (by decide) (by decide)
                  have k3 := c_irem (x0 &&& (2147483647 : Int32)) (9 : Int32) 9 rfl
                  have k4 := rng32 ((x0 &&& (2147483647 : Int32)) % (9 : Int32))
                  have k5 : (0 : Int32).toInt = 0 := rfl
                  have k6 : ¬ ((x0 &&& (2147483647 : Int32)) % (9 : Int32)).toInt = (0 : Int32).toInt := fun z => hc199 (Int32.toInt_inj.mp z)
                  have k7 : (1 : Int32).toInt = 1 := rfl
                  have k8 : ¬ ((x0 &&& (2147483647 : Int32)) % (9 : Int32)).toInt = (1 : Int32).toInt := fun z => hc235 (Int32.toInt_inj.mp z)
                  have k9 : (2 : Int32).toInt = 2 := rfl
                  have k10 : ¬ ((x0 &&& (2147483647 : Int32)) % (9 : Int32)).toInt = (2 : Int32).toInt := fun z => hc240 (Int32.toInt_inj.mp z)
                  have k11 : (3 : Int32).toInt = 3 := rfl
                  have k12 : ¬ ((x0 &&& (2147483647 : Int32)) % (9 : Int32)).toInt = (3 : Int32).toInt := fun z => hc245 (Int32.toInt_inj.mp z)
                  have k13 : (4 : Int32).toInt = 4 := rfl
                  have k14 : ¬ ((x0 &&& (2147483647 : Int32)) % (9 : Int32)).toInt = (4 : Int32).toInt := fun z => hc250 (Int32.toInt_inj.mp z)
                  have k15 : (5 : Int32).toInt = 5 := rfl
                  have k16 : ((x0 &&& (2147483647 : Int32)) % (9 : Int32)).toInt = (5 : Int32).toInt := congrArg Int32.toInt hc255
                  have k17 : (9 : Int32).toInt = 9 := rfl
                  refine inb_of S258 ⟨fun hq => ?_, Int32.lt_iff_toInt_lt.mpr ?_⟩
                  · have hq' := Int32.lt_iff_toInt_lt.mp hq
                    omega
                  · omega
                have hat258 : cl258.slots[(((x0 &&& (2147483647 : Int32)) % (9 : Int32))).toNatClampNeg]? = some (.int (0 : Int32)) := Has.at H258 hin258 (by rw [hc255]; rfl)
                refine Goes.to (fun _ k => X256.baloadBooleans hx (j := ((x0 &&& (2147483647 : Int32)) % (9 : Int32))) (v := (.int (0 : Int32))) (by rw [hp256_0]; exact Ar258.1) (State.isArrayOf_alike hZ.alike Ar258.2.1) Ar258.2.2 hin258 hat258 (g := (mkF m 208 #[.val (.int x0), .val (.int x1), .val (.ref b1), .val (.ref b49), .val (.ref b98), .val (.ref b147), .val (.int ((x0 &&& (2147483647 : Int32)) % (9 : Int32))), .val (.int ((x1 &&& (2147483647 : Int32)) % (6 : Int32))), .unset, .unset] [(.int ((x0 &&& (2147483647 : Int32)) % (9 : Int32))), (.ref b49), (.int (0 : Int32))])) rfl rfl (hb hby at_208) _ k) ?_
                show Goes p.tables e below (T256.setTop (mkF m 209 #[.val (.int x0), .val (.int x1), .val (.ref b1), .val (.ref b49), .val (.ref b98), .val (.ref b147), .val (.int ((x0 &&& (2147483647 : Int32)) % (9 : Int32))), .val (.int ((x1 &&& (2147483647 : Int32)) % (6 : Int32))), .unset, .unset] [(.int (0 : Int32)), (.int (0 : Int32))])) _
                refine Goes.to (fun _ k => XS.icmpNo X256.here hx rfl (hb hby at_209) rfl (teq (by decide : (0 : Int32) = (0 : Int32))).2 k) ?_
                show Goes p.tables e below (T256.setTop (mkF m 212 #[.val (.int x0), .val (.int x1), .val (.ref b1), .val (.ref b49), .val (.ref b98), .val (.ref b147), .val (.int ((x0 &&& (2147483647 : Int32)) % (9 : Int32))), .val (.int ((x1 &&& (2147483647 : Int32)) % (6 : Int32))), .unset, .unset] [])) _
                refine Goes.to (fun _ k => XS.iconst X256.here hx rfl (hb hby at_212) k) ?_
                show Goes p.tables e below (T256.setTop (mkF m 213 #[.val (.int x0), .val (.int x1), .val (.ref b1), .val (.ref b49), .val (.ref b98), .val (.ref b147), .val (.int ((x0 &&& (2147483647 : Int32)) % (9 : Int32))), .val (.int ((x1 &&& (2147483647 : Int32)) % (6 : Int32))), .unset, .unset] [(.int (1 : Int32))])) _
                refine Goes.to (fun _ k => XS.goto X256.here hx rfl (pc0 := 213) (pc' := 217) rfl (hb hby at_213) (by decide) (by decide) k) ?_
                show Goes p.tables e below (T256.setTop (mkF m 217 #[.val (.int x0), .val (.int x1), .val (.ref b1), .val (.ref b49), .val (.ref b98), .val (.ref b147), .val (.int ((x0 &&& (2147483647 : Int32)) % (9 : Int32))), .val (.int ((x1 &&& (2147483647 : Int32)) % (6 : Int32))), .unset, .unset] [(.int (1 : Int32))])) _
                refine Goes.to (fun _ k => XS.istore X256.here hx rfl (hb hby at_217) rfl (l' := #[.val (.int x0), .val (.int x1), .val (.ref b1), .val (.ref b49), .val (.ref b98), .val (.ref b147), .val (.int ((x0 &&& (2147483647 : Int32)) % (9 : Int32))), .val (.int ((x1 &&& (2147483647 : Int32)) % (6 : Int32))), .val (.int (1 : Int32)), .unset]) rfl k) ?_
                exact own_pt_own_rm0_203 l Z a0 hw ws x0 x1 a_Style_MATRIX a_Style_LABEL a_Style_FORM a_Style_SIMPLE a_Style_SPACE_DELIMITED a_Style_PIPE_DELIMITED a_Style_DEEP_OBJECT a_Style_COOKIE a_Style_TAB_DELIMITED a_Location_PATH a_Location_QUERY a_Location_QUERYSTRING a_Location_HEADER a_Location_COOKIE a_Location_FORM_DATA a_M k_M h0 n0 Z0 O0 S_Style_MATRIX E_Style_MATRIX S_Style_LABEL E_Style_LABEL S_Style_FORM E_Style_FORM S_Style_SIMPLE E_Style_SIMPLE S_Style_SPACE_DELIMITED E_Style_SPACE_DELIMITED S_Style_PIPE_DELIMITED E_Style_PIPE_DELIMITED S_Style_DEEP_OBJECT E_Style_DEEP_OBJECT S_Style_COOKIE E_Style_COOKIE S_Style_TAB_DELIMITED E_Style_TAB_DELIMITED S_Location_PATH E_Location_PATH S_Location_QUERY E_Location_QUERY S_Location_QUERYSTRING E_Location_QUERYSTRING S_Location_HEADER E_Location_HEADER S_Location_COOKIE E_Location_COOKIE S_Location_FORM_DATA E_Location_FORM_DATA F_Style_MATRIX_ordinal F_Style_FORM_ordinal F_Style_COOKIE_ordinal F_Location_HEADER_ordinal F_Style_SIMPLE_ordinal F_Style_PIPE_DELIMITED_ordinal F_Location_QUERY_ordinal F_Location_FORM_DATA_ordinal F_Location_QUERYSTRING_ordinal F_Style_SPACE_DELIMITED_ordinal F_Location_PATH_ordinal F_Style_LABEL_ordinal F_Style_DEEP_OBJECT_ordinal F_Location_COOKIE_ordinal F_Style_TAB_DELIMITED_ordinal ne_Style_MATRIX__Style_FORM ne_Style_MATRIX__Style_COOKIE ne_Style_LABEL__Style_FORM ne_Style_LABEL__Style_COOKIE ne_Style_FORM__Style_SIMPLE ne_Style_FORM__Style_SPACE_DELIMITED ne_Style_FORM__Style_PIPE_DELIMITED ne_Style_FORM__Style_DEEP_OBJECT ne_Style_FORM__Style_COOKIE ne_Style_FORM__Style_TAB_DELIMITED ne_Style_SIMPLE__Style_COOKIE ne_Style_SPACE_DELIMITED__Style_COOKIE ne_Style_PIPE_DELIMITED__Style_COOKIE ne_Style_DEEP_OBJECT__Style_COOKIE ne_Style_COOKIE__Style_TAB_DELIMITED SM VM Bd hml0 hh hZ b1 k1 b49 k49 b98 k98 b147 k147 T256 _  T192.heap X256 hp256_0 N256 Z192  F194 F195 F196 V192 Po176_4 Pn176_5 Pn176_6 Pn176_7 Pn176_8 Pn176_9 Pn176_10 Pn176_11 Pn176_12 Pn176_13 Pn176_14 Pn176_15 Pn176_16 Pn176_17 Pn176_18 Pn176_19 Pn176_20 Pg176_21 Pn176_22 Pn176_23 Pn176_24 Pn176_25 Pn176_26 Pn176_27 Pn176_28 Pn176_29 Pn176_30 Pn176_31 Pn176_32 Pn176_33 Pn176_34 Pn176_35 Pn176_36 Pn176_37 Pn176_38 Pg176_39 Po176_40 Pn176_41 Pn176_42 Pn176_43 Pn176_44 Pn176_45 Pn176_46 Pn176_47 Pn176_48 Pn176_49 Pn176_50 Pn176_51 Pn176_52 Pn176_53 Pn176_54 Pn176_55 Pn176_56 Pn176_57 Pn176_58 Pg176_59 Pn176_60 Pn176_61 Pn176_62 Pn176_63 Pn176_64 Pn176_65 Pn176_66 Pn176_67 Pn176_68 Pn176_69 Pn176_70 Pn176_71 Pn176_72 Pn176_73 Pn176_74 Pn176_75 Pn176_76 Pn176_77 Pn176_78 Pg176_79 O193
            · by_cases hc260 : ((x0 &&& (2147483647 : Int32)) % (9 : Int32)) = (6 : Int32)
              · have hat198 : cl198.slots[(((x0 &&& (2147483647 : Int32)) % (9 : Int32))).toNatClampNeg]? = some (.ref a_Style_DEEP_OBJECT) := Has.at H198 hin198 (by rw [hc260]; rfl)
                refine Goes.to (fun _ k => X192.aaload hx (j := ((x0 &&& (2147483647 : Int32)) % (9 : Int32))) (v := (.ref a_Style_DEEP_OBJECT)) Ar198.1 (State.isArrayOf_alike hZ.alike Ar198.2.1) rfl Ar198.2.2 hin198 hat198 (g := (mkF m 201 #[.val (.int x0), .val (.int x1), .val (.ref b1), .val (.ref b49), .val (.ref b98), .val (.ref b147), .val (.int ((x0 &&& (2147483647 : Int32)) % (9 : Int32))), .val (.int ((x1 &&& (2147483647 : Int32)) % (6 : Int32))), .unset, .unset] [(.int ((x0 &&& (2147483647 : Int32)) % (9 : Int32))), (.ref b1)])) rfl rfl (hb hby at_201) _ k) ?_
                show Goes p.tables e below (T192.setTop (mkF m 202 #[.val (.int x0), .val (.int x1), .val (.ref b1), .val (.ref b49), .val (.ref b98), .val (.ref b147), .val (.int ((x0 &&& (2147483647 : Int32)) % (9 : Int32))), .val (.int ((x1 &&& (2147483647 : Int32)) % (6 : Int32))), .unset, .unset] [(.ref a_Style_DEEP_OBJECT)])) _
                obtain ⟨cq261, kq261, q261a, q261b, q261c⟩ := isOf hZ rfl (E_Style_DEEP_OBJECT.ext O193.2)
                obtain ⟨_, _, ⟨T261, L261, k261, n261⟩, -, X261, ⟨Lc261, hQ261, l261, y261, z261⟩, st261⟩ := X192.virtualBack hx (y := (⟨"com/example/unipar/unipar/Style", "explodesByDefault", "()Z"⟩ : MethodName)) (z := (⟨"com/example/unipar/unipar/Style", "explodesByDefault", "()Z"⟩ : MethodName)) hown (mvT hZ (hw _ (List.mem_of_getElem? (i := 40) rfl))) (mvT hZ (hw _ (List.mem_of_getElem? (i := 41) rfl))) (notFace_of_selects (args := #[]) (mvT hZ (hw _ (List.mem_of_getElem? (i := 43) rfl)))) (mvT hZ (hw _ (List.mem_of_getElem? (i := 43) rfl))) (mvT hZ (hw _ (List.mem_of_getElem? (i := 42) rfl))) (by decide) (backOf (W := 0) (own_rm1 l Z a0 hw [] a_Style_DEEP_OBJECT a_Style_FORM a_Style_COOKIE T192.heap n0 Z192 (S_Style_FORM.ext O193.2) (S_Style_COOKIE.ext O193.2)) hZ (hw _ (List.mem_of_getElem? (i := 44) rfl)) (hw _ (List.mem_of_getElem? (i := 3) rfl)) (by decide) (by decide)) q261a q261c (g := (mkF m 202 #[.val (.int x0), .val (.int x1), .val (.ref b1), .val (.ref b49), .val (.ref b98), .val (.ref b147), .val (.int ((x0 &&& (2147483647 : Int32)) % (9 : Int32))), .val (.int ((x1 &&& (2147483647 : Int32)) % (6 : Int32))), .unset, .unset] [(.ref a_Style_DEEP_OBJECT)])) rfl (by rw [hml]; rfl) (Steps.refl _) (argsL := []) (rest := []) (lenOf own_pd_pqZ rfl) rfl (by show 2 * 0 + _ ≤ _; exact Nat.le_of_eq rfl) (hb hby at_202) (fun _ _ => ⟨rfl, rfl, (by decide : 4 + 0 ≤ _), (by decide : 30 + 0 ≤ _)⟩)
                dsimp only [Pt.U, Pt.locs, Pt.cells, Pt.slots] at X261 l261 y261 z261 st261 hQ261
                subst l261 y261 z261
                obtain ⟨hv261, Nq261, hp261_0⟩ := hQ261
                have N261 := Fr.app N192 Nq261
                by_cases hc262 : a_Style_DEEP_OBJECT = a_Style_FORM ∨ a_Style_DEEP_OBJECT = a_Style_COOKIE
                · exact absurd hc262 (fun q => q.elim (Ne.symm ne_Style_FORM__Style_DEEP_OBJECT) (ne_Style_DEEP_OBJECT__Style_COOKIE))
                · rw [if_neg hc262] at hv261
                  subst hv261
                  refine Goes.tr st261 ?_
                  show Goes p.tables e below (T261.setTop (mkF m 205 #[.val (.int x0), .val (.int x1), .val (.ref b1), .val (.ref b49), .val (.ref b98), .val (.ref b147), .val (.int ((x0 &&& (2147483647 : Int32)) % (9 : Int32))), .val (.int ((x1 &&& (2147483647 : Int32)) % (6 : Int32))), .unset, .unset] [(.int (0 : Int32))])) _
                  refine Goes.to (fun _ k => XS.aloadN X261.here hx rfl (hb hby at_205) rfl rfl k) ?_
                  show Goes p.tables e below (T261.setTop (mkF m 206 #[.val (.int x0), .val (.int x1), .val (.ref b1), .val (.ref b49), .val (.ref b98), .val (.ref b147), .val (.int ((x0 &&& (2147483647 : Int32)) % (9 : Int32))), .val (.int ((x1 &&& (2147483647 : Int32)) % (6 : Int32))), .unset, .unset] [(.ref b49), (.int (0 : Int32))])) _
                  refine Goes.to (fun _ k => XS.iload X261.here hx rfl (hb hby at_206) rfl k) ?_
                  show Goes p.tables e below (T261.setTop (mkF m 208 #[.val (.int x0), .val (.int x1), .val (.ref b1), .val (.ref b49), .val (.ref b98), .val (.ref b147), .val (.int ((x0 &&& (2147483647 : Int32)) % (9 : Int32))), .val (.int ((x1 &&& (2147483647 : Int32)) % (6 : Int32))), .unset, .unset] [(.int ((x0 &&& (2147483647 : Int32)) % (9 : Int32))), (.ref b49), (.int (0 : Int32))])) _
                  obtain ⟨cl263, Ar263, q263, S263, N263, H263, G263⟩ := id F195
                  have hin263 : ¬ (((x0 &&& (2147483647 : Int32)) % (9 : Int32)) < 0 ∨ cl263.slots.size ≤ (((x0 &&& (2147483647 : Int32)) % (9 : Int32))).toNatClampNeg) := by
                    have k1 := rng32 x0
                    have k2 : (x0 &&& (2147483647 : Int32)).toInt = x0.toInt % 2147483648 := c_mask x0 (2147483647 : Int32) 31 (by decide) (by decide)
                    have k3 := c_irem (x0 &&& (2147483647 : Int32)) (9 : Int32) 9 rfl
                    have k4 := rng32 ((x0 &&& (2147483647 : Int32)) % (9 : Int32))
                    have k5 : (0 : Int32).toInt = 0 := rfl
                    have k6 : ¬ ((x0 &&& (2147483647 : Int32)) % (9 : Int32)).toInt = (0 : Int32).toInt := fun z => hc199 (Int32.toInt_inj.mp z)
                    have k7 : (1 : Int32).toInt = 1 := rfl
                    have k8 : ¬ ((x0 &&& (2147483647 : Int32)) % (9 : Int32)).toInt = (1 : Int32).toInt := fun z => hc235 (Int32.toInt_inj.mp z)
                    have k9 : (2 : Int32).toInt = 2 := rfl
                    have k10 : ¬ ((x0 &&& (2147483647 : Int32)) % (9 : Int32)).toInt = (2 : Int32).toInt := fun z => hc240 (Int32.toInt_inj.mp z)
                    have k11 : (3 : Int32).toInt = 3 := rfl
                    have k12 : ¬ ((x0 &&& (2147483647 : Int32)) % (9 : Int32)).toInt = (3 : Int32).toInt := fun z => hc245 (Int32.toInt_inj.mp z)
                    have k13 : (4 : Int32).toInt = 4 := rfl
                    have k14 : ¬ ((x0 &&& (2147483647 : Int32)) % (9 : Int32)).toInt = (4 : Int32).toInt := fun z => hc250 (Int32.toInt_inj.mp z)
                    have k15 : (5 : Int32).toInt = 5 := rfl
                    have k16 : ¬ ((x0 &&& (2147483647 : Int32)) % (9 : Int32)).toInt = (5 : Int32).toInt := fun z => hc255 (Int32.toInt_inj.mp z)
                    have k17 : (6 : Int32).toInt = 6 := rfl
                    have k18 : ((x0 &&& (2147483647 : Int32)) % (9 : Int32)).toInt = (6 : Int32).toInt := congrArg Int32.toInt hc260
                    have k19 : (9 : Int32).toInt = 9 := rfl
                    refine inb_of S263 ⟨fun hq => ?_, Int32.lt_iff_toInt_lt.mpr ?_⟩
                    · have hq' := Int32.lt_iff_toInt_lt.mp hq
                      omega
                    · omega
                  have hat263 : cl263.slots[(((x0 &&& (2147483647 : Int32)) % (9 : Int32))).toNatClampNeg]? = some (.int (0 : Int32)) := Has.at H263 hin263 (by rw [hc260]; rfl)
                  refine Goes.to (fun _ k => X261.baloadBooleans hx (j := ((x0 &&& (2147483647 : Int32)) % (9 : Int32))) (v := (.int (0 : Int32))) (by rw [hp261_0]; exact Ar263.1) (State.isArrayOf_alike hZ.alike Ar263.2.1) Ar263.2.2 hin263 hat263 (g := (mkF m 208 #[.val (.int x0), .val (.int x1), .val (.ref b1), .val (.ref b49), .val (.ref b98), .val (.ref b147), .val (.int ((x0 &&& (2147483647 : Int32)) % (9 : Int32))), .val (.int ((x1 &&& (2147483647 : Int32)) % (6 : Int32))), .unset, .unset] [(.int ((x0 &&& (2147483647 : Int32)) % (9 : Int32))), (.ref b49), (.int (0 : Int32))])) rfl rfl (hb hby at_208) _ k) ?_
                  show Goes p.tables e below (T261.setTop (mkF m 209 #[.val (.int x0), .val (.int x1), .val (.ref b1), .val (.ref b49), .val (.ref b98), .val (.ref b147), .val (.int ((x0 &&& (2147483647 : Int32)) % (9 : Int32))), .val (.int ((x1 &&& (2147483647 : Int32)) % (6 : Int32))), .unset, .unset] [(.int (0 : Int32)), (.int (0 : Int32))])) _
                  refine Goes.to (fun _ k => XS.icmpNo X261.here hx rfl (hb hby at_209) rfl (teq (by decide : (0 : Int32) = (0 : Int32))).2 k) ?_
                  show Goes p.tables e below (T261.setTop (mkF m 212 #[.val (.int x0), .val (.int x1), .val (.ref b1), .val (.ref b49), .val (.ref b98), .val (.ref b147), .val (.int ((x0 &&& (2147483647 : Int32)) % (9 : Int32))), .val (.int ((x1 &&& (2147483647 : Int32)) % (6 : Int32))), .unset, .unset] [])) _
                  refine Goes.to (fun _ k => XS.iconst X261.here hx rfl (hb hby at_212) k) ?_
                  show Goes p.tables e below (T261.setTop (mkF m 213 #[.val (.int x0), .val (.int x1), .val (.ref b1), .val (.ref b49), .val (.ref b98), .val (.ref b147), .val (.int ((x0 &&& (2147483647 : Int32)) % (9 : Int32))), .val (.int ((x1 &&& (2147483647 : Int32)) % (6 : Int32))), .unset, .unset] [(.int (1 : Int32))])) _
                  refine Goes.to (fun _ k => XS.goto X261.here hx rfl (pc0 := 213) (pc' := 217) rfl (hb hby at_213) (by decide) (by decide) k) ?_
                  show Goes p.tables e below (T261.setTop (mkF m 217 #[.val (.int x0), .val (.int x1), .val (.ref b1), .val (.ref b49), .val (.ref b98), .val (.ref b147), .val (.int ((x0 &&& (2147483647 : Int32)) % (9 : Int32))), .val (.int ((x1 &&& (2147483647 : Int32)) % (6 : Int32))), .unset, .unset] [(.int (1 : Int32))])) _
                  refine Goes.to (fun _ k => XS.istore X261.here hx rfl (hb hby at_217) rfl (l' := #[.val (.int x0), .val (.int x1), .val (.ref b1), .val (.ref b49), .val (.ref b98), .val (.ref b147), .val (.int ((x0 &&& (2147483647 : Int32)) % (9 : Int32))), .val (.int ((x1 &&& (2147483647 : Int32)) % (6 : Int32))), .val (.int (1 : Int32)), .unset]) rfl k) ?_
                  exact own_pt_own_rm0_203 l Z a0 hw ws x0 x1 a_Style_MATRIX a_Style_LABEL a_Style_FORM a_Style_SIMPLE a_Style_SPACE_DELIMITED a_Style_PIPE_DELIMITED a_Style_DEEP_OBJECT a_Style_COOKIE a_Style_TAB_DELIMITED a_Location_PATH a_Location_QUERY a_Location_QUERYSTRING a_Location_HEADER a_Location_COOKIE a_Location_FORM_DATA a_M k_M h0 n0 Z0 O0 S_Style_MATRIX E_Style_MATRIX S_Style_LABEL E_Style_LABEL S_Style_FORM E_Style_FORM S_Style_SIMPLE E_Style_SIMPLE S_Style_SPACE_DELIMITED E_Style_SPACE_DELIMITED S_Style_PIPE_DELIMITED E_Style_PIPE_DELIMITED S_Style_DEEP_OBJECT E_Style_DEEP_OBJECT S_Style_COOKIE E_Style_COOKIE S_Style_TAB_DELIMITED E_Style_TAB_DELIMITED S_Location_PATH E_Location_PATH S_Location_QUERY E_Location_QUERY S_Location_QUERYSTRING E_Location_QUERYSTRING S_Location_HEADER E_Location_HEADER S_Location_COOKIE E_Location_COOKIE S_Location_FORM_DATA E_Location_FORM_DATA F_Style_MATRIX_ordinal F_Style_FORM_ordinal F_Style_COOKIE_ordinal F_Location_HEADER_ordinal F_Style_SIMPLE_ordinal F_Style_PIPE_DELIMITED_ordinal F_Location_QUERY_ordinal F_Location_FORM_DATA_ordinal F_Location_QUERYSTRING_ordinal F_Style_SPACE_DELIMITED_ordinal F_Location_PATH_ordinal F_Style_LABEL_ordinal F_Style_DEEP_OBJECT_ordinal F_Location_COOKIE_ordinal F_Style_TAB_DELIMITED_ordinal ne_Style_MATRIX__Style_FORM ne_Style_MATRIX__Style_COOKIE ne_Style_LABEL__Style_FORM ne_Style_LABEL__Style_COOKIE ne_Style_FORM__Style_SIMPLE ne_Style_FORM__Style_SPACE_DELIMITED ne_Style_FORM__Style_PIPE_DELIMITED ne_Style_FORM__Style_DEEP_OBJECT ne_Style_FORM__Style_COOKIE ne_Style_FORM__Style_TAB_DELIMITED ne_Style_SIMPLE__Style_COOKIE ne_Style_SPACE_DELIMITED__Style_COOKIE ne_Style_PIPE_DELIMITED__Style_COOKIE ne_Style_DEEP_OBJECT__Style_COOKIE ne_Style_COOKIE__Style_TAB_DELIMITED SM VM Bd hml0 hh hZ b1 k1 b49 k49 b98 k98 b147 k147 T261 _  T192.heap X261 hp261_0 N261 Z192  F194 F195 F196 V192 Po176_4 Pn176_5 Pn176_6 Pn176_7 Pn176_8 Pn176_9 Pn176_10 Pn176_11 Pn176_12 Pn176_13 Pn176_14 Pn176_15 Pn176_16 Pn176_17 Pn176_18 Pn176_19 Pn176_20 Pg176_21 Pn176_22 Pn176_23 Pn176_24 Pn176_25 Pn176_26 Pn176_27 Pn176_28 Pn176_29 Pn176_30 Pn176_31 Pn176_32 Pn176_33 Pn176_34 Pn176_35 Pn176_36 Pn176_37 Pn176_38 Pg176_39 Po176_40 Pn176_41 Pn176_42 Pn176_43 Pn176_44 Pn176_45 Pn176_46 Pn176_47 Pn176_48 Pn176_49 Pn176_50 Pn176_51 Pn176_52 Pn176_53 Pn176_54 Pn176_55 Pn176_56 Pn176_57 Pn176_58 Pg176_59 Pn176_60 Pn176_61 Pn176_62 Pn176_63 Pn176_64 Pn176_65 Pn176_66 Pn176_67 Pn176_68 Pn176_69 Pn176_70 Pn176_71 Pn176_72 Pn176_73 Pn176_74 Pn176_75 Pn176_76 Pn176_77 Pn176_78 Pg176_79 O193
              · by_cases hc265 : ((x0 &&& (2147483647 : Int32)) % (9 : Int32)) = (7 : Int32)
                · have hat198 : cl198.slots[(((x0 &&& (2147483647 : Int32)) % (9 : Int32))).toNatClampNeg]? = some (.ref a_Style_COOKIE) := Has.at H198 hin198 (by rw [hc265]; rfl)
                  refine Goes.to (fun _ k => X192.aaload hx (j := ((x0 &&& (2147483647 : Int32)) % (9 : Int32))) (v := (.ref a_Style_COOKIE)) Ar198.1 (State.isArrayOf_alike hZ.alike Ar198.2.1) rfl Ar198.2.2 hin198 hat198 (g := (mkF m 201 #[.val (.int x0), .val (.int x1), .val (.ref b1), .val (.ref b49), .val (.ref b98), .val (.ref b147), .val (.int ((x0 &&& (2147483647 : Int32)) % (9 : Int32))), .val (.int ((x1 &&& (2147483647 : Int32)) % (6 : Int32))), .unset, .unset] [(.int ((x0 &&& (2147483647 : Int32)) % (9 : Int32))), (.ref b1)])) rfl rfl (hb hby at_201) _ k) ?_
                  show Goes p.tables e below (T192.setTop (mkF m 202 #[.val (.int x0), .val (.int x1), .val (.ref b1), .val (.ref b49), .val (.ref b98), .val (.ref b147), .val (.int ((x0 &&& (2147483647 : Int32)) % (9 : Int32))), .val (.int ((x1 &&& (2147483647 : Int32)) % (6 : Int32))), .unset, .unset] [(.ref a_Style_COOKIE)])) _
                  obtain ⟨cq266, kq266, q266a, q266b, q266c⟩ := isOf hZ rfl (E_Style_COOKIE.ext O193.2)
                  obtain ⟨_, _, ⟨T266, L266, k266, n266⟩, -, X266, ⟨Lc266, hQ266, l266, y266, z266⟩, st266⟩ := X192.virtualBack hx (y := (⟨"com/example/unipar/unipar/Style", "explodesByDefault", "()Z"⟩ : MethodName)) (z := (⟨"com/example/unipar/unipar/Style", "explodesByDefault", "()Z"⟩ : MethodName)) hown (mvT hZ (hw _ (List.mem_of_getElem? (i := 40) rfl))) (mvT hZ (hw _ (List.mem_of_getElem? (i := 41) rfl))) (notFace_of_selects (args := #[]) (mvT hZ (hw _ (List.mem_of_getElem? (i := 43) rfl)))) (mvT hZ (hw _ (List.mem_of_getElem? (i := 43) rfl))) (mvT hZ (hw _ (List.mem_of_getElem? (i := 42) rfl))) (by decide) (backOf (W := 0) (own_rm1 l Z a0 hw [] a_Style_COOKIE a_Style_FORM a_Style_COOKIE T192.heap n0 Z192 (S_Style_FORM.ext O193.2) (S_Style_COOKIE.ext O193.2)) hZ (hw _ (List.mem_of_getElem? (i := 44) rfl)) (hw _ (List.mem_of_getElem? (i := 3) rfl)) (by decide) (by decide)) q266a q266c (g := (mkF m 202 #[.val (.int x0), .val (.int x1), .val (.ref b1), .val (.ref b49), .val (.ref b98), .val (.ref b147), .val (.int ((x0 &&& (2147483647 : Int32)) % (9 : Int32))), .val (.int ((x1 &&& (2147483647 : Int32)) % (6 : Int32))), .unset, .unset] [(.ref a_Style_COOKIE)])) rfl (by rw [hml]; rfl) (Steps.refl _) (argsL := []) (rest := []) (lenOf own_pd_pqZ rfl) rfl (by show 2 * 0 + _ ≤ _; exact Nat.le_of_eq rfl) (hb hby at_202) (fun _ _ => ⟨rfl, rfl, (by decide : 4 + 0 ≤ _), (by decide : 30 + 0 ≤ _)⟩)
                  dsimp only [Pt.U, Pt.locs, Pt.cells, Pt.slots] at X266 l266 y266 z266 st266 hQ266
                  subst l266 y266 z266
                  obtain ⟨hv266, Nq266, hp266_0⟩ := hQ266
                  have N266 := Fr.app N192 Nq266
                  by_cases hc267 : a_Style_COOKIE = a_Style_FORM ∨ a_Style_COOKIE = a_Style_COOKIE
                  · rw [if_pos hc267] at hv266
                    subst hv266
                    refine Goes.tr st266 ?_
                    show Goes p.tables e below (T266.setTop (mkF m 205 #[.val (.int x0), .val (.int x1), .val (.ref b1), .val (.ref b49), .val (.ref b98), .val (.ref b147), .val (.int ((x0 &&& (2147483647 : Int32)) % (9 : Int32))), .val (.int ((x1 &&& (2147483647 : Int32)) % (6 : Int32))), .unset, .unset] [(.int (1 : Int32))])) _
                    refine Goes.to (fun _ k => XS.aloadN X266.here hx rfl (hb hby at_205) rfl rfl k) ?_
                    show Goes p.tables e below (T266.setTop (mkF m 206 #[.val (.int x0), .val (.int x1), .val (.ref b1), .val (.ref b49), .val (.ref b98), .val (.ref b147), .val (.int ((x0 &&& (2147483647 : Int32)) % (9 : Int32))), .val (.int ((x1 &&& (2147483647 : Int32)) % (6 : Int32))), .unset, .unset] [(.ref b49), (.int (1 : Int32))])) _
                    refine Goes.to (fun _ k => XS.iload X266.here hx rfl (hb hby at_206) rfl k) ?_
                    show Goes p.tables e below (T266.setTop (mkF m 208 #[.val (.int x0), .val (.int x1), .val (.ref b1), .val (.ref b49), .val (.ref b98), .val (.ref b147), .val (.int ((x0 &&& (2147483647 : Int32)) % (9 : Int32))), .val (.int ((x1 &&& (2147483647 : Int32)) % (6 : Int32))), .unset, .unset] [(.int ((x0 &&& (2147483647 : Int32)) % (9 : Int32))), (.ref b49), (.int (1 : Int32))])) _
                    obtain ⟨cl268, Ar268, q268, S268, N268, H268, G268⟩ := id F195
                    have hin268 : ¬ (((x0 &&& (2147483647 : Int32)) % (9 : Int32)) < 0 ∨ cl268.slots.size ≤ (((x0 &&& (2147483647 : Int32)) % (9 : Int32))).toNatClampNeg) := by
                      have k1 := rng32 x0
                      have k2 : (x0 &&& (2147483647 : Int32)).toInt = x0.toInt % 2147483648 := c_mask x0 (2147483647 : Int32) 31 (by decide) (by decide)
                      have k3 := c_irem (x0 &&& (2147483647 : Int32)) (9 : Int32) 9 rfl
                      have k4 := rng32 ((x0 &&& (2147483647 : Int32)) % (9 : Int32))
                      have k5 : (0 : Int32).toInt = 0 := rfl
                      have k6 : ¬ ((x0 &&& (2147483647 : Int32)) % (9 : Int32)).toInt = (0 : Int32).toInt := fun z => hc199 (Int32.toInt_inj.mp z)
                      have k7 : (1 : Int32).toInt = 1 := rfl
                      have k8 : ¬ ((x0 &&& (2147483647 : Int32)) % (9 : Int32)).toInt = (1 : Int32).toInt := fun z => hc235 (Int32.toInt_inj.mp z)
                      have k9 : (2 : Int32).toInt = 2 := rfl
                      have k10 : ¬ ((x0 &&& (2147483647 : Int32)) % (9 : Int32)).toInt = (2 : Int32).toInt := fun z => hc240 (Int32.toInt_inj.mp z)
                      have k11 : (3 : Int32).toInt = 3 := rfl
                      have k12 : ¬ ((x0 &&& (2147483647 : Int32)) % (9 : Int32)).toInt = (3 : Int32).toInt := fun z => hc245 (Int32.toInt_inj.mp z)
                      have k13 : (4 : Int32).toInt = 4 := rfl
                      have k14 : ¬ ((x0 &&& (2147483647 : Int32)) % (9 : Int32)).toInt = (4 : Int32).toInt := fun z => hc250 (Int32.toInt_inj.mp z)
                      have k15 : (5 : Int32).toInt = 5 := rfl
                      have k16 : ¬ ((x0 &&& (2147483647 : Int32)) % (9 : Int32)).toInt = (5 : Int32).toInt := fun z => hc255 (Int32.toInt_inj.mp z)
                      have k17 : (6 : Int32).toInt = 6 := rfl
                      have k18 : ¬ ((x0 &&& (2147483647 : Int32)) % (9 : Int32)).toInt = (6 : Int32).toInt := fun z => hc260 (Int32.toInt_inj.mp z)
                      have k19 : (7 : Int32).toInt = 7 := rfl
                      have k20 : ((x0 &&& (2147483647 : Int32)) % (9 : Int32)).toInt = (7 : Int32).toInt := congrArg Int32.toInt hc265
                      have k21 : (9 : Int32).toInt = 9 := rfl
                      refine inb_of S268 ⟨fun hq => ?_, Int32.lt_iff_toInt_lt.mpr ?_⟩
                      · have hq' := Int32.lt_iff_toInt_lt.mp hq
                        omega
                      · omega
                    have hat268 : cl268.slots[(((x0 &&& (2147483647 : Int32)) % (9 : Int32))).toNatClampNeg]? = some (.int (1 : Int32)) := Has.at H268 hin268 (by rw [hc265]; rfl)
                    refine Goes.to (fun _ k => X266.baloadBooleans hx (j := ((x0 &&& (2147483647 : Int32)) % (9 : Int32))) (v := (.int (1 : Int32))) (by rw [hp266_0]; exact Ar268.1) (State.isArrayOf_alike hZ.alike Ar268.2.1) Ar268.2.2 hin268 hat268 (g := (mkF m 208 #[.val (.int x0), .val (.int x1), .val (.ref b1), .val (.ref b49), .val (.ref b98), .val (.ref b147), .val (.int ((x0 &&& (2147483647 : Int32)) % (9 : Int32))), .val (.int ((x1 &&& (2147483647 : Int32)) % (6 : Int32))), .unset, .unset] [(.int ((x0 &&& (2147483647 : Int32)) % (9 : Int32))), (.ref b49), (.int (1 : Int32))])) rfl rfl (hb hby at_208) _ k) ?_
                    show Goes p.tables e below (T266.setTop (mkF m 209 #[.val (.int x0), .val (.int x1), .val (.ref b1), .val (.ref b49), .val (.ref b98), .val (.ref b147), .val (.int ((x0 &&& (2147483647 : Int32)) % (9 : Int32))), .val (.int ((x1 &&& (2147483647 : Int32)) % (6 : Int32))), .unset, .unset] [(.int (1 : Int32)), (.int (1 : Int32))])) _
                    refine Goes.to (fun _ k => XS.icmpNo X266.here hx rfl (hb hby at_209) rfl (teq (by decide : (1 : Int32) = (1 : Int32))).2 k) ?_
                    show Goes p.tables e below (T266.setTop (mkF m 212 #[.val (.int x0), .val (.int x1), .val (.ref b1), .val (.ref b49), .val (.ref b98), .val (.ref b147), .val (.int ((x0 &&& (2147483647 : Int32)) % (9 : Int32))), .val (.int ((x1 &&& (2147483647 : Int32)) % (6 : Int32))), .unset, .unset] [])) _
                    refine Goes.to (fun _ k => XS.iconst X266.here hx rfl (hb hby at_212) k) ?_
                    show Goes p.tables e below (T266.setTop (mkF m 213 #[.val (.int x0), .val (.int x1), .val (.ref b1), .val (.ref b49), .val (.ref b98), .val (.ref b147), .val (.int ((x0 &&& (2147483647 : Int32)) % (9 : Int32))), .val (.int ((x1 &&& (2147483647 : Int32)) % (6 : Int32))), .unset, .unset] [(.int (1 : Int32))])) _
                    refine Goes.to (fun _ k => XS.goto X266.here hx rfl (pc0 := 213) (pc' := 217) rfl (hb hby at_213) (by decide) (by decide) k) ?_
                    show Goes p.tables e below (T266.setTop (mkF m 217 #[.val (.int x0), .val (.int x1), .val (.ref b1), .val (.ref b49), .val (.ref b98), .val (.ref b147), .val (.int ((x0 &&& (2147483647 : Int32)) % (9 : Int32))), .val (.int ((x1 &&& (2147483647 : Int32)) % (6 : Int32))), .unset, .unset] [(.int (1 : Int32))])) _
                    refine Goes.to (fun _ k => XS.istore X266.here hx rfl (hb hby at_217) rfl (l' := #[.val (.int x0), .val (.int x1), .val (.ref b1), .val (.ref b49), .val (.ref b98), .val (.ref b147), .val (.int ((x0 &&& (2147483647 : Int32)) % (9 : Int32))), .val (.int ((x1 &&& (2147483647 : Int32)) % (6 : Int32))), .val (.int (1 : Int32)), .unset]) rfl k) ?_
                    exact own_pt_own_rm0_203 l Z a0 hw ws x0 x1 a_Style_MATRIX a_Style_LABEL a_Style_FORM a_Style_SIMPLE a_Style_SPACE_DELIMITED a_Style_PIPE_DELIMITED a_Style_DEEP_OBJECT a_Style_COOKIE a_Style_TAB_DELIMITED a_Location_PATH a_Location_QUERY a_Location_QUERYSTRING a_Location_HEADER a_Location_COOKIE a_Location_FORM_DATA a_M k_M h0 n0 Z0 O0 S_Style_MATRIX E_Style_MATRIX S_Style_LABEL E_Style_LABEL S_Style_FORM E_Style_FORM S_Style_SIMPLE E_Style_SIMPLE S_Style_SPACE_DELIMITED E_Style_SPACE_DELIMITED S_Style_PIPE_DELIMITED E_Style_PIPE_DELIMITED S_Style_DEEP_OBJECT E_Style_DEEP_OBJECT S_Style_COOKIE E_Style_COOKIE S_Style_TAB_DELIMITED E_Style_TAB_DELIMITED S_Location_PATH E_Location_PATH S_Location_QUERY E_Location_QUERY S_Location_QUERYSTRING E_Location_QUERYSTRING S_Location_HEADER E_Location_HEADER S_Location_COOKIE E_Location_COOKIE S_Location_FORM_DATA E_Location_FORM_DATA F_Style_MATRIX_ordinal F_Style_FORM_ordinal F_Style_COOKIE_ordinal F_Location_HEADER_ordinal F_Style_SIMPLE_ordinal F_Style_PIPE_DELIMITED_ordinal F_Location_QUERY_ordinal F_Location_FORM_DATA_ordinal F_Location_QUERYSTRING_ordinal F_Style_SPACE_DELIMITED_ordinal F_Location_PATH_ordinal F_Style_LABEL_ordinal F_Style_DEEP_OBJECT_ordinal F_Location_COOKIE_ordinal F_Style_TAB_DELIMITED_ordinal ne_Style_MATRIX__Style_FORM ne_Style_MATRIX__Style_COOKIE ne_Style_LABEL__Style_FORM ne_Style_LABEL__Style_COOKIE ne_Style_FORM__Style_SIMPLE ne_Style_FORM__Style_SPACE_DELIMITED ne_Style_FORM__Style_PIPE_DELIMITED ne_Style_FORM__Style_DEEP_OBJECT ne_Style_FORM__Style_COOKIE ne_Style_FORM__Style_TAB_DELIMITED ne_Style_SIMPLE__Style_COOKIE ne_Style_SPACE_DELIMITED__Style_COOKIE ne_Style_PIPE_DELIMITED__Style_COOKIE ne_Style_DEEP_OBJECT__Style_COOKIE ne_Style_COOKIE__Style_TAB_DELIMITED SM VM Bd hml0 hh hZ b1 k1 b49 k49 b98 k98 b147 k147 T266 _  T192.heap X266 hp266_0 N266 Z192  F194 F195 F196 V192 Po176_4 Pn176_5 Pn176_6 Pn176_7 Pn176_8 Pn176_9 Pn176_10 Pn176_11 Pn176_12 Pn176_13 Pn176_14 Pn176_15 Pn176_16 Pn176_17 Pn176_18 Pn176_19 Pn176_20 Pg176_21 Pn176_22 Pn176_23 Pn176_24 Pn176_25 Pn176_26 Pn176_27 Pn176_28 Pn176_29 Pn176_30 Pn176_31 Pn176_32 Pn176_33 Pn176_34 Pn176_35 Pn176_36 Pn176_37 Pn176_38 Pg176_39 Po176_40 Pn176_41 Pn176_42 Pn176_43 Pn176_44 Pn176_45 Pn176_46 Pn176_47 Pn176_48 Pn176_49 Pn176_50 Pn176_51 Pn176_52 Pn176_53 Pn176_54 Pn176_55 Pn176_56 Pn176_57 Pn176_58 Pg176_59 Pn176_60 Pn176_61 Pn176_62 Pn176_63 Pn176_64 Pn176_65 Pn176_66 Pn176_67 Pn176_68 Pn176_69 Pn176_70 Pn176_71 Pn176_72 Pn176_73 Pn176_74 Pn176_75 Pn176_76 Pn176_77 Pn176_78 Pg176_79 O193
                  · exact absurd (Or.inr rfl : a_Style_COOKIE = a_Style_FORM ∨ a_Style_COOKIE = a_Style_COOKIE) hc267
                · by_cases hc270 : ((x0 &&& (2147483647 : Int32)) % (9 : Int32)) = (8 : Int32)
                  · have hat198 : cl198.slots[(((x0 &&& (2147483647 : Int32)) % (9 : Int32))).toNatClampNeg]? = some (.ref a_Style_TAB_DELIMITED) := Has.at H198 hin198 (by rw [hc270]; rfl)
                    refine Goes.to (fun _ k => X192.aaload hx (j := ((x0 &&& (2147483647 : Int32)) % (9 : Int32))) (v := (.ref a_Style_TAB_DELIMITED)) Ar198.1 (State.isArrayOf_alike hZ.alike Ar198.2.1) rfl Ar198.2.2 hin198 hat198 (g := (mkF m 201 #[.val (.int x0), .val (.int x1), .val (.ref b1), .val (.ref b49), .val (.ref b98), .val (.ref b147), .val (.int ((x0 &&& (2147483647 : Int32)) % (9 : Int32))), .val (.int ((x1 &&& (2147483647 : Int32)) % (6 : Int32))), .unset, .unset] [(.int ((x0 &&& (2147483647 : Int32)) % (9 : Int32))), (.ref b1)])) rfl rfl (hb hby at_201) _ k) ?_
                    show Goes p.tables e below (T192.setTop (mkF m 202 #[.val (.int x0), .val (.int x1), .val (.ref b1), .val (.ref b49), .val (.ref b98), .val (.ref b147), .val (.int ((x0 &&& (2147483647 : Int32)) % (9 : Int32))), .val (.int ((x1 &&& (2147483647 : Int32)) % (6 : Int32))), .unset, .unset] [(.ref a_Style_TAB_DELIMITED)])) _
                    obtain ⟨cq271, kq271, q271a, q271b, q271c⟩ := isOf hZ rfl (E_Style_TAB_DELIMITED.ext O193.2)
                    obtain ⟨_, _, ⟨T271, L271, k271, n271⟩, -, X271, ⟨Lc271, hQ271, l271, y271, z271⟩, st271⟩ := X192.virtualBack hx (y := (⟨"com/example/unipar/unipar/Style", "explodesByDefault", "()Z"⟩ : MethodName)) (z := (⟨"com/example/unipar/unipar/Style", "explodesByDefault", "()Z"⟩ : MethodName)) hown (mvT hZ (hw _ (List.mem_of_getElem? (i := 40) rfl))) (mvT hZ (hw _ (List.mem_of_getElem? (i := 41) rfl))) (notFace_of_selects (args := #[]) (mvT hZ (hw _ (List.mem_of_getElem? (i := 43) rfl)))) (mvT hZ (hw _ (List.mem_of_getElem? (i := 43) rfl))) (mvT hZ (hw _ (List.mem_of_getElem? (i := 42) rfl))) (by decide) (backOf (W := 0) (own_rm1 l Z a0 hw [] a_Style_TAB_DELIMITED a_Style_FORM a_Style_COOKIE T192.heap n0 Z192 (S_Style_FORM.ext O193.2) (S_Style_COOKIE.ext O193.2)) hZ (hw _ (List.mem_of_getElem? (i := 44) rfl)) (hw _ (List.mem_of_getElem? (i := 3) rfl)) (by decide) (by decide)) q271a q271c (g := (mkF m 202 #[.val (.int x0), .val (.int x1), .val (.ref b1), .val (.ref b49), .val (.ref b98), .val (.ref b147), .val (.int ((x0 &&& (2147483647 : Int32)) % (9 : Int32))), .val (.int ((x1 &&& (2147483647 : Int32)) % (6 : Int32))), .unset, .unset] [(.ref a_Style_TAB_DELIMITED)])) rfl (by rw [hml]; rfl) (Steps.refl _) (argsL := []) (rest := []) (lenOf own_pd_pqZ rfl) rfl (by show 2 * 0 + _ ≤ _; exact Nat.le_of_eq rfl) (hb hby at_202) (fun _ _ => ⟨rfl, rfl, (by decide : 4 + 0 ≤ _), (by decide : 30 + 0 ≤ _)⟩)
                    dsimp only [Pt.U, Pt.locs, Pt.cells, Pt.slots] at X271 l271 y271 z271 st271 hQ271
                    subst l271 y271 z271
                    obtain ⟨hv271, Nq271, hp271_0⟩ := hQ271
                    have N271 := Fr.app N192 Nq271
                    by_cases hc272 : a_Style_TAB_DELIMITED = a_Style_FORM ∨ a_Style_TAB_DELIMITED = a_Style_COOKIE
                    · exact absurd hc272 (fun q => q.elim (Ne.symm ne_Style_FORM__Style_TAB_DELIMITED) (Ne.symm ne_Style_COOKIE__Style_TAB_DELIMITED))
                    · rw [if_neg hc272] at hv271
                      subst hv271
                      refine Goes.tr st271 ?_
                      show Goes p.tables e below (T271.setTop (mkF m 205 #[.val (.int x0), .val (.int x1), .val (.ref b1), .val (.ref b49), .val (.ref b98), .val (.ref b147), .val (.int ((x0 &&& (2147483647 : Int32)) % (9 : Int32))), .val (.int ((x1 &&& (2147483647 : Int32)) % (6 : Int32))), .unset, .unset] [(.int (0 : Int32))])) _
                      refine Goes.to (fun _ k => XS.aloadN X271.here hx rfl (hb hby at_205) rfl rfl k) ?_
                      show Goes p.tables e below (T271.setTop (mkF m 206 #[.val (.int x0), .val (.int x1), .val (.ref b1), .val (.ref b49), .val (.ref b98), .val (.ref b147), .val (.int ((x0 &&& (2147483647 : Int32)) % (9 : Int32))), .val (.int ((x1 &&& (2147483647 : Int32)) % (6 : Int32))), .unset, .unset] [(.ref b49), (.int (0 : Int32))])) _
                      refine Goes.to (fun _ k => XS.iload X271.here hx rfl (hb hby at_206) rfl k) ?_
                      show Goes p.tables e below (T271.setTop (mkF m 208 #[.val (.int x0), .val (.int x1), .val (.ref b1), .val (.ref b49), .val (.ref b98), .val (.ref b147), .val (.int ((x0 &&& (2147483647 : Int32)) % (9 : Int32))), .val (.int ((x1 &&& (2147483647 : Int32)) % (6 : Int32))), .unset, .unset] [(.int ((x0 &&& (2147483647 : Int32)) % (9 : Int32))), (.ref b49), (.int (0 : Int32))])) _
                      obtain ⟨cl273, Ar273, q273, S273, N273, H273, G273⟩ := id F195
                      have hin273 : ¬ (((x0 &&& (2147483647 : Int32)) % (9 : Int32)) < 0 ∨ cl273.slots.size ≤ (((x0 &&& (2147483647 : Int32)) % (9 : Int32))).toNatClampNeg) := by
                        have k1 := rng32 x0
                        have k2 : (x0 &&& (2147483647 : Int32)).toInt = x0.toInt % 2147483648 := c_mask x0 (2147483647 : Int32) 31 (by decide) (by decide)
                        have k3 := c_irem (x0 &&& (2147483647 : Int32)) (9 : Int32) 9 rfl
                        have k4 := rng32 ((x0 &&& (2147483647 : Int32)) % (9 : Int32))
                        have k5 : (0 : Int32).toInt = 0 := rfl
                        have k6 : ¬ ((x0 &&& (2147483647 : Int32)) % (9 : Int32)).toInt = (0 : Int32).toInt := fun z => hc199 (Int32.toInt_inj.mp z)
                        have k7 : (1 : Int32).toInt = 1 := rfl
                        have k8 : ¬ ((x0 &&& (2147483647 : Int32)) % (9 : Int32)).toInt = (1 : Int32).toInt := fun z => hc235 (Int32.toInt_inj.mp z)
                        have k9 : (2 : Int32).toInt = 2 := rfl
                        have k10 : ¬ ((x0 &&& (2147483647 : Int32)) % (9 : Int32)).toInt = (2 : Int32).toInt := fun z => hc240 (Int32.toInt_inj.mp z)
                        have k11 : (3 : Int32).toInt = 3 := rfl
                        have k12 : ¬ ((x0 &&& (2147483647 : Int32)) % (9 : Int32)).toInt = (3 : Int32).toInt := fun z => hc245 (Int32.toInt_inj.mp z)
                        have k13 : (4 : Int32).toInt = 4 := rfl
                        have k14 : ¬ ((x0 &&& (2147483647 : Int32)) % (9 : Int32)).toInt = (4 : Int32).toInt := fun z => hc250 (Int32.toInt_inj.mp z)
                        have k15 : (5 : Int32).toInt = 5 := rfl
                        have k16 : ¬ ((x0 &&& (2147483647 : Int32)) % (9 : Int32)).toInt = (5 : Int32).toInt := fun z => hc255 (Int32.toInt_inj.mp z)
                        have k17 : (6 : Int32).toInt = 6 := rfl
                        have k18 : ¬ ((x0 &&& (2147483647 : Int32)) % (9 : Int32)).toInt = (6 : Int32).toInt := fun z => hc260 (Int32.toInt_inj.mp z)
                        have k19 : (7 : Int32).toInt = 7 := rfl
                        have k20 : ¬ ((x0 &&& (2147483647 : Int32)) % (9 : Int32)).toInt = (7 : Int32).toInt := fun z => hc265 (Int32.toInt_inj.mp z)
                        have k21 : (8 : Int32).toInt = 8 := rfl
                        have k22 : ((x0 &&& (2147483647 : Int32)) % (9 : Int32)).toInt = (8 : Int32).toInt := congrArg Int32.toInt hc270
                        have k23 : (9 : Int32).toInt = 9 := rfl
                        refine inb_of S273 ⟨fun hq => ?_, Int32.lt_iff_toInt_lt.mpr ?_⟩
                        · have hq' := Int32.lt_iff_toInt_lt.mp hq
                          omega
                        · omega
                      have hat273 : cl273.slots[(((x0 &&& (2147483647 : Int32)) % (9 : Int32))).toNatClampNeg]? = some (.int (0 : Int32)) := Has.at H273 hin273 (by rw [hc270]; rfl)
                      refine Goes.to (fun _ k => X271.baloadBooleans hx (j := ((x0 &&& (2147483647 : Int32)) % (9 : Int32))) (v := (.int (0 : Int32))) (by rw [hp271_0]; exact Ar273.1) (State.isArrayOf_alike hZ.alike Ar273.2.1) Ar273.2.2 hin273 hat273 (g := (mkF m 208 #[.val (.int x0), .val (.int x1), .val (.ref b1), .val (.ref b49), .val (.ref b98), .val (.ref b147), .val (.int ((x0 &&& (2147483647 : Int32)) % (9 : Int32))), .val (.int ((x1 &&& (2147483647 : Int32)) % (6 : Int32))), .unset, .unset] [(.int ((x0 &&& (2147483647 : Int32)) % (9 : Int32))), (.ref b49), (.int (0 : Int32))])) rfl rfl (hb hby at_208) _ k) ?_
                      show Goes p.tables e below (T271.setTop (mkF m 209 #[.val (.int x0), .val (.int x1), .val (.ref b1), .val (.ref b49), .val (.ref b98), .val (.ref b147), .val (.int ((x0 &&& (2147483647 : Int32)) % (9 : Int32))), .val (.int ((x1 &&& (2147483647 : Int32)) % (6 : Int32))), .unset, .unset] [(.int (0 : Int32)), (.int (0 : Int32))])) _
                      refine Goes.to (fun _ k => XS.icmpNo X271.here hx rfl (hb hby at_209) rfl (teq (by decide : (0 : Int32) = (0 : Int32))).2 k) ?_
                      show Goes p.tables e below (T271.setTop (mkF m 212 #[.val (.int x0), .val (.int x1), .val (.ref b1), .val (.ref b49), .val (.ref b98), .val (.ref b147), .val (.int ((x0 &&& (2147483647 : Int32)) % (9 : Int32))), .val (.int ((x1 &&& (2147483647 : Int32)) % (6 : Int32))), .unset, .unset] [])) _
                      refine Goes.to (fun _ k => XS.iconst X271.here hx rfl (hb hby at_212) k) ?_
                      show Goes p.tables e below (T271.setTop (mkF m 213 #[.val (.int x0), .val (.int x1), .val (.ref b1), .val (.ref b49), .val (.ref b98), .val (.ref b147), .val (.int ((x0 &&& (2147483647 : Int32)) % (9 : Int32))), .val (.int ((x1 &&& (2147483647 : Int32)) % (6 : Int32))), .unset, .unset] [(.int (1 : Int32))])) _
                      refine Goes.to (fun _ k => XS.goto X271.here hx rfl (pc0 := 213) (pc' := 217) rfl (hb hby at_213) (by decide) (by decide) k) ?_
                      show Goes p.tables e below (T271.setTop (mkF m 217 #[.val (.int x0), .val (.int x1), .val (.ref b1), .val (.ref b49), .val (.ref b98), .val (.ref b147), .val (.int ((x0 &&& (2147483647 : Int32)) % (9 : Int32))), .val (.int ((x1 &&& (2147483647 : Int32)) % (6 : Int32))), .unset, .unset] [(.int (1 : Int32))])) _
                      refine Goes.to (fun _ k => XS.istore X271.here hx rfl (hb hby at_217) rfl (l' := #[.val (.int x0), .val (.int x1), .val (.ref b1), .val (.ref b49), .val (.ref b98), .val (.ref b147), .val (.int ((x0 &&& (2147483647 : Int32)) % (9 : Int32))), .val (.int ((x1 &&& (2147483647 : Int32)) % (6 : Int32))), .val (.int (1 : Int32)), .unset]) rfl k) ?_
                      exact own_pt_own_rm0_203 l Z a0 hw ws x0 x1 a_Style_MATRIX a_Style_LABEL a_Style_FORM a_Style_SIMPLE a_Style_SPACE_DELIMITED a_Style_PIPE_DELIMITED a_Style_DEEP_OBJECT a_Style_COOKIE a_Style_TAB_DELIMITED a_Location_PATH a_Location_QUERY a_Location_QUERYSTRING a_Location_HEADER a_Location_COOKIE a_Location_FORM_DATA a_M k_M h0 n0 Z0 O0 S_Style_MATRIX E_Style_MATRIX S_Style_LABEL E_Style_LABEL S_Style_FORM E_Style_FORM S_Style_SIMPLE E_Style_SIMPLE S_Style_SPACE_DELIMITED E_Style_SPACE_DELIMITED S_Style_PIPE_DELIMITED E_Style_PIPE_DELIMITED S_Style_DEEP_OBJECT E_Style_DEEP_OBJECT S_Style_COOKIE E_Style_COOKIE S_Style_TAB_DELIMITED E_Style_TAB_DELIMITED S_Location_PATH E_Location_PATH S_Location_QUERY E_Location_QUERY S_Location_QUERYSTRING E_Location_QUERYSTRING S_Location_HEADER E_Location_HEADER S_Location_COOKIE E_Location_COOKIE S_Location_FORM_DATA E_Location_FORM_DATA F_Style_MATRIX_ordinal F_Style_FORM_ordinal F_Style_COOKIE_ordinal F_Location_HEADER_ordinal F_Style_SIMPLE_ordinal F_Style_PIPE_DELIMITED_ordinal F_Location_QUERY_ordinal F_Location_FORM_DATA_ordinal F_Location_QUERYSTRING_ordinal F_Style_SPACE_DELIMITED_ordinal F_Location_PATH_ordinal F_Style_LABEL_ordinal F_Style_DEEP_OBJECT_ordinal F_Location_COOKIE_ordinal F_Style_TAB_DELIMITED_ordinal ne_Style_MATRIX__Style_FORM ne_Style_MATRIX__Style_COOKIE ne_Style_LABEL__Style_FORM ne_Style_LABEL__Style_COOKIE ne_Style_FORM__Style_SIMPLE ne_Style_FORM__Style_SPACE_DELIMITED ne_Style_FORM__Style_PIPE_DELIMITED ne_Style_FORM__Style_DEEP_OBJECT ne_Style_FORM__Style_COOKIE ne_Style_FORM__Style_TAB_DELIMITED ne_Style_SIMPLE__Style_COOKIE ne_Style_SPACE_DELIMITED__Style_COOKIE ne_Style_PIPE_DELIMITED__Style_COOKIE ne_Style_DEEP_OBJECT__Style_COOKIE ne_Style_COOKIE__Style_TAB_DELIMITED SM VM Bd hml0 hh hZ b1 k1 b49 k49 b98 k98 b147 k147 T271 _  T192.heap X271 hp271_0 N271 Z192  F194 F195 F196 V192 Po176_4 Pn176_5 Pn176_6 Pn176_7 Pn176_8 Pn176_9 Pn176_10 Pn176_11 Pn176_12 Pn176_13 Pn176_14 Pn176_15 Pn176_16 Pn176_17 Pn176_18 Pn176_19 Pn176_20 Pg176_21 Pn176_22 Pn176_23 Pn176_24 Pn176_25 Pn176_26 Pn176_27 Pn176_28 Pn176_29 Pn176_30 Pn176_31 Pn176_32 Pn176_33 Pn176_34 Pn176_35 Pn176_36 Pn176_37 Pn176_38 Pg176_39 Po176_40 Pn176_41 Pn176_42 Pn176_43 Pn176_44 Pn176_45 Pn176_46 Pn176_47 Pn176_48 Pn176_49 Pn176_50 Pn176_51 Pn176_52 Pn176_53 Pn176_54 Pn176_55 Pn176_56 Pn176_57 Pn176_58 Pg176_59 Pn176_60 Pn176_61 Pn176_62 Pn176_63 Pn176_64 Pn176_65 Pn176_66 Pn176_67 Pn176_68 Pn176_69 Pn176_70 Pn176_71 Pn176_72 Pn176_73 Pn176_74 Pn176_75 Pn176_76 Pn176_77 Pn176_78 Pg176_79 O193
                  · exfalso
                    have k1 := rng32 x0
                    have k2 : (x0 &&& (2147483647 : Int32)).toInt = x0.toInt % 2147483648 := c_mask x0 (2147483647 : Int32) 31 (by decide) (by decide)
                    have k3 := c_irem (x0 &&& (2147483647 : Int32)) (9 : Int32) 9 rfl
                    have k4 := rng32 ((x0 &&& (2147483647 : Int32)) % (9 : Int32))
                    have k5 : (0 : Int32).toInt = 0 := rfl
                    have k6 : ¬ ((x0 &&& (2147483647 : Int32)) % (9 : Int32)).toInt = (0 : Int32).toInt := fun z => hc199 (Int32.toInt_inj.mp z)
                    have k7 : (1 : Int32).toInt = 1 := rfl
                    have k8 : ¬ ((x0 &&& (2147483647 : Int32)) % (9 : Int32)).toInt = (1 : Int32).toInt := fun z => hc235 (Int32.toInt_inj.mp z)
                    have k9 : (2 : Int32).toInt = 2 := rfl
                    have k10 : ¬ ((x0 &&& (2147483647 : Int32)) % (9 : Int32)).toInt = (2 : Int32).toInt := fun z => hc240 (Int32.toInt_inj.mp z)
                    have k11 : (3 : Int32).toInt = 3 := rfl
                    have k12 : ¬ ((x0 &&& (2147483647 : Int32)) % (9 : Int32)).toInt = (3 : Int32).toInt := fun z => hc245 (Int32.toInt_inj.mp z)
                    have k13 : (4 : Int32).toInt = 4 := rfl
                    have k14 : ¬ ((x0 &&& (2147483647 : Int32)) % (9 : Int32)).toInt = (4 : Int32).toInt := fun z => hc250 (Int32.toInt_inj.mp z)
                    have k15 : (5 : Int32).toInt = 5 := rfl
                    have k16 : ¬ ((x0 &&& (2147483647 : Int32)) % (9 : Int32)).toInt = (5 : Int32).toInt := fun z => hc255 (Int32.toInt_inj.mp z)
                    have k17 : (6 : Int32).toInt = 6 := rfl
                    have k18 : ¬ ((x0 &&& (2147483647 : Int32)) % (9 : Int32)).toInt = (6 : Int32).toInt := fun z => hc260 (Int32.toInt_inj.mp z)
                    have k19 : (7 : Int32).toInt = 7 := rfl
                    have k20 : ¬ ((x0 &&& (2147483647 : Int32)) % (9 : Int32)).toInt = (7 : Int32).toInt := fun z => hc265 (Int32.toInt_inj.mp z)
                    have k21 : (8 : Int32).toInt = 8 := rfl
                    have k22 : ¬ ((x0 &&& (2147483647 : Int32)) % (9 : Int32)).toInt = (8 : Int32).toInt := fun z => hc270 (Int32.toInt_inj.mp z)
                    omega
set_option maxRecDepth 65536 in
set_option maxHeartbeats 40000000 in
theorem own_pt_own_rm0_104 (l : Launch) (Z : State) (a0 : Array Value) (hw : ∀ d ∈ tables_1, d.before a0 Z = true) (ws : List Jvm.Cond) (x0 : Int32) (x1 : Int32) (a_Style_MATRIX : Addr) (a_Style_LABEL : Addr) (a_Style_FORM : Addr) (a_Style_SIMPLE : Addr) (a_Style_SPACE_DELIMITED : Addr) (a_Style_PIPE_DELIMITED : Addr) (a_Style_DEEP_OBJECT : Addr) (a_Style_COOKIE : Addr) (a_Style_TAB_DELIMITED : Addr) (a_Location_PATH : Addr) (a_Location_QUERY : Addr) (a_Location_QUERYSTRING : Addr) (a_Location_HEADER : Addr) (a_Location_COOKIE : Addr) (a_Location_FORM_DATA : Addr) (a_M : Addr) (k_M : ClassId) (h0 : Heap) (n0 : Nat) (Z0 : n0 ≤ h0.size) (O0 : Old Z n0 h0) (S_Style_MATRIX : Sta Z Z.heap "com/example/unipar/unipar/Style" "MATRIX" "Lcom/example/unipar/unipar/Style;" (.ref a_Style_MATRIX)) (E_Style_MATRIX : Exa Z Z.heap a_Style_MATRIX "com/example/unipar/unipar/Style") (S_Style_LABEL : Sta Z Z.heap "com/example/unipar/unipar/Style" "LABEL" "Lcom/example/unipar/unipar/Style;" (.ref a_Style_LABEL)) (E_Style_LABEL : Exa Z Z.heap a_Style_LABEL "com/example/unipar/unipar/Style") (S_Style_FORM : Sta Z Z.heap "com/example/unipar/unipar/Style" "FORM" "Lcom/example/unipar/unipar/Style;" (.ref a_Style_FORM)) (E_Style_FORM : Exa Z Z.heap a_Style_FORM "com/example/unipar/unipar/Style") (S_Style_SIMPLE : Sta Z Z.heap "com/example/unipar/unipar/Style" "SIMPLE" "Lcom/example/unipar/unipar/Style;" (.ref a_Style_SIMPLE)) (E_Style_SIMPLE : Exa Z Z.heap a_Style_SIMPLE "com/example/unipar/unipar/Style") (S_Style_SPACE_DELIMITED : Sta Z Z.heap "com/example/unipar/unipar/Style" "SPACE_DELIMITED" "Lcom/example/unipar/unipar/Style;" (.ref a_Style_SPACE_DELIMITED)) (E_Style_SPACE_DELIMITED : Exa Z Z.heap a_Style_SPACE_DELIMITED "com/example/unipar/unipar/Style") (S_Style_PIPE_DELIMITED : Sta Z Z.heap "com/example/unipar/unipar/Style" "PIPE_DELIMITED" "Lcom/example/unipar/unipar/Style;" (.ref a_Style_PIPE_DELIMITED)) (E_Style_PIPE_DELIMITED : Exa Z Z.heap a_Style_PIPE_DELIMITED "com/example/unipar/unipar/Style") (S_Style_DEEP_OBJECT : Sta Z Z.heap "com/example/unipar/unipar/Style" "DEEP_OBJECT" "Lcom/example/unipar/unipar/Style;" (.ref a_Style_DEEP_OBJECT)) (E_Style_DEEP_OBJECT : Exa Z Z.heap a_Style_DEEP_OBJECT "com/example/unipar/unipar/Style") (S_Style_COOKIE : Sta Z Z.heap "com/example/unipar/unipar/Style" "COOKIE" "Lcom/example/unipar/unipar/Style;" (.ref a_Style_COOKIE)) (E_Style_COOKIE : Exa Z Z.heap a_Style_COOKIE "com/example/unipar/unipar/Style") (S_Style_TAB_DELIMITED : Sta Z Z.heap "com/example/unipar/unipar/Style" "TAB_DELIMITED" "Lcom/example/unipar/unipar/Style;" (.ref a_Style_TAB_DELIMITED)) (E_Style_TAB_DELIMITED : Exa Z Z.heap a_Style_TAB_DELIMITED "com/example/unipar/unipar/Style") (S_Location_PATH : Sta Z Z.heap "com/example/unipar/unipar/Location" "PATH" "Lcom/example/unipar/unipar/Location;" (.ref a_Location_PATH)) (E_Location_PATH : Exa Z Z.heap a_Location_PATH "com/example/unipar/unipar/Location") (S_Location_QUERY : Sta Z Z.heap "com/example/unipar/unipar/Location" "QUERY" "Lcom/example/unipar/unipar/Location;" (.ref a_Location_QUERY)) (E_Location_QUERY : Exa Z Z.heap a_Location_QUERY "com/example/unipar/unipar/Location") (S_Location_QUERYSTRING : Sta Z Z.heap "com/example/unipar/unipar/Location" "QUERYSTRING" "Lcom/example/unipar/unipar/Location;" (.ref a_Location_QUERYSTRING)) (E_Location_QUERYSTRING : Exa Z Z.heap a_Location_QUERYSTRING "com/example/unipar/unipar/Location") (S_Location_HEADER : Sta Z Z.heap "com/example/unipar/unipar/Location" "HEADER" "Lcom/example/unipar/unipar/Location;" (.ref a_Location_HEADER)) (E_Location_HEADER : Exa Z Z.heap a_Location_HEADER "com/example/unipar/unipar/Location") (S_Location_COOKIE : Sta Z Z.heap "com/example/unipar/unipar/Location" "COOKIE" "Lcom/example/unipar/unipar/Location;" (.ref a_Location_COOKIE)) (E_Location_COOKIE : Exa Z Z.heap a_Location_COOKIE "com/example/unipar/unipar/Location") (S_Location_FORM_DATA : Sta Z Z.heap "com/example/unipar/unipar/Location" "FORM_DATA" "Lcom/example/unipar/unipar/Location;" (.ref a_Location_FORM_DATA)) (E_Location_FORM_DATA : Exa Z Z.heap a_Location_FORM_DATA "com/example/unipar/unipar/Location") (F_Style_MATRIX_ordinal : Fld Z Z.heap a_Style_MATRIX "java/lang/Enum" "ordinal" "I" (.int (0 : Int32))) (F_Style_FORM_ordinal : Fld Z Z.heap a_Style_FORM "java/lang/Enum" "ordinal" "I" (.int (2 : Int32))) (F_Style_COOKIE_ordinal : Fld Z Z.heap a_Style_COOKIE "java/lang/Enum" "ordinal" "I" (.int (7 : Int32))) (F_Location_HEADER_ordinal : Fld Z Z.heap a_Location_HEADER "java/lang/Enum" "ordinal" "I" (.int (3 : Int32))) (F_Style_SIMPLE_ordinal : Fld Z Z.heap a_Style_SIMPLE "java/lang/Enum" "ordinal" "I" (.int (3 : Int32))) (F_Style_PIPE_DELIMITED_ordinal : Fld Z Z.heap a_Style_PIPE_DELIMITED "java/lang/Enum" "ordinal" "I" (.int (5 : Int32))) (F_Location_QUERY_ordinal : Fld Z Z.heap a_Location_QUERY "java/lang/Enum" "ordinal" "I" (.int (1 : Int32))) (F_Location_FORM_DATA_ordinal : Fld Z Z.heap a_Location_FORM_DATA "java/lang/Enum" "ordinal" "I" (.int (5 : Int32))) (F_Location_QUERYSTRING_ordinal : Fld Z Z.heap a_Location_QUERYSTRING "java/lang/Enum" "ordinal" "I" (.int (2 : Int32))) (F_Style_SPACE_DELIMITED_ordinal : Fld Z Z.heap a_Style_SPACE_DELIMITED "java/lang/Enum" "ordinal" "I" (.int (4 : Int32))) (F_Location_PATH_ordinal : Fld Z Z.heap a_Location_PATH "java/lang/Enum" "ordinal" "I" (.int (0 : Int32))) (F_Style_LABEL_ordinal : Fld Z Z.heap a_Style_LABEL "java/lang/Enum" "ordinal" "I" (.int (1 : Int32))) (F_Style_DEEP_OBJECT_ordinal : Fld Z Z.heap a_Style_DEEP_OBJECT "java/lang/Enum" "ordinal" "I" (.int (6 : Int32))) (F_Location_COOKIE_ordinal : Fld Z Z.heap a_Location_COOKIE "java/lang/Enum" "ordinal" "I" (.int (4 : Int32))) (F_Style_TAB_DELIMITED_ordinal : Fld Z Z.heap a_Style_TAB_DELIMITED "java/lang/Enum" "ordinal" "I" (.int (8 : Int32))) (ne_Style_MATRIX__Style_FORM : a_Style_MATRIX ≠ a_Style_FORM) (ne_Style_MATRIX__Style_COOKIE : a_Style_MATRIX ≠ a_Style_COOKIE) (ne_Style_LABEL__Style_FORM : a_Style_LABEL ≠ a_Style_FORM) (ne_Style_LABEL__Style_COOKIE : a_Style_LABEL ≠ a_Style_COOKIE) (ne_Style_FORM__Style_SIMPLE : a_Style_FORM ≠ a_Style_SIMPLE) (ne_Style_FORM__Style_SPACE_DELIMITED : a_Style_FORM ≠ a_Style_SPACE_DELIMITED) (ne_Style_FORM__Style_PIPE_DELIMITED : a_Style_FORM ≠ a_Style_PIPE_DELIMITED) (ne_Style_FORM__Style_DEEP_OBJECT : a_Style_FORM ≠ a_Style_DEEP_OBJECT) (ne_Style_FORM__Style_COOKIE : a_Style_FORM ≠ a_Style_COOKIE) (ne_Style_FORM__Style_TAB_DELIMITED : a_Style_FORM ≠ a_Style_TAB_DELIMITED) (ne_Style_SIMPLE__Style_COOKIE : a_Style_SIMPLE ≠ a_Style_COOKIE) (ne_Style_SPACE_DELIMITED__Style_COOKIE : a_Style_SPACE_DELIMITED ≠ a_Style_COOKIE) (ne_Style_PIPE_DELIMITED__Style_COOKIE : a_Style_PIPE_DELIMITED ≠ a_Style_COOKIE) (ne_Style_DEEP_OBJECT__Style_COOKIE : a_Style_DEEP_OBJECT ≠ a_Style_COOKIE) (ne_Style_COOKIE__Style_TAB_DELIMITED : a_Style_COOKIE ≠ a_Style_TAB_DELIMITED) (SM : Sta Z Z.heap "com/example/unipar/unipar/Style$1" "$SwitchMap$com$example$unipar$unipar$Location" "[I" (.ref a_M)) (VM : Arv Z Z.heap a_M k_M .int (6 : Int32) [(.int (4 : Int32)), (.int (1 : Int32)), (.int (6 : Int32)), (.int (5 : Int32)), (.int (2 : Int32)), (.int (3 : Int32))] (.int (0 : Int32)))
    {p : Program} {e : Env} {s : State} {m : MethodId} {below : List Frame} {meth : Method} {c : Code} {s₁ : State} (Bd : BodyLoose p l x (head1 (Jvm.Cond.code x code maxLocals ret :: ws) room_1) code maxLocals ret e s m #[(.int x0), (.int x1)] below meth c s₁) (hml0 : c.maxLocals = maxLocals) (hh : s.heap = h0) (hZ : Z.Warmed39 s.vm)
    (b1 : Addr) (k1 : ClassId) (b49 : Addr) (k49 : ClassId) (b98 : Addr) (k98 : ClassId)
    (Tpt : State) (lpt : List Loc)  (hpt : Heap)
    (Xpt : Stand p l e room_1 s m #[(.int x0), (.int x1)] below meth c Tpt lpt 3 24) (Ept : Tpt.heap = hpt) (Npt : Fr n0 lpt) (Zpt : n0 ≤ hpt.size) 
    (Pf104_0 : Arv Z hpt b1 k1 (.object "com/example/unipar/unipar/Style") (9 : Int32) [(.ref a_Style_MATRIX), (.ref a_Style_LABEL), (.ref a_Style_FORM), (.ref a_Style_SIMPLE), (.ref a_Style_SPACE_DELIMITED), (.ref a_Style_PIPE_DELIMITED), (.ref a_Style_DEEP_OBJECT), (.ref a_Style_COOKIE), (.ref a_Style_TAB_DELIMITED)] .null)
    (Pf104_1 : Arv Z hpt b49 k49 .boolean (9 : Int32) [(.int (0 : Int32)), (.int (0 : Int32)), (.int (1 : Int32)), (.int (0 : Int32)), (.int (0 : Int32)), (.int (0 : Int32)), (.int (0 : Int32)), (.int (1 : Int32)), (.int (0 : Int32))] (.int (0 : Int32)))
    (Pf104_2 : Arv Z hpt b98 k98 (.object "com/example/unipar/unipar/Location") (6 : Int32) [.null, .null, .null, .null, .null, .null] .null)
    (Po104_3 : Ovr Z k1 "com/example/unipar/unipar/Style")
    (Pn104_4 : a_Style_MATRIX ≠ b1)
    (Pn104_5 : a_Style_LABEL ≠ b1)
    (Pn104_6 : a_Style_FORM ≠ b1)
    (Pn104_7 : a_Style_SIMPLE ≠ b1)
    (Pn104_8 : a_Style_SPACE_DELIMITED ≠ b1)
    (Pn104_9 : a_Style_PIPE_DELIMITED ≠ b1)
    (Pn104_10 : a_Style_DEEP_OBJECT ≠ b1)
    (Pn104_11 : a_Style_COOKIE ≠ b1)
    (Pn104_12 : a_Style_TAB_DELIMITED ≠ b1)
    (Pn104_13 : a_Location_PATH ≠ b1)
    (Pn104_14 : a_Location_QUERY ≠ b1)
    (Pn104_15 : a_Location_QUERYSTRING ≠ b1)
    (Pn104_16 : a_Location_HEADER ≠ b1)
    (Pn104_17 : a_Location_COOKIE ≠ b1)
    (Pn104_18 : a_Location_FORM_DATA ≠ b1)
    (Pn104_19 : a_M ≠ b1)
    (Pg104_20 : n0 ≤ b1)
    (Pn104_21 : a_Style_MATRIX ≠ b49)
    (Pn104_22 : a_Style_LABEL ≠ b49)
    (Pn104_23 : a_Style_FORM ≠ b49)
    (Pn104_24 : a_Style_SIMPLE ≠ b49)
    (Pn104_25 : a_Style_SPACE_DELIMITED ≠ b49)
    (Pn104_26 : a_Style_PIPE_DELIMITED ≠ b49)
    (Pn104_27 : a_Style_DEEP_OBJECT ≠ b49)
    (Pn104_28 : a_Style_COOKIE ≠ b49)
    (Pn104_29 : a_Style_TAB_DELIMITED ≠ b49)
    (Pn104_30 : a_Location_PATH ≠ b49)
    (Pn104_31 : a_Location_QUERY ≠ b49)
    (Pn104_32 : a_Location_QUERYSTRING ≠ b49)
    (Pn104_33 : a_Location_HEADER ≠ b49)
    (Pn104_34 : a_Location_COOKIE ≠ b49)
    (Pn104_35 : a_Location_FORM_DATA ≠ b49)
    (Pn104_36 : a_M ≠ b49)
    (Pn104_37 : b1 ≠ b49)
    (Pg104_38 : n0 ≤ b49)
    (Po104_39 : Ovr Z k98 "com/example/unipar/unipar/Location")
    (Pn104_40 : a_Style_MATRIX ≠ b98)
    (Pn104_41 : a_Style_LABEL ≠ b98)
    (Pn104_42 : a_Style_FORM ≠ b98)
    (Pn104_43 : a_Style_SIMPLE ≠ b98)
    (Pn104_44 : a_Style_SPACE_DELIMITED ≠ b98)
    (Pn104_45 : a_Style_PIPE_DELIMITED ≠ b98)
    (Pn104_46 : a_Style_DEEP_OBJECT ≠ b98)
    (Pn104_47 : a_Style_COOKIE ≠ b98)
    (Pn104_48 : a_Style_TAB_DELIMITED ≠ b98)
    (Pn104_49 : a_Location_PATH ≠ b98)
    (Pn104_50 : a_Location_QUERY ≠ b98)
    (Pn104_51 : a_Location_QUERYSTRING ≠ b98)
    (Pn104_52 : a_Location_HEADER ≠ b98)
    (Pn104_53 : a_Location_COOKIE ≠ b98)
    (Pn104_54 : a_Location_FORM_DATA ≠ b98)
    (Pn104_55 : a_M ≠ b98)
    (Pn104_56 : b1 ≠ b98)
    (Pn104_57 : b49 ≠ b98)
    (Pg104_58 : n0 ≤ b98)
    (Old104 : Old Z n0 hpt)
    : Goes p.tables e below (Tpt.setTop (mkF m 112 #[.val (.int x0), .val (.int x1), .val (.ref b1), .val (.ref b49), .unset, .unset, .unset, .unset, .unset, .unset] [(.ref b98)])) (own_R below s (own_Q_own_rm0 Z x0 x1 a_Style_MATRIX a_Style_LABEL a_Style_FORM a_Style_SIMPLE a_Style_SPACE_DELIMITED a_Style_PIPE_DELIMITED a_Style_DEEP_OBJECT a_Style_COOKIE a_Style_TAB_DELIMITED a_Location_PATH a_Location_QUERY a_Location_QUERYSTRING a_Location_HEADER a_Location_COOKIE a_Location_FORM_DATA a_M k_M h0 n0) 4 30) := by
  have hx := Bd.exec
  have hby := Bd.bytes
  have hml : c.maxLocals = 10 := hml0
  have hnm := (name_of_methodNamed Bd.named Bd.method).1
  have hown : s.vm.findClass "com/example/unipar/unipar/StyleExplodesByDefaultPinLaw" = some m.cls := findClass_of_methodNamed Bd.named
  show Goes p.tables e below (Tpt.setTop (mkF m 112 #[.val (.int x0), .val (.int x1), .val (.ref b1), .val (.ref b49), .unset, .unset, .unset, .unset, .unset, .unset] [(.ref b98)])) _
  refine Goes.to (fun _ k => XS.dup Xpt.here hx rfl (hb hby at_112) rfl rfl k) ?_
  show Goes p.tables e below (Tpt.setTop (mkF m 113 #[.val (.int x0), .val (.int x1), .val (.ref b1), .val (.ref b49), .unset, .unset, .unset, .unset, .unset, .unset] [(.ref b98), (.ref b98)])) _
  refine Goes.to (fun _ k => XS.iconst Xpt.here hx rfl (hb hby at_113) k) ?_
  show Goes p.tables e below (Tpt.setTop (mkF m 114 #[.val (.int x0), .val (.int x1), .val (.ref b1), .val (.ref b49), .unset, .unset, .unset, .unset, .unset, .unset] [(.int (0 : Int32)), (.ref b98), (.ref b98)])) _
  obtain ⟨T105, X105, e105, st105⟩ := getS2 Xpt hx hZ hown (host := "") (Or.inl (hw _ (List.mem_of_getElem? (i := 25) rfl))) Via.refl Ept (S_Location_PATH.ext Old104.2) (g := (mkF m 114 #[.val (.int x0), .val (.int x1), .val (.ref b1), .val (.ref b49), .unset, .unset, .unset, .unset, .unset, .unset] [(.int (0 : Int32)), (.ref b98), (.ref b98)])) rfl (hb hby at_114)
  refine Goes.to st105 ?_
  show Goes p.tables e below (T105.setTop (mkF m 117 #[.val (.int x0), .val (.int x1), .val (.ref b1), .val (.ref b49), .unset, .unset, .unset, .unset, .unset, .unset] [(.ref a_Location_PATH), (.int (0 : Int32)), (.ref b98), (.ref b98)])) _
  obtain ⟨cl106, Ar106, q106, S106, N106, H106, G106⟩ := id Pf104_2
  have hin106 : ¬ ((0 : Int32) < 0 ∨ cl106.slots.size ≤ ((0 : Int32)).toNatClampNeg) := inb_of S106 ⟨by decide, by decide⟩
  obtain ⟨T107, h107, X107, e107, W107, st107⟩ := stR X105 hx hZ e105 Ar106 (j := (0 : Int32)) hin106 rfl (Sto.ofV Ar106 q106 Po104_39 (Ins.self (E_Location_PATH.ext Old104.2))) (g := (mkF m 117 #[.val (.int x0), .val (.int x1), .val (.ref b1), .val (.ref b49), .unset, .unset, .unset, .unset, .unset, .unset] [(.ref a_Location_PATH), (.int (0 : Int32)), (.ref b98), (.ref b98)])) rfl rfl (hb hby at_117)
  subst e107
  have O108 := Old104.wr W107 Pg104_58
  have F109 := Pf104_0.other W107 Pn104_56
  have F110 := Pf104_1.other W107 Pn104_57
  have N107 := Fr.snoc X107 Npt Pg104_58
  have Z107 : n0 ≤ T107.heap.size := Nat.le_trans Zpt (Nat.le_of_eq W107.size.symm)
  have V107 : Arv Z T107.heap b98 k98 (.object "com/example/unipar/unipar/Location") (6 : Int32) [(.ref a_Location_PATH), .null, .null, .null, .null, .null] .null := Arv.set Ar106 q106 S106 N106 H106 G106 rfl W107 0 rfl (Nat.le_of_ble_eq_true rfl)
  refine Goes.to st107 ?_
  show Goes p.tables e below (T107.setTop (mkF m 118 #[.val (.int x0), .val (.int x1), .val (.ref b1), .val (.ref b49), .unset, .unset, .unset, .unset, .unset, .unset] [(.ref b98)])) _
  refine Goes.to (fun _ k => XS.dup X107.here hx rfl (hb hby at_118) rfl rfl k) ?_
  show Goes p.tables e below (T107.setTop (mkF m 119 #[.val (.int x0), .val (.int x1), .val (.ref b1), .val (.ref b49), .unset, .unset, .unset, .unset, .unset, .unset] [(.ref b98), (.ref b98)])) _
  refine Goes.to (fun _ k => XS.iconst X107.here hx rfl (hb hby at_119) k) ?_
  show Goes p.tables e below (T107.setTop (mkF m 120 #[.val (.int x0), .val (.int x1), .val (.ref b1), .val (.ref b49), .unset, .unset, .unset, .unset, .unset, .unset] [(.int (1 : Int32)), (.ref b98), (.ref b98)])) _
  obtain ⟨T112, X112, e112, st112⟩ := getS2 X107 hx hZ hown (host := "") (Or.inl (hw _ (List.mem_of_getElem? (i := 29) rfl))) Via.refl rfl (S_Location_QUERY.ext O108.2) (g := (mkF m 120 #[.val (.int x0), .val (.int x1), .val (.ref b1), .val (.ref b49), .unset, .unset, .unset, .unset, .unset, .unset] [(.int (1 : Int32)), (.ref b98), (.ref b98)])) rfl (hb hby at_120)
  refine Goes.to st112 ?_
  show Goes p.tables e below (T112.setTop (mkF m 123 #[.val (.int x0), .val (.int x1), .val (.ref b1), .val (.ref b49), .unset, .unset, .unset, .unset, .unset, .unset] [(.ref a_Location_QUERY), (.int (1 : Int32)), (.ref b98), (.ref b98)])) _
  obtain ⟨cl113, Ar113, q113, S113, N113, H113, G113⟩ := id V107
  have hin113 : ¬ ((1 : Int32) < 0 ∨ cl113.slots.size ≤ ((1 : Int32)).toNatClampNeg) := inb_of S113 ⟨by decide, by decide⟩
  obtain ⟨T114, h114, X114, e114, W114, st114⟩ := stR X112 hx hZ e112 Ar113 (j := (1 : Int32)) hin113 rfl (Sto.ofV Ar113 q113 Po104_39 (Ins.self (E_Location_QUERY.ext O108.2))) (g := (mkF m 123 #[.val (.int x0), .val (.int x1), .val (.ref b1), .val (.ref b49), .unset, .unset, .unset, .unset, .unset, .unset] [(.ref a_Location_QUERY), (.int (1 : Int32)), (.ref b98), (.ref b98)])) rfl rfl (hb hby at_123)
  subst e114
  have O115 := O108.wr W114 Pg104_58
  have F116 := F109.other W114 Pn104_56
  have F117 := F110.other W114 Pn104_57
  have N114 := Fr.snoc X114 N107 Pg104_58
  have Z114 : n0 ≤ T114.heap.size := Nat.le_trans Z107 (Nat.le_of_eq W114.size.symm)
  have V114 : Arv Z T114.heap b98 k98 (.object "com/example/unipar/unipar/Location") (6 : Int32) [(.ref a_Location_PATH), (.ref a_Location_QUERY), .null, .null, .null, .null] .null := Arv.set Ar113 q113 S113 N113 H113 G113 rfl W114 1 rfl (Nat.le_of_ble_eq_true rfl)
  refine Goes.to st114 ?_
  show Goes p.tables e below (T114.setTop (mkF m 124 #[.val (.int x0), .val (.int x1), .val (.ref b1), .val (.ref b49), .unset, .unset, .unset, .unset, .unset, .unset] [(.ref b98)])) _
  refine Goes.to (fun _ k => XS.dup X114.here hx rfl (hb hby at_124) rfl rfl k) ?_
  show Goes p.tables e below (T114.setTop (mkF m 125 #[.val (.int x0), .val (.int x1), .val (.ref b1), .val (.ref b49), .unset, .unset, .unset, .unset, .unset, .unset] [(.ref b98), (.ref b98)])) _
  refine Goes.to (fun _ k => XS.iconst X114.here hx rfl (hb hby at_125) k) ?_
  show Goes p.tables e below (T114.setTop (mkF m 126 #[.val (.int x0), .val (.int x1), .val (.ref b1), .val (.ref b49), .unset, .unset, .unset, .unset, .unset, .unset] [(.int (2 : Int32)), (.ref b98), (.ref b98)])) _
  obtain ⟨T119, X119, e119, st119⟩ := getS2 X114 hx hZ hown (host := "") (Or.inl (hw _ (List.mem_of_getElem? (i := 31) rfl))) Via.refl rfl (S_Location_QUERYSTRING.ext O115.2) (g := (mkF m 126 #[.val (.int x0), .val (.int x1), .val (.ref b1), .val (.ref b49), .unset, .unset, .unset, .unset, .unset, .unset] [(.int (2 : Int32)), (.ref b98), (.ref b98)])) rfl (hb hby at_126)
  refine Goes.to st119 ?_
  show Goes p.tables e below (T119.setTop (mkF m 129 #[.val (.int x0), .val (.int x1), .val (.ref b1), .val (.ref b49), .unset, .unset, .unset, .unset, .unset, .unset] [(.ref a_Location_QUERYSTRING), (.int (2 : Int32)), (.ref b98), (.ref b98)])) _
  obtain ⟨cl120, Ar120, q120, S120, N120, H120, G120⟩ := id V114
  have hin120 : ¬ ((2 : Int32) < 0 ∨ cl120.slots.size ≤ ((2 : Int32)).toNatClampNeg) := inb_of S120 ⟨by decide, by decide⟩
  obtain ⟨T121, h121, X121, e121, W121, st121⟩ := stR X119 hx hZ e119 Ar120 (j := (2 : Int32)) hin120 rfl (Sto.ofV Ar120 q120 Po104_39 (Ins.self (E_Location_QUERYSTRING.ext O115.2))) (g := (mkF m 129 #[.val (.int x0), .val (.int x1), .val (.ref b1), .val (.ref b49), .unset, .unset, .unset, .unset, .unset, .unset] [(.ref a_Location_QUERYSTRING), (.int (2 : Int32)), (.ref b98), (.ref b98)])) rfl rfl (hb hby at_129)
  subst e121
  have O122 := O115.wr W121 Pg104_58
  have F123 := F116.other W121 Pn104_56
  have F124 := F117.other W121 Pn104_57
  have N121 := Fr.snoc X121 N114 Pg104_58
  have Z121 : n0 ≤ T121.heap.size := Nat.le_trans Z114 (Nat.le_of_eq W121.size.symm)
  have V121 : Arv Z T121.heap b98 k98 (.object "com/example/unipar/unipar/Location") (6 : Int32) [(.ref a_Location_PATH), (.ref a_Location_QUERY), (.ref a_Location_QUERYSTRING), .null, .null, .null] .null := Arv.set Ar120 q120 S120 N120 H120 G120 rfl W121 2 rfl (Nat.le_of_ble_eq_true rfl)
  refine Goes.to st121 ?_
  show Goes p.tables e below (T121.setTop (mkF m 130 #[.val (.int x0), .val (.int x1), .val (.ref b1), .val (.ref b49), .unset, .unset, .unset, .unset, .unset, .unset] [(.ref b98)])) _
  refine Goes.to (fun _ k => XS.dup X121.here hx rfl (hb hby at_130) rfl rfl k) ?_
  show Goes p.tables e below (T121.setTop (mkF m 131 #[.val (.int x0), .val (.int x1), .val (.ref b1), .val (.ref b49), .unset, .unset, .unset, .unset, .unset, .unset] [(.ref b98), (.ref b98)])) _
  refine Goes.to (fun _ k => XS.iconst X121.here hx rfl (hb hby at_131) k) ?_
  show Goes p.tables e below (T121.setTop (mkF m 132 #[.val (.int x0), .val (.int x1), .val (.ref b1), .val (.ref b49), .unset, .unset, .unset, .unset, .unset, .unset] [(.int (3 : Int32)), (.ref b98), (.ref b98)])) _
  obtain ⟨T126, X126, e126, st126⟩ := getS2 X121 hx hZ hown (host := "") (Or.inl (hw _ (List.mem_of_getElem? (i := 33) rfl))) Via.refl rfl (S_Location_HEADER.ext O122.2) (g := (mkF m 132 #[.val (.int x0), .val (.int x1), .val (.ref b1), .val (.ref b49), .unset, .unset, .unset, .unset, .unset, .unset] [(.int (3 : Int32)), (.ref b98), (.ref b98)])) rfl (hb hby at_132)
  refine Goes.to st126 ?_
  show Goes p.tables e below (T126.setTop (mkF m 135 #[.val (.int x0), .val (.int x1), .val (.ref b1), .val (.ref b49), .unset, .unset, .unset, .unset, .unset, .unset] [(.ref a_Location_HEADER), (.int (3 : Int32)), (.ref b98), (.ref b98)])) _
  obtain ⟨cl127, Ar127, q127, S127, N127, H127, G127⟩ := id V121
  have hin127 : ¬ ((3 : Int32) < 0 ∨ cl127.slots.size ≤ ((3 : Int32)).toNatClampNeg) := inb_of S127 ⟨by decide, by decide⟩
  obtain ⟨T128, h128, X128, e128, W128, st128⟩ := stR X126 hx hZ e126 Ar127 (j := (3 : Int32)) hin127 rfl (Sto.ofV Ar127 q127 Po104_39 (Ins.self (E_Location_HEADER.ext O122.2))) (g := (mkF m 135 #[.val (.int x0), .val (.int x1), .val (.ref b1), .val (.ref b49), .unset, .unset, .unset, .unset, .unset, .unset] [(.ref a_Location_HEADER), (.int (3 : Int32)), (.ref b98), (.ref b98)])) rfl rfl (hb hby at_135)
  subst e128
  have O129 := O122.wr W128 Pg104_58
  have F130 := F123.other W128 Pn104_56
  have F131 := F124.other W128 Pn104_57
  have N128 := Fr.snoc X128 N121 Pg104_58
  have Z128 : n0 ≤ T128.heap.size := Nat.le_trans Z121 (Nat.le_of_eq W128.size.symm)
  have V128 : Arv Z T128.heap b98 k98 (.object "com/example/unipar/unipar/Location") (6 : Int32) [(.ref a_Location_PATH), (.ref a_Location_QUERY), (.ref a_Location_QUERYSTRING), (.ref a_Location_HEADER), .null, .null] .null := Arv.set Ar127 q127 S127 N127 H127 G127 rfl W128 3 rfl (Nat.le_of_ble_eq_true rfl)
  refine Goes.to st128 ?_
  show Goes p.tables e below (T128.setTop (mkF m 136 #[.val (.int x0), .val (.int x1), .val (.ref b1), .val (.ref b49), .unset, .unset, .unset, .unset, .unset, .unset] [(.ref b98)])) _
  refine Goes.to (fun _ k => XS.dup X128.here hx rfl (hb hby at_136) rfl rfl k) ?_
  show Goes p.tables e below (T128.setTop (mkF m 137 #[.val (.int x0), .val (.int x1), .val (.ref b1), .val (.ref b49), .unset, .unset, .unset, .unset, .unset, .unset] [(.ref b98), (.ref b98)])) _
  refine Goes.to (fun _ k => XS.iconst X128.here hx rfl (hb hby at_137) k) ?_
  show Goes p.tables e below (T128.setTop (mkF m 138 #[.val (.int x0), .val (.int x1), .val (.ref b1), .val (.ref b49), .unset, .unset, .unset, .unset, .unset, .unset] [(.int (4 : Int32)), (.ref b98), (.ref b98)])) _
  obtain ⟨T133, X133, e133, st133⟩ := getS2 X128 hx hZ hown (host := "") (Or.inl (hw _ (List.mem_of_getElem? (i := 35) rfl))) Via.refl rfl (S_Location_COOKIE.ext O129.2) (g := (mkF m 138 #[.val (.int x0), .val (.int x1), .val (.ref b1), .val (.ref b49), .unset, .unset, .unset, .unset, .unset, .unset] [(.int (4 : Int32)), (.ref b98), (.ref b98)])) rfl (hb hby at_138)
  refine Goes.to st133 ?_
  show Goes p.tables e below (T133.setTop (mkF m 141 #[.val (.int x0), .val (.int x1), .val (.ref b1), .val (.ref b49), .unset, .unset, .unset, .unset, .unset, .unset] [(.ref a_Location_COOKIE), (.int (4 : Int32)), (.ref b98), (.ref b98)])) _
  obtain ⟨cl134, Ar134, q134, S134, N134, H134, G134⟩ := id V128
  have hin134 : ¬ ((4 : Int32) < 0 ∨ cl134.slots.size ≤ ((4 : Int32)).toNatClampNeg) := inb_of S134 ⟨by decide, by decide⟩
  obtain ⟨T135, h135, X135, e135, W135, st135⟩ := stR X133 hx hZ e133 Ar134 (j := (4 : Int32)) hin134 rfl (Sto.ofV Ar134 q134 Po104_39 (Ins.self (E_Location_COOKIE.ext O129.2))) (g := (mkF m 141 #[.val (.int x0), .val (.int x1), .val (.ref b1), .val (.ref b49), .unset, .unset, .unset, .unset, .unset, .unset] [(.ref a_Location_COOKIE), (.int (4 : Int32)), (.ref b98), (.ref b98)])) rfl rfl (hb hby at_141)
  subst e135
  have O136 := O129.wr W135 Pg104_58
  have F137 := F130.other W135 Pn104_56
  have F138 := F131.other W135 Pn104_57
  have N135 := Fr.snoc X135 N128 Pg104_58
  have Z135 : n0 ≤ T135.heap.size := Nat.le_trans Z128 (Nat.le_of_eq W135.size.symm)
  have V135 : Arv Z T135.heap b98 k98 (.object "com/example/unipar/unipar/Location") (6 : Int32) [(.ref a_Location_PATH), (.ref a_Location_QUERY), (.ref a_Location_QUERYSTRING), (.ref a_Location_HEADER), (.ref a_Location_COOKIE), .null] .null := Arv.set Ar134 q134 S134 N134 H134 G134 rfl W135 4 rfl (Nat.le_of_ble_eq_true rfl)
  refine Goes.to st135 ?_
  show Goes p.tables e below (T135.setTop (mkF m 142 #[.val (.int x0), .val (.int x1), .val (.ref b1), .val (.ref b49), .unset, .unset, .unset, .unset, .unset, .unset] [(.ref b98)])) _
  refine Goes.to (fun _ k => XS.dup X135.here hx rfl (hb hby at_142) rfl rfl k) ?_
  show Goes p.tables e below (T135.setTop (mkF m 143 #[.val (.int x0), .val (.int x1), .val (.ref b1), .val (.ref b49), .unset, .unset, .unset, .unset, .unset, .unset] [(.ref b98), (.ref b98)])) _
  refine Goes.to (fun _ k => XS.iconst X135.here hx rfl (hb hby at_143) k) ?_
  show Goes p.tables e below (T135.setTop (mkF m 144 #[.val (.int x0), .val (.int x1), .val (.ref b1), .val (.ref b49), .unset, .unset, .unset, .unset, .unset, .unset] [(.int (5 : Int32)), (.ref b98), (.ref b98)])) _
  obtain ⟨T140, X140, e140, st140⟩ := getS2 X135 hx hZ hown (host := "") (Or.inl (hw _ (List.mem_of_getElem? (i := 37) rfl))) Via.refl rfl (S_Location_FORM_DATA.ext O136.2) (g := (mkF m 144 #[.val (.int x0), .val (.int x1), .val (.ref b1), .val (.ref b49), .unset, .unset, .unset, .unset, .unset, .unset] [(.int (5 : Int32)), (.ref b98), (.ref b98)])) rfl (hb hby at_144)
  refine Goes.to st140 ?_
  show Goes p.tables e below (T140.setTop (mkF m 147 #[.val (.int x0), .val (.int x1), .val (.ref b1), .val (.ref b49), .unset, .unset, .unset, .unset, .unset, .unset] [(.ref a_Location_FORM_DATA), (.int (5 : Int32)), (.ref b98), (.ref b98)])) _
  obtain ⟨cl141, Ar141, q141, S141, N141, H141, G141⟩ := id V135
  have hin141 : ¬ ((5 : Int32) < 0 ∨ cl141.slots.size ≤ ((5 : Int32)).toNatClampNeg) := inb_of S141 ⟨by decide, by decide⟩
  obtain ⟨T142, h142, X142, e142, W142, st142⟩ := stR X140 hx hZ e140 Ar141 (j := (5 : Int32)) hin141 rfl (Sto.ofV Ar141 q141 Po104_39 (Ins.self (E_Location_FORM_DATA.ext O136.2))) (g := (mkF m 147 #[.val (.int x0), .val (.int x1), .val (.ref b1), .val (.ref b49), .unset, .unset, .unset, .unset, .unset, .unset] [(.ref a_Location_FORM_DATA), (.int (5 : Int32)), (.ref b98), (.ref b98)])) rfl rfl (hb hby at_147)
  subst e142
  have O143 := O136.wr W142 Pg104_58
  have F144 := F137.other W142 Pn104_56
  have F145 := F138.other W142 Pn104_57
  have N142 := Fr.snoc X142 N135 Pg104_58
  have Z142 : n0 ≤ T142.heap.size := Nat.le_trans Z135 (Nat.le_of_eq W142.size.symm)
  have V142 : Arv Z T142.heap b98 k98 (.object "com/example/unipar/unipar/Location") (6 : Int32) [(.ref a_Location_PATH), (.ref a_Location_QUERY), (.ref a_Location_QUERYSTRING), (.ref a_Location_HEADER), (.ref a_Location_COOKIE), (.ref a_Location_FORM_DATA)] .null := Arv.set Ar141 q141 S141 N141 H141 G141 rfl W142 5 rfl (Nat.le_of_ble_eq_true rfl)
  refine Goes.to st142 ?_
  show Goes p.tables e below (T142.setTop (mkF m 148 #[.val (.int x0), .val (.int x1), .val (.ref b1), .val (.ref b49), .unset, .unset, .unset, .unset, .unset, .unset] [(.ref b98)])) _
  refine Goes.to (fun _ k => XS.astore X142.here hx rfl (hb hby at_148) rfl rfl (l' := #[.val (.int x0), .val (.int x1), .val (.ref b1), .val (.ref b49), .val (.ref b98), .unset, .unset, .unset, .unset, .unset]) rfl k) ?_
  show Goes p.tables e below (T142.setTop (mkF m 150 #[.val (.int x0), .val (.int x1), .val (.ref b1), .val (.ref b49), .val (.ref b98), .unset, .unset, .unset, .unset, .unset] [])) _
  refine Goes.to (fun _ k => XS.bipush X142.here hx rfl (hb hby at_150) k) ?_
  show Goes p.tables e below (T142.setTop (mkF m 152 #[.val (.int x0), .val (.int x1), .val (.ref b1), .val (.ref b49), .val (.ref b98), .unset, .unset, .unset, .unset, .unset] [(.int (6 : Int32))])) _
  obtain ⟨T147, h147, k147, X147, e147, E147, A147, st147⟩ := newP X142 hx hZ (hw _ (List.mem_of_getElem? (i := 22) rfl)) rfl (g := (mkF m 152 #[.val (.int x0), .val (.int x1), .val (.ref b1), .val (.ref b49), .val (.ref b98), .unset, .unset, .unset, .unset, .unset] [(.int (6 : Int32))])) rfl (hb hby at_152) rfl (by decide) (cap := 6) (by decide) (by decide) (by decide) (by decide)
  obtain ⟨b147, g147⟩ : ∃ z, z = T142.heap.size := ⟨_, rfl⟩
  rw [← g147] at A147 st147
  subst e147
  have ne148 : b1 ≠ b147 := Nat.ne_of_lt (Nat.lt_of_lt_of_le F144.lt (Nat.le_of_eq g147.symm))
  have ne149 : b49 ≠ b147 := Nat.ne_of_lt (Nat.lt_of_lt_of_le F145.lt (Nat.le_of_eq g147.symm))
  have ne150 : b98 ≠ b147 := Nat.ne_of_lt (Nat.lt_of_lt_of_le V142.lt (Nat.le_of_eq g147.symm))
  have O151 := O143.ext E147
  have F152 := F144.ext E147
  have F153 := F145.ext E147
  have F154 := V142.ext E147
  have g_b147 : n0 ≤ b147 := Nat.le_trans Z142 (Nat.le_of_eq g147.symm)
  have Z147 : n0 ≤ T147.heap.size := Nat.le_trans Z142 E147.1
  have V147 : Arv Z T147.heap b147 k147 .boolean (6 : Int32) [(.int (0 : Int32)), (.int (0 : Int32)), (.int (0 : Int32)), (.int (0 : Int32)), (.int (0 : Int32)), (.int (0 : Int32))] (.int (0 : Int32)) := (Arv.new A147 (by decide)).pad (pad_rep [] (.int (0 : Int32)) 6)
  refine Goes.to st147 ?_
  show Goes p.tables e below (T147.setTop (mkF m 154 #[.val (.int x0), .val (.int x1), .val (.ref b1), .val (.ref b49), .val (.ref b98), .unset, .unset, .unset, .unset, .unset] [(.ref b147)])) _
  refine Goes.to (fun _ k => XS.dup X147.here hx rfl (hb hby at_154) rfl rfl k) ?_
  show Goes p.tables e below (T147.setTop (mkF m 155 #[.val (.int x0), .val (.int x1), .val (.ref b1), .val (.ref b49), .val (.ref b98), .unset, .unset, .unset, .unset, .unset] [(.ref b147), (.ref b147)])) _
  refine Goes.to (fun _ k => XS.iconst X147.here hx rfl (hb hby at_155) k) ?_
  show Goes p.tables e below (T147.setTop (mkF m 156 #[.val (.int x0), .val (.int x1), .val (.ref b1), .val (.ref b49), .val (.ref b98), .unset, .unset, .unset, .unset, .unset] [(.int (0 : Int32)), (.ref b147), (.ref b147)])) _
  refine Goes.to (fun _ k => XS.iconst X147.here hx rfl (hb hby at_156) k) ?_
  show Goes p.tables e below (T147.setTop (mkF m 157 #[.val (.int x0), .val (.int x1), .val (.ref b1), .val (.ref b49), .val (.ref b98), .unset, .unset, .unset, .unset, .unset] [(.int (0 : Int32)), (.int (0 : Int32)), (.ref b147), (.ref b147)])) _
  obtain ⟨cl155, Ar155, q155, S155, N155, H155, G155⟩ := id V147
  have hin155 : ¬ ((0 : Int32) < 0 ∨ cl155.slots.size ≤ ((0 : Int32)).toNatClampNeg) := inb_of S155 ⟨by decide, by decide⟩
  obtain ⟨T156, h156, X156, e156, W156, st156⟩ := stZ X147 hx hZ rfl Ar155 (j := (0 : Int32)) hin155 (g := (mkF m 157 #[.val (.int x0), .val (.int x1), .val (.ref b1), .val (.ref b49), .val (.ref b98), .unset, .unset, .unset, .unset, .unset] [(.int (0 : Int32)), (.int (0 : Int32)), (.ref b147), (.ref b147)])) rfl rfl (hb hby at_157)
  subst e156
  have O157 := O151.wr W156 g_b147
  have F158 := F152.other W156 ne148
  have F159 := F153.other W156 ne149
  have F160 := F154.other W156 ne150
  have N156 := Fr.snoc X156 N142 g_b147
  have Z156 : n0 ≤ T156.heap.size := Nat.le_trans Z147 (Nat.le_of_eq W156.size.symm)
  have V156 : Arv Z T156.heap b147 k147 .boolean (6 : Int32) [(.int (0 : Int32)), (.int (0 : Int32)), (.int (0 : Int32)), (.int (0 : Int32)), (.int (0 : Int32)), (.int (0 : Int32))] (.int (0 : Int32)) := Arv.set Ar155 q155 S155 N155 H155 G155 (fits_nar_bool _) W156 0 rfl (Nat.le_of_ble_eq_true rfl)
  refine Goes.to st156 ?_
  show Goes p.tables e below (T156.setTop (mkF m 158 #[.val (.int x0), .val (.int x1), .val (.ref b1), .val (.ref b49), .val (.ref b98), .unset, .unset, .unset, .unset, .unset] [(.ref b147)])) _
  refine Goes.to (fun _ k => XS.dup X156.here hx rfl (hb hby at_158) rfl rfl k) ?_
  show Goes p.tables e below (T156.setTop (mkF m 159 #[.val (.int x0), .val (.int x1), .val (.ref b1), .val (.ref b49), .val (.ref b98), .unset, .unset, .unset, .unset, .unset] [(.ref b147), (.ref b147)])) _
  refine Goes.to (fun _ k => XS.iconst X156.here hx rfl (hb hby at_159) k) ?_
  show Goes p.tables e below (T156.setTop (mkF m 160 #[.val (.int x0), .val (.int x1), .val (.ref b1), .val (.ref b49), .val (.ref b98), .unset, .unset, .unset, .unset, .unset] [(.int (1 : Int32)), (.ref b147), (.ref b147)])) _
  refine Goes.to (fun _ k => XS.iconst X156.here hx rfl (hb hby at_160) k) ?_
  show Goes p.tables e below (T156.setTop (mkF m 161 #[.val (.int x0), .val (.int x1), .val (.ref b1), .val (.ref b49), .val (.ref b98), .unset, .unset, .unset, .unset, .unset] [(.int (1 : Int32)), (.int (1 : Int32)), (.ref b147), (.ref b147)])) _
  obtain ⟨cl162, Ar162, q162, S162, N162, H162, G162⟩ := id V156
  have hin162 : ¬ ((1 : Int32) < 0 ∨ cl162.slots.size ≤ ((1 : Int32)).toNatClampNeg) := inb_of S162 ⟨by decide, by decide⟩
  obtain ⟨T163, h163, X163, e163, W163, st163⟩ := stZ X156 hx hZ rfl Ar162 (j := (1 : Int32)) hin162 (g := (mkF m 161 #[.val (.int x0), .val (.int x1), .val (.ref b1), .val (.ref b49), .val (.ref b98), .unset, .unset, .unset, .unset, .unset] [(.int (1 : Int32)), (.int (1 : Int32)), (.ref b147), (.ref b147)])) rfl rfl (hb hby at_161)
  subst e163
  have O164 := O157.wr W163 g_b147
  have F165 := F158.other W163 ne148
  have F166 := F159.other W163 ne149
  have F167 := F160.other W163 ne150
  have N163 := Fr.snoc X163 N156 g_b147
  have Z163 : n0 ≤ T163.heap.size := Nat.le_trans Z156 (Nat.le_of_eq W163.size.symm)
  have V163 : Arv Z T163.heap b147 k147 .boolean (6 : Int32) [(.int (0 : Int32)), (.int (1 : Int32)), (.int (0 : Int32)), (.int (0 : Int32)), (.int (0 : Int32)), (.int (0 : Int32))] (.int (0 : Int32)) := Arv.set Ar162 q162 S162 N162 H162 G162 (fits_nar_bool _) W163 1 rfl (Nat.le_of_ble_eq_true rfl)
  refine Goes.to st163 ?_
  show Goes p.tables e below (T163.setTop (mkF m 162 #[.val (.int x0), .val (.int x1), .val (.ref b1), .val (.ref b49), .val (.ref b98), .unset, .unset, .unset, .unset, .unset] [(.ref b147)])) _
  refine Goes.to (fun _ k => XS.dup X163.here hx rfl (hb hby at_162) rfl rfl k) ?_
  show Goes p.tables e below (T163.setTop (mkF m 163 #[.val (.int x0), .val (.int x1), .val (.ref b1), .val (.ref b49), .val (.ref b98), .unset, .unset, .unset, .unset, .unset] [(.ref b147), (.ref b147)])) _
  refine Goes.to (fun _ k => XS.iconst X163.here hx rfl (hb hby at_163) k) ?_
  show Goes p.tables e below (T163.setTop (mkF m 164 #[.val (.int x0), .val (.int x1), .val (.ref b1), .val (.ref b49), .val (.ref b98), .unset, .unset, .unset, .unset, .unset] [(.int (2 : Int32)), (.ref b147), (.ref b147)])) _
  refine Goes.to (fun _ k => XS.iconst X163.here hx rfl (hb hby at_164) k) ?_
  show Goes p.tables e below (T163.setTop (mkF m 165 #[.val (.int x0), .val (.int x1), .val (.ref b1), .val (.ref b49), .val (.ref b98), .unset, .unset, .unset, .unset, .unset] [(.int (0 : Int32)), (.int (2 : Int32)), (.ref b147), (.ref b147)])) _
  obtain ⟨cl169, Ar169, q169, S169, N169, H169, G169⟩ := id V163
  have hin169 : ¬ ((2 : Int32) < 0 ∨ cl169.slots.size ≤ ((2 : Int32)).toNatClampNeg) := inb_of S169 ⟨by decide, by decide⟩
  obtain ⟨T170, h170, X170, e170, W170, st170⟩ := stZ X163 hx hZ rfl Ar169 (j := (2 : Int32)) hin169 (g := (mkF m 165 #[.val (.int x0), .val (.int x1), .val (.ref b1), .val (.ref b49), .val (.ref b98), .unset, .unset, .unset, .unset, .unset] [(.int (0 : Int32)), (.int (2 : Int32)), (.ref b147), (.ref b147)])) rfl rfl (hb hby at_165)
  subst e170
  have O171 := O164.wr W170 g_b147
  have F172 := F165.other W170 ne148
  have F173 := F166.other W170 ne149
  have F174 := F167.other W170 ne150
  have N170 := Fr.snoc X170 N163 g_b147
  have Z170 : n0 ≤ T170.heap.size := Nat.le_trans Z163 (Nat.le_of_eq W170.size.symm)
  have V170 : Arv Z T170.heap b147 k147 .boolean (6 : Int32) [(.int (0 : Int32)), (.int (1 : Int32)), (.int (0 : Int32)), (.int (0 : Int32)), (.int (0 : Int32)), (.int (0 : Int32))] (.int (0 : Int32)) := Arv.set Ar169 q169 S169 N169 H169 G169 (fits_nar_bool _) W170 2 rfl (Nat.le_of_ble_eq_true rfl)
  refine Goes.to st170 ?_
  show Goes p.tables e below (T170.setTop (mkF m 166 #[.val (.int x0), .val (.int x1), .val (.ref b1), .val (.ref b49), .val (.ref b98), .unset, .unset, .unset, .unset, .unset] [(.ref b147)])) _
  refine Goes.to (fun _ k => XS.dup X170.here hx rfl (hb hby at_166) rfl rfl k) ?_
  exact own_pt_own_rm0_176 l Z a0 hw ws x0 x1 a_Style_MATRIX a_Style_LABEL a_Style_FORM a_Style_SIMPLE a_Style_SPACE_DELIMITED a_Style_PIPE_DELIMITED a_Style_DEEP_OBJECT a_Style_COOKIE a_Style_TAB_DELIMITED a_Location_PATH a_Location_QUERY a_Location_QUERYSTRING a_Location_HEADER a_Location_COOKIE a_Location_FORM_DATA a_M k_M h0 n0 Z0 O0 S_Style_MATRIX E_Style_MATRIX S_Style_LABEL E_Style_LABEL S_Style_FORM E_Style_FORM S_Style_SIMPLE E_Style_SIMPLE S_Style_SPACE_DELIMITED E_Style_SPACE_DELIMITED S_Style_PIPE_DELIMITED E_Style_PIPE_DELIMITED S_Style_DEEP_OBJECT E_Style_DEEP_OBJECT S_Style_COOKIE E_Style_COOKIE S_Style_TAB_DELIMITED E_Style_TAB_DELIMITED S_Location_PATH E_Location_PATH S_Location_QUERY E_Location_QUERY S_Location_QUERYSTRING E_Location_QUERYSTRING S_Location_HEADER E_Location_HEADER S_Location_COOKIE E_Location_COOKIE S_Location_FORM_DATA E_Location_FORM_DATA F_Style_MATRIX_ordinal F_Style_FORM_ordinal F_Style_COOKIE_ordinal F_Location_HEADER_ordinal F_Style_SIMPLE_ordinal F_Style_PIPE_DELIMITED_ordinal F_Location_QUERY_ordinal F_Location_FORM_DATA_ordinal F_Location_QUERYSTRING_ordinal F_Style_SPACE_DELIMITED_ordinal F_Location_PATH_ordinal F_Style_LABEL_ordinal F_Style_DEEP_OBJECT_ordinal F_Location_COOKIE_ordinal F_Style_TAB_DELIMITED_ordinal ne_Style_MATRIX__Style_FORM ne_Style_MATRIX__Style_COOKIE ne_Style_LABEL__Style_FORM ne_Style_LABEL__Style_COOKIE ne_Style_FORM__Style_SIMPLE ne_Style_FORM__Style_SPACE_DELIMITED ne_Style_FORM__Style_PIPE_DELIMITED ne_Style_FORM__Style_DEEP_OBJECT ne_Style_FORM__Style_COOKIE ne_Style_FORM__Style_TAB_DELIMITED ne_Style_SIMPLE__Style_COOKIE ne_Style_SPACE_DELIMITED__Style_COOKIE ne_Style_PIPE_DELIMITED__Style_COOKIE ne_Style_DEEP_OBJECT__Style_COOKIE ne_Style_COOKIE__Style_TAB_DELIMITED SM VM Bd hml0 hh hZ b1 k1 b49 k49 b98 k98 b147 k147 T170 _  T170.heap X170 rfl N170 Z170  F172 F173 F174 V170 Po104_3 Pn104_4 Pn104_5 Pn104_6 Pn104_7 Pn104_8 Pn104_9 Pn104_10 Pn104_11 Pn104_12 Pn104_13 Pn104_14 Pn104_15 Pn104_16 Pn104_17 Pn104_18 Pn104_19 Pg104_20 Pn104_21 Pn104_22 Pn104_23 Pn104_24 Pn104_25 Pn104_26 Pn104_27 Pn104_28 Pn104_29 Pn104_30 Pn104_31 Pn104_32 Pn104_33 Pn104_34 Pn104_35 Pn104_36 Pn104_37 Pg104_38 Po104_39 Pn104_40 Pn104_41 Pn104_42 Pn104_43 Pn104_44 Pn104_45 Pn104_46 Pn104_47 Pn104_48 Pn104_49 Pn104_50 Pn104_51 Pn104_52 Pn104_53 Pn104_54 Pn104_55 Pn104_56 Pn104_57 Pg104_58 (Old.ne O143 E_Style_MATRIX.lt g_b147) (Old.ne O143 E_Style_LABEL.lt g_b147) (Old.ne O143 E_Style_FORM.lt g_b147) (Old.ne O143 E_Style_SIMPLE.lt g_b147) (Old.ne O143 E_Style_SPACE_DELIMITED.lt g_b147) (Old.ne O143 E_Style_PIPE_DELIMITED.lt g_b147) (Old.ne O143 E_Style_DEEP_OBJECT.lt g_b147) (Old.ne O143 E_Style_COOKIE.lt g_b147) (Old.ne O143 E_Style_TAB_DELIMITED.lt g_b147) (Old.ne O143 E_Location_PATH.lt g_b147) (Old.ne O143 E_Location_QUERY.lt g_b147) (Old.ne O143 E_Location_QUERYSTRING.lt g_b147) (Old.ne O143 E_Location_HEADER.lt g_b147) (Old.ne O143 E_Location_COOKIE.lt g_b147) (Old.ne O143 E_Location_FORM_DATA.lt g_b147) (Old.ne O143 VM.lt g_b147) ne148 ne149 ne150 g_b147 O171
set_option maxRecDepth 65536 in
set_option maxHeartbeats 40000000 in
theorem own_pt_own_rm0_48 (l : Launch) (Z : State) (a0 : Array Value) (hw : ∀ d ∈ tables_1, d.before a0 Z = true) (ws : List Jvm.Cond) (x0 : Int32) (x1 : Int32) (a_Style_MATRIX : Addr) (a_Style_LABEL : Addr) (a_Style_FORM : Addr) (a_Style_SIMPLE : Addr) (a_Style_SPACE_DELIMITED : Addr) (a_Style_PIPE_DELIMITED : Addr) (a_Style_DEEP_OBJECT : Addr) (a_Style_COOKIE : Addr) (a_Style_TAB_DELIMITED : Addr) (a_Location_PATH : Addr) (a_Location_QUERY : Addr) (a_Location_QUERYSTRING : Addr) (a_Location_HEADER : Addr) (a_Location_COOKIE : Addr) (a_Location_FORM_DATA : Addr) (a_M : Addr) (k_M : ClassId) (h0 : Heap) (n0 : Nat) (Z0 : n0 ≤ h0.size) (O0 : Old Z n0 h0) (S_Style_MATRIX : Sta Z Z.heap "com/example/unipar/unipar/Style" "MATRIX" "Lcom/example/unipar/unipar/Style;" (.ref a_Style_MATRIX)) (E_Style_MATRIX : Exa Z Z.heap a_Style_MATRIX "com/example/unipar/unipar/Style") (S_Style_LABEL : Sta Z Z.heap "com/example/unipar/unipar/Style" "LABEL" "Lcom/example/unipar/unipar/Style;" (.ref a_Style_LABEL)) (E_Style_LABEL : Exa Z Z.heap a_Style_LABEL "com/example/unipar/unipar/Style") (S_Style_FORM : Sta Z Z.heap "com/example/unipar/unipar/Style" "FORM" "Lcom/example/unipar/unipar/Style;" (.ref a_Style_FORM)) (E_Style_FORM : Exa Z Z.heap a_Style_FORM "com/example/unipar/unipar/Style") (S_Style_SIMPLE : Sta Z Z.heap "com/example/unipar/unipar/Style" "SIMPLE" "Lcom/example/unipar/unipar/Style;" (.ref a_Style_SIMPLE)) (E_Style_SIMPLE : Exa Z Z.heap a_Style_SIMPLE "com/example/unipar/unipar/Style") (S_Style_SPACE_DELIMITED : Sta Z Z.heap "com/example/unipar/unipar/Style" "SPACE_DELIMITED" "Lcom/example/unipar/unipar/Style;" (.ref a_Style_SPACE_DELIMITED)) (E_Style_SPACE_DELIMITED : Exa Z Z.heap a_Style_SPACE_DELIMITED "com/example/unipar/unipar/Style") (S_Style_PIPE_DELIMITED : Sta Z Z.heap "com/example/unipar/unipar/Style" "PIPE_DELIMITED" "Lcom/example/unipar/unipar/Style;" (.ref a_Style_PIPE_DELIMITED)) (E_Style_PIPE_DELIMITED : Exa Z Z.heap a_Style_PIPE_DELIMITED "com/example/unipar/unipar/Style") (S_Style_DEEP_OBJECT : Sta Z Z.heap "com/example/unipar/unipar/Style" "DEEP_OBJECT" "Lcom/example/unipar/unipar/Style;" (.ref a_Style_DEEP_OBJECT)) (E_Style_DEEP_OBJECT : Exa Z Z.heap a_Style_DEEP_OBJECT "com/example/unipar/unipar/Style") (S_Style_COOKIE : Sta Z Z.heap "com/example/unipar/unipar/Style" "COOKIE" "Lcom/example/unipar/unipar/Style;" (.ref a_Style_COOKIE)) (E_Style_COOKIE : Exa Z Z.heap a_Style_COOKIE "com/example/unipar/unipar/Style") (S_Style_TAB_DELIMITED : Sta Z Z.heap "com/example/unipar/unipar/Style" "TAB_DELIMITED" "Lcom/example/unipar/unipar/Style;" (.ref a_Style_TAB_DELIMITED)) (E_Style_TAB_DELIMITED : Exa Z Z.heap a_Style_TAB_DELIMITED "com/example/unipar/unipar/Style") (S_Location_PATH : Sta Z Z.heap "com/example/unipar/unipar/Location" "PATH" "Lcom/example/unipar/unipar/Location;" (.ref a_Location_PATH)) (E_Location_PATH : Exa Z Z.heap a_Location_PATH "com/example/unipar/unipar/Location") (S_Location_QUERY : Sta Z Z.heap "com/example/unipar/unipar/Location" "QUERY" "Lcom/example/unipar/unipar/Location;" (.ref a_Location_QUERY)) (E_Location_QUERY : Exa Z Z.heap a_Location_QUERY "com/example/unipar/unipar/Location") (S_Location_QUERYSTRING : Sta Z Z.heap "com/example/unipar/unipar/Location" "QUERYSTRING" "Lcom/example/unipar/unipar/Location;" (.ref a_Location_QUERYSTRING)) (E_Location_QUERYSTRING : Exa Z Z.heap a_Location_QUERYSTRING "com/example/unipar/unipar/Location") (S_Location_HEADER : Sta Z Z.heap "com/example/unipar/unipar/Location" "HEADER" "Lcom/example/unipar/unipar/Location;" (.ref a_Location_HEADER)) (E_Location_HEADER : Exa Z Z.heap a_Location_HEADER "com/example/unipar/unipar/Location") (S_Location_COOKIE : Sta Z Z.heap "com/example/unipar/unipar/Location" "COOKIE" "Lcom/example/unipar/unipar/Location;" (.ref a_Location_COOKIE)) (E_Location_COOKIE : Exa Z Z.heap a_Location_COOKIE "com/example/unipar/unipar/Location") (S_Location_FORM_DATA : Sta Z Z.heap "com/example/unipar/unipar/Location" "FORM_DATA" "Lcom/example/unipar/unipar/Location;" (.ref a_Location_FORM_DATA)) (E_Location_FORM_DATA : Exa Z Z.heap a_Location_FORM_DATA "com/example/unipar/unipar/Location") (F_Style_MATRIX_ordinal : Fld Z Z.heap a_Style_MATRIX "java/lang/Enum" "ordinal" "I" (.int (0 : Int32))) (F_Style_FORM_ordinal : Fld Z Z.heap a_Style_FORM "java/lang/Enum" "ordinal" "I" (.int (2 : Int32))) (F_Style_COOKIE_ordinal : Fld Z Z.heap a_Style_COOKIE "java/lang/Enum" "ordinal" "I" (.int (7 : Int32))) (F_Location_HEADER_ordinal : Fld Z Z.heap a_Location_HEADER "java/lang/Enum" "ordinal" "I" (.int (3 : Int32))) (F_Style_SIMPLE_ordinal : Fld Z Z.heap a_Style_SIMPLE "java/lang/Enum" "ordinal" "I" (.int (3 : Int32))) (F_Style_PIPE_DELIMITED_ordinal : Fld Z Z.heap a_Style_PIPE_DELIMITED "java/lang/Enum" "ordinal" "I" (.int (5 : Int32))) (F_Location_QUERY_ordinal : Fld Z Z.heap a_Location_QUERY "java/lang/Enum" "ordinal" "I" (.int (1 : Int32))) (F_Location_FORM_DATA_ordinal : Fld Z Z.heap a_Location_FORM_DATA "java/lang/Enum" "ordinal" "I" (.int (5 : Int32))) (F_Location_QUERYSTRING_ordinal : Fld Z Z.heap a_Location_QUERYSTRING "java/lang/Enum" "ordinal" "I" (.int (2 : Int32))) (F_Style_SPACE_DELIMITED_ordinal : Fld Z Z.heap a_Style_SPACE_DELIMITED "java/lang/Enum" "ordinal" "I" (.int (4 : Int32))) (F_Location_PATH_ordinal : Fld Z Z.heap a_Location_PATH "java/lang/Enum" "ordinal" "I" (.int (0 : Int32))) (F_Style_LABEL_ordinal : Fld Z Z.heap a_Style_LABEL "java/lang/Enum" "ordinal" "I" (.int (1 : Int32))) (F_Style_DEEP_OBJECT_ordinal : Fld Z Z.heap a_Style_DEEP_OBJECT "java/lang/Enum" "ordinal" "I" (.int (6 : Int32))) (F_Location_COOKIE_ordinal : Fld Z Z.heap a_Location_COOKIE "java/lang/Enum" "ordinal" "I" (.int (4 : Int32))) (F_Style_TAB_DELIMITED_ordinal : Fld Z Z.heap a_Style_TAB_DELIMITED "java/lang/Enum" "ordinal" "I" (.int (8 : Int32))) (ne_Style_MATRIX__Style_FORM : a_Style_MATRIX ≠ a_Style_FORM) (ne_Style_MATRIX__Style_COOKIE : a_Style_MATRIX ≠ a_Style_COOKIE) (ne_Style_LABEL__Style_FORM : a_Style_LABEL ≠ a_Style_FORM) (ne_Style_LABEL__Style_COOKIE : a_Style_LABEL ≠ a_Style_COOKIE) (ne_Style_FORM__Style_SIMPLE : a_Style_FORM ≠ a_Style_SIMPLE) (ne_Style_FORM__Style_SPACE_DELIMITED : a_Style_FORM ≠ a_Style_SPACE_DELIMITED) (ne_Style_FORM__Style_PIPE_DELIMITED : a_Style_FORM ≠ a_Style_PIPE_DELIMITED) (ne_Style_FORM__Style_DEEP_OBJECT : a_Style_FORM ≠ a_Style_DEEP_OBJECT) (ne_Style_FORM__Style_COOKIE : a_Style_FORM ≠ a_Style_COOKIE) (ne_Style_FORM__Style_TAB_DELIMITED : a_Style_FORM ≠ a_Style_TAB_DELIMITED) (ne_Style_SIMPLE__Style_COOKIE : a_Style_SIMPLE ≠ a_Style_COOKIE) (ne_Style_SPACE_DELIMITED__Style_COOKIE : a_Style_SPACE_DELIMITED ≠ a_Style_COOKIE) (ne_Style_PIPE_DELIMITED__Style_COOKIE : a_Style_PIPE_DELIMITED ≠ a_Style_COOKIE) (ne_Style_DEEP_OBJECT__Style_COOKIE : a_Style_DEEP_OBJECT ≠ a_Style_COOKIE) (ne_Style_COOKIE__Style_TAB_DELIMITED : a_Style_COOKIE ≠ a_Style_TAB_DELIMITED) (SM : Sta Z Z.heap "com/example/unipar/unipar/Style$1" "$SwitchMap$com$example$unipar$unipar$Location" "[I" (.ref a_M)) (VM : Arv Z Z.heap a_M k_M .int (6 : Int32) [(.int (4 : Int32)), (.int (1 : Int32)), (.int (6 : Int32)), (.int (5 : Int32)), (.int (2 : Int32)), (.int (3 : Int32))] (.int (0 : Int32)))
    {p : Program} {e : Env} {s : State} {m : MethodId} {below : List Frame} {meth : Method} {c : Code} {s₁ : State} (Bd : BodyLoose p l x (head1 (Jvm.Cond.code x code maxLocals ret :: ws) room_1) code maxLocals ret e s m #[(.int x0), (.int x1)] below meth c s₁) (hml0 : c.maxLocals = maxLocals) (hh : s.heap = h0) (hZ : Z.Warmed39 s.vm)
    (b1 : Addr) (k1 : ClassId)
    (Tpt : State) (lpt : List Loc)  (hpt : Heap)
    (Xpt : Stand p l e room_1 s m #[(.int x0), (.int x1)] below meth c Tpt lpt 1 9) (Ept : Tpt.heap = hpt) (Npt : Fr n0 lpt) (Zpt : n0 ≤ hpt.size) 
    (Pf48_0 : Arv Z hpt b1 k1 (.object "com/example/unipar/unipar/Style") (9 : Int32) [(.ref a_Style_MATRIX), (.ref a_Style_LABEL), (.ref a_Style_FORM), (.ref a_Style_SIMPLE), (.ref a_Style_SPACE_DELIMITED), (.ref a_Style_PIPE_DELIMITED), (.ref a_Style_DEEP_OBJECT), (.ref a_Style_COOKIE), (.ref a_Style_TAB_DELIMITED)] .null)
    (Po48_1 : Ovr Z k1 "com/example/unipar/unipar/Style")
    (Pn48_2 : a_Style_MATRIX ≠ b1)
    (Pn48_3 : a_Style_LABEL ≠ b1)
    (Pn48_4 : a_Style_FORM ≠ b1)
    (Pn48_5 : a_Style_SIMPLE ≠ b1)
    (Pn48_6 : a_Style_SPACE_DELIMITED ≠ b1)
    (Pn48_7 : a_Style_PIPE_DELIMITED ≠ b1)
    (Pn48_8 : a_Style_DEEP_OBJECT ≠ b1)
    (Pn48_9 : a_Style_COOKIE ≠ b1)
    (Pn48_10 : a_Style_TAB_DELIMITED ≠ b1)
    (Pn48_11 : a_Location_PATH ≠ b1)
    (Pn48_12 : a_Location_QUERY ≠ b1)
    (Pn48_13 : a_Location_QUERYSTRING ≠ b1)
    (Pn48_14 : a_Location_HEADER ≠ b1)
    (Pn48_15 : a_Location_COOKIE ≠ b1)
    (Pn48_16 : a_Location_FORM_DATA ≠ b1)
    (Pn48_17 : a_M ≠ b1)
    (Pg48_18 : n0 ≤ b1)
    (Old48 : Old Z n0 hpt)
    : Goes p.tables e below (Tpt.setTop (mkF m 65 #[.val (.int x0), .val (.int x1), .val (.ref b1), .unset, .unset, .unset, .unset, .unset, .unset, .unset] [(.int (9 : Int32))])) (own_R below s (own_Q_own_rm0 Z x0 x1 a_Style_MATRIX a_Style_LABEL a_Style_FORM a_Style_SIMPLE a_Style_SPACE_DELIMITED a_Style_PIPE_DELIMITED a_Style_DEEP_OBJECT a_Style_COOKIE a_Style_TAB_DELIMITED a_Location_PATH a_Location_QUERY a_Location_QUERYSTRING a_Location_HEADER a_Location_COOKIE a_Location_FORM_DATA a_M k_M h0 n0) 4 30) := by
  have hx := Bd.exec
  have hby := Bd.bytes
  have hml : c.maxLocals = 10 := hml0
  have hnm := (name_of_methodNamed Bd.named Bd.method).1
  have hown : s.vm.findClass "com/example/unipar/unipar/StyleExplodesByDefaultPinLaw" = some m.cls := findClass_of_methodNamed Bd.named
  show Goes p.tables e below (Tpt.setTop (mkF m 65 #[.val (.int x0), .val (.int x1), .val (.ref b1), .unset, .unset, .unset, .unset, .unset, .unset, .unset] [(.int (9 : Int32))])) _
  obtain ⟨T49, h49, k49, X49, e49, E49, A49, st49⟩ := newP Xpt hx hZ (hw _ (List.mem_of_getElem? (i := 22) rfl)) Ept (g := (mkF m 65 #[.val (.int x0), .val (.int x1), .val (.ref b1), .unset, .unset, .unset, .unset, .unset, .unset, .unset] [(.int (9 : Int32))])) rfl (hb hby at_65) rfl (by decide) (cap := 9) (by decide) (by decide) (by decide) (by decide)
  obtain ⟨b49, g49⟩ : ∃ z, z = hpt.size := ⟨_, rfl⟩
  rw [← g49] at A49 st49
  subst e49
  have ne50 : b1 ≠ b49 := Nat.ne_of_lt (Nat.lt_of_lt_of_le Pf48_0.lt (Nat.le_of_eq g49.symm))
  have O51 := Old48.ext E49
  have F52 := Pf48_0.ext E49
  have g_b49 : n0 ≤ b49 := Nat.le_trans Zpt (Nat.le_of_eq g49.symm)
  have Z49 : n0 ≤ T49.heap.size := Nat.le_trans Zpt E49.1
  have V49 : Arv Z T49.heap b49 k49 .boolean (9 : Int32) [(.int (0 : Int32)), (.int (0 : Int32)), (.int (0 : Int32)), (.int (0 : Int32)), (.int (0 : Int32)), (.int (0 : Int32)), (.int (0 : Int32)), (.int (0 : Int32)), (.int (0 : Int32))] (.int (0 : Int32)) := (Arv.new A49 (by decide)).pad (pad_rep [] (.int (0 : Int32)) 9)
  refine Goes.to st49 ?_
  show Goes p.tables e below (T49.setTop (mkF m 67 #[.val (.int x0), .val (.int x1), .val (.ref b1), .unset, .unset, .unset, .unset, .unset, .unset, .unset] [(.ref b49)])) _
  refine Goes.to (fun _ k => XS.dup X49.here hx rfl (hb hby at_67) rfl rfl k) ?_
  show Goes p.tables e below (T49.setTop (mkF m 68 #[.val (.int x0), .val (.int x1), .val (.ref b1), .unset, .unset, .unset, .unset, .unset, .unset, .unset] [(.ref b49), (.ref b49)])) _
  refine Goes.to (fun _ k => XS.iconst X49.here hx rfl (hb hby at_68) k) ?_
  show Goes p.tables e below (T49.setTop (mkF m 69 #[.val (.int x0), .val (.int x1), .val (.ref b1), .unset, .unset, .unset, .unset, .unset, .unset, .unset] [(.int (0 : Int32)), (.ref b49), (.ref b49)])) _
  refine Goes.to (fun _ k => XS.iconst X49.here hx rfl (hb hby at_69) k) ?_
  show Goes p.tables e below (T49.setTop (mkF m 70 #[.val (.int x0), .val (.int x1), .val (.ref b1), .unset, .unset, .unset, .unset, .unset, .unset, .unset] [(.int (0 : Int32)), (.int (0 : Int32)), (.ref b49), (.ref b49)])) _
  obtain ⟨cl53, Ar53, q53, S53, N53, H53, G53⟩ := id V49
  have hin53 : ¬ ((0 : Int32) < 0 ∨ cl53.slots.size ≤ ((0 : Int32)).toNatClampNeg) := inb_of S53 ⟨by decide, by decide⟩
  obtain ⟨T54, h54, X54, e54, W54, st54⟩ := stZ X49 hx hZ rfl Ar53 (j := (0 : Int32)) hin53 (g := (mkF m 70 #[.val (.int x0), .val (.int x1), .val (.ref b1), .unset, .unset, .unset, .unset, .unset, .unset, .unset] [(.int (0 : Int32)), (.int (0 : Int32)), (.ref b49), (.ref b49)])) rfl rfl (hb hby at_70)
  subst e54
  have O55 := O51.wr W54 g_b49
  have F56 := F52.other W54 ne50
  have N54 := Fr.snoc X54 Npt g_b49
  have Z54 : n0 ≤ T54.heap.size := Nat.le_trans Z49 (Nat.le_of_eq W54.size.symm)
  have V54 : Arv Z T54.heap b49 k49 .boolean (9 : Int32) [(.int (0 : Int32)), (.int (0 : Int32)), (.int (0 : Int32)), (.int (0 : Int32)), (.int (0 : Int32)), (.int (0 : Int32)), (.int (0 : Int32)), (.int (0 : Int32)), (.int (0 : Int32))] (.int (0 : Int32)) := Arv.set Ar53 q53 S53 N53 H53 G53 (fits_nar_bool _) W54 0 rfl (Nat.le_of_ble_eq_true rfl)
  refine Goes.to st54 ?_
  show Goes p.tables e below (T54.setTop (mkF m 71 #[.val (.int x0), .val (.int x1), .val (.ref b1), .unset, .unset, .unset, .unset, .unset, .unset, .unset] [(.ref b49)])) _
  refine Goes.to (fun _ k => XS.dup X54.here hx rfl (hb hby at_71) rfl rfl k) ?_
  show Goes p.tables e below (T54.setTop (mkF m 72 #[.val (.int x0), .val (.int x1), .val (.ref b1), .unset, .unset, .unset, .unset, .unset, .unset, .unset] [(.ref b49), (.ref b49)])) _
  refine Goes.to (fun _ k => XS.iconst X54.here hx rfl (hb hby at_72) k) ?_
  show Goes p.tables e below (T54.setTop (mkF m 73 #[.val (.int x0), .val (.int x1), .val (.ref b1), .unset, .unset, .unset, .unset, .unset, .unset, .unset] [(.int (1 : Int32)), (.ref b49), (.ref b49)])) _
  refine Goes.to (fun _ k => XS.iconst X54.here hx rfl (hb hby at_73) k) ?_
  show Goes p.tables e below (T54.setTop (mkF m 74 #[.val (.int x0), .val (.int x1), .val (.ref b1), .unset, .unset, .unset, .unset, .unset, .unset, .unset] [(.int (0 : Int32)), (.int (1 : Int32)), (.ref b49), (.ref b49)])) _
  obtain ⟨cl58, Ar58, q58, S58, N58, H58, G58⟩ := id V54
  have hin58 : ¬ ((1 : Int32) < 0 ∨ cl58.slots.size ≤ ((1 : Int32)).toNatClampNeg) := inb_of S58 ⟨by decide, by decide⟩
  obtain ⟨T59, h59, X59, e59, W59, st59⟩ := stZ X54 hx hZ rfl Ar58 (j := (1 : Int32)) hin58 (g := (mkF m 74 #[.val (.int x0), .val (.int x1), .val (.ref b1), .unset, .unset, .unset, .unset, .unset, .unset, .unset] [(.int (0 : Int32)), (.int (1 : Int32)), (.ref b49), (.ref b49)])) rfl rfl (hb hby at_74)
  subst e59
  have O60 := O55.wr W59 g_b49
  have F61 := F56.other W59 ne50
  have N59 := Fr.snoc X59 N54 g_b49
  have Z59 : n0 ≤ T59.heap.size := Nat.le_trans Z54 (Nat.le_of_eq W59.size.symm)
  have V59 : Arv Z T59.heap b49 k49 .boolean (9 : Int32) [(.int (0 : Int32)), (.int (0 : Int32)), (.int (0 : Int32)), (.int (0 : Int32)), (.int (0 : Int32)), (.int (0 : Int32)), (.int (0 : Int32)), (.int (0 : Int32)), (.int (0 : Int32))] (.int (0 : Int32)) := Arv.set Ar58 q58 S58 N58 H58 G58 (fits_nar_bool _) W59 1 rfl (Nat.le_of_ble_eq_true rfl)
  refine Goes.to st59 ?_
  show Goes p.tables e below (T59.setTop (mkF m 75 #[.val (.int x0), .val (.int x1), .val (.ref b1), .unset, .unset, .unset, .unset, .unset, .unset, .unset] [(.ref b49)])) _
  refine Goes.to (fun _ k => XS.dup X59.here hx rfl (hb hby at_75) rfl rfl k) ?_
  show Goes p.tables e below (T59.setTop (mkF m 76 #[.val (.int x0), .val (.int x1), .val (.ref b1), .unset, .unset, .unset, .unset, .unset, .unset, .unset] [(.ref b49), (.ref b49)])) _
  refine Goes.to (fun _ k => XS.iconst X59.here hx rfl (hb hby at_76) k) ?_
  show Goes p.tables e below (T59.setTop (mkF m 77 #[.val (.int x0), .val (.int x1), .val (.ref b1), .unset, .unset, .unset, .unset, .unset, .unset, .unset] [(.int (2 : Int32)), (.ref b49), (.ref b49)])) _
  refine Goes.to (fun _ k => XS.iconst X59.here hx rfl (hb hby at_77) k) ?_
  show Goes p.tables e below (T59.setTop (mkF m 78 #[.val (.int x0), .val (.int x1), .val (.ref b1), .unset, .unset, .unset, .unset, .unset, .unset, .unset] [(.int (1 : Int32)), (.int (2 : Int32)), (.ref b49), (.ref b49)])) _
  obtain ⟨cl63, Ar63, q63, S63, N63, H63, G63⟩ := id V59
  have hin63 : ¬ ((2 : Int32) < 0 ∨ cl63.slots.size ≤ ((2 : Int32)).toNatClampNeg) := inb_of S63 ⟨by decide, by decide⟩
  obtain ⟨T64, h64, X64, e64, W64, st64⟩ := stZ X59 hx hZ rfl Ar63 (j := (2 : Int32)) hin63 (g := (mkF m 78 #[.val (.int x0), .val (.int x1), .val (.ref b1), .unset, .unset, .unset, .unset, .unset, .unset, .unset] [(.int (1 : Int32)), (.int (2 : Int32)), (.ref b49), (.ref b49)])) rfl rfl (hb hby at_78)
  subst e64
  have O65 := O60.wr W64 g_b49
  have F66 := F61.other W64 ne50
  have N64 := Fr.snoc X64 N59 g_b49
  have Z64 : n0 ≤ T64.heap.size := Nat.le_trans Z59 (Nat.le_of_eq W64.size.symm)
  have V64 : Arv Z T64.heap b49 k49 .boolean (9 : Int32) [(.int (0 : Int32)), (.int (0 : Int32)), (.int (1 : Int32)), (.int (0 : Int32)), (.int (0 : Int32)), (.int (0 : Int32)), (.int (0 : Int32)), (.int (0 : Int32)), (.int (0 : Int32))] (.int (0 : Int32)) := Arv.set Ar63 q63 S63 N63 H63 G63 (fits_nar_bool _) W64 2 rfl (Nat.le_of_ble_eq_true rfl)
  refine Goes.to st64 ?_
  show Goes p.tables e below (T64.setTop (mkF m 79 #[.val (.int x0), .val (.int x1), .val (.ref b1), .unset, .unset, .unset, .unset, .unset, .unset, .unset] [(.ref b49)])) _
  refine Goes.to (fun _ k => XS.dup X64.here hx rfl (hb hby at_79) rfl rfl k) ?_
  show Goes p.tables e below (T64.setTop (mkF m 80 #[.val (.int x0), .val (.int x1), .val (.ref b1), .unset, .unset, .unset, .unset, .unset, .unset, .unset] [(.ref b49), (.ref b49)])) _
  refine Goes.to (fun _ k => XS.iconst X64.here hx rfl (hb hby at_80) k) ?_
  show Goes p.tables e below (T64.setTop (mkF m 81 #[.val (.int x0), .val (.int x1), .val (.ref b1), .unset, .unset, .unset, .unset, .unset, .unset, .unset] [(.int (3 : Int32)), (.ref b49), (.ref b49)])) _
  refine Goes.to (fun _ k => XS.iconst X64.here hx rfl (hb hby at_81) k) ?_
  show Goes p.tables e below (T64.setTop (mkF m 82 #[.val (.int x0), .val (.int x1), .val (.ref b1), .unset, .unset, .unset, .unset, .unset, .unset, .unset] [(.int (0 : Int32)), (.int (3 : Int32)), (.ref b49), (.ref b49)])) _
  obtain ⟨cl68, Ar68, q68, S68, N68, H68, G68⟩ := id V64
  have hin68 : ¬ ((3 : Int32) < 0 ∨ cl68.slots.size ≤ ((3 : Int32)).toNatClampNeg) := inb_of S68 ⟨by decide, by decide⟩
  obtain ⟨T69, h69, X69, e69, W69, st69⟩ := stZ X64 hx hZ rfl Ar68 (j := (3 : Int32)) hin68 (g := (mkF m 82 #[.val (.int x0), .val (.int x1), .val (.ref b1), .unset, .unset, .unset, .unset, .unset, .unset, .unset] [(.int (0 : Int32)), (.int (3 : Int32)), (.ref b49), (.ref b49)])) rfl rfl (hb hby at_82)
  subst e69
  have O70 := O65.wr W69 g_b49
  have F71 := F66.other W69 ne50
  have N69 := Fr.snoc X69 N64 g_b49
  have Z69 : n0 ≤ T69.heap.size := Nat.le_trans Z64 (Nat.le_of_eq W69.size.symm)
  have V69 : Arv Z T69.heap b49 k49 .boolean (9 : Int32) [(.int (0 : Int32)), (.int (0 : Int32)), (.int (1 : Int32)), (.int (0 : Int32)), (.int (0 : Int32)), (.int (0 : Int32)), (.int (0 : Int32)), (.int (0 : Int32)), (.int (0 : Int32))] (.int (0 : Int32)) := Arv.set Ar68 q68 S68 N68 H68 G68 (fits_nar_bool _) W69 3 rfl (Nat.le_of_ble_eq_true rfl)
  refine Goes.to st69 ?_
  show Goes p.tables e below (T69.setTop (mkF m 83 #[.val (.int x0), .val (.int x1), .val (.ref b1), .unset, .unset, .unset, .unset, .unset, .unset, .unset] [(.ref b49)])) _
  refine Goes.to (fun _ k => XS.dup X69.here hx rfl (hb hby at_83) rfl rfl k) ?_
  show Goes p.tables e below (T69.setTop (mkF m 84 #[.val (.int x0), .val (.int x1), .val (.ref b1), .unset, .unset, .unset, .unset, .unset, .unset, .unset] [(.ref b49), (.ref b49)])) _
  refine Goes.to (fun _ k => XS.iconst X69.here hx rfl (hb hby at_84) k) ?_
  show Goes p.tables e below (T69.setTop (mkF m 85 #[.val (.int x0), .val (.int x1), .val (.ref b1), .unset, .unset, .unset, .unset, .unset, .unset, .unset] [(.int (4 : Int32)), (.ref b49), (.ref b49)])) _
  refine Goes.to (fun _ k => XS.iconst X69.here hx rfl (hb hby at_85) k) ?_
  show Goes p.tables e below (T69.setTop (mkF m 86 #[.val (.int x0), .val (.int x1), .val (.ref b1), .unset, .unset, .unset, .unset, .unset, .unset, .unset] [(.int (0 : Int32)), (.int (4 : Int32)), (.ref b49), (.ref b49)])) _
  obtain ⟨cl73, Ar73, q73, S73, N73, H73, G73⟩ := id V69
  have hin73 : ¬ ((4 : Int32) < 0 ∨ cl73.slots.size ≤ ((4 : Int32)).toNatClampNeg) := inb_of S73 ⟨by decide, by decide⟩
  obtain ⟨T74, h74, X74, e74, W74, st74⟩ := stZ X69 hx hZ rfl Ar73 (j := (4 : Int32)) hin73 (g := (mkF m 86 #[.val (.int x0), .val (.int x1), .val (.ref b1), .unset, .unset, .unset, .unset, .unset, .unset, .unset] [(.int (0 : Int32)), (.int (4 : Int32)), (.ref b49), (.ref b49)])) rfl rfl (hb hby at_86)
  subst e74
  have O75 := O70.wr W74 g_b49
  have F76 := F71.other W74 ne50
  have N74 := Fr.snoc X74 N69 g_b49
  have Z74 : n0 ≤ T74.heap.size := Nat.le_trans Z69 (Nat.le_of_eq W74.size.symm)
  have V74 : Arv Z T74.heap b49 k49 .boolean (9 : Int32) [(.int (0 : Int32)), (.int (0 : Int32)), (.int (1 : Int32)), (.int (0 : Int32)), (.int (0 : Int32)), (.int (0 : Int32)), (.int (0 : Int32)), (.int (0 : Int32)), (.int (0 : Int32))] (.int (0 : Int32)) := Arv.set Ar73 q73 S73 N73 H73 G73 (fits_nar_bool _) W74 4 rfl (Nat.le_of_ble_eq_true rfl)
  refine Goes.to st74 ?_
  show Goes p.tables e below (T74.setTop (mkF m 87 #[.val (.int x0), .val (.int x1), .val (.ref b1), .unset, .unset, .unset, .unset, .unset, .unset, .unset] [(.ref b49)])) _
  refine Goes.to (fun _ k => XS.dup X74.here hx rfl (hb hby at_87) rfl rfl k) ?_
  show Goes p.tables e below (T74.setTop (mkF m 88 #[.val (.int x0), .val (.int x1), .val (.ref b1), .unset, .unset, .unset, .unset, .unset, .unset, .unset] [(.ref b49), (.ref b49)])) _
  refine Goes.to (fun _ k => XS.iconst X74.here hx rfl (hb hby at_88) k) ?_
  show Goes p.tables e below (T74.setTop (mkF m 89 #[.val (.int x0), .val (.int x1), .val (.ref b1), .unset, .unset, .unset, .unset, .unset, .unset, .unset] [(.int (5 : Int32)), (.ref b49), (.ref b49)])) _
  refine Goes.to (fun _ k => XS.iconst X74.here hx rfl (hb hby at_89) k) ?_
  show Goes p.tables e below (T74.setTop (mkF m 90 #[.val (.int x0), .val (.int x1), .val (.ref b1), .unset, .unset, .unset, .unset, .unset, .unset, .unset] [(.int (0 : Int32)), (.int (5 : Int32)), (.ref b49), (.ref b49)])) _
  obtain ⟨cl78, Ar78, q78, S78, N78, H78, G78⟩ := id V74
  have hin78 : ¬ ((5 : Int32) < 0 ∨ cl78.slots.size ≤ ((5 : Int32)).toNatClampNeg) := inb_of S78 ⟨by decide, by decide⟩
  obtain ⟨T79, h79, X79, e79, W79, st79⟩ := stZ X74 hx hZ rfl Ar78 (j := (5 : Int32)) hin78 (g := (mkF m 90 #[.val (.int x0), .val (.int x1), .val (.ref b1), .unset, .unset, .unset, .unset, .unset, .unset, .unset] [(.int (0 : Int32)), (.int (5 : Int32)), (.ref b49), (.ref b49)])) rfl rfl (hb hby at_90)
  subst e79
  have O80 := O75.wr W79 g_b49
  have F81 := F76.other W79 ne50
  have N79 := Fr.snoc X79 N74 g_b49
  have Z79 : n0 ≤ T79.heap.size := Nat.le_trans Z74 (Nat.le_of_eq W79.size.symm)
  have V79 : Arv Z T79.heap b49 k49 .boolean (9 : Int32) [(.int (0 : Int32)), (.int (0 : Int32)), (.int (1 : Int32)), (.int (0 : Int32)), (.int (0 : Int32)), (.int (0 : Int32)), (.int (0 : Int32)), (.int (0 : Int32)), (.int (0 : Int32))] (.int (0 : Int32)) := Arv.set Ar78 q78 S78 N78 H78 G78 (fits_nar_bool _) W79 5 rfl (Nat.le_of_ble_eq_true rfl)
  refine Goes.to st79 ?_
  show Goes p.tables e below (T79.setTop (mkF m 91 #[.val (.int x0), .val (.int x1), .val (.ref b1), .unset, .unset, .unset, .unset, .unset, .unset, .unset] [(.ref b49)])) _
  refine Goes.to (fun _ k => XS.dup X79.here hx rfl (hb hby at_91) rfl rfl k) ?_
  show Goes p.tables e below (T79.setTop (mkF m 92 #[.val (.int x0), .val (.int x1), .val (.ref b1), .unset, .unset, .unset, .unset, .unset, .unset, .unset] [(.ref b49), (.ref b49)])) _
  refine Goes.to (fun _ k => XS.bipush X79.here hx rfl (hb hby at_92) k) ?_
  show Goes p.tables e below (T79.setTop (mkF m 94 #[.val (.int x0), .val (.int x1), .val (.ref b1), .unset, .unset, .unset, .unset, .unset, .unset, .unset] [(.int (6 : Int32)), (.ref b49), (.ref b49)])) _
  refine Goes.to (fun _ k => XS.iconst X79.here hx rfl (hb hby at_94) k) ?_
  show Goes p.tables e below (T79.setTop (mkF m 95 #[.val (.int x0), .val (.int x1), .val (.ref b1), .unset, .unset, .unset, .unset, .unset, .unset, .unset] [(.int (0 : Int32)), (.int (6 : Int32)), (.ref b49), (.ref b49)])) _
  obtain ⟨cl83, Ar83, q83, S83, N83, H83, G83⟩ := id V79
  have hin83 : ¬ ((6 : Int32) < 0 ∨ cl83.slots.size ≤ ((6 : Int32)).toNatClampNeg) := inb_of S83 ⟨by decide, by decide⟩
  obtain ⟨T84, h84, X84, e84, W84, st84⟩ := stZ X79 hx hZ rfl Ar83 (j := (6 : Int32)) hin83 (g := (mkF m 95 #[.val (.int x0), .val (.int x1), .val (.ref b1), .unset, .unset, .unset, .unset, .unset, .unset, .unset] [(.int (0 : Int32)), (.int (6 : Int32)), (.ref b49), (.ref b49)])) rfl rfl (hb hby at_95)
  subst e84
  have O85 := O80.wr W84 g_b49
  have F86 := F81.other W84 ne50
  have N84 := Fr.snoc X84 N79 g_b49
  have Z84 : n0 ≤ T84.heap.size := Nat.le_trans Z79 (Nat.le_of_eq W84.size.symm)
  have V84 : Arv Z T84.heap b49 k49 .boolean (9 : Int32) [(.int (0 : Int32)), (.int (0 : Int32)), (.int (1 : Int32)), (.int (0 : Int32)), (.int (0 : Int32)), (.int (0 : Int32)), (.int (0 : Int32)), (.int (0 : Int32)), (.int (0 : Int32))] (.int (0 : Int32)) := Arv.set Ar83 q83 S83 N83 H83 G83 (fits_nar_bool _) W84 6 rfl (Nat.le_of_ble_eq_true rfl)
  refine Goes.to st84 ?_
  show Goes p.tables e below (T84.setTop (mkF m 96 #[.val (.int x0), .val (.int x1), .val (.ref b1), .unset, .unset, .unset, .unset, .unset, .unset, .unset] [(.ref b49)])) _
  refine Goes.to (fun _ k => XS.dup X84.here hx rfl (hb hby at_96) rfl rfl k) ?_
  show Goes p.tables e below (T84.setTop (mkF m 97 #[.val (.int x0), .val (.int x1), .val (.ref b1), .unset, .unset, .unset, .unset, .unset, .unset, .unset] [(.ref b49), (.ref b49)])) _
  refine Goes.to (fun _ k => XS.bipush X84.here hx rfl (hb hby at_97) k) ?_
  show Goes p.tables e below (T84.setTop (mkF m 99 #[.val (.int x0), .val (.int x1), .val (.ref b1), .unset, .unset, .unset, .unset, .unset, .unset, .unset] [(.int (7 : Int32)), (.ref b49), (.ref b49)])) _
  refine Goes.to (fun _ k => XS.iconst X84.here hx rfl (hb hby at_99) k) ?_
  show Goes p.tables e below (T84.setTop (mkF m 100 #[.val (.int x0), .val (.int x1), .val (.ref b1), .unset, .unset, .unset, .unset, .unset, .unset, .unset] [(.int (1 : Int32)), (.int (7 : Int32)), (.ref b49), (.ref b49)])) _
  obtain ⟨cl88, Ar88, q88, S88, N88, H88, G88⟩ := id V84
  have hin88 : ¬ ((7 : Int32) < 0 ∨ cl88.slots.size ≤ ((7 : Int32)).toNatClampNeg) := inb_of S88 ⟨by decide, by decide⟩
  obtain ⟨T89, h89, X89, e89, W89, st89⟩ := stZ X84 hx hZ rfl Ar88 (j := (7 : Int32)) hin88 (g := (mkF m 100 #[.val (.int x0), .val (.int x1), .val (.ref b1), .unset, .unset, .unset, .unset, .unset, .unset, .unset] [(.int (1 : Int32)), (.int (7 : Int32)), (.ref b49), (.ref b49)])) rfl rfl (hb hby at_100)
  subst e89
  have O90 := O85.wr W89 g_b49
  have F91 := F86.other W89 ne50
  have N89 := Fr.snoc X89 N84 g_b49
  have Z89 : n0 ≤ T89.heap.size := Nat.le_trans Z84 (Nat.le_of_eq W89.size.symm)
  have V89 : Arv Z T89.heap b49 k49 .boolean (9 : Int32) [(.int (0 : Int32)), (.int (0 : Int32)), (.int (1 : Int32)), (.int (0 : Int32)), (.int (0 : Int32)), (.int (0 : Int32)), (.int (0 : Int32)), (.int (1 : Int32)), (.int (0 : Int32))] (.int (0 : Int32)) := Arv.set Ar88 q88 S88 N88 H88 G88 (fits_nar_bool _) W89 7 rfl (Nat.le_of_ble_eq_true rfl)
  refine Goes.to st89 ?_
  show Goes p.tables e below (T89.setTop (mkF m 101 #[.val (.int x0), .val (.int x1), .val (.ref b1), .unset, .unset, .unset, .unset, .unset, .unset, .unset] [(.ref b49)])) _
  refine Goes.to (fun _ k => XS.dup X89.here hx rfl (hb hby at_101) rfl rfl k) ?_
  show Goes p.tables e below (T89.setTop (mkF m 102 #[.val (.int x0), .val (.int x1), .val (.ref b1), .unset, .unset, .unset, .unset, .unset, .unset, .unset] [(.ref b49), (.ref b49)])) _
  refine Goes.to (fun _ k => XS.bipush X89.here hx rfl (hb hby at_102) k) ?_
  show Goes p.tables e below (T89.setTop (mkF m 104 #[.val (.int x0), .val (.int x1), .val (.ref b1), .unset, .unset, .unset, .unset, .unset, .unset, .unset] [(.int (8 : Int32)), (.ref b49), (.ref b49)])) _
  refine Goes.to (fun _ k => XS.iconst X89.here hx rfl (hb hby at_104) k) ?_
  show Goes p.tables e below (T89.setTop (mkF m 105 #[.val (.int x0), .val (.int x1), .val (.ref b1), .unset, .unset, .unset, .unset, .unset, .unset, .unset] [(.int (0 : Int32)), (.int (8 : Int32)), (.ref b49), (.ref b49)])) _
  obtain ⟨cl93, Ar93, q93, S93, N93, H93, G93⟩ := id V89
  have hin93 : ¬ ((8 : Int32) < 0 ∨ cl93.slots.size ≤ ((8 : Int32)).toNatClampNeg) := inb_of S93 ⟨by decide, by decide⟩
  obtain ⟨T94, h94, X94, e94, W94, st94⟩ := stZ X89 hx hZ rfl Ar93 (j := (8 : Int32)) hin93 (g := (mkF m 105 #[.val (.int x0), .val (.int x1), .val (.ref b1), .unset, .unset, .unset, .unset, .unset, .unset, .unset] [(.int (0 : Int32)), (.int (8 : Int32)), (.ref b49), (.ref b49)])) rfl rfl (hb hby at_105)
  subst e94
  have O95 := O90.wr W94 g_b49
  have F96 := F91.other W94 ne50
  have N94 := Fr.snoc X94 N89 g_b49
  have Z94 : n0 ≤ T94.heap.size := Nat.le_trans Z89 (Nat.le_of_eq W94.size.symm)
  have V94 : Arv Z T94.heap b49 k49 .boolean (9 : Int32) [(.int (0 : Int32)), (.int (0 : Int32)), (.int (1 : Int32)), (.int (0 : Int32)), (.int (0 : Int32)), (.int (0 : Int32)), (.int (0 : Int32)), (.int (1 : Int32)), (.int (0 : Int32))] (.int (0 : Int32)) := Arv.set Ar93 q93 S93 N93 H93 G93 (fits_nar_bool _) W94 8 rfl (Nat.le_of_ble_eq_true rfl)
  refine Goes.to st94 ?_
  show Goes p.tables e below (T94.setTop (mkF m 106 #[.val (.int x0), .val (.int x1), .val (.ref b1), .unset, .unset, .unset, .unset, .unset, .unset, .unset] [(.ref b49)])) _
  refine Goes.to (fun _ k => XS.astoreN X94.here hx rfl (hb hby at_106) rfl rfl (l' := #[.val (.int x0), .val (.int x1), .val (.ref b1), .val (.ref b49), .unset, .unset, .unset, .unset, .unset, .unset]) rfl k) ?_
  show Goes p.tables e below (T94.setTop (mkF m 107 #[.val (.int x0), .val (.int x1), .val (.ref b1), .val (.ref b49), .unset, .unset, .unset, .unset, .unset, .unset] [])) _
  refine Goes.to (fun _ k => XS.bipush X94.here hx rfl (hb hby at_107) k) ?_
  show Goes p.tables e below (T94.setTop (mkF m 109 #[.val (.int x0), .val (.int x1), .val (.ref b1), .val (.ref b49), .unset, .unset, .unset, .unset, .unset, .unset] [(.int (6 : Int32))])) _
  obtain ⟨T98, h98, k98, X98, e98, E98, A98, O98, st98⟩ := newR X94 hx hZ hown (hw _ (List.mem_of_getElem? (i := 23) rfl)) (hw _ (List.mem_of_getElem? (i := 24) rfl)) rfl (g := (mkF m 109 #[.val (.int x0), .val (.int x1), .val (.ref b1), .val (.ref b49), .unset, .unset, .unset, .unset, .unset, .unset] [(.int (6 : Int32))])) rfl (hb hby at_109) rfl (by decide) (cap := 6) (by decide) (by decide) (by decide) (by decide)
  obtain ⟨b98, g98⟩ : ∃ z, z = T94.heap.size := ⟨_, rfl⟩
  rw [← g98] at A98 st98
  subst e98
  have ne99 : b1 ≠ b98 := Nat.ne_of_lt (Nat.lt_of_lt_of_le F96.lt (Nat.le_of_eq g98.symm))
  have ne100 : b49 ≠ b98 := Nat.ne_of_lt (Nat.lt_of_lt_of_le V94.lt (Nat.le_of_eq g98.symm))
  have O101 := O95.ext E98
  have F102 := F96.ext E98
  have F103 := V94.ext E98
  have g_b98 : n0 ≤ b98 := Nat.le_trans Z94 (Nat.le_of_eq g98.symm)
  have Z98 : n0 ≤ T98.heap.size := Nat.le_trans Z94 E98.1
  have V98 : Arv Z T98.heap b98 k98 (.object "com/example/unipar/unipar/Location") (6 : Int32) [.null, .null, .null, .null, .null, .null] .null := (Arv.new A98 (by decide)).pad (pad_rep [] .null 6)
  refine Goes.to st98 ?_
  exact own_pt_own_rm0_104 l Z a0 hw ws x0 x1 a_Style_MATRIX a_Style_LABEL a_Style_FORM a_Style_SIMPLE a_Style_SPACE_DELIMITED a_Style_PIPE_DELIMITED a_Style_DEEP_OBJECT a_Style_COOKIE a_Style_TAB_DELIMITED a_Location_PATH a_Location_QUERY a_Location_QUERYSTRING a_Location_HEADER a_Location_COOKIE a_Location_FORM_DATA a_M k_M h0 n0 Z0 O0 S_Style_MATRIX E_Style_MATRIX S_Style_LABEL E_Style_LABEL S_Style_FORM E_Style_FORM S_Style_SIMPLE E_Style_SIMPLE S_Style_SPACE_DELIMITED E_Style_SPACE_DELIMITED S_Style_PIPE_DELIMITED E_Style_PIPE_DELIMITED S_Style_DEEP_OBJECT E_Style_DEEP_OBJECT S_Style_COOKIE E_Style_COOKIE S_Style_TAB_DELIMITED E_Style_TAB_DELIMITED S_Location_PATH E_Location_PATH S_Location_QUERY E_Location_QUERY S_Location_QUERYSTRING E_Location_QUERYSTRING S_Location_HEADER E_Location_HEADER S_Location_COOKIE E_Location_COOKIE S_Location_FORM_DATA E_Location_FORM_DATA F_Style_MATRIX_ordinal F_Style_FORM_ordinal F_Style_COOKIE_ordinal F_Location_HEADER_ordinal F_Style_SIMPLE_ordinal F_Style_PIPE_DELIMITED_ordinal F_Location_QUERY_ordinal F_Location_FORM_DATA_ordinal F_Location_QUERYSTRING_ordinal F_Style_SPACE_DELIMITED_ordinal F_Location_PATH_ordinal F_Style_LABEL_ordinal F_Style_DEEP_OBJECT_ordinal F_Location_COOKIE_ordinal F_Style_TAB_DELIMITED_ordinal ne_Style_MATRIX__Style_FORM ne_Style_MATRIX__Style_COOKIE ne_Style_LABEL__Style_FORM ne_Style_LABEL__Style_COOKIE ne_Style_FORM__Style_SIMPLE ne_Style_FORM__Style_SPACE_DELIMITED ne_Style_FORM__Style_PIPE_DELIMITED ne_Style_FORM__Style_DEEP_OBJECT ne_Style_FORM__Style_COOKIE ne_Style_FORM__Style_TAB_DELIMITED ne_Style_SIMPLE__Style_COOKIE ne_Style_SPACE_DELIMITED__Style_COOKIE ne_Style_PIPE_DELIMITED__Style_COOKIE ne_Style_DEEP_OBJECT__Style_COOKIE ne_Style_COOKIE__Style_TAB_DELIMITED SM VM Bd hml0 hh hZ b1 k1 b49 k49 b98 k98 T98 _  T98.heap X98 rfl N94 Z98  F102 F103 V98 Po48_1 Pn48_2 Pn48_3 Pn48_4 Pn48_5 Pn48_6 Pn48_7 Pn48_8 Pn48_9 Pn48_10 Pn48_11 Pn48_12 Pn48_13 Pn48_14 Pn48_15 Pn48_16 Pn48_17 Pg48_18 (Old.ne Old48 E_Style_MATRIX.lt g_b49) (Old.ne Old48 E_Style_LABEL.lt g_b49) (Old.ne Old48 E_Style_FORM.lt g_b49) (Old.ne Old48 E_Style_SIMPLE.lt g_b49) (Old.ne Old48 E_Style_SPACE_DELIMITED.lt g_b49) (Old.ne Old48 E_Style_PIPE_DELIMITED.lt g_b49) (Old.ne Old48 E_Style_DEEP_OBJECT.lt g_b49) (Old.ne Old48 E_Style_COOKIE.lt g_b49) (Old.ne Old48 E_Style_TAB_DELIMITED.lt g_b49) (Old.ne Old48 E_Location_PATH.lt g_b49) (Old.ne Old48 E_Location_QUERY.lt g_b49) (Old.ne Old48 E_Location_QUERYSTRING.lt g_b49) (Old.ne Old48 E_Location_HEADER.lt g_b49) (Old.ne Old48 E_Location_COOKIE.lt g_b49) (Old.ne Old48 E_Location_FORM_DATA.lt g_b49) (Old.ne Old48 VM.lt g_b49) ne50 g_b49 O98 (Old.ne O95 E_Style_MATRIX.lt g_b98) (Old.ne O95 E_Style_LABEL.lt g_b98) (Old.ne O95 E_Style_FORM.lt g_b98) (Old.ne O95 E_Style_SIMPLE.lt g_b98) (Old.ne O95 E_Style_SPACE_DELIMITED.lt g_b98) (Old.ne O95 E_Style_PIPE_DELIMITED.lt g_b98) (Old.ne O95 E_Style_DEEP_OBJECT.lt g_b98) (Old.ne O95 E_Style_COOKIE.lt g_b98) (Old.ne O95 E_Style_TAB_DELIMITED.lt g_b98) (Old.ne O95 E_Location_PATH.lt g_b98) (Old.ne O95 E_Location_QUERY.lt g_b98) (Old.ne O95 E_Location_QUERYSTRING.lt g_b98) (Old.ne O95 E_Location_HEADER.lt g_b98) (Old.ne O95 E_Location_COOKIE.lt g_b98) (Old.ne O95 E_Location_FORM_DATA.lt g_b98) (Old.ne O95 VM.lt g_b98) ne99 ne100 g_b98 O101
set_option maxRecDepth 65536 in
set_option maxHeartbeats 40000000 in
theorem own_rm0 (l : Launch) (Z : State) (a0 : Array Value) (hw : ∀ d ∈ tables_1, d.before a0 Z = true) (ws : List Jvm.Cond) (x0 : Int32) (x1 : Int32) (a_Style_MATRIX : Addr) (a_Style_LABEL : Addr) (a_Style_FORM : Addr) (a_Style_SIMPLE : Addr) (a_Style_SPACE_DELIMITED : Addr) (a_Style_PIPE_DELIMITED : Addr) (a_Style_DEEP_OBJECT : Addr) (a_Style_COOKIE : Addr) (a_Style_TAB_DELIMITED : Addr) (a_Location_PATH : Addr) (a_Location_QUERY : Addr) (a_Location_QUERYSTRING : Addr) (a_Location_HEADER : Addr) (a_Location_COOKIE : Addr) (a_Location_FORM_DATA : Addr) (a_M : Addr) (k_M : ClassId) (h0 : Heap) (n0 : Nat) (Z0 : n0 ≤ h0.size) (O0 : Old Z n0 h0) (S_Style_MATRIX : Sta Z Z.heap "com/example/unipar/unipar/Style" "MATRIX" "Lcom/example/unipar/unipar/Style;" (.ref a_Style_MATRIX)) (E_Style_MATRIX : Exa Z Z.heap a_Style_MATRIX "com/example/unipar/unipar/Style") (S_Style_LABEL : Sta Z Z.heap "com/example/unipar/unipar/Style" "LABEL" "Lcom/example/unipar/unipar/Style;" (.ref a_Style_LABEL)) (E_Style_LABEL : Exa Z Z.heap a_Style_LABEL "com/example/unipar/unipar/Style") (S_Style_FORM : Sta Z Z.heap "com/example/unipar/unipar/Style" "FORM" "Lcom/example/unipar/unipar/Style;" (.ref a_Style_FORM)) (E_Style_FORM : Exa Z Z.heap a_Style_FORM "com/example/unipar/unipar/Style") (S_Style_SIMPLE : Sta Z Z.heap "com/example/unipar/unipar/Style" "SIMPLE" "Lcom/example/unipar/unipar/Style;" (.ref a_Style_SIMPLE)) (E_Style_SIMPLE : Exa Z Z.heap a_Style_SIMPLE "com/example/unipar/unipar/Style") (S_Style_SPACE_DELIMITED : Sta Z Z.heap "com/example/unipar/unipar/Style" "SPACE_DELIMITED" "Lcom/example/unipar/unipar/Style;" (.ref a_Style_SPACE_DELIMITED)) (E_Style_SPACE_DELIMITED : Exa Z Z.heap a_Style_SPACE_DELIMITED "com/example/unipar/unipar/Style") (S_Style_PIPE_DELIMITED : Sta Z Z.heap "com/example/unipar/unipar/Style" "PIPE_DELIMITED" "Lcom/example/unipar/unipar/Style;" (.ref a_Style_PIPE_DELIMITED)) (E_Style_PIPE_DELIMITED : Exa Z Z.heap a_Style_PIPE_DELIMITED "com/example/unipar/unipar/Style") (S_Style_DEEP_OBJECT : Sta Z Z.heap "com/example/unipar/unipar/Style" "DEEP_OBJECT" "Lcom/example/unipar/unipar/Style;" (.ref a_Style_DEEP_OBJECT)) (E_Style_DEEP_OBJECT : Exa Z Z.heap a_Style_DEEP_OBJECT "com/example/unipar/unipar/Style") (S_Style_COOKIE : Sta Z Z.heap "com/example/unipar/unipar/Style" "COOKIE" "Lcom/example/unipar/unipar/Style;" (.ref a_Style_COOKIE)) (E_Style_COOKIE : Exa Z Z.heap a_Style_COOKIE "com/example/unipar/unipar/Style") (S_Style_TAB_DELIMITED : Sta Z Z.heap "com/example/unipar/unipar/Style" "TAB_DELIMITED" "Lcom/example/unipar/unipar/Style;" (.ref a_Style_TAB_DELIMITED)) (E_Style_TAB_DELIMITED : Exa Z Z.heap a_Style_TAB_DELIMITED "com/example/unipar/unipar/Style") (S_Location_PATH : Sta Z Z.heap "com/example/unipar/unipar/Location" "PATH" "Lcom/example/unipar/unipar/Location;" (.ref a_Location_PATH)) (E_Location_PATH : Exa Z Z.heap a_Location_PATH "com/example/unipar/unipar/Location") (S_Location_QUERY : Sta Z Z.heap "com/example/unipar/unipar/Location" "QUERY" "Lcom/example/unipar/unipar/Location;" (.ref a_Location_QUERY)) (E_Location_QUERY : Exa Z Z.heap a_Location_QUERY "com/example/unipar/unipar/Location") (S_Location_QUERYSTRING : Sta Z Z.heap "com/example/unipar/unipar/Location" "QUERYSTRING" "Lcom/example/unipar/unipar/Location;" (.ref a_Location_QUERYSTRING)) (E_Location_QUERYSTRING : Exa Z Z.heap a_Location_QUERYSTRING "com/example/unipar/unipar/Location") (S_Location_HEADER : Sta Z Z.heap "com/example/unipar/unipar/Location" "HEADER" "Lcom/example/unipar/unipar/Location;" (.ref a_Location_HEADER)) (E_Location_HEADER : Exa Z Z.heap a_Location_HEADER "com/example/unipar/unipar/Location") (S_Location_COOKIE : Sta Z Z.heap "com/example/unipar/unipar/Location" "COOKIE" "Lcom/example/unipar/unipar/Location;" (.ref a_Location_COOKIE)) (E_Location_COOKIE : Exa Z Z.heap a_Location_COOKIE "com/example/unipar/unipar/Location") (S_Location_FORM_DATA : Sta Z Z.heap "com/example/unipar/unipar/Location" "FORM_DATA" "Lcom/example/unipar/unipar/Location;" (.ref a_Location_FORM_DATA)) (E_Location_FORM_DATA : Exa Z Z.heap a_Location_FORM_DATA "com/example/unipar/unipar/Location") (F_Style_MATRIX_ordinal : Fld Z Z.heap a_Style_MATRIX "java/lang/Enum" "ordinal" "I" (.int (0 : Int32))) (F_Style_FORM_ordinal : Fld Z Z.heap a_Style_FORM "java/lang/Enum" "ordinal" "I" (.int (2 : Int32))) (F_Style_COOKIE_ordinal : Fld Z Z.heap a_Style_COOKIE "java/lang/Enum" "ordinal" "I" (.int (7 : Int32))) (F_Location_HEADER_ordinal : Fld Z Z.heap a_Location_HEADER "java/lang/Enum" "ordinal" "I" (.int (3 : Int32))) (F_Style_SIMPLE_ordinal : Fld Z Z.heap a_Style_SIMPLE "java/lang/Enum" "ordinal" "I" (.int (3 : Int32))) (F_Style_PIPE_DELIMITED_ordinal : Fld Z Z.heap a_Style_PIPE_DELIMITED "java/lang/Enum" "ordinal" "I" (.int (5 : Int32))) (F_Location_QUERY_ordinal : Fld Z Z.heap a_Location_QUERY "java/lang/Enum" "ordinal" "I" (.int (1 : Int32))) (F_Location_FORM_DATA_ordinal : Fld Z Z.heap a_Location_FORM_DATA "java/lang/Enum" "ordinal" "I" (.int (5 : Int32))) (F_Location_QUERYSTRING_ordinal : Fld Z Z.heap a_Location_QUERYSTRING "java/lang/Enum" "ordinal" "I" (.int (2 : Int32))) (F_Style_SPACE_DELIMITED_ordinal : Fld Z Z.heap a_Style_SPACE_DELIMITED "java/lang/Enum" "ordinal" "I" (.int (4 : Int32))) (F_Location_PATH_ordinal : Fld Z Z.heap a_Location_PATH "java/lang/Enum" "ordinal" "I" (.int (0 : Int32))) (F_Style_LABEL_ordinal : Fld Z Z.heap a_Style_LABEL "java/lang/Enum" "ordinal" "I" (.int (1 : Int32))) (F_Style_DEEP_OBJECT_ordinal : Fld Z Z.heap a_Style_DEEP_OBJECT "java/lang/Enum" "ordinal" "I" (.int (6 : Int32))) (F_Location_COOKIE_ordinal : Fld Z Z.heap a_Location_COOKIE "java/lang/Enum" "ordinal" "I" (.int (4 : Int32))) (F_Style_TAB_DELIMITED_ordinal : Fld Z Z.heap a_Style_TAB_DELIMITED "java/lang/Enum" "ordinal" "I" (.int (8 : Int32))) (ne_Style_MATRIX__Style_FORM : a_Style_MATRIX ≠ a_Style_FORM) (ne_Style_MATRIX__Style_COOKIE : a_Style_MATRIX ≠ a_Style_COOKIE) (ne_Style_LABEL__Style_FORM : a_Style_LABEL ≠ a_Style_FORM) (ne_Style_LABEL__Style_COOKIE : a_Style_LABEL ≠ a_Style_COOKIE) (ne_Style_FORM__Style_SIMPLE : a_Style_FORM ≠ a_Style_SIMPLE) (ne_Style_FORM__Style_SPACE_DELIMITED : a_Style_FORM ≠ a_Style_SPACE_DELIMITED) (ne_Style_FORM__Style_PIPE_DELIMITED : a_Style_FORM ≠ a_Style_PIPE_DELIMITED) (ne_Style_FORM__Style_DEEP_OBJECT : a_Style_FORM ≠ a_Style_DEEP_OBJECT) (ne_Style_FORM__Style_COOKIE : a_Style_FORM ≠ a_Style_COOKIE) (ne_Style_FORM__Style_TAB_DELIMITED : a_Style_FORM ≠ a_Style_TAB_DELIMITED) (ne_Style_SIMPLE__Style_COOKIE : a_Style_SIMPLE ≠ a_Style_COOKIE) (ne_Style_SPACE_DELIMITED__Style_COOKIE : a_Style_SPACE_DELIMITED ≠ a_Style_COOKIE) (ne_Style_PIPE_DELIMITED__Style_COOKIE : a_Style_PIPE_DELIMITED ≠ a_Style_COOKIE) (ne_Style_DEEP_OBJECT__Style_COOKIE : a_Style_DEEP_OBJECT ≠ a_Style_COOKIE) (ne_Style_COOKIE__Style_TAB_DELIMITED : a_Style_COOKIE ≠ a_Style_TAB_DELIMITED) (SM : Sta Z Z.heap "com/example/unipar/unipar/Style$1" "$SwitchMap$com$example$unipar$unipar$Location" "[I" (.ref a_M)) (VM : Arv Z Z.heap a_M k_M .int (6 : Int32) [(.int (4 : Int32)), (.int (1 : Int32)), (.int (6 : Int32)), (.int (5 : Int32)), (.int (2 : Int32)), (.int (3 : Int32))] (.int (0 : Int32))) :
    MetFree l x (head1 (Jvm.Cond.code x code maxLocals ret :: ws) room_1) (fun a U => a = #[(.int x0), (.int x1)] ∧ Z.Warmed39 U.vm ∧ U.heap = h0) (fun _ _ _ _ _ => True) (fun _ U o U' => ∃ v L, o = .returned v ∧ own_Q_own_rm0 Z x0 x1 a_Style_MATRIX a_Style_LABEL a_Style_FORM a_Style_SIMPLE a_Style_SPACE_DELIMITED a_Style_PIPE_DELIMITED a_Style_DEEP_OBJECT a_Style_COOKIE a_Style_TAB_DELIMITED a_Location_PATH a_Location_QUERY a_Location_QUERYSTRING a_Location_HEADER a_Location_COOKIE a_Location_FORM_DATA a_M k_M h0 n0 v U'.heap L ∧ FrameEnd U o U' L 4 30) := by
  refine MetFree.of_bodySF (plainFor_of_name own_pn_0) hisR ?_
  intro p e s m args below meth c s₁ Bd hml0 hP hK
  obtain ⟨rfl, hZ, hh⟩ := hP
  have hx := Bd.exec
  have hby := Bd.bytes
  have hml : c.maxLocals = 10 := hml0
  have hown : s.vm.findClass "com/example/unipar/unipar/StyleExplodesByDefaultPinLaw" = some m.cls := findClass_of_methodNamed Bd.named
  have hnm := (name_of_methodNamed Bd.named Bd.method).1
  have X0 : Stand p l e room_1 s m #[(.int x0), (.int x1)] below meth c s₁ [] 0 0 := Stand.of_body Bd
  have e0 : s₁.heap = h0 := by rw [← hh, Bd.state]; rfl
  have N0 := Fr.nil n0
  show Goes p.tables e below _ (own_R below s (own_Q_own_rm0 Z x0 x1 a_Style_MATRIX a_Style_LABEL a_Style_FORM a_Style_SIMPLE a_Style_SPACE_DELIMITED a_Style_PIPE_DELIMITED a_Style_DEEP_OBJECT a_Style_COOKIE a_Style_TAB_DELIMITED a_Location_PATH a_Location_QUERY a_Location_QUERYSTRING a_Location_HEADER a_Location_COOKIE a_Location_FORM_DATA a_M k_M h0 n0) 4 30)
  refine Goes.to (fun t k => castTop (own_ef_own_rm0 m x0 x1) k) ?_
  show Goes p.tables e below (s₁.setTop (mkF m 0 #[.val (.int x0), .val (.int x1), .unset, .unset, .unset, .unset, .unset, .unset, .unset, .unset] [])) _
  refine Goes.to (fun _ k => XS.bipush X0.here hx rfl (hb hby at_0) k) ?_
  show Goes p.tables e below (s₁.setTop (mkF m 2 #[.val (.int x0), .val (.int x1), .unset, .unset, .unset, .unset, .unset, .unset, .unset, .unset] [(.int (9 : Int32))])) _
  obtain ⟨T1, h1, k1, X1, e1, E1, A1, O1, st1⟩ := newR X0 hx hZ hown (hw _ (List.mem_of_getElem? (i := 0) rfl)) (hw _ (List.mem_of_getElem? (i := 1) rfl)) e0 (g := (mkF m 2 #[.val (.int x0), .val (.int x1), .unset, .unset, .unset, .unset, .unset, .unset, .unset, .unset] [(.int (9 : Int32))])) rfl (hb hby at_2) rfl (by decide) (cap := 9) (by decide) (by decide) (by decide) (by decide)
  obtain ⟨b1, g1⟩ : ∃ z, z = h0.size := ⟨_, rfl⟩
  rw [← g1] at A1 st1
  subst e1
  have O2 := O0.ext E1
  have g_b1 : n0 ≤ b1 := Nat.le_trans Z0 (Nat.le_of_eq g1.symm)
  have Z1 : n0 ≤ T1.heap.size := Nat.le_trans Z0 E1.1
  have V1 : Arv Z T1.heap b1 k1 (.object "com/example/unipar/unipar/Style") (9 : Int32) [.null, .null, .null, .null, .null, .null, .null, .null, .null] .null := (Arv.new A1 (by decide)).pad (pad_rep [] .null 9)
  refine Goes.to st1 ?_
  show Goes p.tables e below (T1.setTop (mkF m 5 #[.val (.int x0), .val (.int x1), .unset, .unset, .unset, .unset, .unset, .unset, .unset, .unset] [(.ref b1)])) _
  refine Goes.to (fun _ k => XS.dup X1.here hx rfl (hb hby at_5) rfl rfl k) ?_
  show Goes p.tables e below (T1.setTop (mkF m 6 #[.val (.int x0), .val (.int x1), .unset, .unset, .unset, .unset, .unset, .unset, .unset, .unset] [(.ref b1), (.ref b1)])) _
  refine Goes.to (fun _ k => XS.iconst X1.here hx rfl (hb hby at_6) k) ?_
  show Goes p.tables e below (T1.setTop (mkF m 7 #[.val (.int x0), .val (.int x1), .unset, .unset, .unset, .unset, .unset, .unset, .unset, .unset] [(.int (0 : Int32)), (.ref b1), (.ref b1)])) _
  obtain ⟨T3, X3, e3, st3⟩ := getS2 X1 hx hZ hown (host := "") (Or.inl (hw _ (List.mem_of_getElem? (i := 2) rfl))) Via.refl rfl (S_Style_MATRIX.ext O2.2) (g := (mkF m 7 #[.val (.int x0), .val (.int x1), .unset, .unset, .unset, .unset, .unset, .unset, .unset, .unset] [(.int (0 : Int32)), (.ref b1), (.ref b1)])) rfl (hb hby at_7)
  refine Goes.to st3 ?_
  show Goes p.tables e below (T3.setTop (mkF m 10 #[.val (.int x0), .val (.int x1), .unset, .unset, .unset, .unset, .unset, .unset, .unset, .unset] [(.ref a_Style_MATRIX), (.int (0 : Int32)), (.ref b1), (.ref b1)])) _
  obtain ⟨cl4, Ar4, q4, S4, N4, H4, G4⟩ := id V1
  have hin4 : ¬ ((0 : Int32) < 0 ∨ cl4.slots.size ≤ ((0 : Int32)).toNatClampNeg) := inb_of S4 ⟨by decide, by decide⟩
  obtain ⟨T5, h5, X5, e5, W5, st5⟩ := stR X3 hx hZ e3 Ar4 (j := (0 : Int32)) hin4 rfl (Sto.ofV Ar4 q4 O1 (Ins.self (E_Style_MATRIX.ext O2.2))) (g := (mkF m 10 #[.val (.int x0), .val (.int x1), .unset, .unset, .unset, .unset, .unset, .unset, .unset, .unset] [(.ref a_Style_MATRIX), (.int (0 : Int32)), (.ref b1), (.ref b1)])) rfl rfl (hb hby at_10)
  subst e5
  have O6 := O2.wr W5 g_b1
  have N5 := Fr.snoc X5 N0 g_b1
  have Z5 : n0 ≤ T5.heap.size := Nat.le_trans Z1 (Nat.le_of_eq W5.size.symm)
  have V5 : Arv Z T5.heap b1 k1 (.object "com/example/unipar/unipar/Style") (9 : Int32) [(.ref a_Style_MATRIX), .null, .null, .null, .null, .null, .null, .null, .null] .null := Arv.set Ar4 q4 S4 N4 H4 G4 rfl W5 0 rfl (Nat.le_of_ble_eq_true rfl)
  refine Goes.to st5 ?_
  show Goes p.tables e below (T5.setTop (mkF m 11 #[.val (.int x0), .val (.int x1), .unset, .unset, .unset, .unset, .unset, .unset, .unset, .unset] [(.ref b1)])) _
  refine Goes.to (fun _ k => XS.dup X5.here hx rfl (hb hby at_11) rfl rfl k) ?_
  show Goes p.tables e below (T5.setTop (mkF m 12 #[.val (.int x0), .val (.int x1), .unset, .unset, .unset, .unset, .unset, .unset, .unset, .unset] [(.ref b1), (.ref b1)])) _
  refine Goes.to (fun _ k => XS.iconst X5.here hx rfl (hb hby at_12) k) ?_
  show Goes p.tables e below (T5.setTop (mkF m 13 #[.val (.int x0), .val (.int x1), .unset, .unset, .unset, .unset, .unset, .unset, .unset, .unset] [(.int (1 : Int32)), (.ref b1), (.ref b1)])) _
  obtain ⟨T8, X8, e8, st8⟩ := getS2 X5 hx hZ hown (host := "") (Or.inl (hw _ (List.mem_of_getElem? (i := 6) rfl))) Via.refl rfl (S_Style_LABEL.ext O6.2) (g := (mkF m 13 #[.val (.int x0), .val (.int x1), .unset, .unset, .unset, .unset, .unset, .unset, .unset, .unset] [(.int (1 : Int32)), (.ref b1), (.ref b1)])) rfl (hb hby at_13)
  refine Goes.to st8 ?_
  show Goes p.tables e below (T8.setTop (mkF m 16 #[.val (.int x0), .val (.int x1), .unset, .unset, .unset, .unset, .unset, .unset, .unset, .unset] [(.ref a_Style_LABEL), (.int (1 : Int32)), (.ref b1), (.ref b1)])) _
  obtain ⟨cl9, Ar9, q9, S9, N9, H9, G9⟩ := id V5
  have hin9 : ¬ ((1 : Int32) < 0 ∨ cl9.slots.size ≤ ((1 : Int32)).toNatClampNeg) := inb_of S9 ⟨by decide, by decide⟩
  obtain ⟨T10, h10, X10, e10, W10, st10⟩ := stR X8 hx hZ e8 Ar9 (j := (1 : Int32)) hin9 rfl (Sto.ofV Ar9 q9 O1 (Ins.self (E_Style_LABEL.ext O6.2))) (g := (mkF m 16 #[.val (.int x0), .val (.int x1), .unset, .unset, .unset, .unset, .unset, .unset, .unset, .unset] [(.ref a_Style_LABEL), (.int (1 : Int32)), (.ref b1), (.ref b1)])) rfl rfl (hb hby at_16)
  subst e10
  have O11 := O6.wr W10 g_b1
  have N10 := Fr.snoc X10 N5 g_b1
  have Z10 : n0 ≤ T10.heap.size := Nat.le_trans Z5 (Nat.le_of_eq W10.size.symm)
  have V10 : Arv Z T10.heap b1 k1 (.object "com/example/unipar/unipar/Style") (9 : Int32) [(.ref a_Style_MATRIX), (.ref a_Style_LABEL), .null, .null, .null, .null, .null, .null, .null] .null := Arv.set Ar9 q9 S9 N9 H9 G9 rfl W10 1 rfl (Nat.le_of_ble_eq_true rfl)
  refine Goes.to st10 ?_
  show Goes p.tables e below (T10.setTop (mkF m 17 #[.val (.int x0), .val (.int x1), .unset, .unset, .unset, .unset, .unset, .unset, .unset, .unset] [(.ref b1)])) _
  refine Goes.to (fun _ k => XS.dup X10.here hx rfl (hb hby at_17) rfl rfl k) ?_
  show Goes p.tables e below (T10.setTop (mkF m 18 #[.val (.int x0), .val (.int x1), .unset, .unset, .unset, .unset, .unset, .unset, .unset, .unset] [(.ref b1), (.ref b1)])) _
  refine Goes.to (fun _ k => XS.iconst X10.here hx rfl (hb hby at_18) k) ?_
  show Goes p.tables e below (T10.setTop (mkF m 19 #[.val (.int x0), .val (.int x1), .unset, .unset, .unset, .unset, .unset, .unset, .unset, .unset] [(.int (2 : Int32)), (.ref b1), (.ref b1)])) _
  obtain ⟨T13, X13, e13, st13⟩ := getS2 X10 hx hZ hown (host := "") (Or.inl (hw _ (List.mem_of_getElem? (i := 8) rfl))) Via.refl rfl (S_Style_FORM.ext O11.2) (g := (mkF m 19 #[.val (.int x0), .val (.int x1), .unset, .unset, .unset, .unset, .unset, .unset, .unset, .unset] [(.int (2 : Int32)), (.ref b1), (.ref b1)])) rfl (hb hby at_19)
  refine Goes.to st13 ?_
  show Goes p.tables e below (T13.setTop (mkF m 22 #[.val (.int x0), .val (.int x1), .unset, .unset, .unset, .unset, .unset, .unset, .unset, .unset] [(.ref a_Style_FORM), (.int (2 : Int32)), (.ref b1), (.ref b1)])) _
  obtain ⟨cl14, Ar14, q14, S14, N14, H14, G14⟩ := id V10
  have hin14 : ¬ ((2 : Int32) < 0 ∨ cl14.slots.size ≤ ((2 : Int32)).toNatClampNeg) := inb_of S14 ⟨by decide, by decide⟩
  obtain ⟨T15, h15, X15, e15, W15, st15⟩ := stR X13 hx hZ e13 Ar14 (j := (2 : Int32)) hin14 rfl (Sto.ofV Ar14 q14 O1 (Ins.self (E_Style_FORM.ext O11.2))) (g := (mkF m 22 #[.val (.int x0), .val (.int x1), .unset, .unset, .unset, .unset, .unset, .unset, .unset, .unset] [(.ref a_Style_FORM), (.int (2 : Int32)), (.ref b1), (.ref b1)])) rfl rfl (hb hby at_22)
  subst e15
  have O16 := O11.wr W15 g_b1
  have N15 := Fr.snoc X15 N10 g_b1
  have Z15 : n0 ≤ T15.heap.size := Nat.le_trans Z10 (Nat.le_of_eq W15.size.symm)
  have V15 : Arv Z T15.heap b1 k1 (.object "com/example/unipar/unipar/Style") (9 : Int32) [(.ref a_Style_MATRIX), (.ref a_Style_LABEL), (.ref a_Style_FORM), .null, .null, .null, .null, .null, .null] .null := Arv.set Ar14 q14 S14 N14 H14 G14 rfl W15 2 rfl (Nat.le_of_ble_eq_true rfl)
  refine Goes.to st15 ?_
  show Goes p.tables e below (T15.setTop (mkF m 23 #[.val (.int x0), .val (.int x1), .unset, .unset, .unset, .unset, .unset, .unset, .unset, .unset] [(.ref b1)])) _
  refine Goes.to (fun _ k => XS.dup X15.here hx rfl (hb hby at_23) rfl rfl k) ?_
  show Goes p.tables e below (T15.setTop (mkF m 24 #[.val (.int x0), .val (.int x1), .unset, .unset, .unset, .unset, .unset, .unset, .unset, .unset] [(.ref b1), (.ref b1)])) _
  refine Goes.to (fun _ k => XS.iconst X15.here hx rfl (hb hby at_24) k) ?_
  show Goes p.tables e below (T15.setTop (mkF m 25 #[.val (.int x0), .val (.int x1), .unset, .unset, .unset, .unset, .unset, .unset, .unset, .unset] [(.int (3 : Int32)), (.ref b1), (.ref b1)])) _
  obtain ⟨T18, X18, e18, st18⟩ := getS2 X15 hx hZ hown (host := "") (Or.inl (hw _ (List.mem_of_getElem? (i := 10) rfl))) Via.refl rfl (S_Style_SIMPLE.ext O16.2) (g := (mkF m 25 #[.val (.int x0), .val (.int x1), .unset, .unset, .unset, .unset, .unset, .unset, .unset, .unset] [(.int (3 : Int32)), (.ref b1), (.ref b1)])) rfl (hb hby at_25)
  refine Goes.to st18 ?_
  show Goes p.tables e below (T18.setTop (mkF m 28 #[.val (.int x0), .val (.int x1), .unset, .unset, .unset, .unset, .unset, .unset, .unset, .unset] [(.ref a_Style_SIMPLE), (.int (3 : Int32)), (.ref b1), (.ref b1)])) _
  obtain ⟨cl19, Ar19, q19, S19, N19, H19, G19⟩ := id V15
  have hin19 : ¬ ((3 : Int32) < 0 ∨ cl19.slots.size ≤ ((3 : Int32)).toNatClampNeg) := inb_of S19 ⟨by decide, by decide⟩
  obtain ⟨T20, h20, X20, e20, W20, st20⟩ := stR X18 hx hZ e18 Ar19 (j := (3 : Int32)) hin19 rfl (Sto.ofV Ar19 q19 O1 (Ins.self (E_Style_SIMPLE.ext O16.2))) (g := (mkF m 28 #[.val (.int x0), .val (.int x1), .unset, .unset, .unset, .unset, .unset, .unset, .unset, .unset] [(.ref a_Style_SIMPLE), (.int (3 : Int32)), (.ref b1), (.ref b1)])) rfl rfl (hb hby at_28)
  subst e20
  have O21 := O16.wr W20 g_b1
  have N20 := Fr.snoc X20 N15 g_b1
  have Z20 : n0 ≤ T20.heap.size := Nat.le_trans Z15 (Nat.le_of_eq W20.size.symm)
  have V20 : Arv Z T20.heap b1 k1 (.object "com/example/unipar/unipar/Style") (9 : Int32) [(.ref a_Style_MATRIX), (.ref a_Style_LABEL), (.ref a_Style_FORM), (.ref a_Style_SIMPLE), .null, .null, .null, .null, .null] .null := Arv.set Ar19 q19 S19 N19 H19 G19 rfl W20 3 rfl (Nat.le_of_ble_eq_true rfl)
  refine Goes.to st20 ?_
  show Goes p.tables e below (T20.setTop (mkF m 29 #[.val (.int x0), .val (.int x1), .unset, .unset, .unset, .unset, .unset, .unset, .unset, .unset] [(.ref b1)])) _
  refine Goes.to (fun _ k => XS.dup X20.here hx rfl (hb hby at_29) rfl rfl k) ?_
  show Goes p.tables e below (T20.setTop (mkF m 30 #[.val (.int x0), .val (.int x1), .unset, .unset, .unset, .unset, .unset, .unset, .unset, .unset] [(.ref b1), (.ref b1)])) _
  refine Goes.to (fun _ k => XS.iconst X20.here hx rfl (hb hby at_30) k) ?_
  show Goes p.tables e below (T20.setTop (mkF m 31 #[.val (.int x0), .val (.int x1), .unset, .unset, .unset, .unset, .unset, .unset, .unset, .unset] [(.int (4 : Int32)), (.ref b1), (.ref b1)])) _
  obtain ⟨T23, X23, e23, st23⟩ := getS2 X20 hx hZ hown (host := "") (Or.inl (hw _ (List.mem_of_getElem? (i := 12) rfl))) Via.refl rfl (S_Style_SPACE_DELIMITED.ext O21.2) (g := (mkF m 31 #[.val (.int x0), .val (.int x1), .unset, .unset, .unset, .unset, .unset, .unset, .unset, .unset] [(.int (4 : Int32)), (.ref b1), (.ref b1)])) rfl (hb hby at_31)
  refine Goes.to st23 ?_
  show Goes p.tables e below (T23.setTop (mkF m 34 #[.val (.int x0), .val (.int x1), .unset, .unset, .unset, .unset, .unset, .unset, .unset, .unset] [(.ref a_Style_SPACE_DELIMITED), (.int (4 : Int32)), (.ref b1), (.ref b1)])) _
  obtain ⟨cl24, Ar24, q24, S24, N24, H24, G24⟩ := id V20
  have hin24 : ¬ ((4 : Int32) < 0 ∨ cl24.slots.size ≤ ((4 : Int32)).toNatClampNeg) := inb_of S24 ⟨by decide, by decide⟩
  obtain ⟨T25, h25, X25, e25, W25, st25⟩ := stR X23 hx hZ e23 Ar24 (j := (4 : Int32)) hin24 rfl (Sto.ofV Ar24 q24 O1 (Ins.self (E_Style_SPACE_DELIMITED.ext O21.2))) (g := (mkF m 34 #[.val (.int x0), .val (.int x1), .unset, .unset, .unset, .unset, .unset, .unset, .unset, .unset] [(.ref a_Style_SPACE_DELIMITED), (.int (4 : Int32)), (.ref b1), (.ref b1)])) rfl rfl (hb hby at_34)
  subst e25
  have O26 := O21.wr W25 g_b1
  have N25 := Fr.snoc X25 N20 g_b1
  have Z25 : n0 ≤ T25.heap.size := Nat.le_trans Z20 (Nat.le_of_eq W25.size.symm)
  have V25 : Arv Z T25.heap b1 k1 (.object "com/example/unipar/unipar/Style") (9 : Int32) [(.ref a_Style_MATRIX), (.ref a_Style_LABEL), (.ref a_Style_FORM), (.ref a_Style_SIMPLE), (.ref a_Style_SPACE_DELIMITED), .null, .null, .null, .null] .null := Arv.set Ar24 q24 S24 N24 H24 G24 rfl W25 4 rfl (Nat.le_of_ble_eq_true rfl)
  refine Goes.to st25 ?_
  show Goes p.tables e below (T25.setTop (mkF m 35 #[.val (.int x0), .val (.int x1), .unset, .unset, .unset, .unset, .unset, .unset, .unset, .unset] [(.ref b1)])) _
  refine Goes.to (fun _ k => XS.dup X25.here hx rfl (hb hby at_35) rfl rfl k) ?_
  show Goes p.tables e below (T25.setTop (mkF m 36 #[.val (.int x0), .val (.int x1), .unset, .unset, .unset, .unset, .unset, .unset, .unset, .unset] [(.ref b1), (.ref b1)])) _
  refine Goes.to (fun _ k => XS.iconst X25.here hx rfl (hb hby at_36) k) ?_
  show Goes p.tables e below (T25.setTop (mkF m 37 #[.val (.int x0), .val (.int x1), .unset, .unset, .unset, .unset, .unset, .unset, .unset, .unset] [(.int (5 : Int32)), (.ref b1), (.ref b1)])) _
  obtain ⟨T28, X28, e28, st28⟩ := getS2 X25 hx hZ hown (host := "") (Or.inl (hw _ (List.mem_of_getElem? (i := 14) rfl))) Via.refl rfl (S_Style_PIPE_DELIMITED.ext O26.2) (g := (mkF m 37 #[.val (.int x0), .val (.int x1), .unset, .unset, .unset, .unset, .unset, .unset, .unset, .unset] [(.int (5 : Int32)), (.ref b1), (.ref b1)])) rfl (hb hby at_37)
  refine Goes.to st28 ?_
  show Goes p.tables e below (T28.setTop (mkF m 40 #[.val (.int x0), .val (.int x1), .unset, .unset, .unset, .unset, .unset, .unset, .unset, .unset] [(.ref a_Style_PIPE_DELIMITED), (.int (5 : Int32)), (.ref b1), (.ref b1)])) _
  obtain ⟨cl29, Ar29, q29, S29, N29, H29, G29⟩ := id V25
  have hin29 : ¬ ((5 : Int32) < 0 ∨ cl29.slots.size ≤ ((5 : Int32)).toNatClampNeg) := inb_of S29 ⟨by decide, by decide⟩
  obtain ⟨T30, h30, X30, e30, W30, st30⟩ := stR X28 hx hZ e28 Ar29 (j := (5 : Int32)) hin29 rfl (Sto.ofV Ar29 q29 O1 (Ins.self (E_Style_PIPE_DELIMITED.ext O26.2))) (g := (mkF m 40 #[.val (.int x0), .val (.int x1), .unset, .unset, .unset, .unset, .unset, .unset, .unset, .unset] [(.ref a_Style_PIPE_DELIMITED), (.int (5 : Int32)), (.ref b1), (.ref b1)])) rfl rfl (hb hby at_40)
  subst e30
  have O31 := O26.wr W30 g_b1
  have N30 := Fr.snoc X30 N25 g_b1
  have Z30 : n0 ≤ T30.heap.size := Nat.le_trans Z25 (Nat.le_of_eq W30.size.symm)
  have V30 : Arv Z T30.heap b1 k1 (.object "com/example/unipar/unipar/Style") (9 : Int32) [(.ref a_Style_MATRIX), (.ref a_Style_LABEL), (.ref a_Style_FORM), (.ref a_Style_SIMPLE), (.ref a_Style_SPACE_DELIMITED), (.ref a_Style_PIPE_DELIMITED), .null, .null, .null] .null := Arv.set Ar29 q29 S29 N29 H29 G29 rfl W30 5 rfl (Nat.le_of_ble_eq_true rfl)
  refine Goes.to st30 ?_
  show Goes p.tables e below (T30.setTop (mkF m 41 #[.val (.int x0), .val (.int x1), .unset, .unset, .unset, .unset, .unset, .unset, .unset, .unset] [(.ref b1)])) _
  refine Goes.to (fun _ k => XS.dup X30.here hx rfl (hb hby at_41) rfl rfl k) ?_
  show Goes p.tables e below (T30.setTop (mkF m 42 #[.val (.int x0), .val (.int x1), .unset, .unset, .unset, .unset, .unset, .unset, .unset, .unset] [(.ref b1), (.ref b1)])) _
  refine Goes.to (fun _ k => XS.bipush X30.here hx rfl (hb hby at_42) k) ?_
  show Goes p.tables e below (T30.setTop (mkF m 44 #[.val (.int x0), .val (.int x1), .unset, .unset, .unset, .unset, .unset, .unset, .unset, .unset] [(.int (6 : Int32)), (.ref b1), (.ref b1)])) _
  obtain ⟨T33, X33, e33, st33⟩ := getS2 X30 hx hZ hown (host := "") (Or.inl (hw _ (List.mem_of_getElem? (i := 16) rfl))) Via.refl rfl (S_Style_DEEP_OBJECT.ext O31.2) (g := (mkF m 44 #[.val (.int x0), .val (.int x1), .unset, .unset, .unset, .unset, .unset, .unset, .unset, .unset] [(.int (6 : Int32)), (.ref b1), (.ref b1)])) rfl (hb hby at_44)
  refine Goes.to st33 ?_
  show Goes p.tables e below (T33.setTop (mkF m 47 #[.val (.int x0), .val (.int x1), .unset, .unset, .unset, .unset, .unset, .unset, .unset, .unset] [(.ref a_Style_DEEP_OBJECT), (.int (6 : Int32)), (.ref b1), (.ref b1)])) _
  obtain ⟨cl34, Ar34, q34, S34, N34, H34, G34⟩ := id V30
  have hin34 : ¬ ((6 : Int32) < 0 ∨ cl34.slots.size ≤ ((6 : Int32)).toNatClampNeg) := inb_of S34 ⟨by decide, by decide⟩
  obtain ⟨T35, h35, X35, e35, W35, st35⟩ := stR X33 hx hZ e33 Ar34 (j := (6 : Int32)) hin34 rfl (Sto.ofV Ar34 q34 O1 (Ins.self (E_Style_DEEP_OBJECT.ext O31.2))) (g := (mkF m 47 #[.val (.int x0), .val (.int x1), .unset, .unset, .unset, .unset, .unset, .unset, .unset, .unset] [(.ref a_Style_DEEP_OBJECT), (.int (6 : Int32)), (.ref b1), (.ref b1)])) rfl rfl (hb hby at_47)
  subst e35
  have O36 := O31.wr W35 g_b1
  have N35 := Fr.snoc X35 N30 g_b1
  have Z35 : n0 ≤ T35.heap.size := Nat.le_trans Z30 (Nat.le_of_eq W35.size.symm)
  have V35 : Arv Z T35.heap b1 k1 (.object "com/example/unipar/unipar/Style") (9 : Int32) [(.ref a_Style_MATRIX), (.ref a_Style_LABEL), (.ref a_Style_FORM), (.ref a_Style_SIMPLE), (.ref a_Style_SPACE_DELIMITED), (.ref a_Style_PIPE_DELIMITED), (.ref a_Style_DEEP_OBJECT), .null, .null] .null := Arv.set Ar34 q34 S34 N34 H34 G34 rfl W35 6 rfl (Nat.le_of_ble_eq_true rfl)
  refine Goes.to st35 ?_
  show Goes p.tables e below (T35.setTop (mkF m 48 #[.val (.int x0), .val (.int x1), .unset, .unset, .unset, .unset, .unset, .unset, .unset, .unset] [(.ref b1)])) _
  refine Goes.to (fun _ k => XS.dup X35.here hx rfl (hb hby at_48) rfl rfl k) ?_
  show Goes p.tables e below (T35.setTop (mkF m 49 #[.val (.int x0), .val (.int x1), .unset, .unset, .unset, .unset, .unset, .unset, .unset, .unset] [(.ref b1), (.ref b1)])) _
  refine Goes.to (fun _ k => XS.bipush X35.here hx rfl (hb hby at_49) k) ?_
  show Goes p.tables e below (T35.setTop (mkF m 51 #[.val (.int x0), .val (.int x1), .unset, .unset, .unset, .unset, .unset, .unset, .unset, .unset] [(.int (7 : Int32)), (.ref b1), (.ref b1)])) _
  obtain ⟨T38, X38, e38, st38⟩ := getS2 X35 hx hZ hown (host := "") (Or.inl (hw _ (List.mem_of_getElem? (i := 18) rfl))) Via.refl rfl (S_Style_COOKIE.ext O36.2) (g := (mkF m 51 #[.val (.int x0), .val (.int x1), .unset, .unset, .unset, .unset, .unset, .unset, .unset, .unset] [(.int (7 : Int32)), (.ref b1), (.ref b1)])) rfl (hb hby at_51)
  refine Goes.to st38 ?_
  show Goes p.tables e below (T38.setTop (mkF m 54 #[.val (.int x0), .val (.int x1), .unset, .unset, .unset, .unset, .unset, .unset, .unset, .unset] [(.ref a_Style_COOKIE), (.int (7 : Int32)), (.ref b1), (.ref b1)])) _
  obtain ⟨cl39, Ar39, q39, S39, N39, H39, G39⟩ := id V35
  have hin39 : ¬ ((7 : Int32) < 0 ∨ cl39.slots.size ≤ ((7 : Int32)).toNatClampNeg) := inb_of S39 ⟨by decide, by decide⟩
  obtain ⟨T40, h40, X40, e40, W40, st40⟩ := stR X38 hx hZ e38 Ar39 (j := (7 : Int32)) hin39 rfl (Sto.ofV Ar39 q39 O1 (Ins.self (E_Style_COOKIE.ext O36.2))) (g := (mkF m 54 #[.val (.int x0), .val (.int x1), .unset, .unset, .unset, .unset, .unset, .unset, .unset, .unset] [(.ref a_Style_COOKIE), (.int (7 : Int32)), (.ref b1), (.ref b1)])) rfl rfl (hb hby at_54)
  subst e40
  have O41 := O36.wr W40 g_b1
  have N40 := Fr.snoc X40 N35 g_b1
  have Z40 : n0 ≤ T40.heap.size := Nat.le_trans Z35 (Nat.le_of_eq W40.size.symm)
  have V40 : Arv Z T40.heap b1 k1 (.object "com/example/unipar/unipar/Style") (9 : Int32) [(.ref a_Style_MATRIX), (.ref a_Style_LABEL), (.ref a_Style_FORM), (.ref a_Style_SIMPLE), (.ref a_Style_SPACE_DELIMITED), (.ref a_Style_PIPE_DELIMITED), (.ref a_Style_DEEP_OBJECT), (.ref a_Style_COOKIE), .null] .null := Arv.set Ar39 q39 S39 N39 H39 G39 rfl W40 7 rfl (Nat.le_of_ble_eq_true rfl)
  refine Goes.to st40 ?_
  show Goes p.tables e below (T40.setTop (mkF m 55 #[.val (.int x0), .val (.int x1), .unset, .unset, .unset, .unset, .unset, .unset, .unset, .unset] [(.ref b1)])) _
  refine Goes.to (fun _ k => XS.dup X40.here hx rfl (hb hby at_55) rfl rfl k) ?_
  show Goes p.tables e below (T40.setTop (mkF m 56 #[.val (.int x0), .val (.int x1), .unset, .unset, .unset, .unset, .unset, .unset, .unset, .unset] [(.ref b1), (.ref b1)])) _
  refine Goes.to (fun _ k => XS.bipush X40.here hx rfl (hb hby at_56) k) ?_
  show Goes p.tables e below (T40.setTop (mkF m 58 #[.val (.int x0), .val (.int x1), .unset, .unset, .unset, .unset, .unset, .unset, .unset, .unset] [(.int (8 : Int32)), (.ref b1), (.ref b1)])) _
  obtain ⟨T43, X43, e43, st43⟩ := getS2 X40 hx hZ hown (host := "") (Or.inl (hw _ (List.mem_of_getElem? (i := 20) rfl))) Via.refl rfl (S_Style_TAB_DELIMITED.ext O41.2) (g := (mkF m 58 #[.val (.int x0), .val (.int x1), .unset, .unset, .unset, .unset, .unset, .unset, .unset, .unset] [(.int (8 : Int32)), (.ref b1), (.ref b1)])) rfl (hb hby at_58)
  refine Goes.to st43 ?_
  show Goes p.tables e below (T43.setTop (mkF m 61 #[.val (.int x0), .val (.int x1), .unset, .unset, .unset, .unset, .unset, .unset, .unset, .unset] [(.ref a_Style_TAB_DELIMITED), (.int (8 : Int32)), (.ref b1), (.ref b1)])) _
  obtain ⟨cl44, Ar44, q44, S44, N44, H44, G44⟩ := id V40
  have hin44 : ¬ ((8 : Int32) < 0 ∨ cl44.slots.size ≤ ((8 : Int32)).toNatClampNeg) := inb_of S44 ⟨by decide, by decide⟩
  obtain ⟨T45, h45, X45, e45, W45, st45⟩ := stR X43 hx hZ e43 Ar44 (j := (8 : Int32)) hin44 rfl (Sto.ofV Ar44 q44 O1 (Ins.self (E_Style_TAB_DELIMITED.ext O41.2))) (g := (mkF m 61 #[.val (.int x0), .val (.int x1), .unset, .unset, .unset, .unset, .unset, .unset, .unset, .unset] [(.ref a_Style_TAB_DELIMITED), (.int (8 : Int32)), (.ref b1), (.ref b1)])) rfl rfl (hb hby at_61)
  subst e45
  have O46 := O41.wr W45 g_b1
  have N45 := Fr.snoc X45 N40 g_b1
  have Z45 : n0 ≤ T45.heap.size := Nat.le_trans Z40 (Nat.le_of_eq W45.size.symm)
  have V45 : Arv Z T45.heap b1 k1 (.object "com/example/unipar/unipar/Style") (9 : Int32) [(.ref a_Style_MATRIX), (.ref a_Style_LABEL), (.ref a_Style_FORM), (.ref a_Style_SIMPLE), (.ref a_Style_SPACE_DELIMITED), (.ref a_Style_PIPE_DELIMITED), (.ref a_Style_DEEP_OBJECT), (.ref a_Style_COOKIE), (.ref a_Style_TAB_DELIMITED)] .null := Arv.set Ar44 q44 S44 N44 H44 G44 rfl W45 8 rfl (Nat.le_of_ble_eq_true rfl)
  refine Goes.to st45 ?_
  show Goes p.tables e below (T45.setTop (mkF m 62 #[.val (.int x0), .val (.int x1), .unset, .unset, .unset, .unset, .unset, .unset, .unset, .unset] [(.ref b1)])) _
  refine Goes.to (fun _ k => XS.astoreN X45.here hx rfl (hb hby at_62) rfl rfl (l' := #[.val (.int x0), .val (.int x1), .val (.ref b1), .unset, .unset, .unset, .unset, .unset, .unset, .unset]) rfl k) ?_
  show Goes p.tables e below (T45.setTop (mkF m 63 #[.val (.int x0), .val (.int x1), .val (.ref b1), .unset, .unset, .unset, .unset, .unset, .unset, .unset] [])) _
  refine Goes.to (fun _ k => XS.bipush X45.here hx rfl (hb hby at_63) k) ?_
  exact own_pt_own_rm0_48 l Z a0 hw ws x0 x1 a_Style_MATRIX a_Style_LABEL a_Style_FORM a_Style_SIMPLE a_Style_SPACE_DELIMITED a_Style_PIPE_DELIMITED a_Style_DEEP_OBJECT a_Style_COOKIE a_Style_TAB_DELIMITED a_Location_PATH a_Location_QUERY a_Location_QUERYSTRING a_Location_HEADER a_Location_COOKIE a_Location_FORM_DATA a_M k_M h0 n0 Z0 O0 S_Style_MATRIX E_Style_MATRIX S_Style_LABEL E_Style_LABEL S_Style_FORM E_Style_FORM S_Style_SIMPLE E_Style_SIMPLE S_Style_SPACE_DELIMITED E_Style_SPACE_DELIMITED S_Style_PIPE_DELIMITED E_Style_PIPE_DELIMITED S_Style_DEEP_OBJECT E_Style_DEEP_OBJECT S_Style_COOKIE E_Style_COOKIE S_Style_TAB_DELIMITED E_Style_TAB_DELIMITED S_Location_PATH E_Location_PATH S_Location_QUERY E_Location_QUERY S_Location_QUERYSTRING E_Location_QUERYSTRING S_Location_HEADER E_Location_HEADER S_Location_COOKIE E_Location_COOKIE S_Location_FORM_DATA E_Location_FORM_DATA F_Style_MATRIX_ordinal F_Style_FORM_ordinal F_Style_COOKIE_ordinal F_Location_HEADER_ordinal F_Style_SIMPLE_ordinal F_Style_PIPE_DELIMITED_ordinal F_Location_QUERY_ordinal F_Location_FORM_DATA_ordinal F_Location_QUERYSTRING_ordinal F_Style_SPACE_DELIMITED_ordinal F_Location_PATH_ordinal F_Style_LABEL_ordinal F_Style_DEEP_OBJECT_ordinal F_Location_COOKIE_ordinal F_Style_TAB_DELIMITED_ordinal ne_Style_MATRIX__Style_FORM ne_Style_MATRIX__Style_COOKIE ne_Style_LABEL__Style_FORM ne_Style_LABEL__Style_COOKIE ne_Style_FORM__Style_SIMPLE ne_Style_FORM__Style_SPACE_DELIMITED ne_Style_FORM__Style_PIPE_DELIMITED ne_Style_FORM__Style_DEEP_OBJECT ne_Style_FORM__Style_COOKIE ne_Style_FORM__Style_TAB_DELIMITED ne_Style_SIMPLE__Style_COOKIE ne_Style_SPACE_DELIMITED__Style_COOKIE ne_Style_PIPE_DELIMITED__Style_COOKIE ne_Style_DEEP_OBJECT__Style_COOKIE ne_Style_COOKIE__Style_TAB_DELIMITED SM VM Bd hml0 hh hZ b1 k1 T45 _  T45.heap X45 rfl N45 Z45  V45 O1 (Old.ne O0 E_Style_MATRIX.lt g_b1) (Old.ne O0 E_Style_LABEL.lt g_b1) (Old.ne O0 E_Style_FORM.lt g_b1) (Old.ne O0 E_Style_SIMPLE.lt g_b1) (Old.ne O0 E_Style_SPACE_DELIMITED.lt g_b1) (Old.ne O0 E_Style_PIPE_DELIMITED.lt g_b1) (Old.ne O0 E_Style_DEEP_OBJECT.lt g_b1) (Old.ne O0 E_Style_COOKIE.lt g_b1) (Old.ne O0 E_Style_TAB_DELIMITED.lt g_b1) (Old.ne O0 E_Location_PATH.lt g_b1) (Old.ne O0 E_Location_QUERY.lt g_b1) (Old.ne O0 E_Location_QUERYSTRING.lt g_b1) (Old.ne O0 E_Location_HEADER.lt g_b1) (Old.ne O0 E_Location_COOKIE.lt g_b1) (Old.ne O0 E_Location_FORM_DATA.lt g_b1) (Old.ne O0 VM.lt g_b1) g_b1 O46

set_option maxRecDepth 65536 in
set_option maxHeartbeats 40000000 in
theorem comes_1 {Post : Tables → Env → Array Value → State → Outcome → State → Prop} (hpost : ∀ tb e args s v u, (limb_1_1.after args s (.returned v) u = true ∧ limb_1_2.after args s (.returned v) u = true ∧ True) → FrameEnd s (.returned v) u (Jvm.fieldLocs frame_1_writes args s ++ Jvm.arrayLocs frame_1_arrays args s ++ Jvm.staticLocs frame_1_statics s) 16 128 → Post tb e args s (.returned v) u) :
    ArmFor flags0 classFile x code maxLocals ret World_1 tables_1 room_1 Calls_1 rest_1 Pre_1 Post := by
  intro l hfl _ _ p e ha hc hk s m args below hf hA hF happ hP
  obtain ⟨hcalls, hrest, hpre⟩ := hP
  obtain ⟨-, -, -, hnamed, -, -, -, hat⟩ := (Spec.applies_iff hf).mp happ
  obtain ⟨hg, hn⟩ := and_e (Cond.before_iff.mp (show (Jvm.Cond.and given_1 narrow_1).before args s = true from hpre))
  obtain ⟨hg0, hgr0⟩ := and_e hg
  obtain ⟨hg1, hgr1⟩ := and_e hgr0
  obtain ⟨w0, w1, rfl⟩ : ∃ w0 w1 : Value, args = #[w0, w1] := by
    have hs : args.size = 2 := by simpa [Cond.value, given_1] using hg0
    obtain ⟨L⟩ := args
    match L, hs with
    | [w0, w1], _ => exact ⟨w0, w1, rfl⟩
  have hw := fun d (hd : d ∈ tables_1) => atoms_spec (ws := Jvm.Cond.code x code maxLocals ret :: tables_1) hat d (List.mem_cons_of_mem _ hd)
  have hfit : Fit s := fun {y c} hc i hi => by
    obtain ⟨ha, rfl⟩ := Array.getElem?_eq_some_iff.mp hc
    have q := List.all_eq_true.mp ((Array.all_eq_true_iff_forall_mem.mp hF) _ (Array.getElem_mem ha)) i (List.mem_range.mpr hi)
    simpa [Array.getElem?_eq_getElem hi] using q
  obtain ⟨i0, ei0⟩ := is_v hg1
  obtain rfl : w0 = (.int i0) := Option.some.inj ei0
  obtain ⟨i1, ei1⟩ := is_v hgr1
  obtain rfl : w1 = (.int i1) := Option.some.inj ei1
  obtain ⟨hn0, hnr0⟩ := and_e hn
  obtain ⟨a_Style_MATRIX, ev_Style_MATRIX⟩ := exa_v hn0
  have S_Style_MATRIX : Sta s s.heap "com/example/unipar/unipar/Style" "MATRIX" "Lcom/example/unipar/unipar/Style;" (.ref a_Style_MATRIX) := Sta.start ev_Style_MATRIX (Or.inr ⟨(hw _ (List.mem_of_getElem? (i := 3) rfl)), (hw _ (List.mem_of_getElem? (i := 4) rfl))⟩)
  have E_Style_MATRIX : Exa s s.heap a_Style_MATRIX "com/example/unipar/unipar/Style" := Exa.start ev_Style_MATRIX hn0
  obtain ⟨hn1, hnr1⟩ := and_e hnr0
  obtain ⟨a_Style_LABEL, ev_Style_LABEL⟩ := exa_v hn1
  have S_Style_LABEL : Sta s s.heap "com/example/unipar/unipar/Style" "LABEL" "Lcom/example/unipar/unipar/Style;" (.ref a_Style_LABEL) := Sta.start ev_Style_LABEL (Or.inr ⟨(hw _ (List.mem_of_getElem? (i := 3) rfl)), (hw _ (List.mem_of_getElem? (i := 7) rfl))⟩)
  have E_Style_LABEL : Exa s s.heap a_Style_LABEL "com/example/unipar/unipar/Style" := Exa.start ev_Style_LABEL hn1
  obtain ⟨hn2, hnr2⟩ := and_e hnr1
  obtain ⟨a_Style_FORM, ev_Style_FORM⟩ := exa_v hn2
  have S_Style_FORM : Sta s s.heap "com/example/unipar/unipar/Style" "FORM" "Lcom/example/unipar/unipar/Style;" (.ref a_Style_FORM) := Sta.start ev_Style_FORM (Or.inr ⟨(hw _ (List.mem_of_getElem? (i := 3) rfl)), (hw _ (List.mem_of_getElem? (i := 9) rfl))⟩)
  have E_Style_FORM : Exa s s.heap a_Style_FORM "com/example/unipar/unipar/Style" := Exa.start ev_Style_FORM hn2
  obtain ⟨hn3, hnr3⟩ := and_e hnr2
  obtain ⟨a_Style_SIMPLE, ev_Style_SIMPLE⟩ := exa_v hn3
  have S_Style_SIMPLE : Sta s s.heap "com/example/unipar/unipar/Style" "SIMPLE" "Lcom/example/unipar/unipar/Style;" (.ref a_Style_SIMPLE) := Sta.start ev_Style_SIMPLE (Or.inr ⟨(hw _ (List.mem_of_getElem? (i := 3) rfl)), (hw _ (List.mem_of_getElem? (i := 11) rfl))⟩)
  have E_Style_SIMPLE : Exa s s.heap a_Style_SIMPLE "com/example/unipar/unipar/Style" := Exa.start ev_Style_SIMPLE hn3
  obtain ⟨hn4, hnr4⟩ := and_e hnr3
  obtain ⟨a_Style_SPACE_DELIMITED, ev_Style_SPACE_DELIMITED⟩ := exa_v hn4
  have S_Style_SPACE_DELIMITED : Sta s s.heap "com/example/unipar/unipar/Style" "SPACE_DELIMITED" "Lcom/example/unipar/unipar/Style;" (.ref a_Style_SPACE_DELIMITED) := Sta.start ev_Style_SPACE_DELIMITED (Or.inr ⟨(hw _ (List.mem_of_getElem? (i := 3) rfl)), (hw _ (List.mem_of_getElem? (i := 13) rfl))⟩)
  have E_Style_SPACE_DELIMITED : Exa s s.heap a_Style_SPACE_DELIMITED "com/example/unipar/unipar/Style" := Exa.start ev_Style_SPACE_DELIMITED hn4
  obtain ⟨hn5, hnr5⟩ := and_e hnr4
  obtain ⟨a_Style_PIPE_DELIMITED, ev_Style_PIPE_DELIMITED⟩ := exa_v hn5
  have S_Style_PIPE_DELIMITED : Sta s s.heap "com/example/unipar/unipar/Style" "PIPE_DELIMITED" "Lcom/example/unipar/unipar/Style;" (.ref a_Style_PIPE_DELIMITED) := Sta.start ev_Style_PIPE_DELIMITED (Or.inr ⟨(hw _ (List.mem_of_getElem? (i := 3) rfl)), (hw _ (List.mem_of_getElem? (i := 15) rfl))⟩)
  have E_Style_PIPE_DELIMITED : Exa s s.heap a_Style_PIPE_DELIMITED "com/example/unipar/unipar/Style" := Exa.start ev_Style_PIPE_DELIMITED hn5
  obtain ⟨hn6, hnr6⟩ := and_e hnr5
  obtain ⟨a_Style_DEEP_OBJECT, ev_Style_DEEP_OBJECT⟩ := exa_v hn6
  have S_Style_DEEP_OBJECT : Sta s s.heap "com/example/unipar/unipar/Style" "DEEP_OBJECT" "Lcom/example/unipar/unipar/Style;" (.ref a_Style_DEEP_OBJECT) := Sta.start ev_Style_DEEP_OBJECT (Or.inr ⟨(hw _ (List.mem_of_getElem? (i := 3) rfl)), (hw _ (List.mem_of_getElem? (i := 17) rfl))⟩)
  have E_Style_DEEP_OBJECT : Exa s s.heap a_Style_DEEP_OBJECT "com/example/unipar/unipar/Style" := Exa.start ev_Style_DEEP_OBJECT hn6
  obtain ⟨hn7, hnr7⟩ := and_e hnr6
  obtain ⟨a_Style_COOKIE, ev_Style_COOKIE⟩ := exa_v hn7
  have S_Style_COOKIE : Sta s s.heap "com/example/unipar/unipar/Style" "COOKIE" "Lcom/example/unipar/unipar/Style;" (.ref a_Style_COOKIE) := Sta.start ev_Style_COOKIE (Or.inr ⟨(hw _ (List.mem_of_getElem? (i := 3) rfl)), (hw _ (List.mem_of_getElem? (i := 19) rfl))⟩)
  have E_Style_COOKIE : Exa s s.heap a_Style_COOKIE "com/example/unipar/unipar/Style" := Exa.start ev_Style_COOKIE hn7
  obtain ⟨hn8, hnr8⟩ := and_e hnr7
  obtain ⟨a_Style_TAB_DELIMITED, ev_Style_TAB_DELIMITED⟩ := exa_v hn8
  have S_Style_TAB_DELIMITED : Sta s s.heap "com/example/unipar/unipar/Style" "TAB_DELIMITED" "Lcom/example/unipar/unipar/Style;" (.ref a_Style_TAB_DELIMITED) := Sta.start ev_Style_TAB_DELIMITED (Or.inr ⟨(hw _ (List.mem_of_getElem? (i := 3) rfl)), (hw _ (List.mem_of_getElem? (i := 21) rfl))⟩)
  have E_Style_TAB_DELIMITED : Exa s s.heap a_Style_TAB_DELIMITED "com/example/unipar/unipar/Style" := Exa.start ev_Style_TAB_DELIMITED hn8
  obtain ⟨hn9, hnr9⟩ := and_e hnr8
  obtain ⟨a_Location_PATH, ev_Location_PATH⟩ := exa_v hn9
  have S_Location_PATH : Sta s s.heap "com/example/unipar/unipar/Location" "PATH" "Lcom/example/unipar/unipar/Location;" (.ref a_Location_PATH) := Sta.start ev_Location_PATH (Or.inr ⟨(hw _ (List.mem_of_getElem? (i := 26) rfl)), (hw _ (List.mem_of_getElem? (i := 27) rfl))⟩)
  have E_Location_PATH : Exa s s.heap a_Location_PATH "com/example/unipar/unipar/Location" := Exa.start ev_Location_PATH hn9
  obtain ⟨hn10, hnr10⟩ := and_e hnr9
  obtain ⟨a_Location_QUERY, ev_Location_QUERY⟩ := exa_v hn10
  have S_Location_QUERY : Sta s s.heap "com/example/unipar/unipar/Location" "QUERY" "Lcom/example/unipar/unipar/Location;" (.ref a_Location_QUERY) := Sta.start ev_Location_QUERY (Or.inr ⟨(hw _ (List.mem_of_getElem? (i := 26) rfl)), (hw _ (List.mem_of_getElem? (i := 30) rfl))⟩)
  have E_Location_QUERY : Exa s s.heap a_Location_QUERY "com/example/unipar/unipar/Location" := Exa.start ev_Location_QUERY hn10
  obtain ⟨hn11, hnr11⟩ := and_e hnr10
  obtain ⟨a_Location_QUERYSTRING, ev_Location_QUERYSTRING⟩ := exa_v hn11
  have S_Location_QUERYSTRING : Sta s s.heap "com/example/unipar/unipar/Location" "QUERYSTRING" "Lcom/example/unipar/unipar/Location;" (.ref a_Location_QUERYSTRING) := Sta.start ev_Location_QUERYSTRING (Or.inr ⟨(hw _ (List.mem_of_getElem? (i := 26) rfl)), (hw _ (List.mem_of_getElem? (i := 32) rfl))⟩)
  have E_Location_QUERYSTRING : Exa s s.heap a_Location_QUERYSTRING "com/example/unipar/unipar/Location" := Exa.start ev_Location_QUERYSTRING hn11
  obtain ⟨hn12, hnr12⟩ := and_e hnr11
  obtain ⟨a_Location_HEADER, ev_Location_HEADER⟩ := exa_v hn12
  have S_Location_HEADER : Sta s s.heap "com/example/unipar/unipar/Location" "HEADER" "Lcom/example/unipar/unipar/Location;" (.ref a_Location_HEADER) := Sta.start ev_Location_HEADER (Or.inr ⟨(hw _ (List.mem_of_getElem? (i := 26) rfl)), (hw _ (List.mem_of_getElem? (i := 34) rfl))⟩)
  have E_Location_HEADER : Exa s s.heap a_Location_HEADER "com/example/unipar/unipar/Location" := Exa.start ev_Location_HEADER hn12
  obtain ⟨hn13, hnr13⟩ := and_e hnr12
  obtain ⟨a_Location_COOKIE, ev_Location_COOKIE⟩ := exa_v hn13
  have S_Location_COOKIE : Sta s s.heap "com/example/unipar/unipar/Location" "COOKIE" "Lcom/example/unipar/unipar/Location;" (.ref a_Location_COOKIE) := Sta.start ev_Location_COOKIE (Or.inr ⟨(hw _ (List.mem_of_getElem? (i := 26) rfl)), (hw _ (List.mem_of_getElem? (i := 36) rfl))⟩)
  have E_Location_COOKIE : Exa s s.heap a_Location_COOKIE "com/example/unipar/unipar/Location" := Exa.start ev_Location_COOKIE hn13
  obtain ⟨hn14, hnr14⟩ := and_e hnr13
  obtain ⟨a_Location_FORM_DATA, ev_Location_FORM_DATA⟩ := exa_v hn14
  have S_Location_FORM_DATA : Sta s s.heap "com/example/unipar/unipar/Location" "FORM_DATA" "Lcom/example/unipar/unipar/Location;" (.ref a_Location_FORM_DATA) := Sta.start ev_Location_FORM_DATA (Or.inr ⟨(hw _ (List.mem_of_getElem? (i := 26) rfl)), (hw _ (List.mem_of_getElem? (i := 38) rfl))⟩)
  have E_Location_FORM_DATA : Exa s s.heap a_Location_FORM_DATA "com/example/unipar/unipar/Location" := Exa.start ev_Location_FORM_DATA hn14
  obtain ⟨hn15, hnr15⟩ := and_e hnr14
  have F_Style_MATRIX_ordinal : Fld s s.heap a_Style_MATRIX "java/lang/Enum" "ordinal" "I" (.int (0 : Int32)) := Fld.start ((fld_at ev_Style_MATRIX).symm.trans (own_eqv hn15))
  obtain ⟨hn16, hnr16⟩ := and_e hnr15
  have F_Style_FORM_ordinal : Fld s s.heap a_Style_FORM "java/lang/Enum" "ordinal" "I" (.int (2 : Int32)) := Fld.start ((fld_at ev_Style_FORM).symm.trans (own_eqv hn16))
  obtain ⟨hn17, hnr17⟩ := and_e hnr16
  have F_Style_COOKIE_ordinal : Fld s s.heap a_Style_COOKIE "java/lang/Enum" "ordinal" "I" (.int (7 : Int32)) := Fld.start ((fld_at ev_Style_COOKIE).symm.trans (own_eqv hn17))
  obtain ⟨hn18, hnr18⟩ := and_e hnr17
  -- hn18 : (Jvm.Cond.arrayOf (Jvm.Term.static "com/example/unipar/unipar/Style$1" "$SwitchMap$com$example$unipar$unipar$Location" "[I") Jvm.ClassFile.FieldType.i
  obtain ⟨hn19, hnr19⟩ := and_e hnr18
  -- hn19 : (Jvm.Cond.eq (Jvm.Term.length (Jvm.Term.static "com/example/unipar/unipar/Style$1" "$SwitchMap$com$example$unipar$unipar$Location" "[I")) (Jvm.Term.in
  obtain ⟨hn20, hnr20⟩ := and_e hnr19
  have F_Location_HEADER_ordinal : Fld s s.heap a_Location_HEADER "java/lang/Enum" "ordinal" "I" (.int (3 : Int32)) := Fld.start ((fld_at ev_Location_HEADER).symm.trans (own_eqv hn20))
  obtain ⟨hn21, hnr21⟩ := and_e hnr20
  have F_Style_SIMPLE_ordinal : Fld s s.heap a_Style_SIMPLE "java/lang/Enum" "ordinal" "I" (.int (3 : Int32)) := Fld.start ((fld_at ev_Style_SIMPLE).symm.trans (own_eqv hn21))
  obtain ⟨hn22, hnr22⟩ := and_e hnr21
  have F_Style_PIPE_DELIMITED_ordinal : Fld s s.heap a_Style_PIPE_DELIMITED "java/lang/Enum" "ordinal" "I" (.int (5 : Int32)) := Fld.start ((fld_at ev_Style_PIPE_DELIMITED).symm.trans (own_eqv hn22))
  obtain ⟨hn23, hnr23⟩ := and_e hnr22
  have F_Location_QUERY_ordinal : Fld s s.heap a_Location_QUERY "java/lang/Enum" "ordinal" "I" (.int (1 : Int32)) := Fld.start ((fld_at ev_Location_QUERY).symm.trans (own_eqv hn23))
  obtain ⟨hn24, hnr24⟩ := and_e hnr23
  have F_Location_FORM_DATA_ordinal : Fld s s.heap a_Location_FORM_DATA "java/lang/Enum" "ordinal" "I" (.int (5 : Int32)) := Fld.start ((fld_at ev_Location_FORM_DATA).symm.trans (own_eqv hn24))
  obtain ⟨hn25, hnr25⟩ := and_e hnr24
  have F_Location_QUERYSTRING_ordinal : Fld s s.heap a_Location_QUERYSTRING "java/lang/Enum" "ordinal" "I" (.int (2 : Int32)) := Fld.start ((fld_at ev_Location_QUERYSTRING).symm.trans (own_eqv hn25))
  obtain ⟨hn26, hnr26⟩ := and_e hnr25
  have F_Style_SPACE_DELIMITED_ordinal : Fld s s.heap a_Style_SPACE_DELIMITED "java/lang/Enum" "ordinal" "I" (.int (4 : Int32)) := Fld.start ((fld_at ev_Style_SPACE_DELIMITED).symm.trans (own_eqv hn26))
  obtain ⟨hn27, hnr27⟩ := and_e hnr26
  have F_Location_PATH_ordinal : Fld s s.heap a_Location_PATH "java/lang/Enum" "ordinal" "I" (.int (0 : Int32)) := Fld.start ((fld_at ev_Location_PATH).symm.trans (own_eqv hn27))
  obtain ⟨hn28, hnr28⟩ := and_e hnr27
  have F_Style_LABEL_ordinal : Fld s s.heap a_Style_LABEL "java/lang/Enum" "ordinal" "I" (.int (1 : Int32)) := Fld.start ((fld_at ev_Style_LABEL).symm.trans (own_eqv hn28))
  obtain ⟨hn29, hnr29⟩ := and_e hnr28
  have F_Style_DEEP_OBJECT_ordinal : Fld s s.heap a_Style_DEEP_OBJECT "java/lang/Enum" "ordinal" "I" (.int (6 : Int32)) := Fld.start ((fld_at ev_Style_DEEP_OBJECT).symm.trans (own_eqv hn29))
  obtain ⟨hn30, hnr30⟩ := and_e hnr29
  have F_Location_COOKIE_ordinal : Fld s s.heap a_Location_COOKIE "java/lang/Enum" "ordinal" "I" (.int (4 : Int32)) := Fld.start ((fld_at ev_Location_COOKIE).symm.trans (own_eqv hn30))
  obtain ⟨hn31, hnr31⟩ := and_e hnr30
  have F_Style_TAB_DELIMITED_ordinal : Fld s s.heap a_Style_TAB_DELIMITED "java/lang/Enum" "ordinal" "I" (.int (8 : Int32)) := Fld.start ((fld_at ev_Style_TAB_DELIMITED).symm.trans (own_eqv hn31))
  obtain ⟨hn32, hnr32⟩ := and_e hnr31
  -- hn32 : (Jvm.Cond.eq (Jvm.Term.elem (Jvm.Term.static "com/example/unipar/unipar/Style$1" "$SwitchMap$com$example$unipar$unipar$Location" "[I") (Jvm.Term.int (
  obtain ⟨hn33, hnr33⟩ := and_e hnr32
  -- hn33 : (Jvm.Cond.eq (Jvm.Term.elem (Jvm.Term.static "com/example/unipar/unipar/Style$1" "$SwitchMap$com$example$unipar$unipar$Location" "[I") (Jvm.Term.int (
  obtain ⟨hn34, hnr34⟩ := and_e hnr33
  -- hn34 : (Jvm.Cond.eq (Jvm.Term.elem (Jvm.Term.static "com/example/unipar/unipar/Style$1" "$SwitchMap$com$example$unipar$unipar$Location" "[I") (Jvm.Term.int (
  obtain ⟨hn35, hnr35⟩ := and_e hnr34
  -- hn35 : (Jvm.Cond.eq (Jvm.Term.elem (Jvm.Term.static "com/example/unipar/unipar/Style$1" "$SwitchMap$com$example$unipar$unipar$Location" "[I") (Jvm.Term.int (
  obtain ⟨hn36, hnr36⟩ := and_e hnr35
  -- hn36 : (Jvm.Cond.eq (Jvm.Term.elem (Jvm.Term.static "com/example/unipar/unipar/Style$1" "$SwitchMap$com$example$unipar$unipar$Location" "[I") (Jvm.Term.int (
  -- hnr36 : (Jvm.Cond.eq (Jvm.Term.elem (Jvm.Term.static "com/example/unipar/unipar/Style$1" "$SwitchMap$com$example$unipar$unipar$Location" "[I") (Jvm.Term.int (
  have ne_Style_MATRIX__Style_FORM : a_Style_MATRIX ≠ a_Style_FORM := Fld.ne F_Style_MATRIX_ordinal F_Style_FORM_ordinal (by decide)
  have ne_Style_MATRIX__Style_COOKIE : a_Style_MATRIX ≠ a_Style_COOKIE := Fld.ne F_Style_MATRIX_ordinal F_Style_COOKIE_ordinal (by decide)
  have ne_Style_LABEL__Style_FORM : a_Style_LABEL ≠ a_Style_FORM := Fld.ne F_Style_LABEL_ordinal F_Style_FORM_ordinal (by decide)
  have ne_Style_LABEL__Style_COOKIE : a_Style_LABEL ≠ a_Style_COOKIE := Fld.ne F_Style_LABEL_ordinal F_Style_COOKIE_ordinal (by decide)
  have ne_Style_FORM__Style_SIMPLE : a_Style_FORM ≠ a_Style_SIMPLE := Fld.ne F_Style_FORM_ordinal F_Style_SIMPLE_ordinal (by decide)
  have ne_Style_FORM__Style_SPACE_DELIMITED : a_Style_FORM ≠ a_Style_SPACE_DELIMITED := Fld.ne F_Style_FORM_ordinal F_Style_SPACE_DELIMITED_ordinal (by decide)
  have ne_Style_FORM__Style_PIPE_DELIMITED : a_Style_FORM ≠ a_Style_PIPE_DELIMITED := Fld.ne F_Style_FORM_ordinal F_Style_PIPE_DELIMITED_ordinal (by decide)
  have ne_Style_FORM__Style_DEEP_OBJECT : a_Style_FORM ≠ a_Style_DEEP_OBJECT := Fld.ne F_Style_FORM_ordinal F_Style_DEEP_OBJECT_ordinal (by decide)
  have ne_Style_FORM__Style_COOKIE : a_Style_FORM ≠ a_Style_COOKIE := Fld.ne F_Style_FORM_ordinal F_Style_COOKIE_ordinal (by decide)
  have ne_Style_FORM__Style_TAB_DELIMITED : a_Style_FORM ≠ a_Style_TAB_DELIMITED := Fld.ne F_Style_FORM_ordinal F_Style_TAB_DELIMITED_ordinal (by decide)
  have ne_Style_SIMPLE__Style_COOKIE : a_Style_SIMPLE ≠ a_Style_COOKIE := Fld.ne F_Style_SIMPLE_ordinal F_Style_COOKIE_ordinal (by decide)
  have ne_Style_SPACE_DELIMITED__Style_COOKIE : a_Style_SPACE_DELIMITED ≠ a_Style_COOKIE := Fld.ne F_Style_SPACE_DELIMITED_ordinal F_Style_COOKIE_ordinal (by decide)
  have ne_Style_PIPE_DELIMITED__Style_COOKIE : a_Style_PIPE_DELIMITED ≠ a_Style_COOKIE := Fld.ne F_Style_PIPE_DELIMITED_ordinal F_Style_COOKIE_ordinal (by decide)
  have ne_Style_DEEP_OBJECT__Style_COOKIE : a_Style_DEEP_OBJECT ≠ a_Style_COOKIE := Fld.ne F_Style_DEEP_OBJECT_ordinal F_Style_COOKIE_ordinal (by decide)
  have ne_Style_COOKIE__Style_TAB_DELIMITED : a_Style_COOKIE ≠ a_Style_TAB_DELIMITED := Fld.ne F_Style_COOKIE_ordinal F_Style_TAB_DELIMITED_ordinal (by decide)
  obtain ⟨a_M, evM⟩ := arr_v hn18
  obtain ⟨clM, AM⟩ := Arr.start evM hn18
  have haM := AM.fin (Vm.Alike.refl _)
  have SM : Sta s s.heap "com/example/unipar/unipar/Style$1" "$SwitchMap$com$example$unipar$unipar$Location" "[I" (.ref a_M) := Sta.start evM (Or.inr ⟨(hw _ (List.mem_of_getElem? (i := 51) rfl)), (hw _ (List.mem_of_getElem? (i := 52) rfl))⟩)
  obtain ⟨lM1, lM2⟩ := own_len evM haM (own_eqv hn19)
  have m0 : clM.slots[0]? = some (.int (4 : Int32)) := (elem_f evM (Term.int_eval (0 : Int32)) haM (by decide)).symm.trans (own_eqv hn32)
  have m1 : clM.slots[1]? = some (.int (1 : Int32)) := (elem_f evM (Term.int_eval (1 : Int32)) haM (by decide)).symm.trans (own_eqv hn33)
  have m2 : clM.slots[2]? = some (.int (6 : Int32)) := (elem_f evM (Term.int_eval (2 : Int32)) haM (by decide)).symm.trans (own_eqv hn34)
  have m3 : clM.slots[3]? = some (.int (5 : Int32)) := (elem_f evM (Term.int_eval (3 : Int32)) haM (by decide)).symm.trans (own_eqv hn35)
  have m4 : clM.slots[4]? = some (.int (2 : Int32)) := (elem_f evM (Term.int_eval (4 : Int32)) haM (by decide)).symm.trans (own_eqv hn36)
  have m5 : clM.slots[5]? = some (.int (3 : Int32)) := (elem_f evM (Term.int_eval (5 : Int32)) haM (by decide)).symm.trans (own_eqv hnr36)
  have VM : Arv s s.heap a_M clM.cls .int (6 : Int32) [(.int (4 : Int32)), (.int (1 : Int32)), (.int (6 : Int32)), (.int (5 : Int32)), (.int (2 : Int32)), (.int (3 : Int32))] (.int (0 : Int32)) := Arv.start hfit AM lM1 lM2 (by decide) rfl ⟨m0, m1, m2, m3, m4, m5, trivial⟩
  obtain ⟨n, o, h1, h2, h3, _, L, rfl, ⟨rfl, N⟩, hq⟩ := own_rm0 l s _ hw tables_1 i0 i1 a_Style_MATRIX a_Style_LABEL a_Style_FORM a_Style_SIMPLE a_Style_SPACE_DELIMITED a_Style_PIPE_DELIMITED a_Style_DEEP_OBJECT a_Style_COOKIE a_Style_TAB_DELIMITED a_Location_PATH a_Location_QUERY a_Location_QUERYSTRING a_Location_HEADER a_Location_COOKIE a_Location_FORM_DATA a_M clM.cls s.heap s.heap.size (Nat.le_refl _) (Old.start s) S_Style_MATRIX E_Style_MATRIX S_Style_LABEL E_Style_LABEL S_Style_FORM E_Style_FORM S_Style_SIMPLE E_Style_SIMPLE S_Style_SPACE_DELIMITED E_Style_SPACE_DELIMITED S_Style_PIPE_DELIMITED E_Style_PIPE_DELIMITED S_Style_DEEP_OBJECT E_Style_DEEP_OBJECT S_Style_COOKIE E_Style_COOKIE S_Style_TAB_DELIMITED E_Style_TAB_DELIMITED S_Location_PATH E_Location_PATH S_Location_QUERY E_Location_QUERY S_Location_QUERYSTRING E_Location_QUERYSTRING S_Location_HEADER E_Location_HEADER S_Location_COOKIE E_Location_COOKIE S_Location_FORM_DATA E_Location_FORM_DATA F_Style_MATRIX_ordinal F_Style_FORM_ordinal F_Style_COOKIE_ordinal F_Location_HEADER_ordinal F_Style_SIMPLE_ordinal F_Style_PIPE_DELIMITED_ordinal F_Location_QUERY_ordinal F_Location_FORM_DATA_ordinal F_Location_QUERYSTRING_ordinal F_Style_SPACE_DELIMITED_ordinal F_Location_PATH_ordinal F_Style_LABEL_ordinal F_Style_DEEP_OBJECT_ordinal F_Location_COOKIE_ordinal F_Style_TAB_DELIMITED_ordinal ne_Style_MATRIX__Style_FORM ne_Style_MATRIX__Style_COOKIE ne_Style_LABEL__Style_FORM ne_Style_LABEL__Style_COOKIE ne_Style_FORM__Style_SIMPLE ne_Style_FORM__Style_SPACE_DELIMITED ne_Style_FORM__Style_PIPE_DELIMITED ne_Style_FORM__Style_DEEP_OBJECT ne_Style_FORM__Style_COOKIE ne_Style_FORM__Style_TAB_DELIMITED ne_Style_SIMPLE__Style_COOKIE ne_Style_SPACE_DELIMITED__Style_COOKIE ne_Style_PIPE_DELIMITED__Style_COOKIE ne_Style_DEEP_OBJECT__Style_COOKIE ne_Style_COOKIE__Style_TAB_DELIMITED SM VM p e ha hc hk s m _ below hf ((Spec.applies_iff_loose hf).mp happ).1 ⟨rfl, State.Warmed39.refl s, rfl⟩ trivial
  refine ⟨n, _, h1, h2, h3, hpost _ _ _ _ _ _ ⟨Cond.after_iff.mpr rfl, Cond.after_iff.mpr (eq_i res_at (Term.int_eval (1)) rfl), trivial⟩ ⟨hq.1, hq.2.1, (hq.2.2.sift fun y hy => Or.inr (N y hy)).mono (by decide) (by decide)⟩⟩
theorem main_1_1 : Claimed_1_1 := comes_1 fun _ _ _ _ _ _ h hF => ⟨h.1, hF⟩
theorem main_1_2 : Claimed_1_2 := comes_1 fun _ _ _ _ _ _ h hF => ⟨h.2.1, hF⟩
end Jvm.Pilot.@@N@@
namespace Jvm.Pilot.@@N@@
open Jvm Jvm.ClassFile Sem Op Lib Jvm.Free Jvm.Stand Jvm.Pilot.@@N@@.Jvm.D
/-! MADE BY PROGRAM (witnessworld.py) out of the Statement's table words and the real class files: 18 classes; the members and pool entries that the words name. The judged class is class 1, her method 1. -/
namespace start1
open Jvm.ClassFile
def u (s : String) : CpInfo := .utf8 (stringToUtf16 s)
/-- a pool by its gaps: so many unusable entries, then the entry; so many at the end -/
def gap : Nat → List CpInfo → List CpInfo
  | 0, r => r
  | n + 1, r => .unusable :: gap n r
def poolList (es : List (Nat × CpInfo)) (last : Nat) : List CpInfo := es.foldr (fun e r => gap e.1 (e.2 :: r)) (gap last [])
def pool (es : List (Nat × CpInfo)) (last : Nat) : Array CpInfo := ⟨poolList es last⟩
def fileOf (pool : Array CpInfo) (this : Nat) (attrs : Array Attribute := #[]) (ms : Array MethodInfo := #[]) (fl : Nat := 33) (sup : Nat := 0) (ifs : Array Nat := #[]) (fds : Array FieldInfo := #[]) : ClassFile where
  minorVersion := 0
  majorVersion := 65
  constantPool := pool
  accessFlags := fl
  thisClass := this
  superClass := sup
  interfaces := ifs
  fields := fds
  methods := ms
  attributes := attrs
def plain (name : String) (sup : Option ClassId) : Class where
  name := name
  kind := .ordinary
  loader := none
  accessFlags := 33
  super := sup
  interfaces := #[]
  cf := none
  fields := #[]
  methods := #[]
  instanceTypes := #[]
  staticTypes := #[]
  resolved := #[]
  callSites := []
  init := .initialized
  statics := none
  mirror := none

def pool0 : Array CpInfo := pool [(5, u "<init>"), (0, u "()V"), (1, .class_ 10), (1, u "java/lang/Object")] 113

def k0m0 : Method := { name := "<init>", desc := "()V", sig := { parameters := [], returnType := none }, accessFlags := 1, code := none }
/-- java/lang/Object -/
def k0 : Class := { plain "java/lang/Object" none with
  accessFlags := 33
  interfaces := #[]
  cf := some (fileOf pool0 8 #[] #[{ accessFlags := 1, nameIndex := 5, descriptorIndex := 6, attributes := #[] }] 33 0 #[] #[])
  fields := #[]
  methods := #[k0m0]
  instanceTypes := #[]
  staticTypes := #[]
  resolved := Array.replicate 124 none
  statics := none }

def pool1 : Array CpInfo := pool [(2, .class_ 4), (1, u "java/lang/Object"), (0, u "<init>"), (0, u "()V"), (0, .class_ 8), (0, u "com/example/unipar/unipar/Style"), (0, .fieldref 7 10), (0, .nameAndType 11 12), (0, u "MATRIX"), (0, u "Lcom/example/unipar/unipar/Style;"), (0, .fieldref 7 14), (0, .nameAndType 15 12), (0, u "LABEL"), (0, .fieldref 7 17), (0, .nameAndType 18 12), (0, u "FORM"), (0, .fieldref 7 20), (0, .nameAndType 21 12), (0, u "SIMPLE"), (0, .fieldref 7 23), (0, .nameAndType 24 12), (0, u "SPACE_DELIMITED"), (0, .fieldref 7 26), (0, .nameAndType 27 12), (0, u "PIPE_DELIMITED"), (0, .fieldref 7 29), (0, .nameAndType 30 12), (0, u "DEEP_OBJECT"), (0, .fieldref 7 32), (0, .nameAndType 33 12), (0, u "COOKIE"), (0, .fieldref 7 35), (0, .nameAndType 36 12), (0, u "TAB_DELIMITED"), (0, .class_ 38), (0, u "com/example/unipar/unipar/Location"), (0, .fieldref 37 40), (0, .nameAndType 41 42), (0, u "PATH"), (0, u "Lcom/example/unipar/unipar/Location;"), (0, .fieldref 37 44), (0, .nameAndType 45 42), (0, u "QUERY"), (0, .fieldref 37 47), (0, .nameAndType 48 42), (0, u "QUERYSTRING"), (0, .fieldref 37 50), (0, .nameAndType 51 42), (0, u "HEADER"), (0, .fieldref 37 53), (0, .nameAndType 33 42), (0, .fieldref 37 55), (0, .nameAndType 56 42), (0, u "FORM_DATA"), (0, .integer 2147483647), (0, .methodref 7 59), (0, .nameAndType 60 61), (0, u "explodesByDefault"), (0, u "()Z"), (0, .methodref 7 63), (0, .nameAndType 64 65), (0, u "defaultFor"), (0, u "(Lcom/example/unipar/unipar/Location;)Lcom/example/unipar/unipar/Style;"), (0, .class_ 67), (0, u "com/example/unipar/unipar/StyleExplodesByDefaultPinLaw"), (2, u "law"), (0, u "(II)Z")] 9

def k1m0 : Method := { name := "<init>", desc := "()V", sig := { parameters := [], returnType := none }, accessFlags := 2, code := none }
def k1c1 : Code := { maxStack := 4, maxLocals := 10, code := code, exceptionTable := #[], attributes := #[] }
def k1m1 : Method := { name := "law", desc := "(II)Z", sig := { parameters := [.int, .int], returnType := some .boolean }, accessFlags := 9, code := some k1c1 }
/-- com/example/unipar/unipar/StyleExplodesByDefaultPinLaw -/
def k1 : Class := { plain "com/example/unipar/unipar/StyleExplodesByDefaultPinLaw" (some 0) with
  accessFlags := 49
  interfaces := #[]
  cf := some (fileOf pool1 66 #[] #[{ accessFlags := 2, nameIndex := 5, descriptorIndex := 6, attributes := #[] }, { accessFlags := 9, nameIndex := 70, descriptorIndex := 71, attributes := #[] }] 49 2 #[] #[])
  fields := #[]
  methods := #[k1m0, k1m1]
  instanceTypes := #[]
  staticTypes := #[]
  resolved := Array.replicate 81 none
  statics := none }

def pool2 : Array CpInfo := pool [(1, .class_ 2), (0, u "java/lang/constant/Constable"), (0, .class_ 4), (0, u "java/lang/Object")] 6

/-- java/lang/constant/Constable -/
def k2 : Class := { plain "java/lang/constant/Constable" (some 0) with
  accessFlags := 1537
  interfaces := #[]
  cf := some (fileOf pool2 1 #[] #[] 1537 3 #[] #[])
  fields := #[]
  methods := #[]
  instanceTypes := #[]
  staticTypes := #[]
  resolved := Array.replicate 11 none
  statics := none }

def pool3 : Array CpInfo := pool [(1, .class_ 2), (0, u "java/lang/Comparable"), (0, .class_ 4), (0, u "java/lang/Object")] 7

/-- java/lang/Comparable -/
def k3 : Class := { plain "java/lang/Comparable" (some 0) with
  accessFlags := 1537
  interfaces := #[]
  cf := some (fileOf pool3 1 #[] #[] 1537 3 #[] #[])
  fields := #[]
  methods := #[]
  instanceTypes := #[]
  staticTypes := #[]
  resolved := Array.replicate 12 none
  statics := none }

def pool4 : Array CpInfo := pool [(1, .class_ 2), (0, u "java/io/Serializable"), (0, .class_ 4), (0, u "java/lang/Object")] 2

/-- java/io/Serializable -/
def k4 : Class := { plain "java/io/Serializable" (some 0) with
  accessFlags := 1537
  interfaces := #[]
  cf := some (fileOf pool4 1 #[] #[] 1537 3 #[] #[])
  fields := #[]
  methods := #[]
  instanceTypes := #[]
  staticTypes := #[]
  resolved := Array.replicate 7 none
  statics := none }

def pool5 : Array CpInfo := pool [(2, .class_ 4), (1, u "java/lang/Enum"), (0, u "name"), (0, u "Ljava/lang/String;"), (0, .fieldref 2 8), (0, .nameAndType 9 10), (0, u "ordinal"), (0, u "I"), (1, .class_ 14), (1, u "java/lang/Object"), (4, u "hash"), (86, .class_ 108), (1, u "java/lang/Enum$EnumDesc"), (2, .class_ 112), (0, u "java/lang/constant/Constable"), (0, .class_ 114), (0, u "java/lang/Comparable"), (0, .class_ 116), (0, u "java/io/Serializable"), (9, u "()I")] 77

def k5c0 : Code := { maxStack := 1, maxLocals := 1, code := jdk_37_method_2_code, exceptionTable := #[], attributes := #[] }
def k5m0 : Method := { name := "ordinal", desc := "()I", sig := { parameters := [], returnType := some .int }, accessFlags := 17, code := some k5c0 }
/-- java/lang/Enum -/
def k5 : Class := { plain "java/lang/Enum" (some 0) with
  accessFlags := 1057
  interfaces := #[2, 3, 4]
  cf := some (fileOf pool5 2 #[.nestMembers #[106]] #[{ accessFlags := 17, nameIndex := 9, descriptorIndex := 126, attributes := #[] }] 1057 12 #[111, 113, 115] #[{ accessFlags := 18, nameIndex := 5, descriptorIndex := 6, attributes := #[] }, { accessFlags := 18, nameIndex := 9, descriptorIndex := 10, attributes := #[] }, { accessFlags := 2, nameIndex := 19, descriptorIndex := 10, attributes := #[] }])
  fields := #[{ name := "name", type := (.object "java/lang/String"), accessFlags := 18, slot := 0, constantValue := 0 }, { name := "ordinal", type := .int, accessFlags := 18, slot := 1, constantValue := 0 }, { name := "hash", type := .int, accessFlags := 2, slot := 2, constantValue := 0 }]
  methods := #[k5m0]
  instanceTypes := #[(.object "java/lang/String"), .int, .int]
  staticTypes := #[]
  resolved := Array.replicate 204 none
  statics := none }

def pool6 : Array CpInfo := pool [(1, .class_ 2), (0, u "com/example/unipar/unipar/Style"), (2, u "MATRIX"), (0, u "Lcom/example/unipar/unipar/Style;"), (2, u "LABEL"), (0, .fieldref 1 11), (0, .nameAndType 12 6), (0, u "FORM"), (0, .fieldref 1 14), (0, .nameAndType 15 6), (0, u "SIMPLE"), (2, u "SPACE_DELIMITED"), (2, u "PIPE_DELIMITED"), (2, u "DEEP_OBJECT"), (0, .fieldref 1 26), (0, .nameAndType 27 6), (0, u "COOKIE"), (2, u "TAB_DELIMITED"), (2, u "$VALUES"), (0, u "[Lcom/example/unipar/unipar/Style;"), (6, .class_ 43), (1, u "java/lang/Enum"), (6, .fieldref 51 52), (0, .class_ 53), (0, .nameAndType 54 55), (0, u "com/example/unipar/unipar/Style$1"), (0, u "$SwitchMap$com$example$unipar$unipar$Location"), (0, u "[I"), (0, .methodref 57 58), (0, .class_ 59), (0, .nameAndType 60 61), (0, u "com/example/unipar/unipar/Location"), (0, u "ordinal"), (0, u "()I"), (26, u "defaultFor"), (0, u "(Lcom/example/unipar/unipar/Location;)Lcom/example/unipar/unipar/Style;"), (1, u "explodesByDefault"), (0, u "()Z")] 6

def k6c0 : Code := { maxStack := 4, maxLocals := 1, code := prog_47_method_4_code, exceptionTable := #[], attributes := #[] }
def k6m0 : Method := { name := "defaultFor", desc := "(Lcom/example/unipar/unipar/Location;)Lcom/example/unipar/unipar/Style;", sig := { parameters := [(.object "com/example/unipar/unipar/Location")], returnType := some (.object "com/example/unipar/unipar/Style") }, accessFlags := 8, code := some k6c0 }
def k6c1 : Code := { maxStack := 2, maxLocals := 1, code := prog_47_method_5_code, exceptionTable := #[], attributes := #[] }
def k6m1 : Method := { name := "explodesByDefault", desc := "()Z", sig := { parameters := [], returnType := some .boolean }, accessFlags := 0, code := some k6c1 }
/-- com/example/unipar/unipar/Style -/
def k6 : Class := { plain "com/example/unipar/unipar/Style" (some 5) with
  accessFlags := 16433
  interfaces := #[]
  cf := some (fileOf pool6 1 #[.nestMembers #[51]] #[{ accessFlags := 8, nameIndex := 88, descriptorIndex := 89, attributes := #[] }, { accessFlags := 0, nameIndex := 91, descriptorIndex := 92, attributes := #[] }] 16433 41 #[] #[{ accessFlags := 16409, nameIndex := 5, descriptorIndex := 6, attributes := #[] }, { accessFlags := 16409, nameIndex := 9, descriptorIndex := 6, attributes := #[] }, { accessFlags := 16409, nameIndex := 12, descriptorIndex := 6, attributes := #[] }, { accessFlags := 16409, nameIndex := 15, descriptorIndex := 6, attributes := #[] }, { accessFlags := 16409, nameIndex := 18, descriptorIndex := 6, attributes := #[] }, { accessFlags := 16409, nameIndex := 21, descriptorIndex := 6, attributes := #[] }, { accessFlags := 16409, nameIndex := 24, descriptorIndex := 6, attributes := #[] }, { accessFlags := 16409, nameIndex := 27, descriptorIndex := 6, attributes := #[] }, { accessFlags := 16409, nameIndex := 30, descriptorIndex := 6, attributes := #[] }, { accessFlags := 4122, nameIndex := 33, descriptorIndex := 34, attributes := #[] }])
  fields := #[{ name := "MATRIX", type := (.object "com/example/unipar/unipar/Style"), accessFlags := 16409, slot := 0, constantValue := 0 }, { name := "LABEL", type := (.object "com/example/unipar/unipar/Style"), accessFlags := 16409, slot := 1, constantValue := 0 }, { name := "FORM", type := (.object "com/example/unipar/unipar/Style"), accessFlags := 16409, slot := 2, constantValue := 0 }, { name := "SIMPLE", type := (.object "com/example/unipar/unipar/Style"), accessFlags := 16409, slot := 3, constantValue := 0 }, { name := "SPACE_DELIMITED", type := (.object "com/example/unipar/unipar/Style"), accessFlags := 16409, slot := 4, constantValue := 0 }, { name := "PIPE_DELIMITED", type := (.object "com/example/unipar/unipar/Style"), accessFlags := 16409, slot := 5, constantValue := 0 }, { name := "DEEP_OBJECT", type := (.object "com/example/unipar/unipar/Style"), accessFlags := 16409, slot := 6, constantValue := 0 }, { name := "COOKIE", type := (.object "com/example/unipar/unipar/Style"), accessFlags := 16409, slot := 7, constantValue := 0 }, { name := "TAB_DELIMITED", type := (.object "com/example/unipar/unipar/Style"), accessFlags := 16409, slot := 8, constantValue := 0 }, { name := "$VALUES", type := (.array (.object "com/example/unipar/unipar/Style")), accessFlags := 4122, slot := 9, constantValue := 0 }]
  methods := #[k6m0, k6m1]
  instanceTypes := #[(.object "java/lang/String"), .int, .int]
  staticTypes := #[(.object "com/example/unipar/unipar/Style"), (.object "com/example/unipar/unipar/Style"), (.object "com/example/unipar/unipar/Style"), (.object "com/example/unipar/unipar/Style"), (.object "com/example/unipar/unipar/Style"), (.object "com/example/unipar/unipar/Style"), (.object "com/example/unipar/unipar/Style"), (.object "com/example/unipar/unipar/Style"), (.object "com/example/unipar/unipar/Style"), (.array (.object "com/example/unipar/unipar/Style"))]
  resolved := Array.replicate 99 none
  statics := some 0 }

def pool7 : Array CpInfo := pool [(1, .class_ 2), (0, u "com/example/unipar/unipar/Location"), (2, u "PATH"), (0, u "Lcom/example/unipar/unipar/Location;"), (2, u "QUERY"), (2, u "QUERYSTRING"), (2, u "HEADER"), (2, u "COOKIE"), (2, u "FORM_DATA"), (2, u "$VALUES"), (0, u "[Lcom/example/unipar/unipar/Location;"), (6, .class_ 34), (1, u "java/lang/Enum"), (8, u "openApiName"), (0, u "Ljava/lang/String;")] 61

/-- com/example/unipar/unipar/Location -/
def k7 : Class := { plain "com/example/unipar/unipar/Location" (some 5) with
  accessFlags := 16433
  interfaces := #[]
  cf := some (fileOf pool7 1 #[] #[] 16433 32 #[] #[{ accessFlags := 16409, nameIndex := 5, descriptorIndex := 6, attributes := #[] }, { accessFlags := 16409, nameIndex := 9, descriptorIndex := 6, attributes := #[] }, { accessFlags := 16409, nameIndex := 12, descriptorIndex := 6, attributes := #[] }, { accessFlags := 16409, nameIndex := 15, descriptorIndex := 6, attributes := #[] }, { accessFlags := 16409, nameIndex := 18, descriptorIndex := 6, attributes := #[] }, { accessFlags := 16409, nameIndex := 21, descriptorIndex := 6, attributes := #[] }, { accessFlags := 18, nameIndex := 43, descriptorIndex := 44, attributes := #[] }, { accessFlags := 4122, nameIndex := 24, descriptorIndex := 25, attributes := #[] }])
  fields := #[{ name := "PATH", type := (.object "com/example/unipar/unipar/Location"), accessFlags := 16409, slot := 0, constantValue := 0 }, { name := "QUERY", type := (.object "com/example/unipar/unipar/Location"), accessFlags := 16409, slot := 1, constantValue := 0 }, { name := "QUERYSTRING", type := (.object "com/example/unipar/unipar/Location"), accessFlags := 16409, slot := 2, constantValue := 0 }, { name := "HEADER", type := (.object "com/example/unipar/unipar/Location"), accessFlags := 16409, slot := 3, constantValue := 0 }, { name := "COOKIE", type := (.object "com/example/unipar/unipar/Location"), accessFlags := 16409, slot := 4, constantValue := 0 }, { name := "FORM_DATA", type := (.object "com/example/unipar/unipar/Location"), accessFlags := 16409, slot := 5, constantValue := 0 }, { name := "openApiName", type := (.object "java/lang/String"), accessFlags := 18, slot := 3, constantValue := 0 }, { name := "$VALUES", type := (.array (.object "com/example/unipar/unipar/Location")), accessFlags := 4122, slot := 6, constantValue := 0 }]
  methods := #[]
  instanceTypes := #[(.object "java/lang/String"), .int, .int, (.object "java/lang/String")]
  staticTypes := #[(.object "com/example/unipar/unipar/Location"), (.object "com/example/unipar/unipar/Location"), (.object "com/example/unipar/unipar/Location"), (.object "com/example/unipar/unipar/Location"), (.object "com/example/unipar/unipar/Location"), (.object "com/example/unipar/unipar/Location"), (.array (.object "com/example/unipar/unipar/Location"))]
  resolved := Array.replicate 106 none
  statics := some 1 }

def pool8 : Array CpInfo := pool [(8, .class_ 10), (1, u "com/example/unipar/unipar/Style$1"), (0, u "$SwitchMap$com$example$unipar$unipar$Location"), (0, u "[I"), (25, .class_ 39), (0, u "java/lang/Object"), (8, .class_ 49), (0, u "com/example/unipar/unipar/Style")] 2

/-- com/example/unipar/unipar/Style$1 -/
def k8 : Class := { plain "com/example/unipar/unipar/Style$1" (some 0) with
  accessFlags := 4128
  interfaces := #[]
  cf := some (fileOf pool8 8 #[.nestHost 48] #[] 4128 38 #[] #[{ accessFlags := 4120, nameIndex := 11, descriptorIndex := 12, attributes := #[] }])
  fields := #[{ name := "$SwitchMap$com$example$unipar$unipar$Location", type := (.array .int), accessFlags := 4120, slot := 0, constantValue := 0 }]
  methods := #[]
  instanceTypes := #[]
  staticTypes := #[(.array .int)]
  resolved := Array.replicate 52 none
  statics := some 2 }

def pool9 : Array CpInfo := pool [(1, u "java/lang/Cloneable"), (0, .class_ 1), (0, u "java/lang/Object"), (0, .class_ 3)] 3

/-- java/lang/Cloneable -/
def k9 : Class := { plain "java/lang/Cloneable" (some 0) with
  accessFlags := 1537
  interfaces := #[]
  cf := some (fileOf pool9 2 #[] #[] 1537 4 #[] #[])
  fields := #[]
  methods := #[]
  instanceTypes := #[]
  staticTypes := #[]
  resolved := Array.replicate 8 none
  statics := none }

/-- the primitive boolean -/
def k10 : Class := { plain "boolean" none with kind := .primitive 'Z', accessFlags := 0x411 }
/-- [Z -/
def k11 : Class := { plain "[Z" (some 0) with kind := .array 10 .boolean, interfaces := #[9, 4], accessFlags := 1041 }

/-- the primitive byte -/
def k12 : Class := { plain "byte" none with kind := .primitive 'B', accessFlags := 0x411 }
/-- [B -/
def k13 : Class := { plain "[B" (some 0) with kind := .array 12 .byte, interfaces := #[9, 4], accessFlags := 1041 }

/-- the primitive int -/
def k14 : Class := { plain "int" none with kind := .primitive 'I', accessFlags := 0x411 }
/-- [I -/
def k15 : Class := { plain "[I" (some 0) with kind := .array 14 .int, interfaces := #[9, 4], accessFlags := 1041 }

/-- [Lcom/example/unipar/unipar/Location; -/
def k16 : Class := { plain "[Lcom/example/unipar/unipar/Location;" (some 0) with kind := .array 7 (.object "com/example/unipar/unipar/Location"), interfaces := #[9, 4], accessFlags := 1041 }

/-- [Lcom/example/unipar/unipar/Style; -/
def k17 : Class := { plain "[Lcom/example/unipar/unipar/Style;" (some 0) with kind := .array 6 (.object "com/example/unipar/unipar/Style"), interfaces := #[9, 4], accessFlags := 1041 }

def heap : Heap := #[{ cls := 6, slots := #[.ref 3, .ref 4, .ref 5, .ref 6, .ref 7, .ref 8, .ref 9, .ref 10, .ref 11, .null], vm := .statics 6 },
  { cls := 7, slots := #[.ref 12, .ref 13, .ref 14, .ref 15, .ref 16, .ref 17, .null], vm := .statics 7 },
  { cls := 8, slots := #[.ref 18], vm := .statics 8 },
  { cls := 6, slots := #[.null, .int 0, .int 0], vm := .none },
  { cls := 6, slots := #[.null, .int 1, .int 0], vm := .none },
  { cls := 6, slots := #[.null, .int 2, .int 0], vm := .none },
  { cls := 6, slots := #[.null, .int 3, .int 0], vm := .none },
  { cls := 6, slots := #[.null, .int 4, .int 0], vm := .none },
  { cls := 6, slots := #[.null, .int 5, .int 0], vm := .none },
  { cls := 6, slots := #[.null, .int 6, .int 0], vm := .none },
  { cls := 6, slots := #[.null, .int 7, .int 0], vm := .none },
  { cls := 6, slots := #[.null, .int 8, .int 0], vm := .none },
  { cls := 7, slots := #[.null, .int 0, .int 0, .null], vm := .none },
  { cls := 7, slots := #[.null, .int 1, .int 0, .null], vm := .none },
  { cls := 7, slots := #[.null, .int 2, .int 0, .null], vm := .none },
  { cls := 7, slots := #[.null, .int 3, .int 0, .null], vm := .none },
  { cls := 7, slots := #[.null, .int 4, .int 0, .null], vm := .none },
  { cls := 7, slots := #[.null, .int 5, .int 0, .null], vm := .none },
  { cls := 15, slots := #[.int 4, .int 1, .int 6, .int 5, .int 2, .int 3], vm := .none }]
def classes : Array Class := #[k0, k1, k2, k3, k4, k5, k6, k7, k8, k9, k10, k11, k12, k13, k14, k15, k16, k17]
def interned : List (Array UInt16 × Addr) := []
def slotsUsed : Nat := 75
def theMethod : MethodId := ⟨1, 1⟩
def args0 : Array Value := #[.int 3, .int 5]
def aboutOver (below : List Frame) : State where
  vm := { classes := classes, interned := interned.toArray }
  heap := heap
  slotsUsed := slotsUsed
  threads := #[{ frames := .invoking theMethod args0 :: below }]
def below0 : List Frame := [.native { method := ⟨0, 0⟩, args := #[] }]
def about1 : State := aboutOver below0
def p0 : Program := .bare "" "" ""
def e0 : Env := launch0.env 0 0 0
theorem w_frames : about1.frames = Frame.invoking theMethod args0 :: below0 := rfl
set_option maxRecDepth 65536 in
theorem w_args : argsFit about1.vm theMethod args0 = true := by decide +kernel
set_option maxRecDepth 65536 in
theorem w_heap : heapFits about1 = true := by decide +kernel
set_option maxRecDepth 65536 in
theorem w_runnable : about1.curStatus? = some .runnable := by decide +kernel
set_option maxRecDepth 65536 in
theorem w_alone : about1.alone = true := by decide +kernel
set_option maxRecDepth 65536 in
theorem w_named : about1.methodNamed? x = some theMethod := by decide +kernel
set_option maxRecDepth 65536 in
theorem w_hears : about1.hears theMethod below0 = true := by decide +kernel
set_option maxRecDepth 65536 in
theorem w_ripe : about1.ripe theMethod args0 below0 = true := by decide +kernel
theorem w_running : about1.status = .running := rfl
set_option maxRecDepth 65536 in
theorem w_room : about1.hasRoom e0.platform room_1 = true :=
  launch0.hasRoom_least _ room_1 (by decide +kernel) (by decide +kernel) (by decide +kernel) (by decide +kernel) (by decide +kernel) (by decide +kernel)
theorem allAtoms_all (ts : List Jvm.Cond) (a : Array Jvm.Value) (st : Jvm.State) : (allAtoms ts).before a st = ts.all (fun c => c.before a st) := by
  induction ts with
  | nil => rfl
  | cons c t ih =>
    show (Jvm.Cond.and c (allAtoms t)).before a st = _
    rw [Jvm.Cond.before_and, ih, List.all_cons]
def words1 : List Jvm.Cond := Jvm.Cond.code x code maxLocals ret :: tables_1
/-- a 'code' word, met by the world's own term for the bytes: nothing is compared byte by byte -/
theorem code_word {y : MethodName} {bytes : ByteArray} {mx : Nat} {rt : Option FieldType} {a : Array Value} {s : State} {m : MethodId} {meth : Method} {c : Code} (h1 : s.methodNamed? y = some m) (h2 : s.vm.method? m = some meth) (h3 : meth.code = some c) (h4 : c.code = bytes)
    (h5 : (c.maxLocals == mx && c.exceptionTable.isEmpty && decide (c.maxStack ≤ mostOperands) && decide (meth.sig.returnType = rt) && !meth.locks && decide (parseMethodDescriptor y.desc = some meth.sig)) = true) : (Jvm.Cond.code y bytes mx rt).before a s = true := by
  simp only [Bool.and_eq_true, beq_iff_eq, Bool.not_eq_true', decide_eq_true_eq] at h5
  obtain ⟨⟨⟨⟨⟨g1, g2⟩, g3⟩, g4⟩, g5⟩, g6⟩ := h5
  simp [Cond.before, Cond.holds, Cond.value, h1, h2, h3, h4, g1, g2, g3, g4, g5, g6]
def isCode : Jvm.Cond → Bool
  | .code _ _ _ _ => true
  | _ => false
theorem all_split {L : List Jvm.Cond} {P : Jvm.Cond → Bool} (h1 : L.all (fun c => isCode c || P c) = true) (h2 : ∀ c ∈ L.filter isCode, P c = true) : L.all P = true := by
  refine List.all_eq_true.mpr fun c hc => ?_
  have h := List.all_eq_true.mp h1 c hc
  rcases Bool.eq_false_or_eq_true (isCode c) with hi | hi
  · exact h2 c (List.mem_filter.mpr ⟨hc, hi⟩)
  · simpa [hi] using h
set_option maxRecDepth 65536 in
theorem w_c0 : (Jvm.Cond.code x code maxLocals ret).before args0 about1 = true := code_word (m := ⟨1, 1⟩) (meth := k1m1) (c := k1c1) (by decide +kernel) rfl rfl rfl (by decide +kernel)
set_option maxRecDepth 65536 in
theorem w_c1 : (Jvm.Cond.code ({ cls := "com/example/unipar/unipar/Style", name := "explodesByDefault", desc := "()Z" } : Jvm.MethodName) prog_47_method_5_code (1 : Nat) (Option.some Jvm.ClassFile.FieldType.boolean)).before args0 about1 = true := code_word (m := ⟨6, 1⟩) (meth := k6m1) (c := k6c1) (by decide +kernel) rfl rfl rfl (by decide +kernel)
set_option maxRecDepth 65536 in
theorem w_c2 : (Jvm.Cond.code ({ cls := "com/example/unipar/unipar/Style", name := "defaultFor", desc := "(Lcom/example/unipar/unipar/Location;)Lcom/example/unipar/unipar/Style;" } : Jvm.MethodName) prog_47_method_4_code (1 : Nat) (Option.some (Jvm.ClassFile.FieldType.object "com/example/unipar/unipar/Style"))).before args0 about1 = true := code_word (m := ⟨6, 0⟩) (meth := k6m0) (c := k6c0) (by decide +kernel) rfl rfl rfl (by decide +kernel)
set_option maxRecDepth 65536 in
theorem w_c3 : (Jvm.Cond.code ({ cls := "java/lang/Enum", name := "ordinal", desc := "()I" } : Jvm.MethodName) jdk_37_method_2_code (1 : Nat) (Option.some Jvm.ClassFile.FieldType.int)).before args0 about1 = true := code_word (m := ⟨5, 0⟩) (meth := k5m0) (c := k5c0) (by decide +kernel) rfl rfl rfl (by decide +kernel)
def codes1 : List Jvm.Cond := [Jvm.Cond.code x code maxLocals ret, Jvm.Cond.code ({ cls := "com/example/unipar/unipar/Style", name := "explodesByDefault", desc := "()Z" } : Jvm.MethodName) prog_47_method_5_code (1 : Nat) (Option.some Jvm.ClassFile.FieldType.boolean), Jvm.Cond.code ({ cls := "com/example/unipar/unipar/Style", name := "defaultFor", desc := "(Lcom/example/unipar/unipar/Location;)Lcom/example/unipar/unipar/Style;" } : Jvm.MethodName) prog_47_method_4_code (1 : Nat) (Option.some (Jvm.ClassFile.FieldType.object "com/example/unipar/unipar/Style")), Jvm.Cond.code ({ cls := "java/lang/Enum", name := "ordinal", desc := "()I" } : Jvm.MethodName) jdk_37_method_2_code (1 : Nat) (Option.some Jvm.ClassFile.FieldType.int)]
set_option maxRecDepth 65536 in
theorem codes_eq : words1.filter isCode = codes1 := rfl
theorem w_codes : ∀ c ∈ words1.filter isCode, c.before args0 about1 = true := by
  rw [codes_eq]
  intro c hc
  simp only [codes1, List.mem_cons, List.not_mem_nil, or_false] at hc
  rcases hc with rfl | rfl | rfl | rfl
  · exact w_c0
  · exact w_c1
  · exact w_c2
  · exact w_c3
set_option maxRecDepth 65536 in
theorem w_t1 : (words1.take 24).all (fun c => isCode c || c.before args0 about1) = true := by decide +kernel
set_option maxRecDepth 65536 in
theorem w_t2 : ((words1.drop 24).take 24).all (fun c => isCode c || c.before args0 about1) = true := by decide +kernel
set_option maxRecDepth 65536 in
theorem w_t3 : ((words1.drop 24).drop 24).all (fun c => isCode c || c.before args0 about1) = true := by decide +kernel
theorem w_tables : (allAtoms (Jvm.Cond.code x code maxLocals ret :: tables_1)).before args0 about1 = true := by
  rw [allAtoms_all]
  show words1.all (fun c => c.before args0 about1) = true
  refine all_split ?_ w_codes
  rw [← List.take_append_drop 24 words1, List.all_append, w_t1, ← List.take_append_drop 24 (words1.drop 24), List.all_append, w_t2, w_t3]
  rfl
set_option maxRecDepth 65536 in
theorem w_case : (Jvm.Cond.and given_1 narrow_1).before args0 about1 = true := by decide +kernel
theorem w_applies : (headSpec (Jvm.Cond.code x code maxLocals ret :: tables_1) room_1).applies x e0.platform about1 = true :=
  (Spec.applies_iff w_frames).mpr ⟨w_running, w_runnable, w_alone, w_named, w_hears, w_ripe, w_room, w_tables⟩
theorem atStart : AtStart classFile x code maxLocals ret World_1 tables_1 room_1 Calls_1 rest_1 Pre_1 launch0 p0 e0 about1 theMethod args0 below0 :=
  ⟨lists_1, trivial, launch0.admits_env _ _ _, launch0.least_env, fairChoices_fair.cas, fairChoices_fair.clock, w_frames, w_args, w_heap, w_applies, trivial, trivial, w_case⟩
end start1
theorem witness_1 : WitnessClaimed_1 := ⟨start1.p0, start1.e0, start1.about1, start1.theMethod, start1.args0, start1.below0, start1.atStart⟩
end Jvm.Pilot.@@N@@
