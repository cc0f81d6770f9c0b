import JvmDerived
import JvmDerived.Pilot.@@N@@Statement
import JvmDerived.Pilot.@@N@@Code
set_option linter.unusedVariables false
set_option linter.unusedSimpArgs false
namespace Jvm.RoadKit
open Sem ClassFile Op Lib Jvm.Stand Jvm.Free Jvm.LawKit
section New
variable {p : Program} {l : Launch} {e : Env} {R : Room} {s : State} {m : MethodId} {args : Array Value} {below : List Frame} {meth : Method} {c : Code} {T : State} {locs : List Loc} {cells slots : Nat}
theorem retI (X : Stand p l e R s m args below meth c T locs cells slots) (hx : p.tables.exec = Jvm.exec) {pc : Nat} {Ls : Array Slot} {z : Int32} {rest : List Value} (hret : meth.sig.returnType = some .int) (hd : decode c.code pc = .ok (.ireturn, 1)) {fs : List Frame}
    (hl : ∀ (f : JFrame) (acts : List Action), f.method = m → f.locked = none → f.entered = [] → (doReturn e (T.setTop f) acts (some (.int z))).1 = T.setFrames fs) : Steps p.tables e below (T.setTop (mkF m pc Ls (.int z :: rest))) (T.setFrames fs) := by
  have hm' : T.vm.method? m = some meth := X.method'
  have hn : narrow .int (.int z) = .int z := rfl
  show Steps p.tables e below (T.setTop { method := m, pc := pc, locals := Ls, stack := _ :: rest, locked := none }) _
  jvm_step X.here [X.here.top, hx, hd, hm', hret, hn]
  first | (intro acts; rw [hl _ acts rfl rfl rfl]) | rw [hl _ _ rfl rfl rfl]
  exact Steps.refl _
end New
end Jvm.RoadKit
namespace Jvm.Pilot.@@N@@
open Jvm Jvm.ClassFile Sem Op Lib Jvm.Free Jvm.Stand Jvm.LawKit Jvm.RoadKit Bundle Jvm.Pilot.@@N@@.Jvm.D
/-- the run comes from A to some end of which R holds -/
def Goes (tb : Tables) (e : Env) (below : List Frame) (A : State) (R : State → Outcome → Prop) : Prop := ∃ t o, Steps tb e below A t ∧ R t o
theorem Goes.to {tb : Tables} {e : Env} {below : List Frame} {A B : State} {R : State → Outcome → Prop} (k : ∀ t, Steps tb e below A t → Steps tb e below B t) (h : Goes tb e below A R) : Goes tb e below B R := by
  obtain ⟨t, o, h1, h2⟩ := h
  exact ⟨t, o, k t h1, h2⟩
/-- how a body ends: it has returned, of value and heap Q holds, and no more than that many cells and slots are new -/
theorem own_wk {p : Program} {l : Launch} {e : Env} {R : Room} {s : State} {m : MethodId} {args : Array Value} {below : List Frame} {meth : Method} {c : Code} {T : State} {locs : List Loc} {c1 n1 c2 n2 : Nat} (X : Stand p l e R s m args below meth c T locs c1 n1) (hc : c1 ≤ c2) (hn : n1 ≤ n2) : Stand p l e R s m args below meth c T locs c2 n2 := { X with same := X.same.mono hc hn }
def own_R (below : List Frame) (s : State) (Q : Option Value → Heap → List Loc → Prop) (k n : Nat) : State → Outcome → Prop := fun s₂ o => s₂.status = .running ∧ Ended s₂ below o ∧ ∃ v L, o = .returned v ∧ Q v s₂.heap L ∧ FrameEnd s o s₂ L k n
theorem Goes.tr {tb : Tables} {e : Env} {below : List Frame} {A B : State} {R : State → Outcome → Prop} (k : Steps tb e below B A) (h : Goes tb e below A R) : Goes tb e below B R := Goes.to (fun _ z => k.trans z) h


abbrev own_sh (z : Int64) (k : Int32) : Int64 := (z.toUInt64 >>> (k &&& 0x3f).toInt64.toUInt64).toInt64
def own_m (v : Int64) (s : Int32) : Int32 := ((own_sh v s) &&& (7 : Int64)).toInt32
abbrev own_pos (v : Int64) (s : Int32) : Prop := ((own_sh v (s + (3 : Int32))) &&& (1 : Int64)) = (0 : Int64)
def own_dv (v : Int64) (s : Int32) : UInt64 := if own_pos v s then FP.i2d (own_m v s) else FP.dneg (FP.i2d (own_m v s))
def own_iv (v : Int64) (s : Int32) : Int32 := if own_pos v s then own_m v s else -(own_m v s)
def own_D (i : Int32) (p : Bool) : UInt64 := if p then FP.i2d i else FP.dneg (FP.i2d i)
def own_I (i : Int32) (p : Bool) : Int32 := if p then i else -i
def own_eight : List Int32 := [0, 1, 2, 3, 4, 5, 6, 7]
theorem own_pairs : (own_eight.all fun i => own_eight.all fun j => [true, false].all fun p => [true, false].all fun q => decide ((0 : Int32) < cmpValue (FP.dcmp (own_D i p) (own_D j q)) .l) == decide (own_I j q < own_I i p)) = true := by decide +kernel
theorem own_m8 (v : Int64) (s : Int32) : own_m v s ∈ own_eight := by
  have k1 := c_maskL (own_sh v s) (7 : Int64) 3 (by decide) (by decide)
  have k2 := c_l2i ((own_sh v s) &&& (7 : Int64))
  have k3 := rng32 (own_m v s)
  have e : own_m v s = ((own_sh v s) &&& (7 : Int64)).toInt32 := rfl
  rw [← e] at k2
  have h : (own_m v s).toInt = 0 ∨ (own_m v s).toInt = 1 ∨ (own_m v s).toInt = 2 ∨ (own_m v s).toInt = 3 ∨ (own_m v s).toInt = 4 ∨ (own_m v s).toInt = 5 ∨ (own_m v s).toInt = 6 ∨ (own_m v s).toInt = 7 := by omega
  generalize own_m v s = m at h
  have g : ∀ k : Int32, m.toInt = k.toInt → m = k := fun k q => Int32.toInt_inj.mp q
  rcases h with h | h | h | h | h | h | h | h
  · rw [g 0 h]; decide
  · rw [g 1 h]; decide
  · rw [g 2 h]; decide
  · rw [g 3 h]; decide
  · rw [g 4 h]; decide
  · rw [g 5 h]; decide
  · rw [g 6 h]; decide
  · rw [g 7 h]; decide
theorem own_dvD (v : Int64) (s : Int32) : own_dv v s = own_D (own_m v s) (decide (own_pos v s)) := by
  unfold own_dv own_D; by_cases q : own_pos v s <;> simp [q]
theorem own_ivI (v : Int64) (s : Int32) : own_iv v s = own_I (own_m v s) (decide (own_pos v s)) := by
  unfold own_iv own_I; by_cases q : own_pos v s <;> simp [q]
theorem own_cmp (v : Int64) (s t : Int32) : (0 : Int32) < cmpValue (FP.dcmp (own_dv v s) (own_dv v t)) .l ↔ own_iv v t < own_iv v s := by
  rw [own_dvD, own_dvD, own_ivI, own_ivI]
  have h1 := List.all_eq_true.mp own_pairs _ (own_m8 v s)
  have h2 := List.all_eq_true.mp h1 _ (own_m8 v t)
  have h3 := List.all_eq_true.mp h2 (decide (own_pos v s)) (by cases decide (own_pos v s) <;> decide)
  have h4 := List.all_eq_true.mp h3 (decide (own_pos v t)) (by cases decide (own_pos v t) <;> decide)
  have h5 := eq_of_beq h4
  exact decide_eq_decide.mp h5
def own_at (a b c : UInt64) (j : Int32) : UInt64 := [a, b, c].getD j.toNatClampNeg 0
def own_iat (a b c : Int32) (j : Int32) : Int32 := [a, b, c].getD j.toNatClampNeg 0
theorem own_at_eq (a b c : UInt64) (j : Int32) : ([(.double a), (.double b), (.double c)] : List Value).getD j.toNatClampNeg (.double (0 : UInt64)) = .double (own_at a b c j) := by
  unfold own_at
  match j.toNatClampNeg with
  | 0 => rfl
  | 1 => rfl
  | 2 => rfl
  | n + 3 => rfl
theorem own_iat_eq (a b c : Int32) (j : Int32) : ([(.int a), (.int b), (.int c)] : List Value).getD j.toNatClampNeg (.int (0 : Int32)) = .int (own_iat a b c j) := by
  unfold own_iat
  match j.toNatClampNeg with
  | 0 => rfl
  | 1 => rfl
  | 2 => rfl
  | n + 3 => rfl
theorem own_three (j : Int32) (h0 : ¬ (j < (0 : Int32))) (h1 : j < (3 : Int32)) : j = 0 ∨ j = 1 ∨ j = 2 := by
  rw [Int32.lt_iff_toInt_lt] at h0 h1
  simp only [← Int32.toInt_inj]
  have e0 : (0 : Int32).toInt = 0 := rfl
  have e1 : (1 : Int32).toInt = 1 := rfl
  have e2 : (2 : Int32).toInt = 2 := rfl
  have e3 : (3 : Int32).toInt = 3 := rfl
  omega
theorem own_row (v : Int64) (s t u a b : Int32) (ha0 : ¬ (a < (0 : Int32))) (ha1 : a < (3 : Int32)) (hb0 : ¬ (b < (0 : Int32))) (hb1 : b < (3 : Int32)) :
    (0 : Int32) < cmpValue (FP.dcmp (own_at (own_dv v s) (own_dv v t) (own_dv v u) a) (own_at (own_dv v s) (own_dv v t) (own_dv v u) b)) .l ↔ own_iat (own_iv v s) (own_iv v t) (own_iv v u) b < own_iat (own_iv v s) (own_iv v t) (own_iv v u) a := by
  rcases own_three a ha0 ha1 with rfl | rfl | rfl <;> rcases own_three b hb0 hb1 with rfl | rfl | rfl <;> exact own_cmp v _ _

theorem d1_0 : decode method_3_code 0 = .ok (.lload_n 0, 1) := by decide +kernel
theorem d1_1 : decode method_3_code 1 = .ok (.iload_n 2, 1) := by decide +kernel
theorem d1_2 : decode method_3_code 2 = .ok (.lushr, 1) := by decide +kernel
theorem d1_3 : decode method_3_code 3 = .ok (.ldc2_w 7, 3) := by decide +kernel
theorem d1_6 : decode method_3_code 6 = .ok (.land, 1) := by decide +kernel
theorem d1_7 : decode method_3_code 7 = .ok (.l2i, 1) := by decide +kernel
theorem d1_8 : decode method_3_code 8 = .ok (.istore_n 3, 1) := by decide +kernel
theorem d1_9 : decode method_3_code 9 = .ok (.iload_n 3, 1) := by decide +kernel
theorem d1_10 : decode method_3_code 10 = .ok (.i2d, 1) := by decide +kernel
theorem d1_11 : decode method_3_code 11 = .ok (.dstore 4, 2) := by decide +kernel
theorem d1_13 : decode method_3_code 13 = .ok (.lload_n 0, 1) := by decide +kernel
theorem d1_14 : decode method_3_code 14 = .ok (.iload_n 2, 1) := by decide +kernel
theorem d1_15 : decode method_3_code 15 = .ok (.iconst 3, 1) := by decide +kernel
theorem d1_16 : decode method_3_code 16 = .ok (.iadd, 1) := by decide +kernel
theorem d1_17 : decode method_3_code 17 = .ok (.lushr, 1) := by decide +kernel
theorem d1_18 : decode method_3_code 18 = .ok (.lconst 1, 1) := by decide +kernel
theorem d1_19 : decode method_3_code 19 = .ok (.land, 1) := by decide +kernel
theorem d1_20 : decode method_3_code 20 = .ok (.lconst 0, 1) := by decide +kernel
theorem d1_21 : decode method_3_code 21 = .ok (.lcmp, 1) := by decide +kernel
theorem d1_22 : decode method_3_code 22 = .ok (.ifCond .eq 9, 3) := by decide +kernel
theorem d1_25 : decode method_3_code 25 = .ok (.dload 4, 2) := by decide +kernel
theorem d1_27 : decode method_3_code 27 = .ok (.dneg, 1) := by decide +kernel
theorem d1_28 : decode method_3_code 28 = .ok (.goto 5, 3) := by decide +kernel
theorem d1_31 : decode method_3_code 31 = .ok (.dload 4, 2) := by decide +kernel
theorem d1_33 : decode method_3_code 33 = .ok (.dreturn, 1) := by decide +kernel
theorem own_pn_1 : plainName "com/example/pareto4/pareto4/front/KeysNoHigherPinLaw" = true := by first | (simp [plainName, overriddenIn]; done) | decide +kernel
theorem own_ef_own_rm1 (m : MethodId) (x0 : Int64) (x1 : Int32) : entryFrame m #[(.long x0), (.int x1)] 6 = mkF m 0 #[.val (.long x0), .second, .val (.int x1), .unset, .unset, .unset] [] := by first | (simp [entryFrame, mkF, argsToLocals, Value.category]; done) | rfl
def own_Q_own_rm1 (Z : State) (x0 : Int64) (x1 : Int32)  (h0 : Heap) (n0 : Nat) (v : Option Value) (h : Heap) (L : List Loc) : Prop := v = some (.double (own_dv x0 x1)) ∧ Fr n0 L ∧ h = h0

set_option maxRecDepth 65536 in
set_option maxHeartbeats 40000000 in
theorem own_rm1 (l : Launch) (Z : State) (a0 : Array Value) (hw : ∀ d ∈ tables_1, d.before a0 Z = true) (ws : List Jvm.Cond) (x0 : Int64) (x1 : Int32)  (h0 : Heap) (n0 : Nat) (Z0 : n0 ≤ h0.size)  :
    MetFree l (⟨"com/example/pareto4/pareto4/front/KeysNoHigherPinLaw", "dv", "(JI)D"⟩ : MethodName) (head1 (Jvm.Cond.code (⟨"com/example/pareto4/pareto4/front/KeysNoHigherPinLaw", "dv", "(JI)D"⟩ : MethodName) method_3_code 6 (some .double) :: ws) ({ frames := 0, cells := 0, slots := 0, locals := 0 } : Room)) (fun a U => a = #[(.long x0), (.int x1)] ∧ Z.Warmed39 U.vm ∧ U.heap = h0) (fun _ _ _ _ _ => True) (fun _ U o U' => ∃ v L, o = .returned v ∧ own_Q_own_rm1 Z x0 x1 h0 n0 v U'.heap L ∧ FrameEnd U o U' L ({ frames := 0, cells := 0, slots := 0, locals := 0 } : Room).cells ({ frames := 0, cells := 0, slots := 0, locals := 0 } : Room).slots) := by
  refine MetFree.of_bodySF (plainFor_of_name own_pn_1) hisR ?_
  intro p e s m args below meth c s₁ Bd hml0 hP hK
  obtain ⟨rfl, hZ, hh⟩ := hP
  have hx := Bd.exec
  have hby := Bd.bytes
  have hml : c.maxLocals = 6 := hml0
  have hown : s.vm.findClass "com/example/pareto4/pareto4/front/KeysNoHigherPinLaw" = some m.cls := findClass_of_methodNamed Bd.named
  have hnm := (name_of_methodNamed Bd.named Bd.method).1
  have X0 : Stand p l e ({ frames := 0, cells := 0, slots := 0, locals := 0 } : Room) s m #[(.long x0), (.int x1)] below meth c s₁ [] 0 0 := Stand.of_body Bd
  have e0 : s₁.heap = h0 := by rw [← hh, Bd.state]; rfl
  have N0 := Fr.nil n0
  show Goes p.tables e below _ (own_R below s (own_Q_own_rm1 Z x0 x1 h0 n0) ({ frames := 0, cells := 0, slots := 0, locals := 0 } : Room).cells ({ frames := 0, cells := 0, slots := 0, locals := 0 } : Room).slots)
  refine Goes.to (fun t k => castTop (own_ef_own_rm1 m x0 x1) k) ?_
  show Goes p.tables e below (s₁.setTop (mkF m 0 #[.val (.long x0), .second, .val (.int x1), .unset, .unset, .unset] [])) _
  refine Goes.to (fun _ k => XS.lloadN X0.here hx rfl (hb hby d1_0) rfl k) ?_
  show Goes p.tables e below (s₁.setTop (mkF m 1 #[.val (.long x0), .second, .val (.int x1), .unset, .unset, .unset] [(.long x0)])) _
  refine Goes.to (fun _ k => XS.iloadN X0.here hx rfl (hb hby d1_1) rfl k) ?_
  show Goes p.tables e below (s₁.setTop (mkF m 2 #[.val (.long x0), .second, .val (.int x1), .unset, .unset, .unset] [(.int x1), (.long x0)])) _
  refine Goes.to (fun _ k => XS.lushr X0.here hx rfl (hb hby d1_2) rfl k) ?_
  show Goes p.tables e below (s₁.setTop (mkF m 3 #[.val (.long x0), .second, .val (.int x1), .unset, .unset, .unset] [(.long ((x0.toUInt64 >>> (x1 &&& 0x3f).toInt64.toUInt64).toInt64))])) _
  refine Goes.to (fun _ k => X0.ldc2Long hx hown (mvT hZ (hw _ (List.mem_of_getElem? (i := 5) rfl))) (g := (mkF m 3 #[.val (.long x0), .second, .val (.int x1), .unset, .unset, .unset] [(.long ((x0.toUInt64 >>> (x1 &&& 0x3f).toInt64.toUInt64).toInt64))])) rfl (hb hby d1_3) _ k) ?_
  show Goes p.tables e below (s₁.setTop (mkF m 6 #[.val (.long x0), .second, .val (.int x1), .unset, .unset, .unset] [(.long (7 : Int64)), (.long ((x0.toUInt64 >>> (x1 &&& 0x3f).toInt64.toUInt64).toInt64))])) _
  refine Goes.to (fun _ k => XS.land X0.here hx rfl (hb hby d1_6) rfl k) ?_
  show Goes p.tables e below (s₁.setTop (mkF m 7 #[.val (.long x0), .second, .val (.int x1), .unset, .unset, .unset] [(.long (((x0.toUInt64 >>> (x1 &&& 0x3f).toInt64.toUInt64).toInt64) &&& (7 : Int64)))])) _
  refine Goes.to (fun _ k => XS.l2i X0.here hx rfl (hb hby d1_7) rfl k) ?_
  show Goes p.tables e below (s₁.setTop (mkF m 8 #[.val (.long x0), .second, .val (.int x1), .unset, .unset, .unset] [(.int ((((x0.toUInt64 >>> (x1 &&& 0x3f).toInt64.toUInt64).toInt64) &&& (7 : Int64)).toInt32))])) _
  refine Goes.to (fun _ k => XS.istoreN X0.here hx rfl (hb hby d1_8) rfl (l' := #[.val (.long x0), .second, .val (.int x1), .val (.int ((((x0.toUInt64 >>> (x1 &&& 0x3f).toInt64.toUInt64).toInt64) &&& (7 : Int64)).toInt32)), .unset, .unset]) rfl k) ?_
  show Goes p.tables e below (s₁.setTop (mkF m 9 #[.val (.long x0), .second, .val (.int x1), .val (.int ((((x0.toUInt64 >>> (x1 &&& 0x3f).toInt64.toUInt64).toInt64) &&& (7 : Int64)).toInt32)), .unset, .unset] [])) _
  refine Goes.to (fun _ k => XS.iloadN X0.here hx rfl (hb hby d1_9) rfl k) ?_
  show Goes p.tables e below (s₁.setTop (mkF m 10 #[.val (.long x0), .second, .val (.int x1), .val (.int ((((x0.toUInt64 >>> (x1 &&& 0x3f).toInt64.toUInt64).toInt64) &&& (7 : Int64)).toInt32)), .unset, .unset] [(.int ((((x0.toUInt64 >>> (x1 &&& 0x3f).toInt64.toUInt64).toInt64) &&& (7 : Int64)).toInt32))])) _
  refine Goes.to (fun _ k => XS.i2dS X0.here hx rfl (hb hby d1_10) rfl rfl k) ?_
  show Goes p.tables e below (s₁.setTop (mkF m 11 #[.val (.long x0), .second, .val (.int x1), .val (.int ((((x0.toUInt64 >>> (x1 &&& 0x3f).toInt64.toUInt64).toInt64) &&& (7 : Int64)).toInt32)), .unset, .unset] [(.double (FP.i2d ((((x0.toUInt64 >>> (x1 &&& 0x3f).toInt64.toUInt64).toInt64) &&& (7 : Int64)).toInt32)))])) _
  refine Goes.to (fun _ k => XS.dstore X0.here hx rfl (hb hby d1_11) rfl (l' := #[.val (.long x0), .second, .val (.int x1), .val (.int ((((x0.toUInt64 >>> (x1 &&& 0x3f).toInt64.toUInt64).toInt64) &&& (7 : Int64)).toInt32)), .val (.double (FP.i2d ((((x0.toUInt64 >>> (x1 &&& 0x3f).toInt64.toUInt64).toInt64) &&& (7 : Int64)).toInt32))), .second]) rfl k) ?_
  show Goes p.tables e below (s₁.setTop (mkF m 13 #[.val (.long x0), .second, .val (.int x1), .val (.int ((((x0.toUInt64 >>> (x1 &&& 0x3f).toInt64.toUInt64).toInt64) &&& (7 : Int64)).toInt32)), .val (.double (FP.i2d ((((x0.toUInt64 >>> (x1 &&& 0x3f).toInt64.toUInt64).toInt64) &&& (7 : Int64)).toInt32))), .second] [])) _
  refine Goes.to (fun _ k => XS.lloadN X0.here hx rfl (hb hby d1_13) rfl k) ?_
  show Goes p.tables e below (s₁.setTop (mkF m 14 #[.val (.long x0), .second, .val (.int x1), .val (.int ((((x0.toUInt64 >>> (x1 &&& 0x3f).toInt64.toUInt64).toInt64) &&& (7 : Int64)).toInt32)), .val (.double (FP.i2d ((((x0.toUInt64 >>> (x1 &&& 0x3f).toInt64.toUInt64).toInt64) &&& (7 : Int64)).toInt32))), .second] [(.long x0)])) _
  refine Goes.to (fun _ k => XS.iloadN X0.here hx rfl (hb hby d1_14) rfl k) ?_
  show Goes p.tables e below (s₁.setTop (mkF m 15 #[.val (.long x0), .second, .val (.int x1), .val (.int ((((x0.toUInt64 >>> (x1 &&& 0x3f).toInt64.toUInt64).toInt64) &&& (7 : Int64)).toInt32)), .val (.double (FP.i2d ((((x0.toUInt64 >>> (x1 &&& 0x3f).toInt64.toUInt64).toInt64) &&& (7 : Int64)).toInt32))), .second] [(.int x1), (.long x0)])) _
  refine Goes.to (fun _ k => XS.iconst X0.here hx rfl (hb hby d1_15) k) ?_
  show Goes p.tables e below (s₁.setTop (mkF m 16 #[.val (.long x0), .second, .val (.int x1), .val (.int ((((x0.toUInt64 >>> (x1 &&& 0x3f).toInt64.toUInt64).toInt64) &&& (7 : Int64)).toInt32)), .val (.double (FP.i2d ((((x0.toUInt64 >>> (x1 &&& 0x3f).toInt64.toUInt64).toInt64) &&& (7 : Int64)).toInt32))), .second] [(.int (3 : Int32)), (.int x1), (.long x0)])) _
  refine Goes.to (fun _ k => XS.iadd X0.here hx rfl (hb hby d1_16) rfl k) ?_
  show Goes p.tables e below (s₁.setTop (mkF m 17 #[.val (.long x0), .second, .val (.int x1), .val (.int ((((x0.toUInt64 >>> (x1 &&& 0x3f).toInt64.toUInt64).toInt64) &&& (7 : Int64)).toInt32)), .val (.double (FP.i2d ((((x0.toUInt64 >>> (x1 &&& 0x3f).toInt64.toUInt64).toInt64) &&& (7 : Int64)).toInt32))), .second] [(.int (x1 + (3 : Int32))), (.long x0)])) _
  refine Goes.to (fun _ k => XS.lushr X0.here hx rfl (hb hby d1_17) rfl k) ?_
  show Goes p.tables e below (s₁.setTop (mkF m 18 #[.val (.long x0), .second, .val (.int x1), .val (.int ((((x0.toUInt64 >>> (x1 &&& 0x3f).toInt64.toUInt64).toInt64) &&& (7 : Int64)).toInt32)), .val (.double (FP.i2d ((((x0.toUInt64 >>> (x1 &&& 0x3f).toInt64.toUInt64).toInt64) &&& (7 : Int64)).toInt32))), .second] [(.long ((x0.toUInt64 >>> ((x1 + (3 : Int32)) &&& 0x3f).toInt64.toUInt64).toInt64))])) _
  refine Goes.to (fun _ k => XS.lconst X0.here hx rfl (hb hby d1_18) k) ?_
  show Goes p.tables e below (s₁.setTop (mkF m 19 #[.val (.long x0), .second, .val (.int x1), .val (.int ((((x0.toUInt64 >>> (x1 &&& 0x3f).toInt64.toUInt64).toInt64) &&& (7 : Int64)).toInt32)), .val (.double (FP.i2d ((((x0.toUInt64 >>> (x1 &&& 0x3f).toInt64.toUInt64).toInt64) &&& (7 : Int64)).toInt32))), .second] [(.long (1 : Int64)), (.long ((x0.toUInt64 >>> ((x1 + (3 : Int32)) &&& 0x3f).toInt64.toUInt64).toInt64))])) _
  refine Goes.to (fun _ k => XS.land X0.here hx rfl (hb hby d1_19) rfl k) ?_
  show Goes p.tables e below (s₁.setTop (mkF m 20 #[.val (.long x0), .second, .val (.int x1), .val (.int ((((x0.toUInt64 >>> (x1 &&& 0x3f).toInt64.toUInt64).toInt64) &&& (7 : Int64)).toInt32)), .val (.double (FP.i2d ((((x0.toUInt64 >>> (x1 &&& 0x3f).toInt64.toUInt64).toInt64) &&& (7 : Int64)).toInt32))), .second] [(.long (((x0.toUInt64 >>> ((x1 + (3 : Int32)) &&& 0x3f).toInt64.toUInt64).toInt64) &&& (1 : Int64)))])) _
  refine Goes.to (fun _ k => XS.lconst X0.here hx rfl (hb hby d1_20) k) ?_
  show Goes p.tables e below (s₁.setTop (mkF m 21 #[.val (.long x0), .second, .val (.int x1), .val (.int ((((x0.toUInt64 >>> (x1 &&& 0x3f).toInt64.toUInt64).toInt64) &&& (7 : Int64)).toInt32)), .val (.double (FP.i2d ((((x0.toUInt64 >>> (x1 &&& 0x3f).toInt64.toUInt64).toInt64) &&& (7 : Int64)).toInt32))), .second] [(.long (0 : Int64)), (.long (((x0.toUInt64 >>> ((x1 + (3 : Int32)) &&& 0x3f).toInt64.toUInt64).toInt64) &&& (1 : Int64)))])) _
  refine Goes.to (fun _ k => XS.lcmp X0.here hx rfl (hb hby d1_21) rfl k) ?_
  show Goes p.tables e below (s₁.setTop (mkF m 22 #[.val (.long x0), .second, .val (.int x1), .val (.int ((((x0.toUInt64 >>> (x1 &&& 0x3f).toInt64.toUInt64).toInt64) &&& (7 : Int64)).toInt32)), .val (.double (FP.i2d ((((x0.toUInt64 >>> (x1 &&& 0x3f).toInt64.toUInt64).toInt64) &&& (7 : Int64)).toInt32))), .second] [(.int (lcmpW (((x0.toUInt64 >>> ((x1 + (3 : Int32)) &&& 0x3f).toInt64.toUInt64).toInt64) &&& (1 : Int64)) (0 : Int64)))])) _
  by_cases hc1 : (((x0.toUInt64 >>> ((x1 + (3 : Int32)) &&& 0x3f).toInt64.toUInt64).toInt64) &&& (1 : Int64)) = (0 : Int64)
  · refine Goes.to (fun _ k => XS.ifYes X0.here hx rfl (pc0 := 22) (pc' := 31) rfl (hb hby d1_22) rfl ((if0 _ _).trans (teq ((lw_eq (((x0.toUInt64 >>> ((x1 + (3 : Int32)) &&& 0x3f).toInt64.toUInt64).toInt64) &&& (1 : Int64)) (0 : Int64)).mpr hc1)).1) (by decide) (by decide) k) ?_
    show Goes p.tables e below (s₁.setTop (mkF m 31 #[.val (.long x0), .second, .val (.int x1), .val (.int ((((x0.toUInt64 >>> (x1 &&& 0x3f).toInt64.toUInt64).toInt64) &&& (7 : Int64)).toInt32)), .val (.double (FP.i2d ((((x0.toUInt64 >>> (x1 &&& 0x3f).toInt64.toUInt64).toInt64) &&& (7 : Int64)).toInt32))), .second] [])) _
    refine Goes.to (fun _ k => XS.dload X0.here hx rfl (hb hby d1_31) rfl k) ?_
    show Goes p.tables e below (s₁.setTop (mkF m 33 #[.val (.long x0), .second, .val (.int x1), .val (.int ((((x0.toUInt64 >>> (x1 &&& 0x3f).toInt64.toUInt64).toInt64) &&& (7 : Int64)).toInt32)), .val (.double (FP.i2d ((((x0.toUInt64 >>> (x1 &&& 0x3f).toInt64.toUInt64).toInt64) &&& (7 : Int64)).toInt32))), .second] [(.double (FP.i2d ((((x0.toUInt64 >>> (x1 &&& 0x3f).toInt64.toUInt64).toInt64) &&& (7 : Int64)).toInt32)))])) _
    obtain ⟨fs, hr, hrun, hended, hW, hsame⟩ := X0.leave (v := some (.double (FP.i2d ((((x0.toUInt64 >>> (x1 &&& 0x3f).toInt64.toUInt64).toInt64) &&& (7 : Int64)).toInt32)))) (fun h => by rw [Bd.returns] at h; cases h)
    have hv : (some (.double (FP.i2d ((((x0.toUInt64 >>> (x1 &&& 0x3f).toInt64.toUInt64).toInt64) &&& (7 : Int64)).toInt32))) : Option Value) = some (.double (own_dv x0 x1)) := by
      unfold own_dv
      rw [if_pos hc1]
      rfl
    exact ⟨_, _, retOut X0 hx Bd.returns rfl (Or.inr (Or.inr (Or.inl ⟨rfl, rfl, _, rfl⟩))) (hb hby d1_33) hr, hrun, hended, _, _, rfl, ⟨hv, N0, e0⟩, ⟨_, rfl⟩, hW, hsame.mono (by decide) (by decide)⟩
  · refine Goes.to (fun _ k => XS.ifNo X0.here hx rfl (hb hby d1_22) rfl ((if0 _ _).trans (feq (fun q => hc1 ((lw_eq (((x0.toUInt64 >>> ((x1 + (3 : Int32)) &&& 0x3f).toInt64.toUInt64).toInt64) &&& (1 : Int64)) (0 : Int64)).mp q))).1) k) ?_
    show Goes p.tables e below (s₁.setTop (mkF m 25 #[.val (.long x0), .second, .val (.int x1), .val (.int ((((x0.toUInt64 >>> (x1 &&& 0x3f).toInt64.toUInt64).toInt64) &&& (7 : Int64)).toInt32)), .val (.double (FP.i2d ((((x0.toUInt64 >>> (x1 &&& 0x3f).toInt64.toUInt64).toInt64) &&& (7 : Int64)).toInt32))), .second] [])) _
    refine Goes.to (fun _ k => XS.dload X0.here hx rfl (hb hby d1_25) rfl k) ?_
    show Goes p.tables e below (s₁.setTop (mkF m 27 #[.val (.long x0), .second, .val (.int x1), .val (.int ((((x0.toUInt64 >>> (x1 &&& 0x3f).toInt64.toUInt64).toInt64) &&& (7 : Int64)).toInt32)), .val (.double (FP.i2d ((((x0.toUInt64 >>> (x1 &&& 0x3f).toInt64.toUInt64).toInt64) &&& (7 : Int64)).toInt32))), .second] [(.double (FP.i2d ((((x0.toUInt64 >>> (x1 &&& 0x3f).toInt64.toUInt64).toInt64) &&& (7 : Int64)).toInt32)))])) _
    refine Goes.to (fun _ k => XS.dnegS X0.here hx rfl (hb hby d1_27) rfl rfl k) ?_
    show Goes p.tables e below (s₁.setTop (mkF m 28 #[.val (.long x0), .second, .val (.int x1), .val (.int ((((x0.toUInt64 >>> (x1 &&& 0x3f).toInt64.toUInt64).toInt64) &&& (7 : Int64)).toInt32)), .val (.double (FP.i2d ((((x0.toUInt64 >>> (x1 &&& 0x3f).toInt64.toUInt64).toInt64) &&& (7 : Int64)).toInt32))), .second] [(.double (FP.dneg (FP.i2d ((((x0.toUInt64 >>> (x1 &&& 0x3f).toInt64.toUInt64).toInt64) &&& (7 : Int64)).toInt32))))])) _
    refine Goes.to (fun _ k => XS.goto X0.here hx rfl (pc0 := 28) (pc' := 33) rfl (hb hby d1_28) (by decide) (by decide) k) ?_
    show Goes p.tables e below (s₁.setTop (mkF m 33 #[.val (.long x0), .second, .val (.int x1), .val (.int ((((x0.toUInt64 >>> (x1 &&& 0x3f).toInt64.toUInt64).toInt64) &&& (7 : Int64)).toInt32)), .val (.double (FP.i2d ((((x0.toUInt64 >>> (x1 &&& 0x3f).toInt64.toUInt64).toInt64) &&& (7 : Int64)).toInt32))), .second] [(.double (FP.dneg (FP.i2d ((((x0.toUInt64 >>> (x1 &&& 0x3f).toInt64.toUInt64).toInt64) &&& (7 : Int64)).toInt32))))])) _
    obtain ⟨fs, hr, hrun, hended, hW, hsame⟩ := X0.leave (v := some (.double (FP.dneg (FP.i2d ((((x0.toUInt64 >>> (x1 &&& 0x3f).toInt64.toUInt64).toInt64) &&& (7 : Int64)).toInt32))))) (fun h => by rw [Bd.returns] at h; cases h)
    have hv : (some (.double (FP.dneg (FP.i2d ((((x0.toUInt64 >>> (x1 &&& 0x3f).toInt64.toUInt64).toInt64) &&& (7 : Int64)).toInt32)))) : Option Value) = some (.double (own_dv x0 x1)) := by
      unfold own_dv
      rw [if_neg hc1]
      rfl
    exact ⟨_, _, retOut X0 hx Bd.returns rfl (Or.inr (Or.inr (Or.inl ⟨rfl, rfl, _, rfl⟩))) (hb hby d1_33) hr, hrun, hended, _, _, rfl, ⟨hv, N0, e0⟩, ⟨_, rfl⟩, hW, hsame.mono (by decide) (by decide)⟩

theorem d2_0 : decode method_2_code 0 = .ok (.lload_n 0, 1) := by decide +kernel
theorem d2_1 : decode method_2_code 1 = .ok (.iload_n 2, 1) := by decide +kernel
theorem d2_2 : decode method_2_code 2 = .ok (.lushr, 1) := by decide +kernel
theorem d2_3 : decode method_2_code 3 = .ok (.ldc2_w 7, 3) := by decide +kernel
theorem d2_6 : decode method_2_code 6 = .ok (.land, 1) := by decide +kernel
theorem d2_7 : decode method_2_code 7 = .ok (.l2i, 1) := by decide +kernel
theorem d2_8 : decode method_2_code 8 = .ok (.istore_n 3, 1) := by decide +kernel
theorem d2_9 : decode method_2_code 9 = .ok (.lload_n 0, 1) := by decide +kernel
theorem d2_10 : decode method_2_code 10 = .ok (.iload_n 2, 1) := by decide +kernel
theorem d2_11 : decode method_2_code 11 = .ok (.iconst 3, 1) := by decide +kernel
theorem d2_12 : decode method_2_code 12 = .ok (.iadd, 1) := by decide +kernel
theorem d2_13 : decode method_2_code 13 = .ok (.lushr, 1) := by decide +kernel
theorem d2_14 : decode method_2_code 14 = .ok (.lconst 1, 1) := by decide +kernel
theorem d2_15 : decode method_2_code 15 = .ok (.land, 1) := by decide +kernel
theorem d2_16 : decode method_2_code 16 = .ok (.lconst 0, 1) := by decide +kernel
theorem d2_17 : decode method_2_code 17 = .ok (.lcmp, 1) := by decide +kernel
theorem d2_18 : decode method_2_code 18 = .ok (.ifCond .eq 8, 3) := by decide +kernel
theorem d2_21 : decode method_2_code 21 = .ok (.iload_n 3, 1) := by decide +kernel
theorem d2_22 : decode method_2_code 22 = .ok (.ineg, 1) := by decide +kernel
theorem d2_23 : decode method_2_code 23 = .ok (.goto 4, 3) := by decide +kernel
theorem d2_26 : decode method_2_code 26 = .ok (.iload_n 3, 1) := by decide +kernel
theorem d2_27 : decode method_2_code 27 = .ok (.ireturn, 1) := by decide +kernel
theorem own_pn_2 : plainName "com/example/pareto4/pareto4/front/KeysNoHigherPinLaw" = true := by first | (simp [plainName, overriddenIn]; done) | decide +kernel
theorem own_ef_own_rm2 (m : MethodId) (x0 : Int64) (x1 : Int32) : entryFrame m #[(.long x0), (.int x1)] 4 = mkF m 0 #[.val (.long x0), .second, .val (.int x1), .unset] [] := by first | (simp [entryFrame, mkF, argsToLocals, Value.category]; done) | rfl
def own_Q_own_rm2 (Z : State) (x0 : Int64) (x1 : Int32)  (h0 : Heap) (n0 : Nat) (v : Option Value) (h : Heap) (L : List Loc) : Prop := v = some (.int (own_iv x0 x1)) ∧ Fr n0 L ∧ h = h0

set_option maxRecDepth 65536 in
set_option maxHeartbeats 40000000 in
theorem own_rm2 (l : Launch) (Z : State) (a0 : Array Value) (hw : ∀ d ∈ tables_1, d.before a0 Z = true) (ws : List Jvm.Cond) (x0 : Int64) (x1 : Int32)  (h0 : Heap) (n0 : Nat) (Z0 : n0 ≤ h0.size)  :
    MetFree l (⟨"com/example/pareto4/pareto4/front/KeysNoHigherPinLaw", "iv", "(JI)I"⟩ : MethodName) (head1 (Jvm.Cond.code (⟨"com/example/pareto4/pareto4/front/KeysNoHigherPinLaw", "iv", "(JI)I"⟩ : MethodName) method_2_code 4 (some .int) :: ws) ({ frames := 0, cells := 0, slots := 0, locals := 0 } : Room)) (fun a U => a = #[(.long x0), (.int x1)] ∧ Z.Warmed39 U.vm ∧ U.heap = h0) (fun _ _ _ _ _ => True) (fun _ U o U' => ∃ v L, o = .returned v ∧ own_Q_own_rm2 Z x0 x1 h0 n0 v U'.heap L ∧ FrameEnd U o U' L ({ frames := 0, cells := 0, slots := 0, locals := 0 } : Room).cells ({ frames := 0, cells := 0, slots := 0, locals := 0 } : Room).slots) := by
  refine MetFree.of_bodySF (plainFor_of_name own_pn_2) hisR ?_
  intro p e s m args below meth c s₁ Bd hml0 hP hK
  obtain ⟨rfl, hZ, hh⟩ := hP
  have hx := Bd.exec
  have hby := Bd.bytes
  have hml : c.maxLocals = 4 := hml0
  have hown : s.vm.findClass "com/example/pareto4/pareto4/front/KeysNoHigherPinLaw" = some m.cls := findClass_of_methodNamed Bd.named
  have hnm := (name_of_methodNamed Bd.named Bd.method).1
  have X0 : Stand p l e ({ frames := 0, cells := 0, slots := 0, locals := 0 } : Room) s m #[(.long x0), (.int x1)] below meth c s₁ [] 0 0 := Stand.of_body Bd
  have e0 : s₁.heap = h0 := by rw [← hh, Bd.state]; rfl
  have N0 := Fr.nil n0
  show Goes p.tables e below _ (own_R below s (own_Q_own_rm2 Z x0 x1 h0 n0) ({ frames := 0, cells := 0, slots := 0, locals := 0 } : Room).cells ({ frames := 0, cells := 0, slots := 0, locals := 0 } : Room).slots)
  refine Goes.to (fun t k => castTop (own_ef_own_rm2 m x0 x1) k) ?_
  show Goes p.tables e below (s₁.setTop (mkF m 0 #[.val (.long x0), .second, .val (.int x1), .unset] [])) _
  refine Goes.to (fun _ k => XS.lloadN X0.here hx rfl (hb hby d2_0) rfl k) ?_
  show Goes p.tables e below (s₁.setTop (mkF m 1 #[.val (.long x0), .second, .val (.int x1), .unset] [(.long x0)])) _
  refine Goes.to (fun _ k => XS.iloadN X0.here hx rfl (hb hby d2_1) rfl k) ?_
  show Goes p.tables e below (s₁.setTop (mkF m 2 #[.val (.long x0), .second, .val (.int x1), .unset] [(.int x1), (.long x0)])) _
  refine Goes.to (fun _ k => XS.lushr X0.here hx rfl (hb hby d2_2) rfl k) ?_
  show Goes p.tables e below (s₁.setTop (mkF m 3 #[.val (.long x0), .second, .val (.int x1), .unset] [(.long ((x0.toUInt64 >>> (x1 &&& 0x3f).toInt64.toUInt64).toInt64))])) _
  refine Goes.to (fun _ k => X0.ldc2Long hx hown (mvT hZ (hw _ (List.mem_of_getElem? (i := 5) rfl))) (g := (mkF m 3 #[.val (.long x0), .second, .val (.int x1), .unset] [(.long ((x0.toUInt64 >>> (x1 &&& 0x3f).toInt64.toUInt64).toInt64))])) rfl (hb hby d2_3) _ k) ?_
  show Goes p.tables e below (s₁.setTop (mkF m 6 #[.val (.long x0), .second, .val (.int x1), .unset] [(.long (7 : Int64)), (.long ((x0.toUInt64 >>> (x1 &&& 0x3f).toInt64.toUInt64).toInt64))])) _
  refine Goes.to (fun _ k => XS.land X0.here hx rfl (hb hby d2_6) rfl k) ?_
  show Goes p.tables e below (s₁.setTop (mkF m 7 #[.val (.long x0), .second, .val (.int x1), .unset] [(.long (((x0.toUInt64 >>> (x1 &&& 0x3f).toInt64.toUInt64).toInt64) &&& (7 : Int64)))])) _
  refine Goes.to (fun _ k => XS.l2i X0.here hx rfl (hb hby d2_7) rfl k) ?_
  show Goes p.tables e below (s₁.setTop (mkF m 8 #[.val (.long x0), .second, .val (.int x1), .unset] [(.int ((((x0.toUInt64 >>> (x1 &&& 0x3f).toInt64.toUInt64).toInt64) &&& (7 : Int64)).toInt32))])) _
  refine Goes.to (fun _ k => XS.istoreN X0.here hx rfl (hb hby d2_8) rfl (l' := #[.val (.long x0), .second, .val (.int x1), .val (.int ((((x0.toUInt64 >>> (x1 &&& 0x3f).toInt64.toUInt64).toInt64) &&& (7 : Int64)).toInt32))]) rfl k) ?_
  show Goes p.tables e below (s₁.setTop (mkF m 9 #[.val (.long x0), .second, .val (.int x1), .val (.int ((((x0.toUInt64 >>> (x1 &&& 0x3f).toInt64.toUInt64).toInt64) &&& (7 : Int64)).toInt32))] [])) _
  refine Goes.to (fun _ k => XS.lloadN X0.here hx rfl (hb hby d2_9) rfl k) ?_
  show Goes p.tables e below (s₁.setTop (mkF m 10 #[.val (.long x0), .second, .val (.int x1), .val (.int ((((x0.toUInt64 >>> (x1 &&& 0x3f).toInt64.toUInt64).toInt64) &&& (7 : Int64)).toInt32))] [(.long x0)])) _
  refine Goes.to (fun _ k => XS.iloadN X0.here hx rfl (hb hby d2_10) rfl k) ?_
  show Goes p.tables e below (s₁.setTop (mkF m 11 #[.val (.long x0), .second, .val (.int x1), .val (.int ((((x0.toUInt64 >>> (x1 &&& 0x3f).toInt64.toUInt64).toInt64) &&& (7 : Int64)).toInt32))] [(.int x1), (.long x0)])) _
  refine Goes.to (fun _ k => XS.iconst X0.here hx rfl (hb hby d2_11) k) ?_
  show Goes p.tables e below (s₁.setTop (mkF m 12 #[.val (.long x0), .second, .val (.int x1), .val (.int ((((x0.toUInt64 >>> (x1 &&& 0x3f).toInt64.toUInt64).toInt64) &&& (7 : Int64)).toInt32))] [(.int (3 : Int32)), (.int x1), (.long x0)])) _
  refine Goes.to (fun _ k => XS.iadd X0.here hx rfl (hb hby d2_12) rfl k) ?_
  show Goes p.tables e below (s₁.setTop (mkF m 13 #[.val (.long x0), .second, .val (.int x1), .val (.int ((((x0.toUInt64 >>> (x1 &&& 0x3f).toInt64.toUInt64).toInt64) &&& (7 : Int64)).toInt32))] [(.int (x1 + (3 : Int32))), (.long x0)])) _
  refine Goes.to (fun _ k => XS.lushr X0.here hx rfl (hb hby d2_13) rfl k) ?_
  show Goes p.tables e below (s₁.setTop (mkF m 14 #[.val (.long x0), .second, .val (.int x1), .val (.int ((((x0.toUInt64 >>> (x1 &&& 0x3f).toInt64.toUInt64).toInt64) &&& (7 : Int64)).toInt32))] [(.long ((x0.toUInt64 >>> ((x1 + (3 : Int32)) &&& 0x3f).toInt64.toUInt64).toInt64))])) _
  refine Goes.to (fun _ k => XS.lconst X0.here hx rfl (hb hby d2_14) k) ?_
  show Goes p.tables e below (s₁.setTop (mkF m 15 #[.val (.long x0), .second, .val (.int x1), .val (.int ((((x0.toUInt64 >>> (x1 &&& 0x3f).toInt64.toUInt64).toInt64) &&& (7 : Int64)).toInt32))] [(.long (1 : Int64)), (.long ((x0.toUInt64 >>> ((x1 + (3 : Int32)) &&& 0x3f).toInt64.toUInt64).toInt64))])) _
  refine Goes.to (fun _ k => XS.land X0.here hx rfl (hb hby d2_15) rfl k) ?_
  show Goes p.tables e below (s₁.setTop (mkF m 16 #[.val (.long x0), .second, .val (.int x1), .val (.int ((((x0.toUInt64 >>> (x1 &&& 0x3f).toInt64.toUInt64).toInt64) &&& (7 : Int64)).toInt32))] [(.long (((x0.toUInt64 >>> ((x1 + (3 : Int32)) &&& 0x3f).toInt64.toUInt64).toInt64) &&& (1 : Int64)))])) _
  refine Goes.to (fun _ k => XS.lconst X0.here hx rfl (hb hby d2_16) k) ?_
  show Goes p.tables e below (s₁.setTop (mkF m 17 #[.val (.long x0), .second, .val (.int x1), .val (.int ((((x0.toUInt64 >>> (x1 &&& 0x3f).toInt64.toUInt64).toInt64) &&& (7 : Int64)).toInt32))] [(.long (0 : Int64)), (.long (((x0.toUInt64 >>> ((x1 + (3 : Int32)) &&& 0x3f).toInt64.toUInt64).toInt64) &&& (1 : Int64)))])) _
  refine Goes.to (fun _ k => XS.lcmp X0.here hx rfl (hb hby d2_17) rfl k) ?_
  show Goes p.tables e below (s₁.setTop (mkF m 18 #[.val (.long x0), .second, .val (.int x1), .val (.int ((((x0.toUInt64 >>> (x1 &&& 0x3f).toInt64.toUInt64).toInt64) &&& (7 : Int64)).toInt32))] [(.int (lcmpW (((x0.toUInt64 >>> ((x1 + (3 : Int32)) &&& 0x3f).toInt64.toUInt64).toInt64) &&& (1 : Int64)) (0 : Int64)))])) _
  by_cases hc1 : (((x0.toUInt64 >>> ((x1 + (3 : Int32)) &&& 0x3f).toInt64.toUInt64).toInt64) &&& (1 : Int64)) = (0 : Int64)
  · refine Goes.to (fun _ k => XS.ifYes X0.here hx rfl (pc0 := 18) (pc' := 26) rfl (hb hby d2_18) rfl ((if0 _ _).trans (teq ((lw_eq (((x0.toUInt64 >>> ((x1 + (3 : Int32)) &&& 0x3f).toInt64.toUInt64).toInt64) &&& (1 : Int64)) (0 : Int64)).mpr hc1)).1) (by decide) (by decide) k) ?_
    show Goes p.tables e below (s₁.setTop (mkF m 26 #[.val (.long x0), .second, .val (.int x1), .val (.int ((((x0.toUInt64 >>> (x1 &&& 0x3f).toInt64.toUInt64).toInt64) &&& (7 : Int64)).toInt32))] [])) _
    refine Goes.to (fun _ k => XS.iloadN X0.here hx rfl (hb hby d2_26) rfl k) ?_
    show Goes p.tables e below (s₁.setTop (mkF m 27 #[.val (.long x0), .second, .val (.int x1), .val (.int ((((x0.toUInt64 >>> (x1 &&& 0x3f).toInt64.toUInt64).toInt64) &&& (7 : Int64)).toInt32))] [(.int ((((x0.toUInt64 >>> (x1 &&& 0x3f).toInt64.toUInt64).toInt64) &&& (7 : Int64)).toInt32))])) _
    obtain ⟨fs, hr, hrun, hended, hW, hsame⟩ := X0.leave (v := some (.int ((((x0.toUInt64 >>> (x1 &&& 0x3f).toInt64.toUInt64).toInt64) &&& (7 : Int64)).toInt32))) (fun h => by rw [Bd.returns] at h; cases h)
    have hv : (some (.int ((((x0.toUInt64 >>> (x1 &&& 0x3f).toInt64.toUInt64).toInt64) &&& (7 : Int64)).toInt32)) : Option Value) = some (.int (own_iv x0 x1)) := by
      unfold own_iv
      rw [if_pos hc1]
      rfl
    exact ⟨_, _, retI X0 hx Bd.returns (hb hby d2_27) hr, hrun, hended, _, _, rfl, ⟨hv, N0, e0⟩, ⟨_, rfl⟩, hW, hsame.mono (by decide) (by decide)⟩
  · refine Goes.to (fun _ k => XS.ifNo X0.here hx rfl (hb hby d2_18) rfl ((if0 _ _).trans (feq (fun q => hc1 ((lw_eq (((x0.toUInt64 >>> ((x1 + (3 : Int32)) &&& 0x3f).toInt64.toUInt64).toInt64) &&& (1 : Int64)) (0 : Int64)).mp q))).1) k) ?_
    show Goes p.tables e below (s₁.setTop (mkF m 21 #[.val (.long x0), .second, .val (.int x1), .val (.int ((((x0.toUInt64 >>> (x1 &&& 0x3f).toInt64.toUInt64).toInt64) &&& (7 : Int64)).toInt32))] [])) _
    refine Goes.to (fun _ k => XS.iloadN X0.here hx rfl (hb hby d2_21) rfl k) ?_
    show Goes p.tables e below (s₁.setTop (mkF m 22 #[.val (.long x0), .second, .val (.int x1), .val (.int ((((x0.toUInt64 >>> (x1 &&& 0x3f).toInt64.toUInt64).toInt64) &&& (7 : Int64)).toInt32))] [(.int ((((x0.toUInt64 >>> (x1 &&& 0x3f).toInt64.toUInt64).toInt64) &&& (7 : Int64)).toInt32))])) _
    refine Goes.to (fun _ k => XS.ineg X0.here hx rfl (hb hby d2_22) rfl k) ?_
    show Goes p.tables e below (s₁.setTop (mkF m 23 #[.val (.long x0), .second, .val (.int x1), .val (.int ((((x0.toUInt64 >>> (x1 &&& 0x3f).toInt64.toUInt64).toInt64) &&& (7 : Int64)).toInt32))] [(.int (-((((x0.toUInt64 >>> (x1 &&& 0x3f).toInt64.toUInt64).toInt64) &&& (7 : Int64)).toInt32)))])) _
    refine Goes.to (fun _ k => XS.goto X0.here hx rfl (pc0 := 23) (pc' := 27) rfl (hb hby d2_23) (by decide) (by decide) k) ?_
    show Goes p.tables e below (s₁.setTop (mkF m 27 #[.val (.long x0), .second, .val (.int x1), .val (.int ((((x0.toUInt64 >>> (x1 &&& 0x3f).toInt64.toUInt64).toInt64) &&& (7 : Int64)).toInt32))] [(.int (-((((x0.toUInt64 >>> (x1 &&& 0x3f).toInt64.toUInt64).toInt64) &&& (7 : Int64)).toInt32)))])) _
    obtain ⟨fs, hr, hrun, hended, hW, hsame⟩ := X0.leave (v := some (.int (-((((x0.toUInt64 >>> (x1 &&& 0x3f).toInt64.toUInt64).toInt64) &&& (7 : Int64)).toInt32)))) (fun h => by rw [Bd.returns] at h; cases h)
    have hv : (some (.int (-((((x0.toUInt64 >>> (x1 &&& 0x3f).toInt64.toUInt64).toInt64) &&& (7 : Int64)).toInt32))) : Option Value) = some (.int (own_iv x0 x1)) := by
      unfold own_iv
      rw [if_neg hc1]
      rfl
    exact ⟨_, _, retI X0 hx Bd.returns (hb hby d2_27) hr, hrun, hended, _, _, rfl, ⟨hv, N0, e0⟩, ⟨_, rfl⟩, hW, hsame.mono (by decide) (by decide)⟩

theorem d3_0 : decode prog_15_method_6_code 0 = .ok (.aload_n 0, 1) := by decide +kernel
theorem d3_1 : decode prog_15_method_6_code 1 = .ok (.astore_n 3, 1) := by decide +kernel
theorem d3_2 : decode prog_15_method_6_code 2 = .ok (.aload_n 3, 1) := by decide +kernel
theorem d3_3 : decode prog_15_method_6_code 3 = .ok (.arraylength, 1) := by decide +kernel
theorem d3_4 : decode prog_15_method_6_code 4 = .ok (.istore 4, 2) := by decide +kernel
theorem d3_6 : decode prog_15_method_6_code 6 = .ok (.iconst 0, 1) := by decide +kernel
theorem d3_7 : decode prog_15_method_6_code 7 = .ok (.istore 5, 2) := by decide +kernel
theorem d3_9 : decode prog_15_method_6_code 9 = .ok (.iload 5, 2) := by decide +kernel
theorem d3_11 : decode prog_15_method_6_code 11 = .ok (.iload 4, 2) := by decide +kernel
theorem d3_13 : decode prog_15_method_6_code 13 = .ok (.if_icmp .ge 29, 3) := by decide +kernel
theorem d3_42 : decode prog_15_method_6_code 42 = .ok (.iconst 1, 1) := by decide +kernel
theorem d3_43 : decode prog_15_method_6_code 43 = .ok (.ireturn, 1) := by decide +kernel
theorem own_pn_3 : plainName "com/example/pareto4/pareto4/front/Keys" = true := by first | (simp [plainName, overriddenIn]; done) | decide +kernel
theorem own_ef_own_rmNH0 (m : MethodId) (x0 : Addr) (x1 : Int32) (x2 : Int32) : entryFrame m #[(.ref x0), (.int x1), (.int x2)] 7 = mkF m 0 #[.val (.ref x0), .val (.int x1), .val (.int x2), .unset, .unset, .unset, .unset] [] := by first | (simp [entryFrame, mkF, argsToLocals, Value.category]; done) | rfl
def own_Q_own_rmNH0 (Z : State) (x0 : Addr) (x1 : Int32) (x2 : Int32) (kk : ClassId) (h0 : Heap) (n0 : Nat) (v : Option Value) (h : Heap) (L : List Loc) : Prop := v = some (.int (if False then (0 : Int32) else (1 : Int32))) ∧ Fr n0 L ∧ h = h0

set_option maxRecDepth 65536 in
set_option maxHeartbeats 40000000 in
theorem own_rmNH0 (l : Launch) (Z : State) (a0 : Array Value) (hw : ∀ d ∈ tables_1, d.before a0 Z = true) (ws : List Jvm.Cond) (x0 : Addr) (x1 : Int32) (x2 : Int32) (kk : ClassId) (h0 : Heap) (n0 : Nat) (Z0 : n0 ≤ h0.size) (ha0 : ¬ (x1 < (0 : Int32))) (ha1 : x1 < (3 : Int32)) (hb0 : ¬ (x2 < (0 : Int32))) (hb1 : x2 < (3 : Int32)) (VK : Arv Z h0 x0 kk (.array .double) (0 : Int32) [] .null) :
    MetFree l (⟨"com/example/pareto4/pareto4/front/Keys", "noHigher", "([[DII)Z"⟩ : MethodName) (head1 (Jvm.Cond.code (⟨"com/example/pareto4/pareto4/front/Keys", "noHigher", "([[DII)Z"⟩ : MethodName) prog_15_method_6_code 7 (some .boolean) :: ws) ({ frames := 0, cells := 0, slots := 0, locals := 0 } : Room)) (fun a U => a = #[(.ref x0), (.int x1), (.int x2)] ∧ Z.Warmed39 U.vm ∧ U.heap = h0) (fun _ _ _ _ _ => True) (fun _ U o U' => ∃ v L, o = .returned v ∧ own_Q_own_rmNH0 Z x0 x1 x2 kk h0 n0 v U'.heap L ∧ FrameEnd U o U' L ({ frames := 0, cells := 0, slots := 0, locals := 0 } : Room).cells ({ frames := 0, cells := 0, slots := 0, locals := 0 } : Room).slots) := by
  refine MetFree.of_bodySF (plainFor_of_name own_pn_3) hisR ?_
  intro p e s m args below meth c s₁ Bd hml0 hP hK
  obtain ⟨rfl, hZ, hh⟩ := hP
  have hx := Bd.exec
  have hby := Bd.bytes
  have hml : c.maxLocals = 7 := hml0
  have hown : s.vm.findClass "com/example/pareto4/pareto4/front/Keys" = some m.cls := findClass_of_methodNamed Bd.named
  have hnm := (name_of_methodNamed Bd.named Bd.method).1
  have X0 : Stand p l e ({ frames := 0, cells := 0, slots := 0, locals := 0 } : Room) s m #[(.ref x0), (.int x1), (.int x2)] below meth c s₁ [] 0 0 := Stand.of_body Bd
  have e0 : s₁.heap = h0 := by rw [← hh, Bd.state]; rfl
  have N0 := Fr.nil n0
  show Goes p.tables e below _ (own_R below s (own_Q_own_rmNH0 Z x0 x1 x2 kk h0 n0) ({ frames := 0, cells := 0, slots := 0, locals := 0 } : Room).cells ({ frames := 0, cells := 0, slots := 0, locals := 0 } : Room).slots)
  refine Goes.to (fun t k => castTop (own_ef_own_rmNH0 m x0 x1 x2) k) ?_
  show Goes p.tables e below (s₁.setTop (mkF m 0 #[.val (.ref x0), .val (.int x1), .val (.int x2), .unset, .unset, .unset, .unset] [])) _
  refine Goes.to (fun _ k => XS.aloadN X0.here hx rfl (hb hby d3_0) rfl rfl k) ?_
  show Goes p.tables e below (s₁.setTop (mkF m 1 #[.val (.ref x0), .val (.int x1), .val (.int x2), .unset, .unset, .unset, .unset] [(.ref x0)])) _
  refine Goes.to (fun _ k => XS.astoreN X0.here hx rfl (hb hby d3_1) rfl rfl (l' := #[.val (.ref x0), .val (.int x1), .val (.int x2), .val (.ref x0), .unset, .unset, .unset]) rfl k) ?_
  show Goes p.tables e below (s₁.setTop (mkF m 2 #[.val (.ref x0), .val (.int x1), .val (.int x2), .val (.ref x0), .unset, .unset, .unset] [])) _
  refine Goes.to (fun _ k => XS.aloadN X0.here hx rfl (hb hby d3_2) rfl rfl k) ?_
  show Goes p.tables e below (s₁.setTop (mkF m 3 #[.val (.ref x0), .val (.int x1), .val (.int x2), .val (.ref x0), .unset, .unset, .unset] [(.ref x0)])) _
  obtain ⟨cl1, Ar1, -, S1, N1, -, -⟩ := id VK
  refine Goes.to (fun _ k => X0.arraylength hx (by rw [e0]; exact Ar1.1) (State.isArrayOf_alike hZ.alike Ar1.2.1) (g := (mkF m 3 #[.val (.ref x0), .val (.int x1), .val (.int x2), .val (.ref x0), .unset, .unset, .unset] [(.ref x0)])) rfl rfl (hb hby d3_3) _ k) ?_
  rw [len_of S1 N1]
  show Goes p.tables e below (s₁.setTop (mkF m 4 #[.val (.ref x0), .val (.int x1), .val (.int x2), .val (.ref x0), .unset, .unset, .unset] [(.int (0 : Int32))])) _
  refine Goes.to (fun _ k => XS.istore X0.here hx rfl (hb hby d3_4) rfl (l' := #[.val (.ref x0), .val (.int x1), .val (.int x2), .val (.ref x0), .val (.int (0 : Int32)), .unset, .unset]) rfl k) ?_
  show Goes p.tables e below (s₁.setTop (mkF m 6 #[.val (.ref x0), .val (.int x1), .val (.int x2), .val (.ref x0), .val (.int (0 : Int32)), .unset, .unset] [])) _
  refine Goes.to (fun _ k => XS.iconst X0.here hx rfl (hb hby d3_6) k) ?_
  show Goes p.tables e below (s₁.setTop (mkF m 7 #[.val (.ref x0), .val (.int x1), .val (.int x2), .val (.ref x0), .val (.int (0 : Int32)), .unset, .unset] [(.int (0 : Int32))])) _
  refine Goes.to (fun _ k => XS.istore X0.here hx rfl (hb hby d3_7) rfl (l' := #[.val (.ref x0), .val (.int x1), .val (.int x2), .val (.ref x0), .val (.int (0 : Int32)), .val (.int (0 : Int32)), .unset]) rfl k) ?_
  show Goes p.tables e below (s₁.setTop (mkF m 9 #[.val (.ref x0), .val (.int x1), .val (.int x2), .val (.ref x0), .val (.int (0 : Int32)), .val (.int (0 : Int32)), .unset] [])) _
  refine Goes.to (fun _ k => XS.iload X0.here hx rfl (hb hby d3_9) rfl k) ?_
  show Goes p.tables e below (s₁.setTop (mkF m 11 #[.val (.ref x0), .val (.int x1), .val (.int x2), .val (.ref x0), .val (.int (0 : Int32)), .val (.int (0 : Int32)), .unset] [(.int (0 : Int32))])) _
  refine Goes.to (fun _ k => XS.iload X0.here hx rfl (hb hby d3_11) rfl k) ?_
  show Goes p.tables e below (s₁.setTop (mkF m 13 #[.val (.ref x0), .val (.int x1), .val (.int x2), .val (.ref x0), .val (.int (0 : Int32)), .val (.int (0 : Int32)), .unset] [(.int (0 : Int32)), (.int (0 : Int32))])) _
  refine Goes.to (fun _ k => XS.icmpYes X0.here hx rfl (pc0 := 13) (pc' := 42) rfl (hb hby d3_13) rfl (flt (by decide : ¬ ((0 : Int32) < (0 : Int32)))).2.1 (by decide) (by decide) k) ?_
  show Goes p.tables e below (s₁.setTop (mkF m 42 #[.val (.ref x0), .val (.int x1), .val (.int x2), .val (.ref x0), .val (.int (0 : Int32)), .val (.int (0 : Int32)), .unset] [])) _
  refine Goes.to (fun _ k => XS.iconst X0.here hx rfl (hb hby d3_42) k) ?_
  show Goes p.tables e below (s₁.setTop (mkF m 43 #[.val (.ref x0), .val (.int x1), .val (.int x2), .val (.ref x0), .val (.int (0 : Int32)), .val (.int (0 : Int32)), .unset] [(.int (1 : Int32))])) _
  obtain ⟨fs, hr, hrun, hended, hW, hsame⟩ := X0.leave (v := some (.int (1 : Int32))) (fun h => by rw [Bd.returns] at h; cases h)
  have hv : (some (.int (1 : Int32)) : Option Value) = some (.int (if False then (0 : Int32) else (1 : Int32))) := by
    rw [if_neg (fun q => q)]
  exact ⟨_, _, retN X0 hx (t := .boolean) Bd.returns (by simp) (hb hby d3_43) hr, hrun, hended, _, _, rfl, ⟨hv, N0, e0⟩, ⟨_, rfl⟩, hW, hsame.mono (by decide) (by decide)⟩

theorem d3_16 : decode prog_15_method_6_code 16 = .ok (.aload_n 3, 1) := by decide +kernel
theorem d3_17 : decode prog_15_method_6_code 17 = .ok (.iload 5, 2) := by decide +kernel
theorem d3_19 : decode prog_15_method_6_code 19 = .ok (.aaload, 1) := by decide +kernel
theorem d3_20 : decode prog_15_method_6_code 20 = .ok (.astore 6, 2) := by decide +kernel
theorem d3_22 : decode prog_15_method_6_code 22 = .ok (.aload 6, 2) := by decide +kernel
theorem d3_24 : decode prog_15_method_6_code 24 = .ok (.iload_n 1, 1) := by decide +kernel
theorem d3_25 : decode prog_15_method_6_code 25 = .ok (.daload, 1) := by decide +kernel
theorem d3_26 : decode prog_15_method_6_code 26 = .ok (.aload 6, 2) := by decide +kernel
theorem d3_28 : decode prog_15_method_6_code 28 = .ok (.iload_n 2, 1) := by decide +kernel
theorem d3_29 : decode prog_15_method_6_code 29 = .ok (.daload, 1) := by decide +kernel
theorem d3_30 : decode prog_15_method_6_code 30 = .ok (.dcmp .l, 1) := by decide +kernel
theorem d3_31 : decode prog_15_method_6_code 31 = .ok (.ifCond .le 5, 3) := by decide +kernel
theorem d3_34 : decode prog_15_method_6_code 34 = .ok (.iconst 0, 1) := by decide +kernel
theorem d3_35 : decode prog_15_method_6_code 35 = .ok (.ireturn, 1) := by decide +kernel
theorem d3_36 : decode prog_15_method_6_code 36 = .ok (.iinc 5 1, 3) := by decide +kernel
theorem d3_39 : decode prog_15_method_6_code 39 = .ok (.goto (-30), 3) := by decide +kernel
theorem own_ef_own_rmNH1 (m : MethodId) (x0 : Addr) (x1 : Int32) (x2 : Int32) : entryFrame m #[(.ref x0), (.int x1), (.int x2)] 7 = mkF m 0 #[.val (.ref x0), .val (.int x1), .val (.int x2), .unset, .unset, .unset, .unset] [] := by first | (simp [entryFrame, mkF, argsToLocals, Value.category]; done) | rfl
def own_Q_own_rmNH1 (Z : State) (x0 : Addr) (x1 : Int32) (x2 : Int32) (kk : ClassId) (r0 : Addr) (kd0 : ClassId) (d00 : UInt64) (d01 : UInt64) (d02 : UInt64) (h0 : Heap) (n0 : Nat) (v : Option Value) (h : Heap) (L : List Loc) : Prop := v = some (.int (if ((0 : Int32) < (cmpValue (FP.dcmp (own_at d00 d01 d02 x1) (own_at d00 d01 d02 x2)) .l)) then (0 : Int32) else (1 : Int32))) ∧ Fr n0 L ∧ h = h0

set_option maxRecDepth 65536 in
set_option maxHeartbeats 40000000 in
theorem own_rmNH1 (l : Launch) (Z : State) (a0 : Array Value) (hw : ∀ d ∈ tables_1, d.before a0 Z = true) (ws : List Jvm.Cond) (x0 : Addr) (x1 : Int32) (x2 : Int32) (kk : ClassId) (r0 : Addr) (kd0 : ClassId) (d00 : UInt64) (d01 : UInt64) (d02 : UInt64) (h0 : Heap) (n0 : Nat) (Z0 : n0 ≤ h0.size) (ha0 : ¬ (x1 < (0 : Int32))) (ha1 : x1 < (3 : Int32)) (hb0 : ¬ (x2 < (0 : Int32))) (hb1 : x2 < (3 : Int32)) (VR0 : Arv Z h0 r0 kd0 .double (3 : Int32) [(.double d00), (.double d01), (.double d02)] (.double (0 : UInt64))) (VK : Arv Z h0 x0 kk (.array .double) (1 : Int32) [(.ref r0)] .null) :
    MetFree l (⟨"com/example/pareto4/pareto4/front/Keys", "noHigher", "([[DII)Z"⟩ : MethodName) (head1 (Jvm.Cond.code (⟨"com/example/pareto4/pareto4/front/Keys", "noHigher", "([[DII)Z"⟩ : MethodName) prog_15_method_6_code 7 (some .boolean) :: ws) ({ frames := 0, cells := 0, slots := 0, locals := 0 } : Room)) (fun a U => a = #[(.ref x0), (.int x1), (.int x2)] ∧ Z.Warmed39 U.vm ∧ U.heap = h0) (fun _ _ _ _ _ => True) (fun _ U o U' => ∃ v L, o = .returned v ∧ own_Q_own_rmNH1 Z x0 x1 x2 kk r0 kd0 d00 d01 d02 h0 n0 v U'.heap L ∧ FrameEnd U o U' L ({ frames := 0, cells := 0, slots := 0, locals := 0 } : Room).cells ({ frames := 0, cells := 0, slots := 0, locals := 0 } : Room).slots) := by
  refine MetFree.of_bodySF (plainFor_of_name own_pn_3) hisR ?_
  intro p e s m args below meth c s₁ Bd hml0 hP hK
  obtain ⟨rfl, hZ, hh⟩ := hP
  have hx := Bd.exec
  have hby := Bd.bytes
  have hml : c.maxLocals = 7 := hml0
  have hown : s.vm.findClass "com/example/pareto4/pareto4/front/Keys" = some m.cls := findClass_of_methodNamed Bd.named
  have hnm := (name_of_methodNamed Bd.named Bd.method).1
  have X0 : Stand p l e ({ frames := 0, cells := 0, slots := 0, locals := 0 } : Room) s m #[(.ref x0), (.int x1), (.int x2)] below meth c s₁ [] 0 0 := Stand.of_body Bd
  have e0 : s₁.heap = h0 := by rw [← hh, Bd.state]; rfl
  have N0 := Fr.nil n0
  show Goes p.tables e below _ (own_R below s (own_Q_own_rmNH1 Z x0 x1 x2 kk r0 kd0 d00 d01 d02 h0 n0) ({ frames := 0, cells := 0, slots := 0, locals := 0 } : Room).cells ({ frames := 0, cells := 0, slots := 0, locals := 0 } : Room).slots)
  refine Goes.to (fun t k => castTop (own_ef_own_rmNH1 m x0 x1 x2) k) ?_
  show Goes p.tables e below (s₁.setTop (mkF m 0 #[.val (.ref x0), .val (.int x1), .val (.int x2), .unset, .unset, .unset, .unset] [])) _
  refine Goes.to (fun _ k => XS.aloadN X0.here hx rfl (hb hby d3_0) rfl rfl k) ?_
  show Goes p.tables e below (s₁.setTop (mkF m 1 #[.val (.ref x0), .val (.int x1), .val (.int x2), .unset, .unset, .unset, .unset] [(.ref x0)])) _
  refine Goes.to (fun _ k => XS.astoreN X0.here hx rfl (hb hby d3_1) rfl rfl (l' := #[.val (.ref x0), .val (.int x1), .val (.int x2), .val (.ref x0), .unset, .unset, .unset]) rfl k) ?_
  show Goes p.tables e below (s₁.setTop (mkF m 2 #[.val (.ref x0), .val (.int x1), .val (.int x2), .val (.ref x0), .unset, .unset, .unset] [])) _
  refine Goes.to (fun _ k => XS.aloadN X0.here hx rfl (hb hby d3_2) rfl rfl k) ?_
  show Goes p.tables e below (s₁.setTop (mkF m 3 #[.val (.ref x0), .val (.int x1), .val (.int x2), .val (.ref x0), .unset, .unset, .unset] [(.ref x0)])) _
  obtain ⟨cl1, Ar1, -, S1, N1, -, -⟩ := id VK
  refine Goes.to (fun _ k => X0.arraylength hx (by rw [e0]; exact Ar1.1) (State.isArrayOf_alike hZ.alike Ar1.2.1) (g := (mkF m 3 #[.val (.ref x0), .val (.int x1), .val (.int x2), .val (.ref x0), .unset, .unset, .unset] [(.ref x0)])) rfl rfl (hb hby d3_3) _ k) ?_
  rw [len_of S1 N1]
  show Goes p.tables e below (s₁.setTop (mkF m 4 #[.val (.ref x0), .val (.int x1), .val (.int x2), .val (.ref x0), .unset, .unset, .unset] [(.int (1 : Int32))])) _
  refine Goes.to (fun _ k => XS.istore X0.here hx rfl (hb hby d3_4) rfl (l' := #[.val (.ref x0), .val (.int x1), .val (.int x2), .val (.ref x0), .val (.int (1 : Int32)), .unset, .unset]) rfl k) ?_
  show Goes p.tables e below (s₁.setTop (mkF m 6 #[.val (.ref x0), .val (.int x1), .val (.int x2), .val (.ref x0), .val (.int (1 : Int32)), .unset, .unset] [])) _
  refine Goes.to (fun _ k => XS.iconst X0.here hx rfl (hb hby d3_6) k) ?_
  show Goes p.tables e below (s₁.setTop (mkF m 7 #[.val (.ref x0), .val (.int x1), .val (.int x2), .val (.ref x0), .val (.int (1 : Int32)), .unset, .unset] [(.int (0 : Int32))])) _
  refine Goes.to (fun _ k => XS.istore X0.here hx rfl (hb hby d3_7) rfl (l' := #[.val (.ref x0), .val (.int x1), .val (.int x2), .val (.ref x0), .val (.int (1 : Int32)), .val (.int (0 : Int32)), .unset]) rfl k) ?_
  show Goes p.tables e below (s₁.setTop (mkF m 9 #[.val (.ref x0), .val (.int x1), .val (.int x2), .val (.ref x0), .val (.int (1 : Int32)), .val (.int (0 : Int32)), .unset] [])) _
  refine Goes.to (fun _ k => XS.iload X0.here hx rfl (hb hby d3_9) rfl k) ?_
  show Goes p.tables e below (s₁.setTop (mkF m 11 #[.val (.ref x0), .val (.int x1), .val (.int x2), .val (.ref x0), .val (.int (1 : Int32)), .val (.int (0 : Int32)), .unset] [(.int (0 : Int32))])) _
  refine Goes.to (fun _ k => XS.iload X0.here hx rfl (hb hby d3_11) rfl k) ?_
  show Goes p.tables e below (s₁.setTop (mkF m 13 #[.val (.ref x0), .val (.int x1), .val (.int x2), .val (.ref x0), .val (.int (1 : Int32)), .val (.int (0 : Int32)), .unset] [(.int (1 : Int32)), (.int (0 : Int32))])) _
  refine Goes.to (fun _ k => XS.icmpNo X0.here hx rfl (hb hby d3_13) rfl (tlt (by decide : (0 : Int32) < (1 : Int32))).2.1 k) ?_
  show Goes p.tables e below (s₁.setTop (mkF m 16 #[.val (.ref x0), .val (.int x1), .val (.int x2), .val (.ref x0), .val (.int (1 : Int32)), .val (.int (0 : Int32)), .unset] [])) _
  refine Goes.to (fun _ k => XS.aloadN X0.here hx rfl (hb hby d3_16) rfl rfl k) ?_
  show Goes p.tables e below (s₁.setTop (mkF m 17 #[.val (.ref x0), .val (.int x1), .val (.int x2), .val (.ref x0), .val (.int (1 : Int32)), .val (.int (0 : Int32)), .unset] [(.ref x0)])) _
  refine Goes.to (fun _ k => XS.iload X0.here hx rfl (hb hby d3_17) rfl k) ?_
  show Goes p.tables e below (s₁.setTop (mkF m 19 #[.val (.ref x0), .val (.int x1), .val (.int x2), .val (.ref x0), .val (.int (1 : Int32)), .val (.int (0 : Int32)), .unset] [(.int (0 : Int32)), (.ref x0)])) _
  obtain ⟨cl2, Ar2, q2, S2, N2, H2, G2⟩ := id VK
  have hin2 : ¬ ((0 : Int32) < 0 ∨ cl2.slots.size ≤ ((0 : Int32)).toNatClampNeg) := inb_of S2 ⟨by decide, by decide⟩
  have hat2 : cl2.slots[((0 : Int32)).toNatClampNeg]? = some (.ref r0) := Has.at H2 hin2 rfl
  refine Goes.to (fun _ k => X0.aaload hx (j := (0 : Int32)) (v := (.ref r0)) (by rw [e0]; exact Ar2.1) (State.isArrayOf_alike hZ.alike Ar2.2.1) rfl Ar2.2.2 hin2 hat2 (g := (mkF m 19 #[.val (.ref x0), .val (.int x1), .val (.int x2), .val (.ref x0), .val (.int (1 : Int32)), .val (.int (0 : Int32)), .unset] [(.int (0 : Int32)), (.ref x0)])) rfl rfl (hb hby d3_19) _ k) ?_
  show Goes p.tables e below (s₁.setTop (mkF m 20 #[.val (.ref x0), .val (.int x1), .val (.int x2), .val (.ref x0), .val (.int (1 : Int32)), .val (.int (0 : Int32)), .unset] [(.ref r0)])) _
  refine Goes.to (fun _ k => XS.astore X0.here hx rfl (hb hby d3_20) rfl rfl (l' := #[.val (.ref x0), .val (.int x1), .val (.int x2), .val (.ref x0), .val (.int (1 : Int32)), .val (.int (0 : Int32)), .val (.ref r0)]) rfl k) ?_
  show Goes p.tables e below (s₁.setTop (mkF m 22 #[.val (.ref x0), .val (.int x1), .val (.int x2), .val (.ref x0), .val (.int (1 : Int32)), .val (.int (0 : Int32)), .val (.ref r0)] [])) _
  refine Goes.to (fun _ k => XS.aload X0.here hx rfl (hb hby d3_22) rfl rfl k) ?_
  show Goes p.tables e below (s₁.setTop (mkF m 24 #[.val (.ref x0), .val (.int x1), .val (.int x2), .val (.ref x0), .val (.int (1 : Int32)), .val (.int (0 : Int32)), .val (.ref r0)] [(.ref r0)])) _
  refine Goes.to (fun _ k => XS.iloadN X0.here hx rfl (hb hby d3_24) rfl k) ?_
  show Goes p.tables e below (s₁.setTop (mkF m 25 #[.val (.ref x0), .val (.int x1), .val (.int x2), .val (.ref x0), .val (.int (1 : Int32)), .val (.int (0 : Int32)), .val (.ref r0)] [(.int x1), (.ref r0)])) _
  obtain ⟨cl3, Ar3, q3, S3, N3, H3, G3⟩ := id VR0
  have hin3 : ¬ (x1 < 0 ∨ cl3.slots.size ≤ (x1).toNatClampNeg) := by
    have k1 := rng32 x1
    have k2 : (0 : Int32).toInt = 0 := rfl
    have k3 : ¬ x1.toInt < (0 : Int32).toInt := fun z => ha0 (Int32.lt_iff_toInt_lt.mpr z)
    have k4 : (3 : Int32).toInt = 3 := rfl
    have k5 : x1.toInt < (3 : Int32).toInt := Int32.lt_iff_toInt_lt.mp ha1
    have k6 := rng32 x2
    have k7 : ¬ x2.toInt < (0 : Int32).toInt := fun z => hb0 (Int32.lt_iff_toInt_lt.mpr z)
    have k8 : x2.toInt < (3 : Int32).toInt := Int32.lt_iff_toInt_lt.mp hb1
    refine inb_of S3 ⟨fun hq => ?_, Int32.lt_iff_toInt_lt.mpr ?_⟩
    · have hq' := Int32.lt_iff_toInt_lt.mp hq
      omega
    · omega
  have hat3 : cl3.slots[(x1).toNatClampNeg]? = some (.double (own_at d00 d01 d02 x1)) := Has.at H3 hin3 (own_at_eq d00 d01 d02 x1)
  refine Goes.to (fun _ k => X0.daload hx (j := x1) (v := (.double (own_at d00 d01 d02 x1))) (by rw [e0]; exact Ar3.1) (State.isArrayOf_alike hZ.alike Ar3.2.1) Ar3.2.2 hin3 hat3 (g := (mkF m 25 #[.val (.ref x0), .val (.int x1), .val (.int x2), .val (.ref x0), .val (.int (1 : Int32)), .val (.int (0 : Int32)), .val (.ref r0)] [(.int x1), (.ref r0)])) rfl rfl (hb hby d3_25) _ k) ?_
  show Goes p.tables e below (s₁.setTop (mkF m 26 #[.val (.ref x0), .val (.int x1), .val (.int x2), .val (.ref x0), .val (.int (1 : Int32)), .val (.int (0 : Int32)), .val (.ref r0)] [(.double (own_at d00 d01 d02 x1))])) _
  refine Goes.to (fun _ k => XS.aload X0.here hx rfl (hb hby d3_26) rfl rfl k) ?_
  show Goes p.tables e below (s₁.setTop (mkF m 28 #[.val (.ref x0), .val (.int x1), .val (.int x2), .val (.ref x0), .val (.int (1 : Int32)), .val (.int (0 : Int32)), .val (.ref r0)] [(.ref r0), (.double (own_at d00 d01 d02 x1))])) _
  refine Goes.to (fun _ k => XS.iloadN X0.here hx rfl (hb hby d3_28) rfl k) ?_
  show Goes p.tables e below (s₁.setTop (mkF m 29 #[.val (.ref x0), .val (.int x1), .val (.int x2), .val (.ref x0), .val (.int (1 : Int32)), .val (.int (0 : Int32)), .val (.ref r0)] [(.int x2), (.ref r0), (.double (own_at d00 d01 d02 x1))])) _
  obtain ⟨cl4, Ar4, q4, S4, N4, H4, G4⟩ := id VR0
  have hin4 : ¬ (x2 < 0 ∨ cl4.slots.size ≤ (x2).toNatClampNeg) := by
    have k1 := rng32 x1
    have k2 : (0 : Int32).toInt = 0 := rfl
    have k3 : ¬ x1.toInt < (0 : Int32).toInt := fun z => ha0 (Int32.lt_iff_toInt_lt.mpr z)
    have k4 : (3 : Int32).toInt = 3 := rfl
    have k5 : x1.toInt < (3 : Int32).toInt := Int32.lt_iff_toInt_lt.mp ha1
    have k6 := rng32 x2
    have k7 : ¬ x2.toInt < (0 : Int32).toInt := fun z => hb0 (Int32.lt_iff_toInt_lt.mpr z)
    have k8 : x2.toInt < (3 : Int32).toInt := Int32.lt_iff_toInt_lt.mp hb1
    refine inb_of S4 ⟨fun hq => ?_, Int32.lt_iff_toInt_lt.mpr ?_⟩
    · have hq' := Int32.lt_iff_toInt_lt.mp hq
      omega
    · omega
  have hat4 : cl4.slots[(x2).toNatClampNeg]? = some (.double (own_at d00 d01 d02 x2)) := Has.at H4 hin4 (own_at_eq d00 d01 d02 x2)
  refine Goes.to (fun _ k => X0.daload hx (j := x2) (v := (.double (own_at d00 d01 d02 x2))) (by rw [e0]; exact Ar4.1) (State.isArrayOf_alike hZ.alike Ar4.2.1) Ar4.2.2 hin4 hat4 (g := (mkF m 29 #[.val (.ref x0), .val (.int x1), .val (.int x2), .val (.ref x0), .val (.int (1 : Int32)), .val (.int (0 : Int32)), .val (.ref r0)] [(.int x2), (.ref r0), (.double (own_at d00 d01 d02 x1))])) rfl rfl (hb hby d3_29) _ k) ?_
  show Goes p.tables e below (s₁.setTop (mkF m 30 #[.val (.ref x0), .val (.int x1), .val (.int x2), .val (.ref x0), .val (.int (1 : Int32)), .val (.int (0 : Int32)), .val (.ref r0)] [(.double (own_at d00 d01 d02 x2)), (.double (own_at d00 d01 d02 x1))])) _
  refine Goes.to (fun _ k => XS.dcmpS X0.here hx rfl (hb hby d3_30) rfl rfl k) ?_
  show Goes p.tables e below (s₁.setTop (mkF m 31 #[.val (.ref x0), .val (.int x1), .val (.int x2), .val (.ref x0), .val (.int (1 : Int32)), .val (.int (0 : Int32)), .val (.ref r0)] [(.int (cmpValue (FP.dcmp (own_at d00 d01 d02 x1) (own_at d00 d01 d02 x2)) .l))])) _
  by_cases hc5 : (0 : Int32) < (cmpValue (FP.dcmp (own_at d00 d01 d02 x1) (own_at d00 d01 d02 x2)) .l)
  · refine Goes.to (fun _ k => XS.ifNo X0.here hx rfl (hb hby d3_31) rfl ((if0 _ _).trans (tlt hc5).2.2.2) k) ?_
    show Goes p.tables e below (s₁.setTop (mkF m 34 #[.val (.ref x0), .val (.int x1), .val (.int x2), .val (.ref x0), .val (.int (1 : Int32)), .val (.int (0 : Int32)), .val (.ref r0)] [])) _
    refine Goes.to (fun _ k => XS.iconst X0.here hx rfl (hb hby d3_34) k) ?_
    show Goes p.tables e below (s₁.setTop (mkF m 35 #[.val (.ref x0), .val (.int x1), .val (.int x2), .val (.ref x0), .val (.int (1 : Int32)), .val (.int (0 : Int32)), .val (.ref r0)] [(.int (0 : Int32))])) _
    obtain ⟨fs, hr, hrun, hended, hW, hsame⟩ := X0.leave (v := some (.int (0 : Int32))) (fun h => by rw [Bd.returns] at h; cases h)
    have hv : (some (.int (0 : Int32)) : Option Value) = some (.int (if ((0 : Int32) < (cmpValue (FP.dcmp (own_at d00 d01 d02 x1) (own_at d00 d01 d02 x2)) .l)) then (0 : Int32) else (1 : Int32))) := by
      rw [if_pos (hc5)]
    exact ⟨_, _, retN X0 hx (t := .boolean) Bd.returns (by simp) (hb hby d3_35) hr, hrun, hended, _, _, rfl, ⟨hv, N0, e0⟩, ⟨_, rfl⟩, hW, hsame.mono (by decide) (by decide)⟩
  · refine Goes.to (fun _ k => XS.ifYes X0.here hx rfl (pc0 := 31) (pc' := 36) rfl (hb hby d3_31) rfl ((if0 _ _).trans (flt hc5).2.2.2) (by decide) (by decide) k) ?_
    show Goes p.tables e below (s₁.setTop (mkF m 36 #[.val (.ref x0), .val (.int x1), .val (.int x2), .val (.ref x0), .val (.int (1 : Int32)), .val (.int (0 : Int32)), .val (.ref r0)] [])) _
    refine Goes.to (fun _ k => XS.iinc X0.here hx rfl (hb hby d3_36) rfl (l' := #[.val (.ref x0), .val (.int x1), .val (.int x2), .val (.ref x0), .val (.int (1 : Int32)), .val (.int (1 : Int32)), .val (.ref r0)]) rfl k) ?_
    show Goes p.tables e below (s₁.setTop (mkF m 39 #[.val (.ref x0), .val (.int x1), .val (.int x2), .val (.ref x0), .val (.int (1 : Int32)), .val (.int (1 : Int32)), .val (.ref r0)] [])) _
    refine Goes.to (fun _ k => XS.goto X0.here hx rfl (pc0 := 39) (pc' := 9) rfl (hb hby d3_39) (by decide) (by decide) k) ?_
    show Goes p.tables e below (s₁.setTop (mkF m 9 #[.val (.ref x0), .val (.int x1), .val (.int x2), .val (.ref x0), .val (.int (1 : Int32)), .val (.int (1 : Int32)), .val (.ref r0)] [])) _
    refine Goes.to (fun _ k => XS.iload X0.here hx rfl (hb hby d3_9) rfl k) ?_
    show Goes p.tables e below (s₁.setTop (mkF m 11 #[.val (.ref x0), .val (.int x1), .val (.int x2), .val (.ref x0), .val (.int (1 : Int32)), .val (.int (1 : Int32)), .val (.ref r0)] [(.int (1 : Int32))])) _
    refine Goes.to (fun _ k => XS.iload X0.here hx rfl (hb hby d3_11) rfl k) ?_
    show Goes p.tables e below (s₁.setTop (mkF m 13 #[.val (.ref x0), .val (.int x1), .val (.int x2), .val (.ref x0), .val (.int (1 : Int32)), .val (.int (1 : Int32)), .val (.ref r0)] [(.int (1 : Int32)), (.int (1 : Int32))])) _
    refine Goes.to (fun _ k => XS.icmpYes X0.here hx rfl (pc0 := 13) (pc' := 42) rfl (hb hby d3_13) rfl (flt (by decide : ¬ ((1 : Int32) < (1 : Int32)))).2.1 (by decide) (by decide) k) ?_
    show Goes p.tables e below (s₁.setTop (mkF m 42 #[.val (.ref x0), .val (.int x1), .val (.int x2), .val (.ref x0), .val (.int (1 : Int32)), .val (.int (1 : Int32)), .val (.ref r0)] [])) _
    refine Goes.to (fun _ k => XS.iconst X0.here hx rfl (hb hby d3_42) k) ?_
    show Goes p.tables e below (s₁.setTop (mkF m 43 #[.val (.ref x0), .val (.int x1), .val (.int x2), .val (.ref x0), .val (.int (1 : Int32)), .val (.int (1 : Int32)), .val (.ref r0)] [(.int (1 : Int32))])) _
    obtain ⟨fs, hr, hrun, hended, hW, hsame⟩ := X0.leave (v := some (.int (1 : Int32))) (fun h => by rw [Bd.returns] at h; cases h)
    have hv : (some (.int (1 : Int32)) : Option Value) = some (.int (if ((0 : Int32) < (cmpValue (FP.dcmp (own_at d00 d01 d02 x1) (own_at d00 d01 d02 x2)) .l)) then (0 : Int32) else (1 : Int32))) := by
      rw [if_neg hc5]
    exact ⟨_, _, retN X0 hx (t := .boolean) Bd.returns (by simp) (hb hby d3_43) hr, hrun, hended, _, _, rfl, ⟨hv, N0, e0⟩, ⟨_, rfl⟩, hW, hsame.mono (by decide) (by decide)⟩

theorem own_ef_own_rmNH2 (m : MethodId) (x0 : Addr) (x1 : Int32) (x2 : Int32) : entryFrame m #[(.ref x0), (.int x1), (.int x2)] 7 = mkF m 0 #[.val (.ref x0), .val (.int x1), .val (.int x2), .unset, .unset, .unset, .unset] [] := by first | (simp [entryFrame, mkF, argsToLocals, Value.category]; done) | rfl
def own_Q_own_rmNH2 (Z : State) (x0 : Addr) (x1 : Int32) (x2 : Int32) (kk : ClassId) (r0 : Addr) (kd0 : ClassId) (d00 : UInt64) (d01 : UInt64) (d02 : UInt64) (r1 : Addr) (kd1 : ClassId) (d10 : UInt64) (d11 : UInt64) (d12 : UInt64) (h0 : Heap) (n0 : Nat) (v : Option Value) (h : Heap) (L : List Loc) : Prop := v = some (.int (if ((0 : Int32) < (cmpValue (FP.dcmp (own_at d00 d01 d02 x1) (own_at d00 d01 d02 x2)) .l)) ∨ ((0 : Int32) < (cmpValue (FP.dcmp (own_at d10 d11 d12 x1) (own_at d10 d11 d12 x2)) .l)) then (0 : Int32) else (1 : Int32))) ∧ Fr n0 L ∧ h = h0

set_option maxRecDepth 65536 in
set_option maxHeartbeats 40000000 in
theorem own_rmNH2 (l : Launch) (Z : State) (a0 : Array Value) (hw : ∀ d ∈ tables_1, d.before a0 Z = true) (ws : List Jvm.Cond) (x0 : Addr) (x1 : Int32) (x2 : Int32) (kk : ClassId) (r0 : Addr) (kd0 : ClassId) (d00 : UInt64) (d01 : UInt64) (d02 : UInt64) (r1 : Addr) (kd1 : ClassId) (d10 : UInt64) (d11 : UInt64) (d12 : UInt64) (h0 : Heap) (n0 : Nat) (Z0 : n0 ≤ h0.size) (ha0 : ¬ (x1 < (0 : Int32))) (ha1 : x1 < (3 : Int32)) (hb0 : ¬ (x2 < (0 : Int32))) (hb1 : x2 < (3 : Int32)) (VR0 : Arv Z h0 r0 kd0 .double (3 : Int32) [(.double d00), (.double d01), (.double d02)] (.double (0 : UInt64))) (VR1 : Arv Z h0 r1 kd1 .double (3 : Int32) [(.double d10), (.double d11), (.double d12)] (.double (0 : UInt64))) (VK : Arv Z h0 x0 kk (.array .double) (2 : Int32) [(.ref r0), (.ref r1)] .null) :
    MetFree l (⟨"com/example/pareto4/pareto4/front/Keys", "noHigher", "([[DII)Z"⟩ : MethodName) (head1 (Jvm.Cond.code (⟨"com/example/pareto4/pareto4/front/Keys", "noHigher", "([[DII)Z"⟩ : MethodName) prog_15_method_6_code 7 (some .boolean) :: ws) ({ frames := 0, cells := 0, slots := 0, locals := 0 } : Room)) (fun a U => a = #[(.ref x0), (.int x1), (.int x2)] ∧ Z.Warmed39 U.vm ∧ U.heap = h0) (fun _ _ _ _ _ => True) (fun _ U o U' => ∃ v L, o = .returned v ∧ own_Q_own_rmNH2 Z x0 x1 x2 kk r0 kd0 d00 d01 d02 r1 kd1 d10 d11 d12 h0 n0 v U'.heap L ∧ FrameEnd U o U' L ({ frames := 0, cells := 0, slots := 0, locals := 0 } : Room).cells ({ frames := 0, cells := 0, slots := 0, locals := 0 } : Room).slots) := by
  refine MetFree.of_bodySF (plainFor_of_name own_pn_3) hisR ?_
  intro p e s m args below meth c s₁ Bd hml0 hP hK
  obtain ⟨rfl, hZ, hh⟩ := hP
  have hx := Bd.exec
  have hby := Bd.bytes
  have hml : c.maxLocals = 7 := hml0
  have hown : s.vm.findClass "com/example/pareto4/pareto4/front/Keys" = some m.cls := findClass_of_methodNamed Bd.named
  have hnm := (name_of_methodNamed Bd.named Bd.method).1
  have X0 : Stand p l e ({ frames := 0, cells := 0, slots := 0, locals := 0 } : Room) s m #[(.ref x0), (.int x1), (.int x2)] below meth c s₁ [] 0 0 := Stand.of_body Bd
  have e0 : s₁.heap = h0 := by rw [← hh, Bd.state]; rfl
  have N0 := Fr.nil n0
  show Goes p.tables e below _ (own_R below s (own_Q_own_rmNH2 Z x0 x1 x2 kk r0 kd0 d00 d01 d02 r1 kd1 d10 d11 d12 h0 n0) ({ frames := 0, cells := 0, slots := 0, locals := 0 } : Room).cells ({ frames := 0, cells := 0, slots := 0, locals := 0 } : Room).slots)
  refine Goes.to (fun t k => castTop (own_ef_own_rmNH2 m x0 x1 x2) k) ?_
  show Goes p.tables e below (s₁.setTop (mkF m 0 #[.val (.ref x0), .val (.int x1), .val (.int x2), .unset, .unset, .unset, .unset] [])) _
  refine Goes.to (fun _ k => XS.aloadN X0.here hx rfl (hb hby d3_0) rfl rfl k) ?_
  show Goes p.tables e below (s₁.setTop (mkF m 1 #[.val (.ref x0), .val (.int x1), .val (.int x2), .unset, .unset, .unset, .unset] [(.ref x0)])) _
  refine Goes.to (fun _ k => XS.astoreN X0.here hx rfl (hb hby d3_1) rfl rfl (l' := #[.val (.ref x0), .val (.int x1), .val (.int x2), .val (.ref x0), .unset, .unset, .unset]) rfl k) ?_
  show Goes p.tables e below (s₁.setTop (mkF m 2 #[.val (.ref x0), .val (.int x1), .val (.int x2), .val (.ref x0), .unset, .unset, .unset] [])) _
  refine Goes.to (fun _ k => XS.aloadN X0.here hx rfl (hb hby d3_2) rfl rfl k) ?_
  show Goes p.tables e below (s₁.setTop (mkF m 3 #[.val (.ref x0), .val (.int x1), .val (.int x2), .val (.ref x0), .unset, .unset, .unset] [(.ref x0)])) _
  obtain ⟨cl1, Ar1, -, S1, N1, -, -⟩ := id VK
  refine Goes.to (fun _ k => X0.arraylength hx (by rw [e0]; exact Ar1.1) (State.isArrayOf_alike hZ.alike Ar1.2.1) (g := (mkF m 3 #[.val (.ref x0), .val (.int x1), .val (.int x2), .val (.ref x0), .unset, .unset, .unset] [(.ref x0)])) rfl rfl (hb hby d3_3) _ k) ?_
  rw [len_of S1 N1]
  show Goes p.tables e below (s₁.setTop (mkF m 4 #[.val (.ref x0), .val (.int x1), .val (.int x2), .val (.ref x0), .unset, .unset, .unset] [(.int (2 : Int32))])) _
  refine Goes.to (fun _ k => XS.istore X0.here hx rfl (hb hby d3_4) rfl (l' := #[.val (.ref x0), .val (.int x1), .val (.int x2), .val (.ref x0), .val (.int (2 : Int32)), .unset, .unset]) rfl k) ?_
  show Goes p.tables e below (s₁.setTop (mkF m 6 #[.val (.ref x0), .val (.int x1), .val (.int x2), .val (.ref x0), .val (.int (2 : Int32)), .unset, .unset] [])) _
  refine Goes.to (fun _ k => XS.iconst X0.here hx rfl (hb hby d3_6) k) ?_
  show Goes p.tables e below (s₁.setTop (mkF m 7 #[.val (.ref x0), .val (.int x1), .val (.int x2), .val (.ref x0), .val (.int (2 : Int32)), .unset, .unset] [(.int (0 : Int32))])) _
  refine Goes.to (fun _ k => XS.istore X0.here hx rfl (hb hby d3_7) rfl (l' := #[.val (.ref x0), .val (.int x1), .val (.int x2), .val (.ref x0), .val (.int (2 : Int32)), .val (.int (0 : Int32)), .unset]) rfl k) ?_
  show Goes p.tables e below (s₁.setTop (mkF m 9 #[.val (.ref x0), .val (.int x1), .val (.int x2), .val (.ref x0), .val (.int (2 : Int32)), .val (.int (0 : Int32)), .unset] [])) _
  refine Goes.to (fun _ k => XS.iload X0.here hx rfl (hb hby d3_9) rfl k) ?_
  show Goes p.tables e below (s₁.setTop (mkF m 11 #[.val (.ref x0), .val (.int x1), .val (.int x2), .val (.ref x0), .val (.int (2 : Int32)), .val (.int (0 : Int32)), .unset] [(.int (0 : Int32))])) _
  refine Goes.to (fun _ k => XS.iload X0.here hx rfl (hb hby d3_11) rfl k) ?_
  show Goes p.tables e below (s₁.setTop (mkF m 13 #[.val (.ref x0), .val (.int x1), .val (.int x2), .val (.ref x0), .val (.int (2 : Int32)), .val (.int (0 : Int32)), .unset] [(.int (2 : Int32)), (.int (0 : Int32))])) _
  refine Goes.to (fun _ k => XS.icmpNo X0.here hx rfl (hb hby d3_13) rfl (tlt (by decide : (0 : Int32) < (2 : Int32))).2.1 k) ?_
  show Goes p.tables e below (s₁.setTop (mkF m 16 #[.val (.ref x0), .val (.int x1), .val (.int x2), .val (.ref x0), .val (.int (2 : Int32)), .val (.int (0 : Int32)), .unset] [])) _
  refine Goes.to (fun _ k => XS.aloadN X0.here hx rfl (hb hby d3_16) rfl rfl k) ?_
  show Goes p.tables e below (s₁.setTop (mkF m 17 #[.val (.ref x0), .val (.int x1), .val (.int x2), .val (.ref x0), .val (.int (2 : Int32)), .val (.int (0 : Int32)), .unset] [(.ref x0)])) _
  refine Goes.to (fun _ k => XS.iload X0.here hx rfl (hb hby d3_17) rfl k) ?_
  show Goes p.tables e below (s₁.setTop (mkF m 19 #[.val (.ref x0), .val (.int x1), .val (.int x2), .val (.ref x0), .val (.int (2 : Int32)), .val (.int (0 : Int32)), .unset] [(.int (0 : Int32)), (.ref x0)])) _
  obtain ⟨cl2, Ar2, q2, S2, N2, H2, G2⟩ := id VK
  have hin2 : ¬ ((0 : Int32) < 0 ∨ cl2.slots.size ≤ ((0 : Int32)).toNatClampNeg) := inb_of S2 ⟨by decide, by decide⟩
  have hat2 : cl2.slots[((0 : Int32)).toNatClampNeg]? = some (.ref r0) := Has.at H2 hin2 rfl
  refine Goes.to (fun _ k => X0.aaload hx (j := (0 : Int32)) (v := (.ref r0)) (by rw [e0]; exact Ar2.1) (State.isArrayOf_alike hZ.alike Ar2.2.1) rfl Ar2.2.2 hin2 hat2 (g := (mkF m 19 #[.val (.ref x0), .val (.int x1), .val (.int x2), .val (.ref x0), .val (.int (2 : Int32)), .val (.int (0 : Int32)), .unset] [(.int (0 : Int32)), (.ref x0)])) rfl rfl (hb hby d3_19) _ k) ?_
  show Goes p.tables e below (s₁.setTop (mkF m 20 #[.val (.ref x0), .val (.int x1), .val (.int x2), .val (.ref x0), .val (.int (2 : Int32)), .val (.int (0 : Int32)), .unset] [(.ref r0)])) _
  refine Goes.to (fun _ k => XS.astore X0.here hx rfl (hb hby d3_20) rfl rfl (l' := #[.val (.ref x0), .val (.int x1), .val (.int x2), .val (.ref x0), .val (.int (2 : Int32)), .val (.int (0 : Int32)), .val (.ref r0)]) rfl k) ?_
  show Goes p.tables e below (s₁.setTop (mkF m 22 #[.val (.ref x0), .val (.int x1), .val (.int x2), .val (.ref x0), .val (.int (2 : Int32)), .val (.int (0 : Int32)), .val (.ref r0)] [])) _
  refine Goes.to (fun _ k => XS.aload X0.here hx rfl (hb hby d3_22) rfl rfl k) ?_
  show Goes p.tables e below (s₁.setTop (mkF m 24 #[.val (.ref x0), .val (.int x1), .val (.int x2), .val (.ref x0), .val (.int (2 : Int32)), .val (.int (0 : Int32)), .val (.ref r0)] [(.ref r0)])) _
  refine Goes.to (fun _ k => XS.iloadN X0.here hx rfl (hb hby d3_24) rfl k) ?_
  show Goes p.tables e below (s₁.setTop (mkF m 25 #[.val (.ref x0), .val (.int x1), .val (.int x2), .val (.ref x0), .val (.int (2 : Int32)), .val (.int (0 : Int32)), .val (.ref r0)] [(.int x1), (.ref r0)])) _
  obtain ⟨cl3, Ar3, q3, S3, N3, H3, G3⟩ := id VR0
  have hin3 : ¬ (x1 < 0 ∨ cl3.slots.size ≤ (x1).toNatClampNeg) := by
    have k1 := rng32 x1
    have k2 : (0 : Int32).toInt = 0 := rfl
    have k3 : ¬ x1.toInt < (0 : Int32).toInt := fun z => ha0 (Int32.lt_iff_toInt_lt.mpr z)
    have k4 : (3 : Int32).toInt = 3 := rfl
    have k5 : x1.toInt < (3 : Int32).toInt := Int32.lt_iff_toInt_lt.mp ha1
    have k6 := rng32 x2
    have k7 : ¬ x2.toInt < (0 : Int32).toInt := fun z => hb0 (Int32.lt_iff_toInt_lt.mpr z)
    have k8 : x2.toInt < (3 : Int32).toInt := Int32.lt_iff_toInt_lt.mp hb1
    refine inb_of S3 ⟨fun hq => ?_, Int32.lt_iff_toInt_lt.mpr ?_⟩
    · have hq' := Int32.lt_iff_toInt_lt.mp hq
      omega
    · omega
  have hat3 : cl3.slots[(x1).toNatClampNeg]? = some (.double (own_at d00 d01 d02 x1)) := Has.at H3 hin3 (own_at_eq d00 d01 d02 x1)
  refine Goes.to (fun _ k => X0.daload hx (j := x1) (v := (.double (own_at d00 d01 d02 x1))) (by rw [e0]; exact Ar3.1) (State.isArrayOf_alike hZ.alike Ar3.2.1) Ar3.2.2 hin3 hat3 (g := (mkF m 25 #[.val (.ref x0), .val (.int x1), .val (.int x2), .val (.ref x0), .val (.int (2 : Int32)), .val (.int (0 : Int32)), .val (.ref r0)] [(.int x1), (.ref r0)])) rfl rfl (hb hby d3_25) _ k) ?_
  show Goes p.tables e below (s₁.setTop (mkF m 26 #[.val (.ref x0), .val (.int x1), .val (.int x2), .val (.ref x0), .val (.int (2 : Int32)), .val (.int (0 : Int32)), .val (.ref r0)] [(.double (own_at d00 d01 d02 x1))])) _
  refine Goes.to (fun _ k => XS.aload X0.here hx rfl (hb hby d3_26) rfl rfl k) ?_
  show Goes p.tables e below (s₁.setTop (mkF m 28 #[.val (.ref x0), .val (.int x1), .val (.int x2), .val (.ref x0), .val (.int (2 : Int32)), .val (.int (0 : Int32)), .val (.ref r0)] [(.ref r0), (.double (own_at d00 d01 d02 x1))])) _
  refine Goes.to (fun _ k => XS.iloadN X0.here hx rfl (hb hby d3_28) rfl k) ?_
  show Goes p.tables e below (s₁.setTop (mkF m 29 #[.val (.ref x0), .val (.int x1), .val (.int x2), .val (.ref x0), .val (.int (2 : Int32)), .val (.int (0 : Int32)), .val (.ref r0)] [(.int x2), (.ref r0), (.double (own_at d00 d01 d02 x1))])) _
  obtain ⟨cl4, Ar4, q4, S4, N4, H4, G4⟩ := id VR0
  have hin4 : ¬ (x2 < 0 ∨ cl4.slots.size ≤ (x2).toNatClampNeg) := by
    have k1 := rng32 x1
    have k2 : (0 : Int32).toInt = 0 := rfl
    have k3 : ¬ x1.toInt < (0 : Int32).toInt := fun z => ha0 (Int32.lt_iff_toInt_lt.mpr z)
    have k4 : (3 : Int32).toInt = 3 := rfl
    have k5 : x1.toInt < (3 : Int32).toInt := Int32.lt_iff_toInt_lt.mp ha1
    have k6 := rng32 x2
    have k7 : ¬ x2.toInt < (0 : Int32).toInt := fun z => hb0 (Int32.lt_iff_toInt_lt.mpr z)
    have k8 : x2.toInt < (3 : Int32).toInt := Int32.lt_iff_toInt_lt.mp hb1
    refine inb_of S4 ⟨fun hq => ?_, Int32.lt_iff_toInt_lt.mpr ?_⟩
    · have hq' := Int32.lt_iff_toInt_lt.mp hq
      omega
    · omega
  have hat4 : cl4.slots[(x2).toNatClampNeg]? = some (.double (own_at d00 d01 d02 x2)) := Has.at H4 hin4 (own_at_eq d00 d01 d02 x2)
  refine Goes.to (fun _ k => X0.daload hx (j := x2) (v := (.double (own_at d00 d01 d02 x2))) (by rw [e0]; exact Ar4.1) (State.isArrayOf_alike hZ.alike Ar4.2.1) Ar4.2.2 hin4 hat4 (g := (mkF m 29 #[.val (.ref x0), .val (.int x1), .val (.int x2), .val (.ref x0), .val (.int (2 : Int32)), .val (.int (0 : Int32)), .val (.ref r0)] [(.int x2), (.ref r0), (.double (own_at d00 d01 d02 x1))])) rfl rfl (hb hby d3_29) _ k) ?_
  show Goes p.tables e below (s₁.setTop (mkF m 30 #[.val (.ref x0), .val (.int x1), .val (.int x2), .val (.ref x0), .val (.int (2 : Int32)), .val (.int (0 : Int32)), .val (.ref r0)] [(.double (own_at d00 d01 d02 x2)), (.double (own_at d00 d01 d02 x1))])) _
  refine Goes.to (fun _ k => XS.dcmpS X0.here hx rfl (hb hby d3_30) rfl rfl k) ?_
  show Goes p.tables e below (s₁.setTop (mkF m 31 #[.val (.ref x0), .val (.int x1), .val (.int x2), .val (.ref x0), .val (.int (2 : Int32)), .val (.int (0 : Int32)), .val (.ref r0)] [(.int (cmpValue (FP.dcmp (own_at d00 d01 d02 x1) (own_at d00 d01 d02 x2)) .l))])) _
  by_cases hc5 : (0 : Int32) < (cmpValue (FP.dcmp (own_at d00 d01 d02 x1) (own_at d00 d01 d02 x2)) .l)
  · refine Goes.to (fun _ k => XS.ifNo X0.here hx rfl (hb hby d3_31) rfl ((if0 _ _).trans (tlt hc5).2.2.2) k) ?_
    show Goes p.tables e below (s₁.setTop (mkF m 34 #[.val (.ref x0), .val (.int x1), .val (.int x2), .val (.ref x0), .val (.int (2 : Int32)), .val (.int (0 : Int32)), .val (.ref r0)] [])) _
    refine Goes.to (fun _ k => XS.iconst X0.here hx rfl (hb hby d3_34) k) ?_
    show Goes p.tables e below (s₁.setTop (mkF m 35 #[.val (.ref x0), .val (.int x1), .val (.int x2), .val (.ref x0), .val (.int (2 : Int32)), .val (.int (0 : Int32)), .val (.ref r0)] [(.int (0 : Int32))])) _
    obtain ⟨fs, hr, hrun, hended, hW, hsame⟩ := X0.leave (v := some (.int (0 : Int32))) (fun h => by rw [Bd.returns] at h; cases h)
    have hv : (some (.int (0 : Int32)) : Option Value) = some (.int (if ((0 : Int32) < (cmpValue (FP.dcmp (own_at d00 d01 d02 x1) (own_at d00 d01 d02 x2)) .l)) ∨ ((0 : Int32) < (cmpValue (FP.dcmp (own_at d10 d11 d12 x1) (own_at d10 d11 d12 x2)) .l)) then (0 : Int32) else (1 : Int32))) := by
      rw [if_pos (Or.inl hc5)]
    exact ⟨_, _, retN X0 hx (t := .boolean) Bd.returns (by simp) (hb hby d3_35) hr, hrun, hended, _, _, rfl, ⟨hv, N0, e0⟩, ⟨_, rfl⟩, hW, hsame.mono (by decide) (by decide)⟩
  · refine Goes.to (fun _ k => XS.ifYes X0.here hx rfl (pc0 := 31) (pc' := 36) rfl (hb hby d3_31) rfl ((if0 _ _).trans (flt hc5).2.2.2) (by decide) (by decide) k) ?_
    show Goes p.tables e below (s₁.setTop (mkF m 36 #[.val (.ref x0), .val (.int x1), .val (.int x2), .val (.ref x0), .val (.int (2 : Int32)), .val (.int (0 : Int32)), .val (.ref r0)] [])) _
    refine Goes.to (fun _ k => XS.iinc X0.here hx rfl (hb hby d3_36) rfl (l' := #[.val (.ref x0), .val (.int x1), .val (.int x2), .val (.ref x0), .val (.int (2 : Int32)), .val (.int (1 : Int32)), .val (.ref r0)]) rfl k) ?_
    show Goes p.tables e below (s₁.setTop (mkF m 39 #[.val (.ref x0), .val (.int x1), .val (.int x2), .val (.ref x0), .val (.int (2 : Int32)), .val (.int (1 : Int32)), .val (.ref r0)] [])) _
    refine Goes.to (fun _ k => XS.goto X0.here hx rfl (pc0 := 39) (pc' := 9) rfl (hb hby d3_39) (by decide) (by decide) k) ?_
    show Goes p.tables e below (s₁.setTop (mkF m 9 #[.val (.ref x0), .val (.int x1), .val (.int x2), .val (.ref x0), .val (.int (2 : Int32)), .val (.int (1 : Int32)), .val (.ref r0)] [])) _
    refine Goes.to (fun _ k => XS.iload X0.here hx rfl (hb hby d3_9) rfl k) ?_
    show Goes p.tables e below (s₁.setTop (mkF m 11 #[.val (.ref x0), .val (.int x1), .val (.int x2), .val (.ref x0), .val (.int (2 : Int32)), .val (.int (1 : Int32)), .val (.ref r0)] [(.int (1 : Int32))])) _
    refine Goes.to (fun _ k => XS.iload X0.here hx rfl (hb hby d3_11) rfl k) ?_
    show Goes p.tables e below (s₁.setTop (mkF m 13 #[.val (.ref x0), .val (.int x1), .val (.int x2), .val (.ref x0), .val (.int (2 : Int32)), .val (.int (1 : Int32)), .val (.ref r0)] [(.int (2 : Int32)), (.int (1 : Int32))])) _
    refine Goes.to (fun _ k => XS.icmpNo X0.here hx rfl (hb hby d3_13) rfl (tlt (by decide : (1 : Int32) < (2 : Int32))).2.1 k) ?_
    show Goes p.tables e below (s₁.setTop (mkF m 16 #[.val (.ref x0), .val (.int x1), .val (.int x2), .val (.ref x0), .val (.int (2 : Int32)), .val (.int (1 : Int32)), .val (.ref r0)] [])) _
    refine Goes.to (fun _ k => XS.aloadN X0.here hx rfl (hb hby d3_16) rfl rfl k) ?_
    show Goes p.tables e below (s₁.setTop (mkF m 17 #[.val (.ref x0), .val (.int x1), .val (.int x2), .val (.ref x0), .val (.int (2 : Int32)), .val (.int (1 : Int32)), .val (.ref r0)] [(.ref x0)])) _
    refine Goes.to (fun _ k => XS.iload X0.here hx rfl (hb hby d3_17) rfl k) ?_
    show Goes p.tables e below (s₁.setTop (mkF m 19 #[.val (.ref x0), .val (.int x1), .val (.int x2), .val (.ref x0), .val (.int (2 : Int32)), .val (.int (1 : Int32)), .val (.ref r0)] [(.int (1 : Int32)), (.ref x0)])) _
    obtain ⟨cl6, Ar6, q6, S6, N6, H6, G6⟩ := id VK
    have hin6 : ¬ ((1 : Int32) < 0 ∨ cl6.slots.size ≤ ((1 : Int32)).toNatClampNeg) := inb_of S6 ⟨by decide, by decide⟩
    have hat6 : cl6.slots[((1 : Int32)).toNatClampNeg]? = some (.ref r1) := Has.at H6 hin6 rfl
    refine Goes.to (fun _ k => X0.aaload hx (j := (1 : Int32)) (v := (.ref r1)) (by rw [e0]; exact Ar6.1) (State.isArrayOf_alike hZ.alike Ar6.2.1) rfl Ar6.2.2 hin6 hat6 (g := (mkF m 19 #[.val (.ref x0), .val (.int x1), .val (.int x2), .val (.ref x0), .val (.int (2 : Int32)), .val (.int (1 : Int32)), .val (.ref r0)] [(.int (1 : Int32)), (.ref x0)])) rfl rfl (hb hby d3_19) _ k) ?_
    show Goes p.tables e below (s₁.setTop (mkF m 20 #[.val (.ref x0), .val (.int x1), .val (.int x2), .val (.ref x0), .val (.int (2 : Int32)), .val (.int (1 : Int32)), .val (.ref r0)] [(.ref r1)])) _
    refine Goes.to (fun _ k => XS.astore X0.here hx rfl (hb hby d3_20) rfl rfl (l' := #[.val (.ref x0), .val (.int x1), .val (.int x2), .val (.ref x0), .val (.int (2 : Int32)), .val (.int (1 : Int32)), .val (.ref r1)]) rfl k) ?_
    show Goes p.tables e below (s₁.setTop (mkF m 22 #[.val (.ref x0), .val (.int x1), .val (.int x2), .val (.ref x0), .val (.int (2 : Int32)), .val (.int (1 : Int32)), .val (.ref r1)] [])) _
    refine Goes.to (fun _ k => XS.aload X0.here hx rfl (hb hby d3_22) rfl rfl k) ?_
    show Goes p.tables e below (s₁.setTop (mkF m 24 #[.val (.ref x0), .val (.int x1), .val (.int x2), .val (.ref x0), .val (.int (2 : Int32)), .val (.int (1 : Int32)), .val (.ref r1)] [(.ref r1)])) _
    refine Goes.to (fun _ k => XS.iloadN X0.here hx rfl (hb hby d3_24) rfl k) ?_
    show Goes p.tables e below (s₁.setTop (mkF m 25 #[.val (.ref x0), .val (.int x1), .val (.int x2), .val (.ref x0), .val (.int (2 : Int32)), .val (.int (1 : Int32)), .val (.ref r1)] [(.int x1), (.ref r1)])) _
    obtain ⟨cl7, Ar7, q7, S7, N7, H7, G7⟩ := id VR1
    have hin7 : ¬ (x1 < 0 ∨ cl7.slots.size ≤ (x1).toNatClampNeg) := by
      have k1 := rng32 x1
      have k2 : (0 : Int32).toInt = 0 := rfl
      have k3 : ¬ x1.toInt < (0 : Int32).toInt := fun z => ha0 (Int32.lt_iff_toInt_lt.mpr z)
      have k4 : (3 : Int32).toInt = 3 := rfl
      have k5 : x1.toInt < (3 : Int32).toInt := Int32.lt_iff_toInt_lt.mp ha1
      have k6 := rng32 x2
      have k7 : ¬ x2.toInt < (0 : Int32).toInt := fun z => hb0 (Int32.lt_iff_toInt_lt.mpr z)
      have k8 : x2.toInt < (3 : Int32).toInt := Int32.lt_iff_toInt_lt.mp hb1
      refine inb_of S7 ⟨fun hq => ?_, Int32.lt_iff_toInt_lt.mpr ?_⟩
      · have hq' := Int32.lt_iff_toInt_lt.mp hq
        omega
      · omega
    have hat7 : cl7.slots[(x1).toNatClampNeg]? = some (.double (own_at d10 d11 d12 x1)) := Has.at H7 hin7 (own_at_eq d10 d11 d12 x1)
    refine Goes.to (fun _ k => X0.daload hx (j := x1) (v := (.double (own_at d10 d11 d12 x1))) (by rw [e0]; exact Ar7.1) (State.isArrayOf_alike hZ.alike Ar7.2.1) Ar7.2.2 hin7 hat7 (g := (mkF m 25 #[.val (.ref x0), .val (.int x1), .val (.int x2), .val (.ref x0), .val (.int (2 : Int32)), .val (.int (1 : Int32)), .val (.ref r1)] [(.int x1), (.ref r1)])) rfl rfl (hb hby d3_25) _ k) ?_
    show Goes p.tables e below (s₁.setTop (mkF m 26 #[.val (.ref x0), .val (.int x1), .val (.int x2), .val (.ref x0), .val (.int (2 : Int32)), .val (.int (1 : Int32)), .val (.ref r1)] [(.double (own_at d10 d11 d12 x1))])) _
    refine Goes.to (fun _ k => XS.aload X0.here hx rfl (hb hby d3_26) rfl rfl k) ?_
    show Goes p.tables e below (s₁.setTop (mkF m 28 #[.val (.ref x0), .val (.int x1), .val (.int x2), .val (.ref x0), .val (.int (2 : Int32)), .val (.int (1 : Int32)), .val (.ref r1)] [(.ref r1), (.double (own_at d10 d11 d12 x1))])) _
    refine Goes.to (fun _ k => XS.iloadN X0.here hx rfl (hb hby d3_28) rfl k) ?_
    show Goes p.tables e below (s₁.setTop (mkF m 29 #[.val (.ref x0), .val (.int x1), .val (.int x2), .val (.ref x0), .val (.int (2 : Int32)), .val (.int (1 : Int32)), .val (.ref r1)] [(.int x2), (.ref r1), (.double (own_at d10 d11 d12 x1))])) _
    obtain ⟨cl8, Ar8, q8, S8, N8, H8, G8⟩ := id VR1
    have hin8 : ¬ (x2 < 0 ∨ cl8.slots.size ≤ (x2).toNatClampNeg) := by
      have k1 := rng32 x1
      have k2 : (0 : Int32).toInt = 0 := rfl
      have k3 : ¬ x1.toInt < (0 : Int32).toInt := fun z => ha0 (Int32.lt_iff_toInt_lt.mpr z)
      have k4 : (3 : Int32).toInt = 3 := rfl
      have k5 : x1.toInt < (3 : Int32).toInt := Int32.lt_iff_toInt_lt.mp ha1
      have k6 := rng32 x2
      have k7 : ¬ x2.toInt < (0 : Int32).toInt := fun z => hb0 (Int32.lt_iff_toInt_lt.mpr z)
      have k8 : x2.toInt < (3 : Int32).toInt := Int32.lt_iff_toInt_lt.mp hb1
      refine inb_of S8 ⟨fun hq => ?_, Int32.lt_iff_toInt_lt.mpr ?_⟩
      · have hq' := Int32.lt_iff_toInt_lt.mp hq
        omega
      · omega
    have hat8 : cl8.slots[(x2).toNatClampNeg]? = some (.double (own_at d10 d11 d12 x2)) := Has.at H8 hin8 (own_at_eq d10 d11 d12 x2)
    refine Goes.to (fun _ k => X0.daload hx (j := x2) (v := (.double (own_at d10 d11 d12 x2))) (by rw [e0]; exact Ar8.1) (State.isArrayOf_alike hZ.alike Ar8.2.1) Ar8.2.2 hin8 hat8 (g := (mkF m 29 #[.val (.ref x0), .val (.int x1), .val (.int x2), .val (.ref x0), .val (.int (2 : Int32)), .val (.int (1 : Int32)), .val (.ref r1)] [(.int x2), (.ref r1), (.double (own_at d10 d11 d12 x1))])) rfl rfl (hb hby d3_29) _ k) ?_
    show Goes p.tables e below (s₁.setTop (mkF m 30 #[.val (.ref x0), .val (.int x1), .val (.int x2), .val (.ref x0), .val (.int (2 : Int32)), .val (.int (1 : Int32)), .val (.ref r1)] [(.double (own_at d10 d11 d12 x2)), (.double (own_at d10 d11 d12 x1))])) _
    refine Goes.to (fun _ k => XS.dcmpS X0.here hx rfl (hb hby d3_30) rfl rfl k) ?_
    show Goes p.tables e below (s₁.setTop (mkF m 31 #[.val (.ref x0), .val (.int x1), .val (.int x2), .val (.ref x0), .val (.int (2 : Int32)), .val (.int (1 : Int32)), .val (.ref r1)] [(.int (cmpValue (FP.dcmp (own_at d10 d11 d12 x1) (own_at d10 d11 d12 x2)) .l))])) _
    by_cases hc9 : (0 : Int32) < (cmpValue (FP.dcmp (own_at d10 d11 d12 x1) (own_at d10 d11 d12 x2)) .l)
    · refine Goes.to (fun _ k => XS.ifNo X0.here hx rfl (hb hby d3_31) rfl ((if0 _ _).trans (tlt hc9).2.2.2) k) ?_
      show Goes p.tables e below (s₁.setTop (mkF m 34 #[.val (.ref x0), .val (.int x1), .val (.int x2), .val (.ref x0), .val (.int (2 : Int32)), .val (.int (1 : Int32)), .val (.ref r1)] [])) _
      refine Goes.to (fun _ k => XS.iconst X0.here hx rfl (hb hby d3_34) k) ?_
      show Goes p.tables e below (s₁.setTop (mkF m 35 #[.val (.ref x0), .val (.int x1), .val (.int x2), .val (.ref x0), .val (.int (2 : Int32)), .val (.int (1 : Int32)), .val (.ref r1)] [(.int (0 : Int32))])) _
      obtain ⟨fs, hr, hrun, hended, hW, hsame⟩ := X0.leave (v := some (.int (0 : Int32))) (fun h => by rw [Bd.returns] at h; cases h)
      have hv : (some (.int (0 : Int32)) : Option Value) = some (.int (if ((0 : Int32) < (cmpValue (FP.dcmp (own_at d00 d01 d02 x1) (own_at d00 d01 d02 x2)) .l)) ∨ ((0 : Int32) < (cmpValue (FP.dcmp (own_at d10 d11 d12 x1) (own_at d10 d11 d12 x2)) .l)) then (0 : Int32) else (1 : Int32))) := by
        rw [if_pos (Or.inr (hc9))]
      exact ⟨_, _, retN X0 hx (t := .boolean) Bd.returns (by simp) (hb hby d3_35) hr, hrun, hended, _, _, rfl, ⟨hv, N0, e0⟩, ⟨_, rfl⟩, hW, hsame.mono (by decide) (by decide)⟩
    · refine Goes.to (fun _ k => XS.ifYes X0.here hx rfl (pc0 := 31) (pc' := 36) rfl (hb hby d3_31) rfl ((if0 _ _).trans (flt hc9).2.2.2) (by decide) (by decide) k) ?_
      show Goes p.tables e below (s₁.setTop (mkF m 36 #[.val (.ref x0), .val (.int x1), .val (.int x2), .val (.ref x0), .val (.int (2 : Int32)), .val (.int (1 : Int32)), .val (.ref r1)] [])) _
      refine Goes.to (fun _ k => XS.iinc X0.here hx rfl (hb hby d3_36) rfl (l' := #[.val (.ref x0), .val (.int x1), .val (.int x2), .val (.ref x0), .val (.int (2 : Int32)), .val (.int (2 : Int32)), .val (.ref r1)]) rfl k) ?_
      show Goes p.tables e below (s₁.setTop (mkF m 39 #[.val (.ref x0), .val (.int x1), .val (.int x2), .val (.ref x0), .val (.int (2 : Int32)), .val (.int (2 : Int32)), .val (.ref r1)] [])) _
      refine Goes.to (fun _ k => XS.goto X0.here hx rfl (pc0 := 39) (pc' := 9) rfl (hb hby d3_39) (by decide) (by decide) k) ?_
      show Goes p.tables e below (s₁.setTop (mkF m 9 #[.val (.ref x0), .val (.int x1), .val (.int x2), .val (.ref x0), .val (.int (2 : Int32)), .val (.int (2 : Int32)), .val (.ref r1)] [])) _
      refine Goes.to (fun _ k => XS.iload X0.here hx rfl (hb hby d3_9) rfl k) ?_
      show Goes p.tables e below (s₁.setTop (mkF m 11 #[.val (.ref x0), .val (.int x1), .val (.int x2), .val (.ref x0), .val (.int (2 : Int32)), .val (.int (2 : Int32)), .val (.ref r1)] [(.int (2 : Int32))])) _
      refine Goes.to (fun _ k => XS.iload X0.here hx rfl (hb hby d3_11) rfl k) ?_
      show Goes p.tables e below (s₁.setTop (mkF m 13 #[.val (.ref x0), .val (.int x1), .val (.int x2), .val (.ref x0), .val (.int (2 : Int32)), .val (.int (2 : Int32)), .val (.ref r1)] [(.int (2 : Int32)), (.int (2 : Int32))])) _
      refine Goes.to (fun _ k => XS.icmpYes X0.here hx rfl (pc0 := 13) (pc' := 42) rfl (hb hby d3_13) rfl (flt (by decide : ¬ ((2 : Int32) < (2 : Int32)))).2.1 (by decide) (by decide) k) ?_
      show Goes p.tables e below (s₁.setTop (mkF m 42 #[.val (.ref x0), .val (.int x1), .val (.int x2), .val (.ref x0), .val (.int (2 : Int32)), .val (.int (2 : Int32)), .val (.ref r1)] [])) _
      refine Goes.to (fun _ k => XS.iconst X0.here hx rfl (hb hby d3_42) k) ?_
      show Goes p.tables e below (s₁.setTop (mkF m 43 #[.val (.ref x0), .val (.int x1), .val (.int x2), .val (.ref x0), .val (.int (2 : Int32)), .val (.int (2 : Int32)), .val (.ref r1)] [(.int (1 : Int32))])) _
      obtain ⟨fs, hr, hrun, hended, hW, hsame⟩ := X0.leave (v := some (.int (1 : Int32))) (fun h => by rw [Bd.returns] at h; cases h)
      have hv : (some (.int (1 : Int32)) : Option Value) = some (.int (if ((0 : Int32) < (cmpValue (FP.dcmp (own_at d00 d01 d02 x1) (own_at d00 d01 d02 x2)) .l)) ∨ ((0 : Int32) < (cmpValue (FP.dcmp (own_at d10 d11 d12 x1) (own_at d10 d11 d12 x2)) .l)) then (0 : Int32) else (1 : Int32))) := by
        rw [if_neg (fun q => q.elim hc5 hc9)]
      exact ⟨_, _, retN X0 hx (t := .boolean) Bd.returns (by simp) (hb hby d3_43) hr, hrun, hended, _, _, rfl, ⟨hv, N0, e0⟩, ⟨_, rfl⟩, hW, hsame.mono (by decide) (by decide)⟩

theorem own_ef_own_rmNH3 (m : MethodId) (x0 : Addr) (x1 : Int32) (x2 : Int32) : entryFrame m #[(.ref x0), (.int x1), (.int x2)] 7 = mkF m 0 #[.val (.ref x0), .val (.int x1), .val (.int x2), .unset, .unset, .unset, .unset] [] := by first | (simp [entryFrame, mkF, argsToLocals, Value.category]; done) | rfl
def own_Q_own_rmNH3 (Z : State) (x0 : Addr) (x1 : Int32) (x2 : Int32) (kk : ClassId) (r0 : Addr) (kd0 : ClassId) (d00 : UInt64) (d01 : UInt64) (d02 : UInt64) (r1 : Addr) (kd1 : ClassId) (d10 : UInt64) (d11 : UInt64) (d12 : UInt64) (r2 : Addr) (kd2 : ClassId) (d20 : UInt64) (d21 : UInt64) (d22 : UInt64) (h0 : Heap) (n0 : Nat) (v : Option Value) (h : Heap) (L : List Loc) : Prop := v = some (.int (if ((0 : Int32) < (cmpValue (FP.dcmp (own_at d00 d01 d02 x1) (own_at d00 d01 d02 x2)) .l)) ∨ ((0 : Int32) < (cmpValue (FP.dcmp (own_at d10 d11 d12 x1) (own_at d10 d11 d12 x2)) .l)) ∨ ((0 : Int32) < (cmpValue (FP.dcmp (own_at d20 d21 d22 x1) (own_at d20 d21 d22 x2)) .l)) then (0 : Int32) else (1 : Int32))) ∧ Fr n0 L ∧ h = h0

set_option maxRecDepth 65536 in
set_option maxHeartbeats 40000000 in
theorem own_rmNH3 (l : Launch) (Z : State) (a0 : Array Value) (hw : ∀ d ∈ tables_1, d.before a0 Z = true) (ws : List Jvm.Cond) (x0 : Addr) (x1 : Int32) (x2 : Int32) (kk : ClassId) (r0 : Addr) (kd0 : ClassId) (d00 : UInt64) (d01 : UInt64) (d02 : UInt64) (r1 : Addr) (kd1 : ClassId) (d10 : UInt64) (d11 : UInt64) (d12 : UInt64) (r2 : Addr) (kd2 : ClassId) (d20 : UInt64) (d21 : UInt64) (d22 : UInt64) (h0 : Heap) (n0 : Nat) (Z0 : n0 ≤ h0.size) (ha0 : ¬ (x1 < (0 : Int32))) (ha1 : x1 < (3 : Int32)) (hb0 : ¬ (x2 < (0 : Int32))) (hb1 : x2 < (3 : Int32)) (VR0 : Arv Z h0 r0 kd0 .double (3 : Int32) [(.double d00), (.double d01), (.double d02)] (.double (0 : UInt64))) (VR1 : Arv Z h0 r1 kd1 .double (3 : Int32) [(.double d10), (.double d11), (.double d12)] (.double (0 : UInt64))) (VR2 : Arv Z h0 r2 kd2 .double (3 : Int32) [(.double d20), (.double d21), (.double d22)] (.double (0 : UInt64))) (VK : Arv Z h0 x0 kk (.array .double) (3 : Int32) [(.ref r0), (.ref r1), (.ref r2)] .null) :
    MetFree l (⟨"com/example/pareto4/pareto4/front/Keys", "noHigher", "([[DII)Z"⟩ : MethodName) (head1 (Jvm.Cond.code (⟨"com/example/pareto4/pareto4/front/Keys", "noHigher", "([[DII)Z"⟩ : MethodName) prog_15_method_6_code 7 (some .boolean) :: ws) ({ frames := 0, cells := 0, slots := 0, locals := 0 } : Room)) (fun a U => a = #[(.ref x0), (.int x1), (.int x2)] ∧ Z.Warmed39 U.vm ∧ U.heap = h0) (fun _ _ _ _ _ => True) (fun _ U o U' => ∃ v L, o = .returned v ∧ own_Q_own_rmNH3 Z x0 x1 x2 kk r0 kd0 d00 d01 d02 r1 kd1 d10 d11 d12 r2 kd2 d20 d21 d22 h0 n0 v U'.heap L ∧ FrameEnd U o U' L ({ frames := 0, cells := 0, slots := 0, locals := 0 } : Room).cells ({ frames := 0, cells := 0, slots := 0, locals := 0 } : Room).slots) := by
  refine MetFree.of_bodySF (plainFor_of_name own_pn_3) hisR ?_
  intro p e s m args below meth c s₁ Bd hml0 hP hK
  obtain ⟨rfl, hZ, hh⟩ := hP
  have hx := Bd.exec
  have hby := Bd.bytes
  have hml : c.maxLocals = 7 := hml0
  have hown : s.vm.findClass "com/example/pareto4/pareto4/front/Keys" = some m.cls := findClass_of_methodNamed Bd.named
  have hnm := (name_of_methodNamed Bd.named Bd.method).1
  have X0 : Stand p l e ({ frames := 0, cells := 0, slots := 0, locals := 0 } : Room) s m #[(.ref x0), (.int x1), (.int x2)] below meth c s₁ [] 0 0 := Stand.of_body Bd
  have e0 : s₁.heap = h0 := by rw [← hh, Bd.state]; rfl
  have N0 := Fr.nil n0
  show Goes p.tables e below _ (own_R below s (own_Q_own_rmNH3 Z x0 x1 x2 kk r0 kd0 d00 d01 d02 r1 kd1 d10 d11 d12 r2 kd2 d20 d21 d22 h0 n0) ({ frames := 0, cells := 0, slots := 0, locals := 0 } : Room).cells ({ frames := 0, cells := 0, slots := 0, locals := 0 } : Room).slots)
  refine Goes.to (fun t k => castTop (own_ef_own_rmNH3 m x0 x1 x2) k) ?_
  show Goes p.tables e below (s₁.setTop (mkF m 0 #[.val (.ref x0), .val (.int x1), .val (.int x2), .unset, .unset, .unset, .unset] [])) _
  refine Goes.to (fun _ k => XS.aloadN X0.here hx rfl (hb hby d3_0) rfl rfl k) ?_
  show Goes p.tables e below (s₁.setTop (mkF m 1 #[.val (.ref x0), .val (.int x1), .val (.int x2), .unset, .unset, .unset, .unset] [(.ref x0)])) _
  refine Goes.to (fun _ k => XS.astoreN X0.here hx rfl (hb hby d3_1) rfl rfl (l' := #[.val (.ref x0), .val (.int x1), .val (.int x2), .val (.ref x0), .unset, .unset, .unset]) rfl k) ?_
  show Goes p.tables e below (s₁.setTop (mkF m 2 #[.val (.ref x0), .val (.int x1), .val (.int x2), .val (.ref x0), .unset, .unset, .unset] [])) _
  refine Goes.to (fun _ k => XS.aloadN X0.here hx rfl (hb hby d3_2) rfl rfl k) ?_
  show Goes p.tables e below (s₁.setTop (mkF m 3 #[.val (.ref x0), .val (.int x1), .val (.int x2), .val (.ref x0), .unset, .unset, .unset] [(.ref x0)])) _
  obtain ⟨cl1, Ar1, -, S1, N1, -, -⟩ := id VK
  refine Goes.to (fun _ k => X0.arraylength hx (by rw [e0]; exact Ar1.1) (State.isArrayOf_alike hZ.alike Ar1.2.1) (g := (mkF m 3 #[.val (.ref x0), .val (.int x1), .val (.int x2), .val (.ref x0), .unset, .unset, .unset] [(.ref x0)])) rfl rfl (hb hby d3_3) _ k) ?_
  rw [len_of S1 N1]
  show Goes p.tables e below (s₁.setTop (mkF m 4 #[.val (.ref x0), .val (.int x1), .val (.int x2), .val (.ref x0), .unset, .unset, .unset] [(.int (3 : Int32))])) _
  refine Goes.to (fun _ k => XS.istore X0.here hx rfl (hb hby d3_4) rfl (l' := #[.val (.ref x0), .val (.int x1), .val (.int x2), .val (.ref x0), .val (.int (3 : Int32)), .unset, .unset]) rfl k) ?_
  show Goes p.tables e below (s₁.setTop (mkF m 6 #[.val (.ref x0), .val (.int x1), .val (.int x2), .val (.ref x0), .val (.int (3 : Int32)), .unset, .unset] [])) _
  refine Goes.to (fun _ k => XS.iconst X0.here hx rfl (hb hby d3_6) k) ?_
  show Goes p.tables e below (s₁.setTop (mkF m 7 #[.val (.ref x0), .val (.int x1), .val (.int x2), .val (.ref x0), .val (.int (3 : Int32)), .unset, .unset] [(.int (0 : Int32))])) _
  refine Goes.to (fun _ k => XS.istore X0.here hx rfl (hb hby d3_7) rfl (l' := #[.val (.ref x0), .val (.int x1), .val (.int x2), .val (.ref x0), .val (.int (3 : Int32)), .val (.int (0 : Int32)), .unset]) rfl k) ?_
  show Goes p.tables e below (s₁.setTop (mkF m 9 #[.val (.ref x0), .val (.int x1), .val (.int x2), .val (.ref x0), .val (.int (3 : Int32)), .val (.int (0 : Int32)), .unset] [])) _
  refine Goes.to (fun _ k => XS.iload X0.here hx rfl (hb hby d3_9) rfl k) ?_
  show Goes p.tables e below (s₁.setTop (mkF m 11 #[.val (.ref x0), .val (.int x1), .val (.int x2), .val (.ref x0), .val (.int (3 : Int32)), .val (.int (0 : Int32)), .unset] [(.int (0 : Int32))])) _
  refine Goes.to (fun _ k => XS.iload X0.here hx rfl (hb hby d3_11) rfl k) ?_
  show Goes p.tables e below (s₁.setTop (mkF m 13 #[.val (.ref x0), .val (.int x1), .val (.int x2), .val (.ref x0), .val (.int (3 : Int32)), .val (.int (0 : Int32)), .unset] [(.int (3 : Int32)), (.int (0 : Int32))])) _
  refine Goes.to (fun _ k => XS.icmpNo X0.here hx rfl (hb hby d3_13) rfl (tlt (by decide : (0 : Int32) < (3 : Int32))).2.1 k) ?_
  show Goes p.tables e below (s₁.setTop (mkF m 16 #[.val (.ref x0), .val (.int x1), .val (.int x2), .val (.ref x0), .val (.int (3 : Int32)), .val (.int (0 : Int32)), .unset] [])) _
  refine Goes.to (fun _ k => XS.aloadN X0.here hx rfl (hb hby d3_16) rfl rfl k) ?_
  show Goes p.tables e below (s₁.setTop (mkF m 17 #[.val (.ref x0), .val (.int x1), .val (.int x2), .val (.ref x0), .val (.int (3 : Int32)), .val (.int (0 : Int32)), .unset] [(.ref x0)])) _
  refine Goes.to (fun _ k => XS.iload X0.here hx rfl (hb hby d3_17) rfl k) ?_
  show Goes p.tables e below (s₁.setTop (mkF m 19 #[.val (.ref x0), .val (.int x1), .val (.int x2), .val (.ref x0), .val (.int (3 : Int32)), .val (.int (0 : Int32)), .unset] [(.int (0 : Int32)), (.ref x0)])) _
  obtain ⟨cl2, Ar2, q2, S2, N2, H2, G2⟩ := id VK
  have hin2 : ¬ ((0 : Int32) < 0 ∨ cl2.slots.size ≤ ((0 : Int32)).toNatClampNeg) := inb_of S2 ⟨by decide, by decide⟩
  have hat2 : cl2.slots[((0 : Int32)).toNatClampNeg]? = some (.ref r0) := Has.at H2 hin2 rfl
  refine Goes.to (fun _ k => X0.aaload hx (j := (0 : Int32)) (v := (.ref r0)) (by rw [e0]; exact Ar2.1) (State.isArrayOf_alike hZ.alike Ar2.2.1) rfl Ar2.2.2 hin2 hat2 (g := (mkF m 19 #[.val (.ref x0), .val (.int x1), .val (.int x2), .val (.ref x0), .val (.int (3 : Int32)), .val (.int (0 : Int32)), .unset] [(.int (0 : Int32)), (.ref x0)])) rfl rfl (hb hby d3_19) _ k) ?_
  show Goes p.tables e below (s₁.setTop (mkF m 20 #[.val (.ref x0), .val (.int x1), .val (.int x2), .val (.ref x0), .val (.int (3 : Int32)), .val (.int (0 : Int32)), .unset] [(.ref r0)])) _
  refine Goes.to (fun _ k => XS.astore X0.here hx rfl (hb hby d3_20) rfl rfl (l' := #[.val (.ref x0), .val (.int x1), .val (.int x2), .val (.ref x0), .val (.int (3 : Int32)), .val (.int (0 : Int32)), .val (.ref r0)]) rfl k) ?_
  show Goes p.tables e below (s₁.setTop (mkF m 22 #[.val (.ref x0), .val (.int x1), .val (.int x2), .val (.ref x0), .val (.int (3 : Int32)), .val (.int (0 : Int32)), .val (.ref r0)] [])) _
  refine Goes.to (fun _ k => XS.aload X0.here hx rfl (hb hby d3_22) rfl rfl k) ?_
  show Goes p.tables e below (s₁.setTop (mkF m 24 #[.val (.ref x0), .val (.int x1), .val (.int x2), .val (.ref x0), .val (.int (3 : Int32)), .val (.int (0 : Int32)), .val (.ref r0)] [(.ref r0)])) _
  refine Goes.to (fun _ k => XS.iloadN X0.here hx rfl (hb hby d3_24) rfl k) ?_
  show Goes p.tables e below (s₁.setTop (mkF m 25 #[.val (.ref x0), .val (.int x1), .val (.int x2), .val (.ref x0), .val (.int (3 : Int32)), .val (.int (0 : Int32)), .val (.ref r0)] [(.int x1), (.ref r0)])) _
  obtain ⟨cl3, Ar3, q3, S3, N3, H3, G3⟩ := id VR0
  have hin3 : ¬ (x1 < 0 ∨ cl3.slots.size ≤ (x1).toNatClampNeg) := by
    have k1 := rng32 x1
    have k2 : (0 : Int32).toInt = 0 := rfl
    have k3 : ¬ x1.toInt < (0 : Int32).toInt := fun z => ha0 (Int32.lt_iff_toInt_lt.mpr z)
    have k4 : (3 : Int32).toInt = 3 := rfl
    have k5 : x1.toInt < (3 : Int32).toInt := Int32.lt_iff_toInt_lt.mp ha1
    have k6 := rng32 x2
    have k7 : ¬ x2.toInt < (0 : Int32).toInt := fun z => hb0 (Int32.lt_iff_toInt_lt.mpr z)
    have k8 : x2.toInt < (3 : Int32).toInt := Int32.lt_iff_toInt_lt.mp hb1
    refine inb_of S3 ⟨fun hq => ?_, Int32.lt_iff_toInt_lt.mpr ?_⟩
    · have hq' := Int32.lt_iff_toInt_lt.mp hq
      omega
    · omega
  have hat3 : cl3.slots[(x1).toNatClampNeg]? = some (.double (own_at d00 d01 d02 x1)) := Has.at H3 hin3 (own_at_eq d00 d01 d02 x1)
  refine Goes.to (fun _ k => X0.daload hx (j := x1) (v := (.double (own_at d00 d01 d02 x1))) (by rw [e0]; exact Ar3.1) (State.isArrayOf_alike hZ.alike Ar3.2.1) Ar3.2.2 hin3 hat3 (g := (mkF m 25 #[.val (.ref x0), .val (.int x1), .val (.int x2), .val (.ref x0), .val (.int (3 : Int32)), .val (.int (0 : Int32)), .val (.ref r0)] [(.int x1), (.ref r0)])) rfl rfl (hb hby d3_25) _ k) ?_
  show Goes p.tables e below (s₁.setTop (mkF m 26 #[.val (.ref x0), .val (.int x1), .val (.int x2), .val (.ref x0), .val (.int (3 : Int32)), .val (.int (0 : Int32)), .val (.ref r0)] [(.double (own_at d00 d01 d02 x1))])) _
  refine Goes.to (fun _ k => XS.aload X0.here hx rfl (hb hby d3_26) rfl rfl k) ?_
  show Goes p.tables e below (s₁.setTop (mkF m 28 #[.val (.ref x0), .val (.int x1), .val (.int x2), .val (.ref x0), .val (.int (3 : Int32)), .val (.int (0 : Int32)), .val (.ref r0)] [(.ref r0), (.double (own_at d00 d01 d02 x1))])) _
  refine Goes.to (fun _ k => XS.iloadN X0.here hx rfl (hb hby d3_28) rfl k) ?_
  show Goes p.tables e below (s₁.setTop (mkF m 29 #[.val (.ref x0), .val (.int x1), .val (.int x2), .val (.ref x0), .val (.int (3 : Int32)), .val (.int (0 : Int32)), .val (.ref r0)] [(.int x2), (.ref r0), (.double (own_at d00 d01 d02 x1))])) _
  obtain ⟨cl4, Ar4, q4, S4, N4, H4, G4⟩ := id VR0
  have hin4 : ¬ (x2 < 0 ∨ cl4.slots.size ≤ (x2).toNatClampNeg) := by
    have k1 := rng32 x1
    have k2 : (0 : Int32).toInt = 0 := rfl
    have k3 : ¬ x1.toInt < (0 : Int32).toInt := fun z => ha0 (Int32.lt_iff_toInt_lt.mpr z)
    have k4 : (3 : Int32).toInt = 3 := rfl
    have k5 : x1.toInt < (3 : Int32).toInt := Int32.lt_iff_toInt_lt.mp ha1
    have k6 := rng32 x2
    have k7 : ¬ x2.toInt < (0 : Int32).toInt := fun z => hb0 (Int32.lt_iff_toInt_lt.mpr z)
    have k8 : x2.toInt < (3 : Int32).toInt := Int32.lt_iff_toInt_lt.mp hb1
    refine inb_of S4 ⟨fun hq => ?_, Int32.lt_iff_toInt_lt.mpr ?_⟩
    · have hq' := Int32.lt_iff_toInt_lt.mp hq
      omega
    · omega
  have hat4 : cl4.slots[(x2).toNatClampNeg]? = some (.double (own_at d00 d01 d02 x2)) := Has.at H4 hin4 (own_at_eq d00 d01 d02 x2)
  refine Goes.to (fun _ k => X0.daload hx (j := x2) (v := (.double (own_at d00 d01 d02 x2))) (by rw [e0]; exact Ar4.1) (State.isArrayOf_alike hZ.alike Ar4.2.1) Ar4.2.2 hin4 hat4 (g := (mkF m 29 #[.val (.ref x0), .val (.int x1), .val (.int x2), .val (.ref x0), .val (.int (3 : Int32)), .val (.int (0 : Int32)), .val (.ref r0)] [(.int x2), (.ref r0), (.double (own_at d00 d01 d02 x1))])) rfl rfl (hb hby d3_29) _ k) ?_
  show Goes p.tables e below (s₁.setTop (mkF m 30 #[.val (.ref x0), .val (.int x1), .val (.int x2), .val (.ref x0), .val (.int (3 : Int32)), .val (.int (0 : Int32)), .val (.ref r0)] [(.double (own_at d00 d01 d02 x2)), (.double (own_at d00 d01 d02 x1))])) _
  refine Goes.to (fun _ k => XS.dcmpS X0.here hx rfl (hb hby d3_30) rfl rfl k) ?_
  show Goes p.tables e below (s₁.setTop (mkF m 31 #[.val (.ref x0), .val (.int x1), .val (.int x2), .val (.ref x0), .val (.int (3 : Int32)), .val (.int (0 : Int32)), .val (.ref r0)] [(.int (cmpValue (FP.dcmp (own_at d00 d01 d02 x1) (own_at d00 d01 d02 x2)) .l))])) _
  by_cases hc5 : (0 : Int32) < (cmpValue (FP.dcmp (own_at d00 d01 d02 x1) (own_at d00 d01 d02 x2)) .l)
  · refine Goes.to (fun _ k => XS.ifNo X0.here hx rfl (hb hby d3_31) rfl ((if0 _ _).trans (tlt hc5).2.2.2) k) ?_
    show Goes p.tables e below (s₁.setTop (mkF m 34 #[.val (.ref x0), .val (.int x1), .val (.int x2), .val (.ref x0), .val (.int (3 : Int32)), .val (.int (0 : Int32)), .val (.ref r0)] [])) _
    refine Goes.to (fun _ k => XS.iconst X0.here hx rfl (hb hby d3_34) k) ?_
    show Goes p.tables e below (s₁.setTop (mkF m 35 #[.val (.ref x0), .val (.int x1), .val (.int x2), .val (.ref x0), .val (.int (3 : Int32)), .val (.int (0 : Int32)), .val (.ref r0)] [(.int (0 : Int32))])) _
    obtain ⟨fs, hr, hrun, hended, hW, hsame⟩ := X0.leave (v := some (.int (0 : Int32))) (fun h => by rw [Bd.returns] at h; cases h)
    have hv : (some (.int (0 : Int32)) : Option Value) = some (.int (if ((0 : Int32) < (cmpValue (FP.dcmp (own_at d00 d01 d02 x1) (own_at d00 d01 d02 x2)) .l)) ∨ ((0 : Int32) < (cmpValue (FP.dcmp (own_at d10 d11 d12 x1) (own_at d10 d11 d12 x2)) .l)) ∨ ((0 : Int32) < (cmpValue (FP.dcmp (own_at d20 d21 d22 x1) (own_at d20 d21 d22 x2)) .l)) then (0 : Int32) else (1 : Int32))) := by
      rw [if_pos (Or.inl hc5)]
    exact ⟨_, _, retN X0 hx (t := .boolean) Bd.returns (by simp) (hb hby d3_35) hr, hrun, hended, _, _, rfl, ⟨hv, N0, e0⟩, ⟨_, rfl⟩, hW, hsame.mono (by decide) (by decide)⟩
  · refine Goes.to (fun _ k => XS.ifYes X0.here hx rfl (pc0 := 31) (pc' := 36) rfl (hb hby d3_31) rfl ((if0 _ _).trans (flt hc5).2.2.2) (by decide) (by decide) k) ?_
    show Goes p.tables e below (s₁.setTop (mkF m 36 #[.val (.ref x0), .val (.int x1), .val (.int x2), .val (.ref x0), .val (.int (3 : Int32)), .val (.int (0 : Int32)), .val (.ref r0)] [])) _
    refine Goes.to (fun _ k => XS.iinc X0.here hx rfl (hb hby d3_36) rfl (l' := #[.val (.ref x0), .val (.int x1), .val (.int x2), .val (.ref x0), .val (.int (3 : Int32)), .val (.int (1 : Int32)), .val (.ref r0)]) rfl k) ?_
    show Goes p.tables e below (s₁.setTop (mkF m 39 #[.val (.ref x0), .val (.int x1), .val (.int x2), .val (.ref x0), .val (.int (3 : Int32)), .val (.int (1 : Int32)), .val (.ref r0)] [])) _
    refine Goes.to (fun _ k => XS.goto X0.here hx rfl (pc0 := 39) (pc' := 9) rfl (hb hby d3_39) (by decide) (by decide) k) ?_
    show Goes p.tables e below (s₁.setTop (mkF m 9 #[.val (.ref x0), .val (.int x1), .val (.int x2), .val (.ref x0), .val (.int (3 : Int32)), .val (.int (1 : Int32)), .val (.ref r0)] [])) _
    refine Goes.to (fun _ k => XS.iload X0.here hx rfl (hb hby d3_9) rfl k) ?_
    show Goes p.tables e below (s₁.setTop (mkF m 11 #[.val (.ref x0), .val (.int x1), .val (.int x2), .val (.ref x0), .val (.int (3 : Int32)), .val (.int (1 : Int32)), .val (.ref r0)] [(.int (1 : Int32))])) _
    refine Goes.to (fun _ k => XS.iload X0.here hx rfl (hb hby d3_11) rfl k) ?_
    show Goes p.tables e below (s₁.setTop (mkF m 13 #[.val (.ref x0), .val (.int x1), .val (.int x2), .val (.ref x0), .val (.int (3 : Int32)), .val (.int (1 : Int32)), .val (.ref r0)] [(.int (3 : Int32)), (.int (1 : Int32))])) _
    refine Goes.to (fun _ k => XS.icmpNo X0.here hx rfl (hb hby d3_13) rfl (tlt (by decide : (1 : Int32) < (3 : Int32))).2.1 k) ?_
    show Goes p.tables e below (s₁.setTop (mkF m 16 #[.val (.ref x0), .val (.int x1), .val (.int x2), .val (.ref x0), .val (.int (3 : Int32)), .val (.int (1 : Int32)), .val (.ref r0)] [])) _
    refine Goes.to (fun _ k => XS.aloadN X0.here hx rfl (hb hby d3_16) rfl rfl k) ?_
    show Goes p.tables e below (s₁.setTop (mkF m 17 #[.val (.ref x0), .val (.int x1), .val (.int x2), .val (.ref x0), .val (.int (3 : Int32)), .val (.int (1 : Int32)), .val (.ref r0)] [(.ref x0)])) _
    refine Goes.to (fun _ k => XS.iload X0.here hx rfl (hb hby d3_17) rfl k) ?_
    show Goes p.tables e below (s₁.setTop (mkF m 19 #[.val (.ref x0), .val (.int x1), .val (.int x2), .val (.ref x0), .val (.int (3 : Int32)), .val (.int (1 : Int32)), .val (.ref r0)] [(.int (1 : Int32)), (.ref x0)])) _
    obtain ⟨cl6, Ar6, q6, S6, N6, H6, G6⟩ := id VK
    have hin6 : ¬ ((1 : Int32) < 0 ∨ cl6.slots.size ≤ ((1 : Int32)).toNatClampNeg) := inb_of S6 ⟨by decide, by decide⟩
    have hat6 : cl6.slots[((1 : Int32)).toNatClampNeg]? = some (.ref r1) := Has.at H6 hin6 rfl
    refine Goes.to (fun _ k => X0.aaload hx (j := (1 : Int32)) (v := (.ref r1)) (by rw [e0]; exact Ar6.1) (State.isArrayOf_alike hZ.alike Ar6.2.1) rfl Ar6.2.2 hin6 hat6 (g := (mkF m 19 #[.val (.ref x0), .val (.int x1), .val (.int x2), .val (.ref x0), .val (.int (3 : Int32)), .val (.int (1 : Int32)), .val (.ref r0)] [(.int (1 : Int32)), (.ref x0)])) rfl rfl (hb hby d3_19) _ k) ?_
    show Goes p.tables e below (s₁.setTop (mkF m 20 #[.val (.ref x0), .val (.int x1), .val (.int x2), .val (.ref x0), .val (.int (3 : Int32)), .val (.int (1 : Int32)), .val (.ref r0)] [(.ref r1)])) _
    refine Goes.to (fun _ k => XS.astore X0.here hx rfl (hb hby d3_20) rfl rfl (l' := #[.val (.ref x0), .val (.int x1), .val (.int x2), .val (.ref x0), .val (.int (3 : Int32)), .val (.int (1 : Int32)), .val (.ref r1)]) rfl k) ?_
    show Goes p.tables e below (s₁.setTop (mkF m 22 #[.val (.ref x0), .val (.int x1), .val (.int x2), .val (.ref x0), .val (.int (3 : Int32)), .val (.int (1 : Int32)), .val (.ref r1)] [])) _
    refine Goes.to (fun _ k => XS.aload X0.here hx rfl (hb hby d3_22) rfl rfl k) ?_
    show Goes p.tables e below (s₁.setTop (mkF m 24 #[.val (.ref x0), .val (.int x1), .val (.int x2), .val (.ref x0), .val (.int (3 : Int32)), .val (.int (1 : Int32)), .val (.ref r1)] [(.ref r1)])) _
    refine Goes.to (fun _ k => XS.iloadN X0.here hx rfl (hb hby d3_24) rfl k) ?_
    show Goes p.tables e below (s₁.setTop (mkF m 25 #[.val (.ref x0), .val (.int x1), .val (.int x2), .val (.ref x0), .val (.int (3 : Int32)), .val (.int (1 : Int32)), .val (.ref r1)] [(.int x1), (.ref r1)])) _
    obtain ⟨cl7, Ar7, q7, S7, N7, H7, G7⟩ := id VR1
    have hin7 : ¬ (x1 < 0 ∨ cl7.slots.size ≤ (x1).toNatClampNeg) := by
      have k1 := rng32 x1
      have k2 : (0 : Int32).toInt = 0 := rfl
      have k3 : ¬ x1.toInt < (0 : Int32).toInt := fun z => ha0 (Int32.lt_iff_toInt_lt.mpr z)
      have k4 : (3 : Int32).toInt = 3 := rfl
      have k5 : x1.toInt < (3 : Int32).toInt := Int32.lt_iff_toInt_lt.mp ha1
      have k6 := rng32 x2
      have k7 : ¬ x2.toInt < (0 : Int32).toInt := fun z => hb0 (Int32.lt_iff_toInt_lt.mpr z)
      have k8 : x2.toInt < (3 : Int32).toInt := Int32.lt_iff_toInt_lt.mp hb1
      refine inb_of S7 ⟨fun hq => ?_, Int32.lt_iff_toInt_lt.mpr ?_⟩
      · have hq' := Int32.lt_iff_toInt_lt.mp hq
        omega
      · omega
    have hat7 : cl7.slots[(x1).toNatClampNeg]? = some (.double (own_at d10 d11 d12 x1)) := Has.at H7 hin7 (own_at_eq d10 d11 d12 x1)
    refine Goes.to (fun _ k => X0.daload hx (j := x1) (v := (.double (own_at d10 d11 d12 x1))) (by rw [e0]; exact Ar7.1) (State.isArrayOf_alike hZ.alike Ar7.2.1) Ar7.2.2 hin7 hat7 (g := (mkF m 25 #[.val (.ref x0), .val (.int x1), .val (.int x2), .val (.ref x0), .val (.int (3 : Int32)), .val (.int (1 : Int32)), .val (.ref r1)] [(.int x1), (.ref r1)])) rfl rfl (hb hby d3_25) _ k) ?_
    show Goes p.tables e below (s₁.setTop (mkF m 26 #[.val (.ref x0), .val (.int x1), .val (.int x2), .val (.ref x0), .val (.int (3 : Int32)), .val (.int (1 : Int32)), .val (.ref r1)] [(.double (own_at d10 d11 d12 x1))])) _
    refine Goes.to (fun _ k => XS.aload X0.here hx rfl (hb hby d3_26) rfl rfl k) ?_
    show Goes p.tables e below (s₁.setTop (mkF m 28 #[.val (.ref x0), .val (.int x1), .val (.int x2), .val (.ref x0), .val (.int (3 : Int32)), .val (.int (1 : Int32)), .val (.ref r1)] [(.ref r1), (.double (own_at d10 d11 d12 x1))])) _
    refine Goes.to (fun _ k => XS.iloadN X0.here hx rfl (hb hby d3_28) rfl k) ?_
    show Goes p.tables e below (s₁.setTop (mkF m 29 #[.val (.ref x0), .val (.int x1), .val (.int x2), .val (.ref x0), .val (.int (3 : Int32)), .val (.int (1 : Int32)), .val (.ref r1)] [(.int x2), (.ref r1), (.double (own_at d10 d11 d12 x1))])) _
    obtain ⟨cl8, Ar8, q8, S8, N8, H8, G8⟩ := id VR1
    have hin8 : ¬ (x2 < 0 ∨ cl8.slots.size ≤ (x2).toNatClampNeg) := by
      have k1 := rng32 x1
      have k2 : (0 : Int32).toInt = 0 := rfl
      have k3 : ¬ x1.toInt < (0 : Int32).toInt := fun z => ha0 (Int32.lt_iff_toInt_lt.mpr z)
      have k4 : (3 : Int32).toInt = 3 := rfl
      have k5 : x1.toInt < (3 : Int32).toInt := Int32.lt_iff_toInt_lt.mp ha1
      have k6 := rng32 x2
      have k7 : ¬ x2.toInt < (0 : Int32).toInt := fun z => hb0 (Int32.lt_iff_toInt_lt.mpr z)
      have k8 : x2.toInt < (3 : Int32).toInt := Int32.lt_iff_toInt_lt.mp hb1
      refine inb_of S8 ⟨fun hq => ?_, Int32.lt_iff_toInt_lt.mpr ?_⟩
      · have hq' := Int32.lt_iff_toInt_lt.mp hq
        omega
      · omega
    have hat8 : cl8.slots[(x2).toNatClampNeg]? = some (.double (own_at d10 d11 d12 x2)) := Has.at H8 hin8 (own_at_eq d10 d11 d12 x2)
    refine Goes.to (fun _ k => X0.daload hx (j := x2) (v := (.double (own_at d10 d11 d12 x2))) (by rw [e0]; exact Ar8.1) (State.isArrayOf_alike hZ.alike Ar8.2.1) Ar8.2.2 hin8 hat8 (g := (mkF m 29 #[.val (.ref x0), .val (.int x1), .val (.int x2), .val (.ref x0), .val (.int (3 : Int32)), .val (.int (1 : Int32)), .val (.ref r1)] [(.int x2), (.ref r1), (.double (own_at d10 d11 d12 x1))])) rfl rfl (hb hby d3_29) _ k) ?_
    show Goes p.tables e below (s₁.setTop (mkF m 30 #[.val (.ref x0), .val (.int x1), .val (.int x2), .val (.ref x0), .val (.int (3 : Int32)), .val (.int (1 : Int32)), .val (.ref r1)] [(.double (own_at d10 d11 d12 x2)), (.double (own_at d10 d11 d12 x1))])) _
    refine Goes.to (fun _ k => XS.dcmpS X0.here hx rfl (hb hby d3_30) rfl rfl k) ?_
    show Goes p.tables e below (s₁.setTop (mkF m 31 #[.val (.ref x0), .val (.int x1), .val (.int x2), .val (.ref x0), .val (.int (3 : Int32)), .val (.int (1 : Int32)), .val (.ref r1)] [(.int (cmpValue (FP.dcmp (own_at d10 d11 d12 x1) (own_at d10 d11 d12 x2)) .l))])) _
    by_cases hc9 : (0 : Int32) < (cmpValue (FP.dcmp (own_at d10 d11 d12 x1) (own_at d10 d11 d12 x2)) .l)
    · refine Goes.to (fun _ k => XS.ifNo X0.here hx rfl (hb hby d3_31) rfl ((if0 _ _).trans (tlt hc9).2.2.2) k) ?_
      show Goes p.tables e below (s₁.setTop (mkF m 34 #[.val (.ref x0), .val (.int x1), .val (.int x2), .val (.ref x0), .val (.int (3 : Int32)), .val (.int (1 : Int32)), .val (.ref r1)] [])) _
      refine Goes.to (fun _ k => XS.iconst X0.here hx rfl (hb hby d3_34) k) ?_
      show Goes p.tables e below (s₁.setTop (mkF m 35 #[.val (.ref x0), .val (.int x1), .val (.int x2), .val (.ref x0), .val (.int (3 : Int32)), .val (.int (1 : Int32)), .val (.ref r1)] [(.int (0 : Int32))])) _
      obtain ⟨fs, hr, hrun, hended, hW, hsame⟩ := X0.leave (v := some (.int (0 : Int32))) (fun h => by rw [Bd.returns] at h; cases h)
      have hv : (some (.int (0 : Int32)) : Option Value) = some (.int (if ((0 : Int32) < (cmpValue (FP.dcmp (own_at d00 d01 d02 x1) (own_at d00 d01 d02 x2)) .l)) ∨ ((0 : Int32) < (cmpValue (FP.dcmp (own_at d10 d11 d12 x1) (own_at d10 d11 d12 x2)) .l)) ∨ ((0 : Int32) < (cmpValue (FP.dcmp (own_at d20 d21 d22 x1) (own_at d20 d21 d22 x2)) .l)) then (0 : Int32) else (1 : Int32))) := by
        rw [if_pos (Or.inr (Or.inl hc9))]
      exact ⟨_, _, retN X0 hx (t := .boolean) Bd.returns (by simp) (hb hby d3_35) hr, hrun, hended, _, _, rfl, ⟨hv, N0, e0⟩, ⟨_, rfl⟩, hW, hsame.mono (by decide) (by decide)⟩
    · refine Goes.to (fun _ k => XS.ifYes X0.here hx rfl (pc0 := 31) (pc' := 36) rfl (hb hby d3_31) rfl ((if0 _ _).trans (flt hc9).2.2.2) (by decide) (by decide) k) ?_
      show Goes p.tables e below (s₁.setTop (mkF m 36 #[.val (.ref x0), .val (.int x1), .val (.int x2), .val (.ref x0), .val (.int (3 : Int32)), .val (.int (1 : Int32)), .val (.ref r1)] [])) _
      refine Goes.to (fun _ k => XS.iinc X0.here hx rfl (hb hby d3_36) rfl (l' := #[.val (.ref x0), .val (.int x1), .val (.int x2), .val (.ref x0), .val (.int (3 : Int32)), .val (.int (2 : Int32)), .val (.ref r1)]) rfl k) ?_
      show Goes p.tables e below (s₁.setTop (mkF m 39 #[.val (.ref x0), .val (.int x1), .val (.int x2), .val (.ref x0), .val (.int (3 : Int32)), .val (.int (2 : Int32)), .val (.ref r1)] [])) _
      refine Goes.to (fun _ k => XS.goto X0.here hx rfl (pc0 := 39) (pc' := 9) rfl (hb hby d3_39) (by decide) (by decide) k) ?_
      show Goes p.tables e below (s₁.setTop (mkF m 9 #[.val (.ref x0), .val (.int x1), .val (.int x2), .val (.ref x0), .val (.int (3 : Int32)), .val (.int (2 : Int32)), .val (.ref r1)] [])) _
      refine Goes.to (fun _ k => XS.iload X0.here hx rfl (hb hby d3_9) rfl k) ?_
      show Goes p.tables e below (s₁.setTop (mkF m 11 #[.val (.ref x0), .val (.int x1), .val (.int x2), .val (.ref x0), .val (.int (3 : Int32)), .val (.int (2 : Int32)), .val (.ref r1)] [(.int (2 : Int32))])) _
      refine Goes.to (fun _ k => XS.iload X0.here hx rfl (hb hby d3_11) rfl k) ?_
      show Goes p.tables e below (s₁.setTop (mkF m 13 #[.val (.ref x0), .val (.int x1), .val (.int x2), .val (.ref x0), .val (.int (3 : Int32)), .val (.int (2 : Int32)), .val (.ref r1)] [(.int (3 : Int32)), (.int (2 : Int32))])) _
      refine Goes.to (fun _ k => XS.icmpNo X0.here hx rfl (hb hby d3_13) rfl (tlt (by decide : (2 : Int32) < (3 : Int32))).2.1 k) ?_
      show Goes p.tables e below (s₁.setTop (mkF m 16 #[.val (.ref x0), .val (.int x1), .val (.int x2), .val (.ref x0), .val (.int (3 : Int32)), .val (.int (2 : Int32)), .val (.ref r1)] [])) _
      refine Goes.to (fun _ k => XS.aloadN X0.here hx rfl (hb hby d3_16) rfl rfl k) ?_
      show Goes p.tables e below (s₁.setTop (mkF m 17 #[.val (.ref x0), .val (.int x1), .val (.int x2), .val (.ref x0), .val (.int (3 : Int32)), .val (.int (2 : Int32)), .val (.ref r1)] [(.ref x0)])) _
      refine Goes.to (fun _ k => XS.iload X0.here hx rfl (hb hby d3_17) rfl k) ?_
      show Goes p.tables e below (s₁.setTop (mkF m 19 #[.val (.ref x0), .val (.int x1), .val (.int x2), .val (.ref x0), .val (.int (3 : Int32)), .val (.int (2 : Int32)), .val (.ref r1)] [(.int (2 : Int32)), (.ref x0)])) _
      obtain ⟨cl10, Ar10, q10, S10, N10, H10, G10⟩ := id VK
      have hin10 : ¬ ((2 : Int32) < 0 ∨ cl10.slots.size ≤ ((2 : Int32)).toNatClampNeg) := inb_of S10 ⟨by decide, by decide⟩
      have hat10 : cl10.slots[((2 : Int32)).toNatClampNeg]? = some (.ref r2) := Has.at H10 hin10 rfl
      refine Goes.to (fun _ k => X0.aaload hx (j := (2 : Int32)) (v := (.ref r2)) (by rw [e0]; exact Ar10.1) (State.isArrayOf_alike hZ.alike Ar10.2.1) rfl Ar10.2.2 hin10 hat10 (g := (mkF m 19 #[.val (.ref x0), .val (.int x1), .val (.int x2), .val (.ref x0), .val (.int (3 : Int32)), .val (.int (2 : Int32)), .val (.ref r1)] [(.int (2 : Int32)), (.ref x0)])) rfl rfl (hb hby d3_19) _ k) ?_
      show Goes p.tables e below (s₁.setTop (mkF m 20 #[.val (.ref x0), .val (.int x1), .val (.int x2), .val (.ref x0), .val (.int (3 : Int32)), .val (.int (2 : Int32)), .val (.ref r1)] [(.ref r2)])) _
      refine Goes.to (fun _ k => XS.astore X0.here hx rfl (hb hby d3_20) rfl rfl (l' := #[.val (.ref x0), .val (.int x1), .val (.int x2), .val (.ref x0), .val (.int (3 : Int32)), .val (.int (2 : Int32)), .val (.ref r2)]) rfl k) ?_
      show Goes p.tables e below (s₁.setTop (mkF m 22 #[.val (.ref x0), .val (.int x1), .val (.int x2), .val (.ref x0), .val (.int (3 : Int32)), .val (.int (2 : Int32)), .val (.ref r2)] [])) _
      refine Goes.to (fun _ k => XS.aload X0.here hx rfl (hb hby d3_22) rfl rfl k) ?_
      show Goes p.tables e below (s₁.setTop (mkF m 24 #[.val (.ref x0), .val (.int x1), .val (.int x2), .val (.ref x0), .val (.int (3 : Int32)), .val (.int (2 : Int32)), .val (.ref r2)] [(.ref r2)])) _
      refine Goes.to (fun _ k => XS.iloadN X0.here hx rfl (hb hby d3_24) rfl k) ?_
      show Goes p.tables e below (s₁.setTop (mkF m 25 #[.val (.ref x0), .val (.int x1), .val (.int x2), .val (.ref x0), .val (.int (3 : Int32)), .val (.int (2 : Int32)), .val (.ref r2)] [(.int x1), (.ref r2)])) _
      obtain ⟨cl11, Ar11, q11, S11, N11, H11, G11⟩ := id VR2
      have hin11 : ¬ (x1 < 0 ∨ cl11.slots.size ≤ (x1).toNatClampNeg) := by
        have k1 := rng32 x1
        have k2 : (0 : Int32).toInt = 0 := rfl
        have k3 : ¬ x1.toInt < (0 : Int32).toInt := fun z => ha0 (Int32.lt_iff_toInt_lt.mpr z)
        have k4 : (3 : Int32).toInt = 3 := rfl
        have k5 : x1.toInt < (3 : Int32).toInt := Int32.lt_iff_toInt_lt.mp ha1
        have k6 := rng32 x2
        have k7 : ¬ x2.toInt < (0 : Int32).toInt := fun z => hb0 (Int32.lt_iff_toInt_lt.mpr z)
        have k8 : x2.toInt < (3 : Int32).toInt := Int32.lt_iff_toInt_lt.mp hb1
        refine inb_of S11 ⟨fun hq => ?_, Int32.lt_iff_toInt_lt.mpr ?_⟩
        · have hq' := Int32.lt_iff_toInt_lt.mp hq
          omega
        · omega
      have hat11 : cl11.slots[(x1).toNatClampNeg]? = some (.double (own_at d20 d21 d22 x1)) := Has.at H11 hin11 (own_at_eq d20 d21 d22 x1)
      refine Goes.to (fun _ k => X0.daload hx (j := x1) (v := (.double (own_at d20 d21 d22 x1))) (by rw [e0]; exact Ar11.1) (State.isArrayOf_alike hZ.alike Ar11.2.1) Ar11.2.2 hin11 hat11 (g := (mkF m 25 #[.val (.ref x0), .val (.int x1), .val (.int x2), .val (.ref x0), .val (.int (3 : Int32)), .val (.int (2 : Int32)), .val (.ref r2)] [(.int x1), (.ref r2)])) rfl rfl (hb hby d3_25) _ k) ?_
      show Goes p.tables e below (s₁.setTop (mkF m 26 #[.val (.ref x0), .val (.int x1), .val (.int x2), .val (.ref x0), .val (.int (3 : Int32)), .val (.int (2 : Int32)), .val (.ref r2)] [(.double (own_at d20 d21 d22 x1))])) _
      refine Goes.to (fun _ k => XS.aload X0.here hx rfl (hb hby d3_26) rfl rfl k) ?_
      show Goes p.tables e below (s₁.setTop (mkF m 28 #[.val (.ref x0), .val (.int x1), .val (.int x2), .val (.ref x0), .val (.int (3 : Int32)), .val (.int (2 : Int32)), .val (.ref r2)] [(.ref r2), (.double (own_at d20 d21 d22 x1))])) _
      refine Goes.to (fun _ k => XS.iloadN X0.here hx rfl (hb hby d3_28) rfl k) ?_
      show Goes p.tables e below (s₁.setTop (mkF m 29 #[.val (.ref x0), .val (.int x1), .val (.int x2), .val (.ref x0), .val (.int (3 : Int32)), .val (.int (2 : Int32)), .val (.ref r2)] [(.int x2), (.ref r2), (.double (own_at d20 d21 d22 x1))])) _
      obtain ⟨cl12, Ar12, q12, S12, N12, H12, G12⟩ := id VR2
      have hin12 : ¬ (x2 < 0 ∨ cl12.slots.size ≤ (x2).toNatClampNeg) := by
        have k1 := rng32 x1
        have k2 : (0 : Int32).toInt = 0 := rfl
        have k3 : ¬ x1.toInt < (0 : Int32).toInt := fun z => ha0 (Int32.lt_iff_toInt_lt.mpr z)
        have k4 : (3 : Int32).toInt = 3 := rfl
        have k5 : x1.toInt < (3 : Int32).toInt := Int32.lt_iff_toInt_lt.mp ha1
        have k6 := rng32 x2
        have k7 : ¬ x2.toInt < (0 : Int32).toInt := fun z => hb0 (Int32.lt_iff_toInt_lt.mpr z)
        have k8 : x2.toInt < (3 : Int32).toInt := Int32.lt_iff_toInt_lt.mp hb1
        refine inb_of S12 ⟨fun hq => ?_, Int32.lt_iff_toInt_lt.mpr ?_⟩
        · have hq' := Int32.lt_iff_toInt_lt.mp hq
          omega
        · omega
      have hat12 : cl12.slots[(x2).toNatClampNeg]? = some (.double (own_at d20 d21 d22 x2)) := Has.at H12 hin12 (own_at_eq d20 d21 d22 x2)
      refine Goes.to (fun _ k => X0.daload hx (j := x2) (v := (.double (own_at d20 d21 d22 x2))) (by rw [e0]; exact Ar12.1) (State.isArrayOf_alike hZ.alike Ar12.2.1) Ar12.2.2 hin12 hat12 (g := (mkF m 29 #[.val (.ref x0), .val (.int x1), .val (.int x2), .val (.ref x0), .val (.int (3 : Int32)), .val (.int (2 : Int32)), .val (.ref r2)] [(.int x2), (.ref r2), (.double (own_at d20 d21 d22 x1))])) rfl rfl (hb hby d3_29) _ k) ?_
      show Goes p.tables e below (s₁.setTop (mkF m 30 #[.val (.ref x0), .val (.int x1), .val (.int x2), .val (.ref x0), .val (.int (3 : Int32)), .val (.int (2 : Int32)), .val (.ref r2)] [(.double (own_at d20 d21 d22 x2)), (.double (own_at d20 d21 d22 x1))])) _
      refine Goes.to (fun _ k => XS.dcmpS X0.here hx rfl (hb hby d3_30) rfl rfl k) ?_
      show Goes p.tables e below (s₁.setTop (mkF m 31 #[.val (.ref x0), .val (.int x1), .val (.int x2), .val (.ref x0), .val (.int (3 : Int32)), .val (.int (2 : Int32)), .val (.ref r2)] [(.int (cmpValue (FP.dcmp (own_at d20 d21 d22 x1) (own_at d20 d21 d22 x2)) .l))])) _
      by_cases hc13 : (0 : Int32) < (cmpValue (FP.dcmp (own_at d20 d21 d22 x1) (own_at d20 d21 d22 x2)) .l)
      · refine Goes.to (fun _ k => XS.ifNo X0.here hx rfl (hb hby d3_31) rfl ((if0 _ _).trans (tlt hc13).2.2.2) k) ?_
        show Goes p.tables e below (s₁.setTop (mkF m 34 #[.val (.ref x0), .val (.int x1), .val (.int x2), .val (.ref x0), .val (.int (3 : Int32)), .val (.int (2 : Int32)), .val (.ref r2)] [])) _
        refine Goes.to (fun _ k => XS.iconst X0.here hx rfl (hb hby d3_34) k) ?_
        show Goes p.tables e below (s₁.setTop (mkF m 35 #[.val (.ref x0), .val (.int x1), .val (.int x2), .val (.ref x0), .val (.int (3 : Int32)), .val (.int (2 : Int32)), .val (.ref r2)] [(.int (0 : Int32))])) _
        obtain ⟨fs, hr, hrun, hended, hW, hsame⟩ := X0.leave (v := some (.int (0 : Int32))) (fun h => by rw [Bd.returns] at h; cases h)
        have hv : (some (.int (0 : Int32)) : Option Value) = some (.int (if ((0 : Int32) < (cmpValue (FP.dcmp (own_at d00 d01 d02 x1) (own_at d00 d01 d02 x2)) .l)) ∨ ((0 : Int32) < (cmpValue (FP.dcmp (own_at d10 d11 d12 x1) (own_at d10 d11 d12 x2)) .l)) ∨ ((0 : Int32) < (cmpValue (FP.dcmp (own_at d20 d21 d22 x1) (own_at d20 d21 d22 x2)) .l)) then (0 : Int32) else (1 : Int32))) := by
          rw [if_pos (Or.inr (Or.inr (hc13)))]
        exact ⟨_, _, retN X0 hx (t := .boolean) Bd.returns (by simp) (hb hby d3_35) hr, hrun, hended, _, _, rfl, ⟨hv, N0, e0⟩, ⟨_, rfl⟩, hW, hsame.mono (by decide) (by decide)⟩
      · refine Goes.to (fun _ k => XS.ifYes X0.here hx rfl (pc0 := 31) (pc' := 36) rfl (hb hby d3_31) rfl ((if0 _ _).trans (flt hc13).2.2.2) (by decide) (by decide) k) ?_
        show Goes p.tables e below (s₁.setTop (mkF m 36 #[.val (.ref x0), .val (.int x1), .val (.int x2), .val (.ref x0), .val (.int (3 : Int32)), .val (.int (2 : Int32)), .val (.ref r2)] [])) _
        refine Goes.to (fun _ k => XS.iinc X0.here hx rfl (hb hby d3_36) rfl (l' := #[.val (.ref x0), .val (.int x1), .val (.int x2), .val (.ref x0), .val (.int (3 : Int32)), .val (.int (3 : Int32)), .val (.ref r2)]) rfl k) ?_
        show Goes p.tables e below (s₁.setTop (mkF m 39 #[.val (.ref x0), .val (.int x1), .val (.int x2), .val (.ref x0), .val (.int (3 : Int32)), .val (.int (3 : Int32)), .val (.ref r2)] [])) _
        refine Goes.to (fun _ k => XS.goto X0.here hx rfl (pc0 := 39) (pc' := 9) rfl (hb hby d3_39) (by decide) (by decide) k) ?_
        show Goes p.tables e below (s₁.setTop (mkF m 9 #[.val (.ref x0), .val (.int x1), .val (.int x2), .val (.ref x0), .val (.int (3 : Int32)), .val (.int (3 : Int32)), .val (.ref r2)] [])) _
        refine Goes.to (fun _ k => XS.iload X0.here hx rfl (hb hby d3_9) rfl k) ?_
        show Goes p.tables e below (s₁.setTop (mkF m 11 #[.val (.ref x0), .val (.int x1), .val (.int x2), .val (.ref x0), .val (.int (3 : Int32)), .val (.int (3 : Int32)), .val (.ref r2)] [(.int (3 : Int32))])) _
        refine Goes.to (fun _ k => XS.iload X0.here hx rfl (hb hby d3_11) rfl k) ?_
        show Goes p.tables e below (s₁.setTop (mkF m 13 #[.val (.ref x0), .val (.int x1), .val (.int x2), .val (.ref x0), .val (.int (3 : Int32)), .val (.int (3 : Int32)), .val (.ref r2)] [(.int (3 : Int32)), (.int (3 : Int32))])) _
        refine Goes.to (fun _ k => XS.icmpYes X0.here hx rfl (pc0 := 13) (pc' := 42) rfl (hb hby d3_13) rfl (flt (by decide : ¬ ((3 : Int32) < (3 : Int32)))).2.1 (by decide) (by decide) k) ?_
        show Goes p.tables e below (s₁.setTop (mkF m 42 #[.val (.ref x0), .val (.int x1), .val (.int x2), .val (.ref x0), .val (.int (3 : Int32)), .val (.int (3 : Int32)), .val (.ref r2)] [])) _
        refine Goes.to (fun _ k => XS.iconst X0.here hx rfl (hb hby d3_42) k) ?_
        show Goes p.tables e below (s₁.setTop (mkF m 43 #[.val (.ref x0), .val (.int x1), .val (.int x2), .val (.ref x0), .val (.int (3 : Int32)), .val (.int (3 : Int32)), .val (.ref r2)] [(.int (1 : Int32))])) _
        obtain ⟨fs, hr, hrun, hended, hW, hsame⟩ := X0.leave (v := some (.int (1 : Int32))) (fun h => by rw [Bd.returns] at h; cases h)
        have hv : (some (.int (1 : Int32)) : Option Value) = some (.int (if ((0 : Int32) < (cmpValue (FP.dcmp (own_at d00 d01 d02 x1) (own_at d00 d01 d02 x2)) .l)) ∨ ((0 : Int32) < (cmpValue (FP.dcmp (own_at d10 d11 d12 x1) (own_at d10 d11 d12 x2)) .l)) ∨ ((0 : Int32) < (cmpValue (FP.dcmp (own_at d20 d21 d22 x1) (own_at d20 d21 d22 x2)) .l)) then (0 : Int32) else (1 : Int32))) := by
          rw [if_neg (fun q => q.elim hc5 (fun q => q.elim hc9 hc13))]
        exact ⟨_, _, retN X0 hx (t := .boolean) Bd.returns (by simp) (hb hby d3_43) hr, hrun, hended, _, _, rfl, ⟨hv, N0, e0⟩, ⟨_, rfl⟩, hW, hsame.mono (by decide) (by decide)⟩

theorem own_pd_pJIqD : parseMethodDescriptor "(JI)D" = some ⟨[.long, .int], some .double⟩ := by decide +kernel
theorem own_pd_pJIqI : parseMethodDescriptor "(JI)I" = some ⟨[.long, .int], some .int⟩ := by decide +kernel
theorem own_pd_paaDIIqZ : parseMethodDescriptor "([[DII)Z" = some ⟨[(.array (.array .double)), .int, .int], some .boolean⟩ := by decide +kernel
theorem own_pn_0 : plainName "com/example/pareto4/pareto4/front/KeysNoHigherPinLaw" = true := by first | (simp [plainName, overriddenIn]; done) | decide +kernel
theorem own_ef_own_rm0 (m : MethodId) (x0 : Int32) (x1 : Int64) : entryFrame m #[(.int x0), (.long x1)] maxLocals = mkF m 0 #[.val (.int x0), .val (.long x1), .second, .unset, .unset, .unset, .unset, .unset, .unset, .unset, .unset, .unset, .unset, .unset, .unset, .unset, .unset] [] := by first | (simp [entryFrame, mkF, argsToLocals, Value.category, maxLocals]; done) | rfl
def own_Q_own_rm0 (Z : State) (x0 : Int32) (x1 : Int64)  (h0 : Heap) (n0 : Nat) (v : Option Value) (h : Heap) (L : List Loc) : Prop := v = some (.int (1 : Int32)) ∧ Fr n0 L
set_option maxRecDepth 65536 in
set_option maxHeartbeats 40000000 in
theorem own_pt_own_rm0_233 (l : Launch) (Z : State) (a0 : Array Value) (hw : ∀ d ∈ tables_1, d.before a0 Z = true) (ws : List Jvm.Cond) (x0 : Int32) (x1 : Int64)  (h0 : Heap) (n0 : Nat) (Z0 : n0 ≤ h0.size) 
    {p : Program} {e : Env} {s : State} {m : MethodId} {below : List Frame} {meth : Method} {c : Code} {s₁ : State} (Bd : BodyLoose p l x (head1 (Jvm.Cond.code x code maxLocals ret :: ws) room_1) code maxLocals ret e s m #[(.int x0), (.long x1)] below meth c s₁) (hml0 : c.maxLocals = maxLocals) (hh : s.heap = h0) (hZ : Z.Warmed39 s.vm)
    (b1 : Addr) (k1 : ClassId) (b18 : Addr) (k18 : ClassId) (b43 : Addr) (k43 : ClassId) (b78 : Addr) (k78 : ClassId) (b118 : Addr) (k118 : ClassId) (b164 : Addr) (k164 : ClassId) (b215 : Addr) (k215 : ClassId) (W : Int32) (A : Int32) (B : Int32)
    (Tpt : State) (lpt : List Loc)  (hpt : Heap)
    (Xpt : Stand p l e room_1 s m #[(.int x0), (.long x1)] below meth c Tpt lpt 7 18) (Ept : Tpt.heap = hpt) (Npt : Fr n0 lpt) (Zpt : n0 ≤ hpt.size) 
    (Pf233_0 : Exa Z hpt b1 "[D")
    (Pf233_1 : Arv Z hpt b1 k1 .double (3 : Int32) [(.double (own_dv x1 (0 : Int32))), (.double (own_dv x1 (4 : Int32))), (.double (own_dv x1 (8 : Int32)))] (.double (0 : UInt64)))
    (Pf233_2 : Exa Z hpt b18 "[D")
    (Pf233_3 : Arv Z hpt b18 k18 .double (3 : Int32) [(.double (own_dv x1 (12 : Int32))), (.double (own_dv x1 (16 : Int32))), (.double (own_dv x1 (20 : Int32)))] (.double (0 : UInt64)))
    (Pf233_4 : Exa Z hpt b43 "[D")
    (Pf233_5 : Arv Z hpt b43 k43 .double (3 : Int32) [(.double (own_dv x1 (24 : Int32))), (.double (own_dv x1 (28 : Int32))), (.double (own_dv x1 (32 : Int32)))] (.double (0 : UInt64)))
    (Pf233_6 : Arv Z hpt b78 k78 .int (3 : Int32) [(.int (own_iv x1 (0 : Int32))), (.int (own_iv x1 (4 : Int32))), (.int (own_iv x1 (8 : Int32)))] (.int (0 : Int32)))
    (Pf233_7 : Arv Z hpt b118 k118 .int (3 : Int32) [(.int (own_iv x1 (12 : Int32))), (.int (own_iv x1 (16 : Int32))), (.int (own_iv x1 (20 : Int32)))] (.int (0 : Int32)))
    (Pf233_8 : Arv Z hpt b164 k164 .int (3 : Int32) [(.int (own_iv x1 (24 : Int32))), (.int (own_iv x1 (28 : Int32))), (.int (own_iv x1 (32 : Int32)))] (.int (0 : Int32)))
    (Pf233_9 : Arv Z hpt b215 k215 (.array .double) (0 : Int32) [] .null)
    (Pg233_10 : n0 ≤ b1)
    (Pn233_11 : b1 ≠ b18)
    (Pg233_12 : n0 ≤ b18)
    (Pn233_13 : b1 ≠ b43)
    (Pn233_14 : b18 ≠ b43)
    (Pg233_15 : n0 ≤ b43)
    (Pn233_16 : b1 ≠ b78)
    (Pn233_17 : b18 ≠ b78)
    (Pn233_18 : b43 ≠ b78)
    (Pg233_19 : n0 ≤ b78)
    (Pn233_20 : b1 ≠ b118)
    (Pn233_21 : b18 ≠ b118)
    (Pn233_22 : b43 ≠ b118)
    (Pn233_23 : b78 ≠ b118)
    (Pg233_24 : n0 ≤ b118)
    (Pn233_25 : b1 ≠ b164)
    (Pn233_26 : b18 ≠ b164)
    (Pn233_27 : b43 ≠ b164)
    (Pn233_28 : b78 ≠ b164)
    (Pn233_29 : b118 ≠ b164)
    (Pg233_30 : n0 ≤ b164)
    (Po233_31 : OvrA Z k215 .double "[D")
    (Pn233_32 : b1 ≠ b215)
    (Pn233_33 : b18 ≠ b215)
    (Pn233_34 : b43 ≠ b215)
    (Pn233_35 : b78 ≠ b215)
    (Pn233_36 : b118 ≠ b215)
    (Pn233_37 : b164 ≠ b215)
    (Pg233_38 : n0 ≤ b215)
    (hA0 : ¬ (A < (0 : Int32)))
    (hA1 : A < (3 : Int32))
    (hB0 : ¬ (B < (0 : Int32)))
    (hB1 : B < (3 : Int32))
    (hnm_W : (x0 &&& (3 : Int32)) = W)
    (Ph233_44 : W = (0 : Int32))
    (Ph233_45 : W < (1 : Int32))
    (Ph233_46 : W < (2 : Int32))
    : Goes p.tables e below (Tpt.setTop (mkF m 339 #[.val (.int x0), .val (.long x1), .second, .val (.int W), .val (.int A), .val (.int B), .val (.ref b1), .val (.ref b18), .val (.ref b43), .val (.ref b78), .val (.ref b118), .val (.ref b164), .val (.ref b215), .val (.int (0 : Int32)), .unset, .unset, .unset] [])) (own_R below s (own_Q_own_rm0 Z x0 x1 h0 n0) 7 21) := by
  have hx := Bd.exec
  have hby := Bd.bytes
  have hml : c.maxLocals = 17 := hml0
  have hnm := (name_of_methodNamed Bd.named Bd.method).1
  have hown : s.vm.findClass "com/example/pareto4/pareto4/front/KeysNoHigherPinLaw" = some m.cls := findClass_of_methodNamed Bd.named
  show Goes p.tables e below (Tpt.setTop (mkF m 339 #[.val (.int x0), .val (.long x1), .second, .val (.int W), .val (.int A), .val (.int B), .val (.ref b1), .val (.ref b18), .val (.ref b43), .val (.ref b78), .val (.ref b118), .val (.ref b164), .val (.ref b215), .val (.int (0 : Int32)), .unset, .unset, .unset] [])) _
  refine Goes.to (fun _ k => XS.iconst Xpt.here hx rfl (hb hby at_339) k) ?_
  show Goes p.tables e below (Tpt.setTop (mkF m 340 #[.val (.int x0), .val (.long x1), .second, .val (.int W), .val (.int A), .val (.int B), .val (.ref b1), .val (.ref b18), .val (.ref b43), .val (.ref b78), .val (.ref b118), .val (.ref b164), .val (.ref b215), .val (.int (0 : Int32)), .unset, .unset, .unset] [(.int (0 : Int32))])) _
  refine Goes.to (fun _ k => XS.istore Xpt.here hx rfl (hb hby at_340) rfl (l' := #[.val (.int x0), .val (.long x1), .second, .val (.int W), .val (.int A), .val (.int B), .val (.ref b1), .val (.ref b18), .val (.ref b43), .val (.ref b78), .val (.ref b118), .val (.ref b164), .val (.ref b215), .val (.int (0 : Int32)), .val (.int (0 : Int32)), .unset, .unset]) rfl k) ?_
  show Goes p.tables e below (Tpt.setTop (mkF m 342 #[.val (.int x0), .val (.long x1), .second, .val (.int W), .val (.int A), .val (.int B), .val (.ref b1), .val (.ref b18), .val (.ref b43), .val (.ref b78), .val (.ref b118), .val (.ref b164), .val (.ref b215), .val (.int (0 : Int32)), .val (.int (0 : Int32)), .unset, .unset] [])) _
  refine Goes.to (fun _ k => XS.iloadN Xpt.here hx rfl (hb hby at_342) rfl k) ?_
  show Goes p.tables e below (Tpt.setTop (mkF m 343 #[.val (.int x0), .val (.long x1), .second, .val (.int W), .val (.int A), .val (.int B), .val (.ref b1), .val (.ref b18), .val (.ref b43), .val (.ref b78), .val (.ref b118), .val (.ref b164), .val (.ref b215), .val (.int (0 : Int32)), .val (.int (0 : Int32)), .unset, .unset] [(.int W)])) _
  refine Goes.to (fun _ k => XS.iconst Xpt.here hx rfl (hb hby at_343) k) ?_
  show Goes p.tables e below (Tpt.setTop (mkF m 344 #[.val (.int x0), .val (.long x1), .second, .val (.int W), .val (.int A), .val (.int B), .val (.ref b1), .val (.ref b18), .val (.ref b43), .val (.ref b78), .val (.ref b118), .val (.ref b164), .val (.ref b215), .val (.int (0 : Int32)), .val (.int (0 : Int32)), .unset, .unset] [(.int (3 : Int32)), (.int W)])) _
  by_cases hc234 : W < (3 : Int32)
  · refine Goes.to (fun _ k => XS.icmpYes Xpt.here hx rfl (pc0 := 344) (pc' := 364) rfl (hb hby at_344) rfl (tlt hc234).1 (by decide) (by decide) k) ?_
    show Goes p.tables e below (Tpt.setTop (mkF m 364 #[.val (.int x0), .val (.long x1), .second, .val (.int W), .val (.int A), .val (.int B), .val (.ref b1), .val (.ref b18), .val (.ref b43), .val (.ref b78), .val (.ref b118), .val (.ref b164), .val (.ref b215), .val (.int (0 : Int32)), .val (.int (0 : Int32)), .unset, .unset] [])) _
    refine Goes.to (fun _ k => XS.iconst Xpt.here hx rfl (hb hby at_364) k) ?_
    show Goes p.tables e below (Tpt.setTop (mkF m 365 #[.val (.int x0), .val (.long x1), .second, .val (.int W), .val (.int A), .val (.int B), .val (.ref b1), .val (.ref b18), .val (.ref b43), .val (.ref b78), .val (.ref b118), .val (.ref b164), .val (.ref b215), .val (.int (0 : Int32)), .val (.int (0 : Int32)), .unset, .unset] [(.int (0 : Int32))])) _
    refine Goes.to (fun _ k => XS.istore Xpt.here hx rfl (hb hby at_365) rfl (l' := #[.val (.int x0), .val (.long x1), .second, .val (.int W), .val (.int A), .val (.int B), .val (.ref b1), .val (.ref b18), .val (.ref b43), .val (.ref b78), .val (.ref b118), .val (.ref b164), .val (.ref b215), .val (.int (0 : Int32)), .val (.int (0 : Int32)), .val (.int (0 : Int32)), .unset]) rfl k) ?_
    show Goes p.tables e below (Tpt.setTop (mkF m 367 #[.val (.int x0), .val (.long x1), .second, .val (.int W), .val (.int A), .val (.int B), .val (.ref b1), .val (.ref b18), .val (.ref b43), .val (.ref b78), .val (.ref b118), .val (.ref b164), .val (.ref b215), .val (.int (0 : Int32)), .val (.int (0 : Int32)), .val (.int (0 : Int32)), .unset] [])) _
    refine Goes.to (fun _ k => XS.iload Xpt.here hx rfl (hb hby at_367) rfl k) ?_
    show Goes p.tables e below (Tpt.setTop (mkF m 369 #[.val (.int x0), .val (.long x1), .second, .val (.int W), .val (.int A), .val (.int B), .val (.ref b1), .val (.ref b18), .val (.ref b43), .val (.ref b78), .val (.ref b118), .val (.ref b164), .val (.ref b215), .val (.int (0 : Int32)), .val (.int (0 : Int32)), .val (.int (0 : Int32)), .unset] [(.int (0 : Int32))])) _
    refine Goes.to (fun _ k => XS.ifNo Xpt.here hx rfl (hb hby at_369) rfl ((if0 _ _).trans (teq (by decide : (0 : Int32) = (0 : Int32))).2) k) ?_
    show Goes p.tables e below (Tpt.setTop (mkF m 372 #[.val (.int x0), .val (.long x1), .second, .val (.int W), .val (.int A), .val (.int B), .val (.ref b1), .val (.ref b18), .val (.ref b43), .val (.ref b78), .val (.ref b118), .val (.ref b164), .val (.ref b215), .val (.int (0 : Int32)), .val (.int (0 : Int32)), .val (.int (0 : Int32)), .unset] [])) _
    refine Goes.to (fun _ k => XS.iload Xpt.here hx rfl (hb hby at_372) rfl k) ?_
    show Goes p.tables e below (Tpt.setTop (mkF m 374 #[.val (.int x0), .val (.long x1), .second, .val (.int W), .val (.int A), .val (.int B), .val (.ref b1), .val (.ref b18), .val (.ref b43), .val (.ref b78), .val (.ref b118), .val (.ref b164), .val (.ref b215), .val (.int (0 : Int32)), .val (.int (0 : Int32)), .val (.int (0 : Int32)), .unset] [(.int (0 : Int32))])) _
    refine Goes.to (fun _ k => XS.ifNo Xpt.here hx rfl (hb hby at_374) rfl ((if0 _ _).trans (teq (by decide : (0 : Int32) = (0 : Int32))).2) k) ?_
    show Goes p.tables e below (Tpt.setTop (mkF m 377 #[.val (.int x0), .val (.long x1), .second, .val (.int W), .val (.int A), .val (.int B), .val (.ref b1), .val (.ref b18), .val (.ref b43), .val (.ref b78), .val (.ref b118), .val (.ref b164), .val (.ref b215), .val (.int (0 : Int32)), .val (.int (0 : Int32)), .val (.int (0 : Int32)), .unset] [])) _
    refine Goes.to (fun _ k => XS.iload Xpt.here hx rfl (hb hby at_377) rfl k) ?_
    show Goes p.tables e below (Tpt.setTop (mkF m 379 #[.val (.int x0), .val (.long x1), .second, .val (.int W), .val (.int A), .val (.int B), .val (.ref b1), .val (.ref b18), .val (.ref b43), .val (.ref b78), .val (.ref b118), .val (.ref b164), .val (.ref b215), .val (.int (0 : Int32)), .val (.int (0 : Int32)), .val (.int (0 : Int32)), .unset] [(.int (0 : Int32))])) _
    refine Goes.to (fun _ k => XS.ifNo Xpt.here hx rfl (hb hby at_379) rfl ((if0 _ _).trans (teq (by decide : (0 : Int32) = (0 : Int32))).2) k) ?_
    show Goes p.tables e below (Tpt.setTop (mkF m 382 #[.val (.int x0), .val (.long x1), .second, .val (.int W), .val (.int A), .val (.int B), .val (.ref b1), .val (.ref b18), .val (.ref b43), .val (.ref b78), .val (.ref b118), .val (.ref b164), .val (.ref b215), .val (.int (0 : Int32)), .val (.int (0 : Int32)), .val (.int (0 : Int32)), .unset] [])) _
    refine Goes.to (fun _ k => XS.iconst Xpt.here hx rfl (hb hby at_382) k) ?_
    show Goes p.tables e below (Tpt.setTop (mkF m 383 #[.val (.int x0), .val (.long x1), .second, .val (.int W), .val (.int A), .val (.int B), .val (.ref b1), .val (.ref b18), .val (.ref b43), .val (.ref b78), .val (.ref b118), .val (.ref b164), .val (.ref b215), .val (.int (0 : Int32)), .val (.int (0 : Int32)), .val (.int (0 : Int32)), .unset] [(.int (1 : Int32))])) _
    refine Goes.to (fun _ k => XS.goto Xpt.here hx rfl (pc0 := 383) (pc' := 387) rfl (hb hby at_383) (by decide) (by decide) k) ?_
    show Goes p.tables e below (Tpt.setTop (mkF m 387 #[.val (.int x0), .val (.long x1), .second, .val (.int W), .val (.int A), .val (.int B), .val (.ref b1), .val (.ref b18), .val (.ref b43), .val (.ref b78), .val (.ref b118), .val (.ref b164), .val (.ref b215), .val (.int (0 : Int32)), .val (.int (0 : Int32)), .val (.int (0 : Int32)), .unset] [(.int (1 : Int32))])) _
    refine Goes.to (fun _ k => XS.istore Xpt.here hx rfl (hb hby at_387) rfl (l' := #[.val (.int x0), .val (.long x1), .second, .val (.int W), .val (.int A), .val (.int B), .val (.ref b1), .val (.ref b18), .val (.ref b43), .val (.ref b78), .val (.ref b118), .val (.ref b164), .val (.ref b215), .val (.int (0 : Int32)), .val (.int (0 : Int32)), .val (.int (0 : Int32)), .val (.int (1 : Int32))]) rfl k) ?_
    show Goes p.tables e below (Tpt.setTop (mkF m 389 #[.val (.int x0), .val (.long x1), .second, .val (.int W), .val (.int A), .val (.int B), .val (.ref b1), .val (.ref b18), .val (.ref b43), .val (.ref b78), .val (.ref b118), .val (.ref b164), .val (.ref b215), .val (.int (0 : Int32)), .val (.int (0 : Int32)), .val (.int (0 : Int32)), .val (.int (1 : Int32))] [])) _
    refine Goes.to (fun _ k => XS.aload Xpt.here hx rfl (hb hby at_389) rfl rfl k) ?_
    show Goes p.tables e below (Tpt.setTop (mkF m 391 #[.val (.int x0), .val (.long x1), .second, .val (.int W), .val (.int A), .val (.int B), .val (.ref b1), .val (.ref b18), .val (.ref b43), .val (.ref b78), .val (.ref b118), .val (.ref b164), .val (.ref b215), .val (.int (0 : Int32)), .val (.int (0 : Int32)), .val (.int (0 : Int32)), .val (.int (1 : Int32))] [(.ref b215)])) _
    refine Goes.to (fun _ k => XS.iload Xpt.here hx rfl (hb hby at_391) rfl k) ?_
    show Goes p.tables e below (Tpt.setTop (mkF m 393 #[.val (.int x0), .val (.long x1), .second, .val (.int W), .val (.int A), .val (.int B), .val (.ref b1), .val (.ref b18), .val (.ref b43), .val (.ref b78), .val (.ref b118), .val (.ref b164), .val (.ref b215), .val (.int (0 : Int32)), .val (.int (0 : Int32)), .val (.int (0 : Int32)), .val (.int (1 : Int32))] [(.int A), (.ref b215)])) _
    refine Goes.to (fun _ k => XS.iload Xpt.here hx rfl (hb hby at_393) rfl k) ?_
    show Goes p.tables e below (Tpt.setTop (mkF m 395 #[.val (.int x0), .val (.long x1), .second, .val (.int W), .val (.int A), .val (.int B), .val (.ref b1), .val (.ref b18), .val (.ref b43), .val (.ref b78), .val (.ref b118), .val (.ref b164), .val (.ref b215), .val (.int (0 : Int32)), .val (.int (0 : Int32)), .val (.int (0 : Int32)), .val (.int (1 : Int32))] [(.int B), (.int A), (.ref b215)])) _
    obtain ⟨_, _, ⟨T235, L235, k235, n235⟩, -, X235, ⟨Lc235, hQ235, l235, y235, z235⟩, st235⟩ := Jvm.LawKit.callS Xpt hx (y := (⟨"com/example/pareto4/pareto4/front/Keys", "noHigher", "([[DII)Z"⟩ : MethodName)) hown (mvT hZ (hw _ (List.mem_of_getElem? (i := 12) rfl))) (mvT hZ (hw _ (List.mem_of_getElem? (i := 13) rfl))) (mvT hZ (hw _ (List.mem_of_getElem? (i := 14) rfl))) (mvT hZ (hw _ (List.mem_of_getElem? (i := 15) rfl))) (by decide) (backOf (W := 0) (own_rmNH0 l Z a0 hw [] b215 A B k215 hpt n0 Zpt hA0 hA1 hB0 hB1 Pf233_9) hZ (hw _ (List.mem_of_getElem? (i := 15) rfl)) (hw _ (List.mem_of_getElem? (i := 14) rfl)) (by decide) (by decide)) (g := (mkF m 395 #[.val (.int x0), .val (.long x1), .second, .val (.int W), .val (.int A), .val (.int B), .val (.ref b1), .val (.ref b18), .val (.ref b43), .val (.ref b78), .val (.ref b118), .val (.ref b164), .val (.ref b215), .val (.int (0 : Int32)), .val (.int (0 : Int32)), .val (.int (0 : Int32)), .val (.int (1 : Int32))] [(.int B), (.int A), (.ref b215)])) rfl (by rw [hml]; rfl) (argsL := [(.ref b215), (.int A), (.int B)]) (rest := []) (lenOf own_pd_paaDIIqZ rfl) rfl (by show 2 * 0 + _ ≤ _; exact Nat.le_of_eq rfl) (hb hby at_395) (fun _ _ => ⟨rfl, Ept, (by decide : 7 + 0 ≤ _), (by decide : 18 + 0 ≤ _)⟩)
    dsimp only [Pt.U, Pt.locs, Pt.cells, Pt.slots] at X235 l235 y235 z235 st235 hQ235
    subst l235 y235 z235
    obtain ⟨hv235, Nq235, hp235_0⟩ := hQ235
    have N235 := Fr.app Npt Nq235
    by_cases hc236 : False
    · exact hc236.elim
    · rw [if_neg hc236] at hv235
      subst hv235
      refine Goes.to st235 ?_
      show Goes p.tables e below (T235.setTop (mkF m 398 #[.val (.int x0), .val (.long x1), .second, .val (.int W), .val (.int A), .val (.int B), .val (.ref b1), .val (.ref b18), .val (.ref b43), .val (.ref b78), .val (.ref b118), .val (.ref b164), .val (.ref b215), .val (.int (0 : Int32)), .val (.int (0 : Int32)), .val (.int (0 : Int32)), .val (.int (1 : Int32))] [(.int (1 : Int32))])) _
      refine Goes.to (fun _ k => XS.iload X235.here hx rfl (hb hby at_398) rfl k) ?_
      show Goes p.tables e below (T235.setTop (mkF m 400 #[.val (.int x0), .val (.long x1), .second, .val (.int W), .val (.int A), .val (.int B), .val (.ref b1), .val (.ref b18), .val (.ref b43), .val (.ref b78), .val (.ref b118), .val (.ref b164), .val (.ref b215), .val (.int (0 : Int32)), .val (.int (0 : Int32)), .val (.int (0 : Int32)), .val (.int (1 : Int32))] [(.int (1 : Int32)), (.int (1 : Int32))])) _
      refine Goes.to (fun _ k => XS.icmpNo X235.here hx rfl (hb hby at_400) rfl (teq (by decide : (1 : Int32) = (1 : Int32))).2 k) ?_
      show Goes p.tables e below (T235.setTop (mkF m 403 #[.val (.int x0), .val (.long x1), .second, .val (.int W), .val (.int A), .val (.int B), .val (.ref b1), .val (.ref b18), .val (.ref b43), .val (.ref b78), .val (.ref b118), .val (.ref b164), .val (.ref b215), .val (.int (0 : Int32)), .val (.int (0 : Int32)), .val (.int (0 : Int32)), .val (.int (1 : Int32))] [])) _
      refine Goes.to (fun _ k => XS.iconst X235.here hx rfl (hb hby at_403) k) ?_
      show Goes p.tables e below (T235.setTop (mkF m 404 #[.val (.int x0), .val (.long x1), .second, .val (.int W), .val (.int A), .val (.int B), .val (.ref b1), .val (.ref b18), .val (.ref b43), .val (.ref b78), .val (.ref b118), .val (.ref b164), .val (.ref b215), .val (.int (0 : Int32)), .val (.int (0 : Int32)), .val (.int (0 : Int32)), .val (.int (1 : Int32))] [(.int (1 : Int32))])) _
      refine Goes.to (fun _ k => XS.goto X235.here hx rfl (pc0 := 404) (pc' := 408) rfl (hb hby at_404) (by decide) (by decide) k) ?_
      show Goes p.tables e below (T235.setTop (mkF m 408 #[.val (.int x0), .val (.long x1), .second, .val (.int W), .val (.int A), .val (.int B), .val (.ref b1), .val (.ref b18), .val (.ref b43), .val (.ref b78), .val (.ref b118), .val (.ref b164), .val (.ref b215), .val (.int (0 : Int32)), .val (.int (0 : Int32)), .val (.int (0 : Int32)), .val (.int (1 : Int32))] [(.int (1 : Int32))])) _
      obtain ⟨fs, hr, hrun, hended, hW, hsame⟩ := X235.leave (v := some (.int (1 : Int32))) (fun h => by rw [Bd.returns] at h; cases h)
      have hv : (some (.int (1 : Int32)) : Option Value) = some (.int (1 : Int32)) := by
        rfl
      exact ⟨_, _, retN X235 hx (t := .boolean) Bd.returns (by simp) (hb hby at_408) hr, hrun, hended, _, _, rfl, ⟨hv, N235⟩, ⟨_, rfl⟩, hW, hsame.mono (by decide) (by decide)⟩
  · exfalso
    rw [Ph233_44] at hc234
    exact hc234 (by decide)
set_option maxRecDepth 65536 in
set_option maxHeartbeats 40000000 in
theorem own_pt_own_rm0_266 (l : Launch) (Z : State) (a0 : Array Value) (hw : ∀ d ∈ tables_1, d.before a0 Z = true) (ws : List Jvm.Cond) (x0 : Int32) (x1 : Int64)  (h0 : Heap) (n0 : Nat) (Z0 : n0 ≤ h0.size) 
    {p : Program} {e : Env} {s : State} {m : MethodId} {below : List Frame} {meth : Method} {c : Code} {s₁ : State} (Bd : BodyLoose p l x (head1 (Jvm.Cond.code x code maxLocals ret :: ws) room_1) code maxLocals ret e s m #[(.int x0), (.long x1)] below meth c s₁) (hml0 : c.maxLocals = maxLocals) (hh : s.heap = h0) (hZ : Z.Warmed39 s.vm)
    (b1 : Addr) (k1 : ClassId) (b18 : Addr) (k18 : ClassId) (b43 : Addr) (k43 : ClassId) (b78 : Addr) (k78 : ClassId) (b118 : Addr) (k118 : ClassId) (b164 : Addr) (k164 : ClassId) (b238 : Addr) (k238 : ClassId) (W : Int32) (A : Int32) (B : Int32)
    (Tpt : State) (lpt : List Loc)  (hpt : Heap)
    (Xpt : Stand p l e room_1 s m #[(.int x0), (.long x1)] below meth c Tpt lpt 7 19) (Ept : Tpt.heap = hpt) (Npt : Fr n0 lpt) (Zpt : n0 ≤ hpt.size) 
    (Pf266_0 : Exa Z hpt b1 "[D")
    (Pf266_1 : Arv Z hpt b1 k1 .double (3 : Int32) [(.double (own_dv x1 (0 : Int32))), (.double (own_dv x1 (4 : Int32))), (.double (own_dv x1 (8 : Int32)))] (.double (0 : UInt64)))
    (Pf266_2 : Exa Z hpt b18 "[D")
    (Pf266_3 : Arv Z hpt b18 k18 .double (3 : Int32) [(.double (own_dv x1 (12 : Int32))), (.double (own_dv x1 (16 : Int32))), (.double (own_dv x1 (20 : Int32)))] (.double (0 : UInt64)))
    (Pf266_4 : Exa Z hpt b43 "[D")
    (Pf266_5 : Arv Z hpt b43 k43 .double (3 : Int32) [(.double (own_dv x1 (24 : Int32))), (.double (own_dv x1 (28 : Int32))), (.double (own_dv x1 (32 : Int32)))] (.double (0 : UInt64)))
    (Pf266_6 : Arv Z hpt b78 k78 .int (3 : Int32) [(.int (own_iv x1 (0 : Int32))), (.int (own_iv x1 (4 : Int32))), (.int (own_iv x1 (8 : Int32)))] (.int (0 : Int32)))
    (Pf266_7 : Arv Z hpt b118 k118 .int (3 : Int32) [(.int (own_iv x1 (12 : Int32))), (.int (own_iv x1 (16 : Int32))), (.int (own_iv x1 (20 : Int32)))] (.int (0 : Int32)))
    (Pf266_8 : Arv Z hpt b164 k164 .int (3 : Int32) [(.int (own_iv x1 (24 : Int32))), (.int (own_iv x1 (28 : Int32))), (.int (own_iv x1 (32 : Int32)))] (.int (0 : Int32)))
    (Pf266_9 : Arv Z hpt b238 k238 (.array .double) (1 : Int32) [(.ref b1)] .null)
    (Pg266_10 : n0 ≤ b1)
    (Pn266_11 : b1 ≠ b18)
    (Pg266_12 : n0 ≤ b18)
    (Pn266_13 : b1 ≠ b43)
    (Pn266_14 : b18 ≠ b43)
    (Pg266_15 : n0 ≤ b43)
    (Pn266_16 : b1 ≠ b78)
    (Pn266_17 : b18 ≠ b78)
    (Pn266_18 : b43 ≠ b78)
    (Pg266_19 : n0 ≤ b78)
    (Pn266_20 : b1 ≠ b118)
    (Pn266_21 : b18 ≠ b118)
    (Pn266_22 : b43 ≠ b118)
    (Pn266_23 : b78 ≠ b118)
    (Pg266_24 : n0 ≤ b118)
    (Pn266_25 : b1 ≠ b164)
    (Pn266_26 : b18 ≠ b164)
    (Pn266_27 : b43 ≠ b164)
    (Pn266_28 : b78 ≠ b164)
    (Pn266_29 : b118 ≠ b164)
    (Pg266_30 : n0 ≤ b164)
    (Po266_31 : OvrA Z k238 .double "[D")
    (Pn266_32 : b1 ≠ b238)
    (Pn266_33 : b18 ≠ b238)
    (Pn266_34 : b43 ≠ b238)
    (Pn266_35 : b78 ≠ b238)
    (Pn266_36 : b118 ≠ b238)
    (Pn266_37 : b164 ≠ b238)
    (Pg266_38 : n0 ≤ b238)
    (hA0 : ¬ (A < (0 : Int32)))
    (hA1 : A < (3 : Int32))
    (hB0 : ¬ (B < (0 : Int32)))
    (hB1 : B < (3 : Int32))
    (hnm_W : (x0 &&& (3 : Int32)) = W)
    (Ph266_44 : ¬ (W = (0 : Int32)))
    (Ph266_45 : W = (1 : Int32))
    : Goes p.tables e below (Tpt.setTop (mkF m 293 #[.val (.int x0), .val (.long x1), .second, .val (.int W), .val (.int A), .val (.int B), .val (.ref b1), .val (.ref b18), .val (.ref b43), .val (.ref b78), .val (.ref b118), .val (.ref b164), .val (.ref b238), .unset, .unset, .unset, .unset] [(.int W)])) (own_R below s (own_Q_own_rm0 Z x0 x1 h0 n0) 7 21) := by
  have hx := Bd.exec
  have hby := Bd.bytes
  have hml : c.maxLocals = 17 := hml0
  have hnm := (name_of_methodNamed Bd.named Bd.method).1
  have hown : s.vm.findClass "com/example/pareto4/pareto4/front/KeysNoHigherPinLaw" = some m.cls := findClass_of_methodNamed Bd.named
  show Goes p.tables e below (Tpt.setTop (mkF m 293 #[.val (.int x0), .val (.long x1), .second, .val (.int W), .val (.int A), .val (.int B), .val (.ref b1), .val (.ref b18), .val (.ref b43), .val (.ref b78), .val (.ref b118), .val (.ref b164), .val (.ref b238), .unset, .unset, .unset, .unset] [(.int W)])) _
  refine Goes.to (fun _ k => XS.iconst Xpt.here hx rfl (hb hby at_293) k) ?_
  show Goes p.tables e below (Tpt.setTop (mkF m 294 #[.val (.int x0), .val (.long x1), .second, .val (.int W), .val (.int A), .val (.int B), .val (.ref b1), .val (.ref b18), .val (.ref b43), .val (.ref b78), .val (.ref b118), .val (.ref b164), .val (.ref b238), .unset, .unset, .unset, .unset] [(.int (1 : Int32)), (.int W)])) _
  by_cases hc267 : W < (1 : Int32)
  · exfalso
    rw [Ph266_45] at hc267
    exact absurd hc267 (by decide)
  · refine Goes.to (fun _ k => XS.icmpNo Xpt.here hx rfl (hb hby at_294) rfl (flt hc267).1 k) ?_
    show Goes p.tables e below (Tpt.setTop (mkF m 297 #[.val (.int x0), .val (.long x1), .second, .val (.int W), .val (.int A), .val (.int B), .val (.ref b1), .val (.ref b18), .val (.ref b43), .val (.ref b78), .val (.ref b118), .val (.ref b164), .val (.ref b238), .unset, .unset, .unset, .unset] [])) _
    refine Goes.to (fun _ k => XS.aload Xpt.here hx rfl (hb hby at_297) rfl rfl k) ?_
    show Goes p.tables e below (Tpt.setTop (mkF m 299 #[.val (.int x0), .val (.long x1), .second, .val (.int W), .val (.int A), .val (.int B), .val (.ref b1), .val (.ref b18), .val (.ref b43), .val (.ref b78), .val (.ref b118), .val (.ref b164), .val (.ref b238), .unset, .unset, .unset, .unset] [(.ref b78)])) _
    refine Goes.to (fun _ k => XS.iload Xpt.here hx rfl (hb hby at_299) rfl k) ?_
    show Goes p.tables e below (Tpt.setTop (mkF m 301 #[.val (.int x0), .val (.long x1), .second, .val (.int W), .val (.int A), .val (.int B), .val (.ref b1), .val (.ref b18), .val (.ref b43), .val (.ref b78), .val (.ref b118), .val (.ref b164), .val (.ref b238), .unset, .unset, .unset, .unset] [(.int A), (.ref b78)])) _
    obtain ⟨cl268, Ar268, q268, S268, N268, H268, G268⟩ := id Pf266_6
    have hin268 : ¬ (A < 0 ∨ cl268.slots.size ≤ (A).toNatClampNeg) := by
      have k1 := rng32 A
      have k2 : (0 : Int32).toInt = 0 := rfl
      have k3 : ¬ A.toInt < (0 : Int32).toInt := fun z => hA0 (Int32.lt_iff_toInt_lt.mpr z)
      have k4 : (3 : Int32).toInt = 3 := rfl
      have k5 : A.toInt < (3 : Int32).toInt := Int32.lt_iff_toInt_lt.mp hA1
      have k6 := rng32 B
      have k7 : ¬ B.toInt < (0 : Int32).toInt := fun z => hB0 (Int32.lt_iff_toInt_lt.mpr z)
      have k8 : B.toInt < (3 : Int32).toInt := Int32.lt_iff_toInt_lt.mp hB1
      have k9 := rng32 x0
      have k10 : (x0 &&& (3 : Int32)).toInt = x0.toInt % 4 := c_mask x0 (3 : Int32) 2 (by decide) (by decide)
      have k11 := rng32 W
      have k12 : (x0 &&& (3 : Int32)).toInt = W.toInt := congrArg Int32.toInt hnm_W
      have k13 : ¬ W.toInt = (0 : Int32).toInt := fun z => Ph266_44 (Int32.toInt_inj.mp z)
      have k14 : (1 : Int32).toInt = 1 := rfl
      have k15 : W.toInt = (1 : Int32).toInt := congrArg Int32.toInt Ph266_45
      have k16 : ¬ W.toInt < (1 : Int32).toInt := fun z => hc267 (Int32.lt_iff_toInt_lt.mpr z)
      refine inb_of S268 ⟨fun hq => ?_, Int32.lt_iff_toInt_lt.mpr ?_⟩
      · have hq' := Int32.lt_iff_toInt_lt.mp hq
        omega
      · omega
    have hat268 : cl268.slots[(A).toNatClampNeg]? = some (.int (own_iat (own_iv x1 (0 : Int32)) (own_iv x1 (4 : Int32)) (own_iv x1 (8 : Int32)) A)) := Has.at H268 hin268 (own_iat_eq (own_iv x1 (0 : Int32)) (own_iv x1 (4 : Int32)) (own_iv x1 (8 : Int32)) A)
    refine Goes.to (fun _ k => Xpt.iaload hx (j := A) (v := (.int (own_iat (own_iv x1 (0 : Int32)) (own_iv x1 (4 : Int32)) (own_iv x1 (8 : Int32)) A))) (by rw [Ept]; exact Ar268.1) (State.isArrayOf_alike hZ.alike Ar268.2.1) Ar268.2.2 hin268 hat268 (g := (mkF m 301 #[.val (.int x0), .val (.long x1), .second, .val (.int W), .val (.int A), .val (.int B), .val (.ref b1), .val (.ref b18), .val (.ref b43), .val (.ref b78), .val (.ref b118), .val (.ref b164), .val (.ref b238), .unset, .unset, .unset, .unset] [(.int A), (.ref b78)])) rfl rfl (hb hby at_301) _ k) ?_
    show Goes p.tables e below (Tpt.setTop (mkF m 302 #[.val (.int x0), .val (.long x1), .second, .val (.int W), .val (.int A), .val (.int B), .val (.ref b1), .val (.ref b18), .val (.ref b43), .val (.ref b78), .val (.ref b118), .val (.ref b164), .val (.ref b238), .unset, .unset, .unset, .unset] [(.int (own_iat (own_iv x1 (0 : Int32)) (own_iv x1 (4 : Int32)) (own_iv x1 (8 : Int32)) A))])) _
    refine Goes.to (fun _ k => XS.aload Xpt.here hx rfl (hb hby at_302) rfl rfl k) ?_
    show Goes p.tables e below (Tpt.setTop (mkF m 304 #[.val (.int x0), .val (.long x1), .second, .val (.int W), .val (.int A), .val (.int B), .val (.ref b1), .val (.ref b18), .val (.ref b43), .val (.ref b78), .val (.ref b118), .val (.ref b164), .val (.ref b238), .unset, .unset, .unset, .unset] [(.ref b78), (.int (own_iat (own_iv x1 (0 : Int32)) (own_iv x1 (4 : Int32)) (own_iv x1 (8 : Int32)) A))])) _
    refine Goes.to (fun _ k => XS.iload Xpt.here hx rfl (hb hby at_304) rfl k) ?_
    show Goes p.tables e below (Tpt.setTop (mkF m 306 #[.val (.int x0), .val (.long x1), .second, .val (.int W), .val (.int A), .val (.int B), .val (.ref b1), .val (.ref b18), .val (.ref b43), .val (.ref b78), .val (.ref b118), .val (.ref b164), .val (.ref b238), .unset, .unset, .unset, .unset] [(.int B), (.ref b78), (.int (own_iat (own_iv x1 (0 : Int32)) (own_iv x1 (4 : Int32)) (own_iv x1 (8 : Int32)) A))])) _
    obtain ⟨cl269, Ar269, q269, S269, N269, H269, G269⟩ := id Pf266_6
    have hin269 : ¬ (B < 0 ∨ cl269.slots.size ≤ (B).toNatClampNeg) := by
      have k1 := rng32 A
      have k2 : (0 : Int32).toInt = 0 := rfl
      have k3 : ¬ A.toInt < (0 : Int32).toInt := fun z => hA0 (Int32.lt_iff_toInt_lt.mpr z)
      have k4 : (3 : Int32).toInt = 3 := rfl
      have k5 : A.toInt < (3 : Int32).toInt := Int32.lt_iff_toInt_lt.mp hA1
      have k6 := rng32 B
      have k7 : ¬ B.toInt < (0 : Int32).toInt := fun z => hB0 (Int32.lt_iff_toInt_lt.mpr z)
      have k8 : B.toInt < (3 : Int32).toInt := Int32.lt_iff_toInt_lt.mp hB1
      have k9 := rng32 x0
      have k10 : (x0 &&& (3 : Int32)).toInt = x0.toInt % 4 := c_mask x0 (3 : Int32) 2 (by decide) (by decide)
      have k11 := rng32 W
      have k12 : (x0 &&& (3 : Int32)).toInt = W.toInt := congrArg Int32.toInt hnm_W
      have k13 : ¬ W.toInt = (0 : Int32).toInt := fun z => Ph266_44 (Int32.toInt_inj.mp z)
      have k14 : (1 : Int32).toInt = 1 := rfl
      have k15 : W.toInt = (1 : Int32).toInt := congrArg Int32.toInt Ph266_45
      have k16 : ¬ W.toInt < (1 : Int32).toInt := fun z => hc267 (Int32.lt_iff_toInt_lt.mpr z)
      refine inb_of S269 ⟨fun hq => ?_, Int32.lt_iff_toInt_lt.mpr ?_⟩
      · have hq' := Int32.lt_iff_toInt_lt.mp hq
        omega
      · omega
    have hat269 : cl269.slots[(B).toNatClampNeg]? = some (.int (own_iat (own_iv x1 (0 : Int32)) (own_iv x1 (4 : Int32)) (own_iv x1 (8 : Int32)) B)) := Has.at H269 hin269 (own_iat_eq (own_iv x1 (0 : Int32)) (own_iv x1 (4 : Int32)) (own_iv x1 (8 : Int32)) B)
    refine Goes.to (fun _ k => Xpt.iaload hx (j := B) (v := (.int (own_iat (own_iv x1 (0 : Int32)) (own_iv x1 (4 : Int32)) (own_iv x1 (8 : Int32)) B))) (by rw [Ept]; exact Ar269.1) (State.isArrayOf_alike hZ.alike Ar269.2.1) Ar269.2.2 hin269 hat269 (g := (mkF m 306 #[.val (.int x0), .val (.long x1), .second, .val (.int W), .val (.int A), .val (.int B), .val (.ref b1), .val (.ref b18), .val (.ref b43), .val (.ref b78), .val (.ref b118), .val (.ref b164), .val (.ref b238), .unset, .unset, .unset, .unset] [(.int B), (.ref b78), (.int (own_iat (own_iv x1 (0 : Int32)) (own_iv x1 (4 : Int32)) (own_iv x1 (8 : Int32)) A))])) rfl rfl (hb hby at_306) _ k) ?_
    show Goes p.tables e below (Tpt.setTop (mkF m 307 #[.val (.int x0), .val (.long x1), .second, .val (.int W), .val (.int A), .val (.int B), .val (.ref b1), .val (.ref b18), .val (.ref b43), .val (.ref b78), .val (.ref b118), .val (.ref b164), .val (.ref b238), .unset, .unset, .unset, .unset] [(.int (own_iat (own_iv x1 (0 : Int32)) (own_iv x1 (4 : Int32)) (own_iv x1 (8 : Int32)) B)), (.int (own_iat (own_iv x1 (0 : Int32)) (own_iv x1 (4 : Int32)) (own_iv x1 (8 : Int32)) A))])) _
    by_cases hc270 : (own_iat (own_iv x1 (0 : Int32)) (own_iv x1 (4 : Int32)) (own_iv x1 (8 : Int32)) B) < (own_iat (own_iv x1 (0 : Int32)) (own_iv x1 (4 : Int32)) (own_iv x1 (8 : Int32)) A)
    · refine Goes.to (fun _ k => XS.icmpNo Xpt.here hx rfl (hb hby at_307) rfl (tlt hc270).2.2.2 k) ?_
      show Goes p.tables e below (Tpt.setTop (mkF m 310 #[.val (.int x0), .val (.long x1), .second, .val (.int W), .val (.int A), .val (.int B), .val (.ref b1), .val (.ref b18), .val (.ref b43), .val (.ref b78), .val (.ref b118), .val (.ref b164), .val (.ref b238), .unset, .unset, .unset, .unset] [])) _
      refine Goes.to (fun _ k => XS.iconst Xpt.here hx rfl (hb hby at_310) k) ?_
      show Goes p.tables e below (Tpt.setTop (mkF m 311 #[.val (.int x0), .val (.long x1), .second, .val (.int W), .val (.int A), .val (.int B), .val (.ref b1), .val (.ref b18), .val (.ref b43), .val (.ref b78), .val (.ref b118), .val (.ref b164), .val (.ref b238), .unset, .unset, .unset, .unset] [(.int (1 : Int32))])) _
      refine Goes.to (fun _ k => XS.goto Xpt.here hx rfl (pc0 := 311) (pc' := 315) rfl (hb hby at_311) (by decide) (by decide) k) ?_
      show Goes p.tables e below (Tpt.setTop (mkF m 315 #[.val (.int x0), .val (.long x1), .second, .val (.int W), .val (.int A), .val (.int B), .val (.ref b1), .val (.ref b18), .val (.ref b43), .val (.ref b78), .val (.ref b118), .val (.ref b164), .val (.ref b238), .unset, .unset, .unset, .unset] [(.int (1 : Int32))])) _
      refine Goes.to (fun _ k => XS.istore Xpt.here hx rfl (hb hby at_315) rfl (l' := #[.val (.int x0), .val (.long x1), .second, .val (.int W), .val (.int A), .val (.int B), .val (.ref b1), .val (.ref b18), .val (.ref b43), .val (.ref b78), .val (.ref b118), .val (.ref b164), .val (.ref b238), .val (.int (1 : Int32)), .unset, .unset, .unset]) rfl k) ?_
      show Goes p.tables e below (Tpt.setTop (mkF m 317 #[.val (.int x0), .val (.long x1), .second, .val (.int W), .val (.int A), .val (.int B), .val (.ref b1), .val (.ref b18), .val (.ref b43), .val (.ref b78), .val (.ref b118), .val (.ref b164), .val (.ref b238), .val (.int (1 : Int32)), .unset, .unset, .unset] [])) _
      refine Goes.to (fun _ k => XS.iloadN Xpt.here hx rfl (hb hby at_317) rfl k) ?_
      show Goes p.tables e below (Tpt.setTop (mkF m 318 #[.val (.int x0), .val (.long x1), .second, .val (.int W), .val (.int A), .val (.int B), .val (.ref b1), .val (.ref b18), .val (.ref b43), .val (.ref b78), .val (.ref b118), .val (.ref b164), .val (.ref b238), .val (.int (1 : Int32)), .unset, .unset, .unset] [(.int W)])) _
      refine Goes.to (fun _ k => XS.iconst Xpt.here hx rfl (hb hby at_318) k) ?_
      show Goes p.tables e below (Tpt.setTop (mkF m 319 #[.val (.int x0), .val (.long x1), .second, .val (.int W), .val (.int A), .val (.int B), .val (.ref b1), .val (.ref b18), .val (.ref b43), .val (.ref b78), .val (.ref b118), .val (.ref b164), .val (.ref b238), .val (.int (1 : Int32)), .unset, .unset, .unset] [(.int (2 : Int32)), (.int W)])) _
      by_cases hc271 : W < (2 : Int32)
      · refine Goes.to (fun _ k => XS.icmpYes Xpt.here hx rfl (pc0 := 319) (pc' := 339) rfl (hb hby at_319) rfl (tlt hc271).1 (by decide) (by decide) k) ?_
        show Goes p.tables e below (Tpt.setTop (mkF m 339 #[.val (.int x0), .val (.long x1), .second, .val (.int W), .val (.int A), .val (.int B), .val (.ref b1), .val (.ref b18), .val (.ref b43), .val (.ref b78), .val (.ref b118), .val (.ref b164), .val (.ref b238), .val (.int (1 : Int32)), .unset, .unset, .unset] [])) _
        refine Goes.to (fun _ k => XS.iconst Xpt.here hx rfl (hb hby at_339) k) ?_
        show Goes p.tables e below (Tpt.setTop (mkF m 340 #[.val (.int x0), .val (.long x1), .second, .val (.int W), .val (.int A), .val (.int B), .val (.ref b1), .val (.ref b18), .val (.ref b43), .val (.ref b78), .val (.ref b118), .val (.ref b164), .val (.ref b238), .val (.int (1 : Int32)), .unset, .unset, .unset] [(.int (0 : Int32))])) _
        refine Goes.to (fun _ k => XS.istore Xpt.here hx rfl (hb hby at_340) rfl (l' := #[.val (.int x0), .val (.long x1), .second, .val (.int W), .val (.int A), .val (.int B), .val (.ref b1), .val (.ref b18), .val (.ref b43), .val (.ref b78), .val (.ref b118), .val (.ref b164), .val (.ref b238), .val (.int (1 : Int32)), .val (.int (0 : Int32)), .unset, .unset]) rfl k) ?_
        show Goes p.tables e below (Tpt.setTop (mkF m 342 #[.val (.int x0), .val (.long x1), .second, .val (.int W), .val (.int A), .val (.int B), .val (.ref b1), .val (.ref b18), .val (.ref b43), .val (.ref b78), .val (.ref b118), .val (.ref b164), .val (.ref b238), .val (.int (1 : Int32)), .val (.int (0 : Int32)), .unset, .unset] [])) _
        refine Goes.to (fun _ k => XS.iloadN Xpt.here hx rfl (hb hby at_342) rfl k) ?_
        show Goes p.tables e below (Tpt.setTop (mkF m 343 #[.val (.int x0), .val (.long x1), .second, .val (.int W), .val (.int A), .val (.int B), .val (.ref b1), .val (.ref b18), .val (.ref b43), .val (.ref b78), .val (.ref b118), .val (.ref b164), .val (.ref b238), .val (.int (1 : Int32)), .val (.int (0 : Int32)), .unset, .unset] [(.int W)])) _
        refine Goes.to (fun _ k => XS.iconst Xpt.here hx rfl (hb hby at_343) k) ?_
        show Goes p.tables e below (Tpt.setTop (mkF m 344 #[.val (.int x0), .val (.long x1), .second, .val (.int W), .val (.int A), .val (.int B), .val (.ref b1), .val (.ref b18), .val (.ref b43), .val (.ref b78), .val (.ref b118), .val (.ref b164), .val (.ref b238), .val (.int (1 : Int32)), .val (.int (0 : Int32)), .unset, .unset] [(.int (3 : Int32)), (.int W)])) _
        by_cases hc272 : W < (3 : Int32)
        · refine Goes.to (fun _ k => XS.icmpYes Xpt.here hx rfl (pc0 := 344) (pc' := 364) rfl (hb hby at_344) rfl (tlt hc272).1 (by decide) (by decide) k) ?_
          show Goes p.tables e below (Tpt.setTop (mkF m 364 #[.val (.int x0), .val (.long x1), .second, .val (.int W), .val (.int A), .val (.int B), .val (.ref b1), .val (.ref b18), .val (.ref b43), .val (.ref b78), .val (.ref b118), .val (.ref b164), .val (.ref b238), .val (.int (1 : Int32)), .val (.int (0 : Int32)), .unset, .unset] [])) _
          refine Goes.to (fun _ k => XS.iconst Xpt.here hx rfl (hb hby at_364) k) ?_
          show Goes p.tables e below (Tpt.setTop (mkF m 365 #[.val (.int x0), .val (.long x1), .second, .val (.int W), .val (.int A), .val (.int B), .val (.ref b1), .val (.ref b18), .val (.ref b43), .val (.ref b78), .val (.ref b118), .val (.ref b164), .val (.ref b238), .val (.int (1 : Int32)), .val (.int (0 : Int32)), .unset, .unset] [(.int (0 : Int32))])) _
          refine Goes.to (fun _ k => XS.istore Xpt.here hx rfl (hb hby at_365) rfl (l' := #[.val (.int x0), .val (.long x1), .second, .val (.int W), .val (.int A), .val (.int B), .val (.ref b1), .val (.ref b18), .val (.ref b43), .val (.ref b78), .val (.ref b118), .val (.ref b164), .val (.ref b238), .val (.int (1 : Int32)), .val (.int (0 : Int32)), .val (.int (0 : Int32)), .unset]) rfl k) ?_
          show Goes p.tables e below (Tpt.setTop (mkF m 367 #[.val (.int x0), .val (.long x1), .second, .val (.int W), .val (.int A), .val (.int B), .val (.ref b1), .val (.ref b18), .val (.ref b43), .val (.ref b78), .val (.ref b118), .val (.ref b164), .val (.ref b238), .val (.int (1 : Int32)), .val (.int (0 : Int32)), .val (.int (0 : Int32)), .unset] [])) _
          refine Goes.to (fun _ k => XS.iload Xpt.here hx rfl (hb hby at_367) rfl k) ?_
          show Goes p.tables e below (Tpt.setTop (mkF m 369 #[.val (.int x0), .val (.long x1), .second, .val (.int W), .val (.int A), .val (.int B), .val (.ref b1), .val (.ref b18), .val (.ref b43), .val (.ref b78), .val (.ref b118), .val (.ref b164), .val (.ref b238), .val (.int (1 : Int32)), .val (.int (0 : Int32)), .val (.int (0 : Int32)), .unset] [(.int (1 : Int32))])) _
          refine Goes.to (fun _ k => XS.ifYes Xpt.here hx rfl (pc0 := 369) (pc' := 386) rfl (hb hby at_369) rfl ((if0 _ _).trans (feq (by decide : ¬ ((1 : Int32) = (0 : Int32)))).2) (by decide) (by decide) k) ?_
          show Goes p.tables e below (Tpt.setTop (mkF m 386 #[.val (.int x0), .val (.long x1), .second, .val (.int W), .val (.int A), .val (.int B), .val (.ref b1), .val (.ref b18), .val (.ref b43), .val (.ref b78), .val (.ref b118), .val (.ref b164), .val (.ref b238), .val (.int (1 : Int32)), .val (.int (0 : Int32)), .val (.int (0 : Int32)), .unset] [])) _
          refine Goes.to (fun _ k => XS.iconst Xpt.here hx rfl (hb hby at_386) k) ?_
          show Goes p.tables e below (Tpt.setTop (mkF m 387 #[.val (.int x0), .val (.long x1), .second, .val (.int W), .val (.int A), .val (.int B), .val (.ref b1), .val (.ref b18), .val (.ref b43), .val (.ref b78), .val (.ref b118), .val (.ref b164), .val (.ref b238), .val (.int (1 : Int32)), .val (.int (0 : Int32)), .val (.int (0 : Int32)), .unset] [(.int (0 : Int32))])) _
          refine Goes.to (fun _ k => XS.istore Xpt.here hx rfl (hb hby at_387) rfl (l' := #[.val (.int x0), .val (.long x1), .second, .val (.int W), .val (.int A), .val (.int B), .val (.ref b1), .val (.ref b18), .val (.ref b43), .val (.ref b78), .val (.ref b118), .val (.ref b164), .val (.ref b238), .val (.int (1 : Int32)), .val (.int (0 : Int32)), .val (.int (0 : Int32)), .val (.int (0 : Int32))]) rfl k) ?_
          show Goes p.tables e below (Tpt.setTop (mkF m 389 #[.val (.int x0), .val (.long x1), .second, .val (.int W), .val (.int A), .val (.int B), .val (.ref b1), .val (.ref b18), .val (.ref b43), .val (.ref b78), .val (.ref b118), .val (.ref b164), .val (.ref b238), .val (.int (1 : Int32)), .val (.int (0 : Int32)), .val (.int (0 : Int32)), .val (.int (0 : Int32))] [])) _
          refine Goes.to (fun _ k => XS.aload Xpt.here hx rfl (hb hby at_389) rfl rfl k) ?_
          show Goes p.tables e below (Tpt.setTop (mkF m 391 #[.val (.int x0), .val (.long x1), .second, .val (.int W), .val (.int A), .val (.int B), .val (.ref b1), .val (.ref b18), .val (.ref b43), .val (.ref b78), .val (.ref b118), .val (.ref b164), .val (.ref b238), .val (.int (1 : Int32)), .val (.int (0 : Int32)), .val (.int (0 : Int32)), .val (.int (0 : Int32))] [(.ref b238)])) _
          refine Goes.to (fun _ k => XS.iload Xpt.here hx rfl (hb hby at_391) rfl k) ?_
          show Goes p.tables e below (Tpt.setTop (mkF m 393 #[.val (.int x0), .val (.long x1), .second, .val (.int W), .val (.int A), .val (.int B), .val (.ref b1), .val (.ref b18), .val (.ref b43), .val (.ref b78), .val (.ref b118), .val (.ref b164), .val (.ref b238), .val (.int (1 : Int32)), .val (.int (0 : Int32)), .val (.int (0 : Int32)), .val (.int (0 : Int32))] [(.int A), (.ref b238)])) _
          refine Goes.to (fun _ k => XS.iload Xpt.here hx rfl (hb hby at_393) rfl k) ?_
          show Goes p.tables e below (Tpt.setTop (mkF m 395 #[.val (.int x0), .val (.long x1), .second, .val (.int W), .val (.int A), .val (.int B), .val (.ref b1), .val (.ref b18), .val (.ref b43), .val (.ref b78), .val (.ref b118), .val (.ref b164), .val (.ref b238), .val (.int (1 : Int32)), .val (.int (0 : Int32)), .val (.int (0 : Int32)), .val (.int (0 : Int32))] [(.int B), (.int A), (.ref b238)])) _
          obtain ⟨_, _, ⟨T273, L273, k273, n273⟩, -, X273, ⟨Lc273, hQ273, l273, y273, z273⟩, st273⟩ := Jvm.LawKit.callS Xpt hx (y := (⟨"com/example/pareto4/pareto4/front/Keys", "noHigher", "([[DII)Z"⟩ : MethodName)) hown (mvT hZ (hw _ (List.mem_of_getElem? (i := 12) rfl))) (mvT hZ (hw _ (List.mem_of_getElem? (i := 13) rfl))) (mvT hZ (hw _ (List.mem_of_getElem? (i := 14) rfl))) (mvT hZ (hw _ (List.mem_of_getElem? (i := 15) rfl))) (by decide) (backOf (W := 0) (own_rmNH1 l Z a0 hw [] b238 A B k238 b1 k1 (own_dv x1 (0 : Int32)) (own_dv x1 (4 : Int32)) (own_dv x1 (8 : Int32)) hpt n0 Zpt hA0 hA1 hB0 hB1 Pf266_1 Pf266_9) hZ (hw _ (List.mem_of_getElem? (i := 15) rfl)) (hw _ (List.mem_of_getElem? (i := 14) rfl)) (by decide) (by decide)) (g := (mkF m 395 #[.val (.int x0), .val (.long x1), .second, .val (.int W), .val (.int A), .val (.int B), .val (.ref b1), .val (.ref b18), .val (.ref b43), .val (.ref b78), .val (.ref b118), .val (.ref b164), .val (.ref b238), .val (.int (1 : Int32)), .val (.int (0 : Int32)), .val (.int (0 : Int32)), .val (.int (0 : Int32))] [(.int B), (.int A), (.ref b238)])) rfl (by rw [hml]; rfl) (argsL := [(.ref b238), (.int A), (.int B)]) (rest := []) (lenOf own_pd_paaDIIqZ rfl) rfl (by show 2 * 0 + _ ≤ _; exact Nat.le_of_eq rfl) (hb hby at_395) (fun _ _ => ⟨rfl, Ept, (by decide : 7 + 0 ≤ _), (by decide : 19 + 0 ≤ _)⟩)
          dsimp only [Pt.U, Pt.locs, Pt.cells, Pt.slots] at X273 l273 y273 z273 st273 hQ273
          subst l273 y273 z273
          obtain ⟨hv273, Nq273, hp273_0⟩ := hQ273
          have N273 := Fr.app Npt Nq273
          by_cases hc274 : ((0 : Int32) < (cmpValue (FP.dcmp (own_at (own_dv x1 (0 : Int32)) (own_dv x1 (4 : Int32)) (own_dv x1 (8 : Int32)) A) (own_at (own_dv x1 (0 : Int32)) (own_dv x1 (4 : Int32)) (own_dv x1 (8 : Int32)) B)) .l))
          · rw [if_pos hc274] at hv273
            subst hv273
            refine Goes.to st273 ?_
            show Goes p.tables e below (T273.setTop (mkF m 398 #[.val (.int x0), .val (.long x1), .second, .val (.int W), .val (.int A), .val (.int B), .val (.ref b1), .val (.ref b18), .val (.ref b43), .val (.ref b78), .val (.ref b118), .val (.ref b164), .val (.ref b238), .val (.int (1 : Int32)), .val (.int (0 : Int32)), .val (.int (0 : Int32)), .val (.int (0 : Int32))] [(.int (0 : Int32))])) _
            refine Goes.to (fun _ k => XS.iload X273.here hx rfl (hb hby at_398) rfl k) ?_
            show Goes p.tables e below (T273.setTop (mkF m 400 #[.val (.int x0), .val (.long x1), .second, .val (.int W), .val (.int A), .val (.int B), .val (.ref b1), .val (.ref b18), .val (.ref b43), .val (.ref b78), .val (.ref b118), .val (.ref b164), .val (.ref b238), .val (.int (1 : Int32)), .val (.int (0 : Int32)), .val (.int (0 : Int32)), .val (.int (0 : Int32))] [(.int (0 : Int32)), (.int (0 : Int32))])) _
            refine Goes.to (fun _ k => XS.icmpNo X273.here hx rfl (hb hby at_400) rfl (teq (by decide : (0 : Int32) = (0 : Int32))).2 k) ?_
            show Goes p.tables e below (T273.setTop (mkF m 403 #[.val (.int x0), .val (.long x1), .second, .val (.int W), .val (.int A), .val (.int B), .val (.ref b1), .val (.ref b18), .val (.ref b43), .val (.ref b78), .val (.ref b118), .val (.ref b164), .val (.ref b238), .val (.int (1 : Int32)), .val (.int (0 : Int32)), .val (.int (0 : Int32)), .val (.int (0 : Int32))] [])) _
            refine Goes.to (fun _ k => XS.iconst X273.here hx rfl (hb hby at_403) k) ?_
            show Goes p.tables e below (T273.setTop (mkF m 404 #[.val (.int x0), .val (.long x1), .second, .val (.int W), .val (.int A), .val (.int B), .val (.ref b1), .val (.ref b18), .val (.ref b43), .val (.ref b78), .val (.ref b118), .val (.ref b164), .val (.ref b238), .val (.int (1 : Int32)), .val (.int (0 : Int32)), .val (.int (0 : Int32)), .val (.int (0 : Int32))] [(.int (1 : Int32))])) _
            refine Goes.to (fun _ k => XS.goto X273.here hx rfl (pc0 := 404) (pc' := 408) rfl (hb hby at_404) (by decide) (by decide) k) ?_
            show Goes p.tables e below (T273.setTop (mkF m 408 #[.val (.int x0), .val (.long x1), .second, .val (.int W), .val (.int A), .val (.int B), .val (.ref b1), .val (.ref b18), .val (.ref b43), .val (.ref b78), .val (.ref b118), .val (.ref b164), .val (.ref b238), .val (.int (1 : Int32)), .val (.int (0 : Int32)), .val (.int (0 : Int32)), .val (.int (0 : Int32))] [(.int (1 : Int32))])) _
            obtain ⟨fs, hr, hrun, hended, hW, hsame⟩ := X273.leave (v := some (.int (1 : Int32))) (fun h => by rw [Bd.returns] at h; cases h)
            have hv : (some (.int (1 : Int32)) : Option Value) = some (.int (1 : Int32)) := by
              rfl
            exact ⟨_, _, retN X273 hx (t := .boolean) Bd.returns (by simp) (hb hby at_408) hr, hrun, hended, _, _, rfl, ⟨hv, N273⟩, ⟨_, rfl⟩, hW, hsame.mono (by decide) (by decide)⟩
          · exact absurd (show ((0 : Int32) < (cmpValue (FP.dcmp (own_at (own_dv x1 (0 : Int32)) (own_dv x1 (4 : Int32)) (own_dv x1 (8 : Int32)) A) (own_at (own_dv x1 (0 : Int32)) (own_dv x1 (4 : Int32)) (own_dv x1 (8 : Int32)) B)) .l)) from ((own_row x1 (0 : Int32) (4 : Int32) (8 : Int32) A B hA0 hA1 hB0 hB1).mpr hc270)) hc274
        · exfalso
          rw [Ph266_45] at hc272
          exact hc272 (by decide)
      · exfalso
        rw [Ph266_45] at hc271
        exact hc271 (by decide)
    · refine Goes.to (fun _ k => XS.icmpYes Xpt.here hx rfl (pc0 := 307) (pc' := 314) rfl (hb hby at_307) rfl (flt hc270).2.2.2 (by decide) (by decide) k) ?_
      show Goes p.tables e below (Tpt.setTop (mkF m 314 #[.val (.int x0), .val (.long x1), .second, .val (.int W), .val (.int A), .val (.int B), .val (.ref b1), .val (.ref b18), .val (.ref b43), .val (.ref b78), .val (.ref b118), .val (.ref b164), .val (.ref b238), .unset, .unset, .unset, .unset] [])) _
      refine Goes.to (fun _ k => XS.iconst Xpt.here hx rfl (hb hby at_314) k) ?_
      show Goes p.tables e below (Tpt.setTop (mkF m 315 #[.val (.int x0), .val (.long x1), .second, .val (.int W), .val (.int A), .val (.int B), .val (.ref b1), .val (.ref b18), .val (.ref b43), .val (.ref b78), .val (.ref b118), .val (.ref b164), .val (.ref b238), .unset, .unset, .unset, .unset] [(.int (0 : Int32))])) _
      refine Goes.to (fun _ k => XS.istore Xpt.here hx rfl (hb hby at_315) rfl (l' := #[.val (.int x0), .val (.long x1), .second, .val (.int W), .val (.int A), .val (.int B), .val (.ref b1), .val (.ref b18), .val (.ref b43), .val (.ref b78), .val (.ref b118), .val (.ref b164), .val (.ref b238), .val (.int (0 : Int32)), .unset, .unset, .unset]) rfl k) ?_
      show Goes p.tables e below (Tpt.setTop (mkF m 317 #[.val (.int x0), .val (.long x1), .second, .val (.int W), .val (.int A), .val (.int B), .val (.ref b1), .val (.ref b18), .val (.ref b43), .val (.ref b78), .val (.ref b118), .val (.ref b164), .val (.ref b238), .val (.int (0 : Int32)), .unset, .unset, .unset] [])) _
      refine Goes.to (fun _ k => XS.iloadN Xpt.here hx rfl (hb hby at_317) rfl k) ?_
      show Goes p.tables e below (Tpt.setTop (mkF m 318 #[.val (.int x0), .val (.long x1), .second, .val (.int W), .val (.int A), .val (.int B), .val (.ref b1), .val (.ref b18), .val (.ref b43), .val (.ref b78), .val (.ref b118), .val (.ref b164), .val (.ref b238), .val (.int (0 : Int32)), .unset, .unset, .unset] [(.int W)])) _
      refine Goes.to (fun _ k => XS.iconst Xpt.here hx rfl (hb hby at_318) k) ?_
      show Goes p.tables e below (Tpt.setTop (mkF m 319 #[.val (.int x0), .val (.long x1), .second, .val (.int W), .val (.int A), .val (.int B), .val (.ref b1), .val (.ref b18), .val (.ref b43), .val (.ref b78), .val (.ref b118), .val (.ref b164), .val (.ref b238), .val (.int (0 : Int32)), .unset, .unset, .unset] [(.int (2 : Int32)), (.int W)])) _
      by_cases hc275 : W < (2 : Int32)
      · refine Goes.to (fun _ k => XS.icmpYes Xpt.here hx rfl (pc0 := 319) (pc' := 339) rfl (hb hby at_319) rfl (tlt hc275).1 (by decide) (by decide) k) ?_
        show Goes p.tables e below (Tpt.setTop (mkF m 339 #[.val (.int x0), .val (.long x1), .second, .val (.int W), .val (.int A), .val (.int B), .val (.ref b1), .val (.ref b18), .val (.ref b43), .val (.ref b78), .val (.ref b118), .val (.ref b164), .val (.ref b238), .val (.int (0 : Int32)), .unset, .unset, .unset] [])) _
        refine Goes.to (fun _ k => XS.iconst Xpt.here hx rfl (hb hby at_339) k) ?_
        show Goes p.tables e below (Tpt.setTop (mkF m 340 #[.val (.int x0), .val (.long x1), .second, .val (.int W), .val (.int A), .val (.int B), .val (.ref b1), .val (.ref b18), .val (.ref b43), .val (.ref b78), .val (.ref b118), .val (.ref b164), .val (.ref b238), .val (.int (0 : Int32)), .unset, .unset, .unset] [(.int (0 : Int32))])) _
        refine Goes.to (fun _ k => XS.istore Xpt.here hx rfl (hb hby at_340) rfl (l' := #[.val (.int x0), .val (.long x1), .second, .val (.int W), .val (.int A), .val (.int B), .val (.ref b1), .val (.ref b18), .val (.ref b43), .val (.ref b78), .val (.ref b118), .val (.ref b164), .val (.ref b238), .val (.int (0 : Int32)), .val (.int (0 : Int32)), .unset, .unset]) rfl k) ?_
        show Goes p.tables e below (Tpt.setTop (mkF m 342 #[.val (.int x0), .val (.long x1), .second, .val (.int W), .val (.int A), .val (.int B), .val (.ref b1), .val (.ref b18), .val (.ref b43), .val (.ref b78), .val (.ref b118), .val (.ref b164), .val (.ref b238), .val (.int (0 : Int32)), .val (.int (0 : Int32)), .unset, .unset] [])) _
        refine Goes.to (fun _ k => XS.iloadN Xpt.here hx rfl (hb hby at_342) rfl k) ?_
        show Goes p.tables e below (Tpt.setTop (mkF m 343 #[.val (.int x0), .val (.long x1), .second, .val (.int W), .val (.int A), .val (.int B), .val (.ref b1), .val (.ref b18), .val (.ref b43), .val (.ref b78), .val (.ref b118), .val (.ref b164), .val (.ref b238), .val (.int (0 : Int32)), .val (.int (0 : Int32)), .unset, .unset] [(.int W)])) _
        refine Goes.to (fun _ k => XS.iconst Xpt.here hx rfl (hb hby at_343) k) ?_
        show Goes p.tables e below (Tpt.setTop (mkF m 344 #[.val (.int x0), .val (.long x1), .second, .val (.int W), .val (.int A), .val (.int B), .val (.ref b1), .val (.ref b18), .val (.ref b43), .val (.ref b78), .val (.ref b118), .val (.ref b164), .val (.ref b238), .val (.int (0 : Int32)), .val (.int (0 : Int32)), .unset, .unset] [(.int (3 : Int32)), (.int W)])) _
        by_cases hc276 : W < (3 : Int32)
        · refine Goes.to (fun _ k => XS.icmpYes Xpt.here hx rfl (pc0 := 344) (pc' := 364) rfl (hb hby at_344) rfl (tlt hc276).1 (by decide) (by decide) k) ?_
          show Goes p.tables e below (Tpt.setTop (mkF m 364 #[.val (.int x0), .val (.long x1), .second, .val (.int W), .val (.int A), .val (.int B), .val (.ref b1), .val (.ref b18), .val (.ref b43), .val (.ref b78), .val (.ref b118), .val (.ref b164), .val (.ref b238), .val (.int (0 : Int32)), .val (.int (0 : Int32)), .unset, .unset] [])) _
          refine Goes.to (fun _ k => XS.iconst Xpt.here hx rfl (hb hby at_364) k) ?_
          show Goes p.tables e below (Tpt.setTop (mkF m 365 #[.val (.int x0), .val (.long x1), .second, .val (.int W), .val (.int A), .val (.int B), .val (.ref b1), .val (.ref b18), .val (.ref b43), .val (.ref b78), .val (.ref b118), .val (.ref b164), .val (.ref b238), .val (.int (0 : Int32)), .val (.int (0 : Int32)), .unset, .unset] [(.int (0 : Int32))])) _
          refine Goes.to (fun _ k => XS.istore Xpt.here hx rfl (hb hby at_365) rfl (l' := #[.val (.int x0), .val (.long x1), .second, .val (.int W), .val (.int A), .val (.int B), .val (.ref b1), .val (.ref b18), .val (.ref b43), .val (.ref b78), .val (.ref b118), .val (.ref b164), .val (.ref b238), .val (.int (0 : Int32)), .val (.int (0 : Int32)), .val (.int (0 : Int32)), .unset]) rfl k) ?_
          show Goes p.tables e below (Tpt.setTop (mkF m 367 #[.val (.int x0), .val (.long x1), .second, .val (.int W), .val (.int A), .val (.int B), .val (.ref b1), .val (.ref b18), .val (.ref b43), .val (.ref b78), .val (.ref b118), .val (.ref b164), .val (.ref b238), .val (.int (0 : Int32)), .val (.int (0 : Int32)), .val (.int (0 : Int32)), .unset] [])) _
          refine Goes.to (fun _ k => XS.iload Xpt.here hx rfl (hb hby at_367) rfl k) ?_
          show Goes p.tables e below (Tpt.setTop (mkF m 369 #[.val (.int x0), .val (.long x1), .second, .val (.int W), .val (.int A), .val (.int B), .val (.ref b1), .val (.ref b18), .val (.ref b43), .val (.ref b78), .val (.ref b118), .val (.ref b164), .val (.ref b238), .val (.int (0 : Int32)), .val (.int (0 : Int32)), .val (.int (0 : Int32)), .unset] [(.int (0 : Int32))])) _
          refine Goes.to (fun _ k => XS.ifNo Xpt.here hx rfl (hb hby at_369) rfl ((if0 _ _).trans (teq (by decide : (0 : Int32) = (0 : Int32))).2) k) ?_
          show Goes p.tables e below (Tpt.setTop (mkF m 372 #[.val (.int x0), .val (.long x1), .second, .val (.int W), .val (.int A), .val (.int B), .val (.ref b1), .val (.ref b18), .val (.ref b43), .val (.ref b78), .val (.ref b118), .val (.ref b164), .val (.ref b238), .val (.int (0 : Int32)), .val (.int (0 : Int32)), .val (.int (0 : Int32)), .unset] [])) _
          refine Goes.to (fun _ k => XS.iload Xpt.here hx rfl (hb hby at_372) rfl k) ?_
          show Goes p.tables e below (Tpt.setTop (mkF m 374 #[.val (.int x0), .val (.long x1), .second, .val (.int W), .val (.int A), .val (.int B), .val (.ref b1), .val (.ref b18), .val (.ref b43), .val (.ref b78), .val (.ref b118), .val (.ref b164), .val (.ref b238), .val (.int (0 : Int32)), .val (.int (0 : Int32)), .val (.int (0 : Int32)), .unset] [(.int (0 : Int32))])) _
          refine Goes.to (fun _ k => XS.ifNo Xpt.here hx rfl (hb hby at_374) rfl ((if0 _ _).trans (teq (by decide : (0 : Int32) = (0 : Int32))).2) k) ?_
          show Goes p.tables e below (Tpt.setTop (mkF m 377 #[.val (.int x0), .val (.long x1), .second, .val (.int W), .val (.int A), .val (.int B), .val (.ref b1), .val (.ref b18), .val (.ref b43), .val (.ref b78), .val (.ref b118), .val (.ref b164), .val (.ref b238), .val (.int (0 : Int32)), .val (.int (0 : Int32)), .val (.int (0 : Int32)), .unset] [])) _
          refine Goes.to (fun _ k => XS.iload Xpt.here hx rfl (hb hby at_377) rfl k) ?_
          show Goes p.tables e below (Tpt.setTop (mkF m 379 #[.val (.int x0), .val (.long x1), .second, .val (.int W), .val (.int A), .val (.int B), .val (.ref b1), .val (.ref b18), .val (.ref b43), .val (.ref b78), .val (.ref b118), .val (.ref b164), .val (.ref b238), .val (.int (0 : Int32)), .val (.int (0 : Int32)), .val (.int (0 : Int32)), .unset] [(.int (0 : Int32))])) _
          refine Goes.to (fun _ k => XS.ifNo Xpt.here hx rfl (hb hby at_379) rfl ((if0 _ _).trans (teq (by decide : (0 : Int32) = (0 : Int32))).2) k) ?_
          show Goes p.tables e below (Tpt.setTop (mkF m 382 #[.val (.int x0), .val (.long x1), .second, .val (.int W), .val (.int A), .val (.int B), .val (.ref b1), .val (.ref b18), .val (.ref b43), .val (.ref b78), .val (.ref b118), .val (.ref b164), .val (.ref b238), .val (.int (0 : Int32)), .val (.int (0 : Int32)), .val (.int (0 : Int32)), .unset] [])) _
          refine Goes.to (fun _ k => XS.iconst Xpt.here hx rfl (hb hby at_382) k) ?_
          show Goes p.tables e below (Tpt.setTop (mkF m 383 #[.val (.int x0), .val (.long x1), .second, .val (.int W), .val (.int A), .val (.int B), .val (.ref b1), .val (.ref b18), .val (.ref b43), .val (.ref b78), .val (.ref b118), .val (.ref b164), .val (.ref b238), .val (.int (0 : Int32)), .val (.int (0 : Int32)), .val (.int (0 : Int32)), .unset] [(.int (1 : Int32))])) _
          refine Goes.to (fun _ k => XS.goto Xpt.here hx rfl (pc0 := 383) (pc' := 387) rfl (hb hby at_383) (by decide) (by decide) k) ?_
          show Goes p.tables e below (Tpt.setTop (mkF m 387 #[.val (.int x0), .val (.long x1), .second, .val (.int W), .val (.int A), .val (.int B), .val (.ref b1), .val (.ref b18), .val (.ref b43), .val (.ref b78), .val (.ref b118), .val (.ref b164), .val (.ref b238), .val (.int (0 : Int32)), .val (.int (0 : Int32)), .val (.int (0 : Int32)), .unset] [(.int (1 : Int32))])) _
          refine Goes.to (fun _ k => XS.istore Xpt.here hx rfl (hb hby at_387) rfl (l' := #[.val (.int x0), .val (.long x1), .second, .val (.int W), .val (.int A), .val (.int B), .val (.ref b1), .val (.ref b18), .val (.ref b43), .val (.ref b78), .val (.ref b118), .val (.ref b164), .val (.ref b238), .val (.int (0 : Int32)), .val (.int (0 : Int32)), .val (.int (0 : Int32)), .val (.int (1 : Int32))]) rfl k) ?_
          show Goes p.tables e below (Tpt.setTop (mkF m 389 #[.val (.int x0), .val (.long x1), .second, .val (.int W), .val (.int A), .val (.int B), .val (.ref b1), .val (.ref b18), .val (.ref b43), .val (.ref b78), .val (.ref b118), .val (.ref b164), .val (.ref b238), .val (.int (0 : Int32)), .val (.int (0 : Int32)), .val (.int (0 : Int32)), .val (.int (1 : Int32))] [])) _
          refine Goes.to (fun _ k => XS.aload Xpt.here hx rfl (hb hby at_389) rfl rfl k) ?_
          show Goes p.tables e below (Tpt.setTop (mkF m 391 #[.val (.int x0), .val (.long x1), .second, .val (.int W), .val (.int A), .val (.int B), .val (.ref b1), .val (.ref b18), .val (.ref b43), .val (.ref b78), .val (.ref b118), .val (.ref b164), .val (.ref b238), .val (.int (0 : Int32)), .val (.int (0 : Int32)), .val (.int (0 : Int32)), .val (.int (1 : Int32))] [(.ref b238)])) _
          refine Goes.to (fun _ k => XS.iload Xpt.here hx rfl (hb hby at_391) rfl k) ?_
          show Goes p.tables e below (Tpt.setTop (mkF m 393 #[.val (.int x0), .val (.long x1), .second, .val (.int W), .val (.int A), .val (.int B), .val (.ref b1), .val (.ref b18), .val (.ref b43), .val (.ref b78), .val (.ref b118), .val (.ref b164), .val (.ref b238), .val (.int (0 : Int32)), .val (.int (0 : Int32)), .val (.int (0 : Int32)), .val (.int (1 : Int32))] [(.int A), (.ref b238)])) _
          refine Goes.to (fun _ k => XS.iload Xpt.here hx rfl (hb hby at_393) rfl k) ?_
          show Goes p.tables e below (Tpt.setTop (mkF m 395 #[.val (.int x0), .val (.long x1), .second, .val (.int W), .val (.int A), .val (.int B), .val (.ref b1), .val (.ref b18), .val (.ref b43), .val (.ref b78), .val (.ref b118), .val (.ref b164), .val (.ref b238), .val (.int (0 : Int32)), .val (.int (0 : Int32)), .val (.int (0 : Int32)), .val (.int (1 : Int32))] [(.int B), (.int A), (.ref b238)])) _
          obtain ⟨_, _, ⟨T277, L277, k277, n277⟩, -, X277, ⟨Lc277, hQ277, l277, y277, z277⟩, st277⟩ := Jvm.LawKit.callS Xpt hx (y := (⟨"com/example/pareto4/pareto4/front/Keys", "noHigher", "([[DII)Z"⟩ : MethodName)) hown (mvT hZ (hw _ (List.mem_of_getElem? (i := 12) rfl))) (mvT hZ (hw _ (List.mem_of_getElem? (i := 13) rfl))) (mvT hZ (hw _ (List.mem_of_getElem? (i := 14) rfl))) (mvT hZ (hw _ (List.mem_of_getElem? (i := 15) rfl))) (by decide) (backOf (W := 0) (own_rmNH1 l Z a0 hw [] b238 A B k238 b1 k1 (own_dv x1 (0 : Int32)) (own_dv x1 (4 : Int32)) (own_dv x1 (8 : Int32)) hpt n0 Zpt hA0 hA1 hB0 hB1 Pf266_1 Pf266_9) hZ (hw _ (List.mem_of_getElem? (i := 15) rfl)) (hw _ (List.mem_of_getElem? (i := 14) rfl)) (by decide) (by decide)) (g := (mkF m 395 #[.val (.int x0), .val (.long x1), .second, .val (.int W), .val (.int A), .val (.int B), .val (.ref b1), .val (.ref b18), .val (.ref b43), .val (.ref b78), .val (.ref b118), .val (.ref b164), .val (.ref b238), .val (.int (0 : Int32)), .val (.int (0 : Int32)), .val (.int (0 : Int32)), .val (.int (1 : Int32))] [(.int B), (.int A), (.ref b238)])) rfl (by rw [hml]; rfl) (argsL := [(.ref b238), (.int A), (.int B)]) (rest := []) (lenOf own_pd_paaDIIqZ rfl) rfl (by show 2 * 0 + _ ≤ _; exact Nat.le_of_eq rfl) (hb hby at_395) (fun _ _ => ⟨rfl, Ept, (by decide : 7 + 0 ≤ _), (by decide : 19 + 0 ≤ _)⟩)
          dsimp only [Pt.U, Pt.locs, Pt.cells, Pt.slots] at X277 l277 y277 z277 st277 hQ277
          subst l277 y277 z277
          obtain ⟨hv277, Nq277, hp277_0⟩ := hQ277
          have N277 := Fr.app Npt Nq277
          by_cases hc278 : ((0 : Int32) < (cmpValue (FP.dcmp (own_at (own_dv x1 (0 : Int32)) (own_dv x1 (4 : Int32)) (own_dv x1 (8 : Int32)) A) (own_at (own_dv x1 (0 : Int32)) (own_dv x1 (4 : Int32)) (own_dv x1 (8 : Int32)) B)) .l))
          · exact absurd hc278 (fun q => hc270 ((own_row x1 (0 : Int32) (4 : Int32) (8 : Int32) A B hA0 hA1 hB0 hB1).mp q))
          · rw [if_neg hc278] at hv277
            subst hv277
            refine Goes.to st277 ?_
            show Goes p.tables e below (T277.setTop (mkF m 398 #[.val (.int x0), .val (.long x1), .second, .val (.int W), .val (.int A), .val (.int B), .val (.ref b1), .val (.ref b18), .val (.ref b43), .val (.ref b78), .val (.ref b118), .val (.ref b164), .val (.ref b238), .val (.int (0 : Int32)), .val (.int (0 : Int32)), .val (.int (0 : Int32)), .val (.int (1 : Int32))] [(.int (1 : Int32))])) _
            refine Goes.to (fun _ k => XS.iload X277.here hx rfl (hb hby at_398) rfl k) ?_
            show Goes p.tables e below (T277.setTop (mkF m 400 #[.val (.int x0), .val (.long x1), .second, .val (.int W), .val (.int A), .val (.int B), .val (.ref b1), .val (.ref b18), .val (.ref b43), .val (.ref b78), .val (.ref b118), .val (.ref b164), .val (.ref b238), .val (.int (0 : Int32)), .val (.int (0 : Int32)), .val (.int (0 : Int32)), .val (.int (1 : Int32))] [(.int (1 : Int32)), (.int (1 : Int32))])) _
            refine Goes.to (fun _ k => XS.icmpNo X277.here hx rfl (hb hby at_400) rfl (teq (by decide : (1 : Int32) = (1 : Int32))).2 k) ?_
            show Goes p.tables e below (T277.setTop (mkF m 403 #[.val (.int x0), .val (.long x1), .second, .val (.int W), .val (.int A), .val (.int B), .val (.ref b1), .val (.ref b18), .val (.ref b43), .val (.ref b78), .val (.ref b118), .val (.ref b164), .val (.ref b238), .val (.int (0 : Int32)), .val (.int (0 : Int32)), .val (.int (0 : Int32)), .val (.int (1 : Int32))] [])) _
            refine Goes.to (fun _ k => XS.iconst X277.here hx rfl (hb hby at_403) k) ?_
            show Goes p.tables e below (T277.setTop (mkF m 404 #[.val (.int x0), .val (.long x1), .second, .val (.int W), .val (.int A), .val (.int B), .val (.ref b1), .val (.ref b18), .val (.ref b43), .val (.ref b78), .val (.ref b118), .val (.ref b164), .val (.ref b238), .val (.int (0 : Int32)), .val (.int (0 : Int32)), .val (.int (0 : Int32)), .val (.int (1 : Int32))] [(.int (1 : Int32))])) _
            refine Goes.to (fun _ k => XS.goto X277.here hx rfl (pc0 := 404) (pc' := 408) rfl (hb hby at_404) (by decide) (by decide) k) ?_
            show Goes p.tables e below (T277.setTop (mkF m 408 #[.val (.int x0), .val (.long x1), .second, .val (.int W), .val (.int A), .val (.int B), .val (.ref b1), .val (.ref b18), .val (.ref b43), .val (.ref b78), .val (.ref b118), .val (.ref b164), .val (.ref b238), .val (.int (0 : Int32)), .val (.int (0 : Int32)), .val (.int (0 : Int32)), .val (.int (1 : Int32))] [(.int (1 : Int32))])) _
            obtain ⟨fs, hr, hrun, hended, hW, hsame⟩ := X277.leave (v := some (.int (1 : Int32))) (fun h => by rw [Bd.returns] at h; cases h)
            have hv : (some (.int (1 : Int32)) : Option Value) = some (.int (1 : Int32)) := by
              rfl
            exact ⟨_, _, retN X277 hx (t := .boolean) Bd.returns (by simp) (hb hby at_408) hr, hrun, hended, _, _, rfl, ⟨hv, N277⟩, ⟨_, rfl⟩, hW, hsame.mono (by decide) (by decide)⟩
        · exfalso
          rw [Ph266_45] at hc276
          exact hc276 (by decide)
      · exfalso
        rw [Ph266_45] at hc275
        exact hc275 (by decide)
set_option maxRecDepth 65536 in
set_option maxHeartbeats 40000000 in
theorem own_pt_own_rm0_330 (l : Launch) (Z : State) (a0 : Array Value) (hw : ∀ d ∈ tables_1, d.before a0 Z = true) (ws : List Jvm.Cond) (x0 : Int32) (x1 : Int64)  (h0 : Heap) (n0 : Nat) (Z0 : n0 ≤ h0.size) 
    {p : Program} {e : Env} {s : State} {m : MethodId} {below : List Frame} {meth : Method} {c : Code} {s₁ : State} (Bd : BodyLoose p l x (head1 (Jvm.Cond.code x code maxLocals ret :: ws) room_1) code maxLocals ret e s m #[(.int x0), (.long x1)] below meth c s₁) (hml0 : c.maxLocals = maxLocals) (hh : s.heap = h0) (hZ : Z.Warmed39 s.vm)
    (b1 : Addr) (k1 : ClassId) (b18 : Addr) (k18 : ClassId) (b43 : Addr) (k43 : ClassId) (b78 : Addr) (k78 : ClassId) (b118 : Addr) (k118 : ClassId) (b164 : Addr) (k164 : ClassId) (b280 : Addr) (k280 : ClassId) (W : Int32) (A : Int32) (B : Int32)
    (Tpt : State) (lpt : List Loc)  (hpt : Heap)
    (Xpt : Stand p l e room_1 s m #[(.int x0), (.long x1)] below meth c Tpt lpt 7 20) (Ept : Tpt.heap = hpt) (Npt : Fr n0 lpt) (Zpt : n0 ≤ hpt.size) 
    (Pf330_0 : Exa Z hpt b1 "[D")
    (Pf330_1 : Arv Z hpt b1 k1 .double (3 : Int32) [(.double (own_dv x1 (0 : Int32))), (.double (own_dv x1 (4 : Int32))), (.double (own_dv x1 (8 : Int32)))] (.double (0 : UInt64)))
    (Pf330_2 : Exa Z hpt b18 "[D")
    (Pf330_3 : Arv Z hpt b18 k18 .double (3 : Int32) [(.double (own_dv x1 (12 : Int32))), (.double (own_dv x1 (16 : Int32))), (.double (own_dv x1 (20 : Int32)))] (.double (0 : UInt64)))
    (Pf330_4 : Exa Z hpt b43 "[D")
    (Pf330_5 : Arv Z hpt b43 k43 .double (3 : Int32) [(.double (own_dv x1 (24 : Int32))), (.double (own_dv x1 (28 : Int32))), (.double (own_dv x1 (32 : Int32)))] (.double (0 : UInt64)))
    (Pf330_6 : Arv Z hpt b78 k78 .int (3 : Int32) [(.int (own_iv x1 (0 : Int32))), (.int (own_iv x1 (4 : Int32))), (.int (own_iv x1 (8 : Int32)))] (.int (0 : Int32)))
    (Pf330_7 : Arv Z hpt b118 k118 .int (3 : Int32) [(.int (own_iv x1 (12 : Int32))), (.int (own_iv x1 (16 : Int32))), (.int (own_iv x1 (20 : Int32)))] (.int (0 : Int32)))
    (Pf330_8 : Arv Z hpt b164 k164 .int (3 : Int32) [(.int (own_iv x1 (24 : Int32))), (.int (own_iv x1 (28 : Int32))), (.int (own_iv x1 (32 : Int32)))] (.int (0 : Int32)))
    (Pf330_9 : Arv Z hpt b280 k280 (.array .double) (2 : Int32) [(.ref b1), (.ref b18)] .null)
    (Pg330_10 : n0 ≤ b1)
    (Pn330_11 : b1 ≠ b18)
    (Pg330_12 : n0 ≤ b18)
    (Pn330_13 : b1 ≠ b43)
    (Pn330_14 : b18 ≠ b43)
    (Pg330_15 : n0 ≤ b43)
    (Pn330_16 : b1 ≠ b78)
    (Pn330_17 : b18 ≠ b78)
    (Pn330_18 : b43 ≠ b78)
    (Pg330_19 : n0 ≤ b78)
    (Pn330_20 : b1 ≠ b118)
    (Pn330_21 : b18 ≠ b118)
    (Pn330_22 : b43 ≠ b118)
    (Pn330_23 : b78 ≠ b118)
    (Pg330_24 : n0 ≤ b118)
    (Pn330_25 : b1 ≠ b164)
    (Pn330_26 : b18 ≠ b164)
    (Pn330_27 : b43 ≠ b164)
    (Pn330_28 : b78 ≠ b164)
    (Pn330_29 : b118 ≠ b164)
    (Pg330_30 : n0 ≤ b164)
    (Po330_31 : OvrA Z k280 .double "[D")
    (Pn330_32 : b1 ≠ b280)
    (Pn330_33 : b18 ≠ b280)
    (Pn330_34 : b43 ≠ b280)
    (Pn330_35 : b78 ≠ b280)
    (Pn330_36 : b118 ≠ b280)
    (Pn330_37 : b164 ≠ b280)
    (Pg330_38 : n0 ≤ b280)
    (hA0 : ¬ (A < (0 : Int32)))
    (hA1 : A < (3 : Int32))
    (hB0 : ¬ (B < (0 : Int32)))
    (hB1 : B < (3 : Int32))
    (hnm_W : (x0 &&& (3 : Int32)) = W)
    (Ph330_44 : ¬ (W = (0 : Int32)))
    (Ph330_45 : ¬ (W = (1 : Int32)))
    (Ph330_46 : W = (2 : Int32))
    (Ph330_47 : ¬ (W < (1 : Int32)))
    (Ph330_48 : (own_iat (own_iv x1 (0 : Int32)) (own_iv x1 (4 : Int32)) (own_iv x1 (8 : Int32)) B) < (own_iat (own_iv x1 (0 : Int32)) (own_iv x1 (4 : Int32)) (own_iv x1 (8 : Int32)) A))
    (Ph330_49 : ¬ (W < (2 : Int32)))
    (Ph330_50 : (own_iat (own_iv x1 (12 : Int32)) (own_iv x1 (16 : Int32)) (own_iv x1 (20 : Int32)) B) < (own_iat (own_iv x1 (12 : Int32)) (own_iv x1 (16 : Int32)) (own_iv x1 (20 : Int32)) A))
    (Ph330_51 : W < (3 : Int32))
    : Goes p.tables e below (Tpt.setTop (mkF m 387 #[.val (.int x0), .val (.long x1), .second, .val (.int W), .val (.int A), .val (.int B), .val (.ref b1), .val (.ref b18), .val (.ref b43), .val (.ref b78), .val (.ref b118), .val (.ref b164), .val (.ref b280), .val (.int (1 : Int32)), .val (.int (1 : Int32)), .val (.int (0 : Int32)), .unset] [(.int (0 : Int32))])) (own_R below s (own_Q_own_rm0 Z x0 x1 h0 n0) 7 21) := by
  have hx := Bd.exec
  have hby := Bd.bytes
  have hml : c.maxLocals = 17 := hml0
  have hnm := (name_of_methodNamed Bd.named Bd.method).1
  have hown : s.vm.findClass "com/example/pareto4/pareto4/front/KeysNoHigherPinLaw" = some m.cls := findClass_of_methodNamed Bd.named
  show Goes p.tables e below (Tpt.setTop (mkF m 387 #[.val (.int x0), .val (.long x1), .second, .val (.int W), .val (.int A), .val (.int B), .val (.ref b1), .val (.ref b18), .val (.ref b43), .val (.ref b78), .val (.ref b118), .val (.ref b164), .val (.ref b280), .val (.int (1 : Int32)), .val (.int (1 : Int32)), .val (.int (0 : Int32)), .unset] [(.int (0 : Int32))])) _
  refine Goes.to (fun _ k => XS.istore Xpt.here hx rfl (hb hby at_387) rfl (l' := #[.val (.int x0), .val (.long x1), .second, .val (.int W), .val (.int A), .val (.int B), .val (.ref b1), .val (.ref b18), .val (.ref b43), .val (.ref b78), .val (.ref b118), .val (.ref b164), .val (.ref b280), .val (.int (1 : Int32)), .val (.int (1 : Int32)), .val (.int (0 : Int32)), .val (.int (0 : Int32))]) rfl k) ?_
  show Goes p.tables e below (Tpt.setTop (mkF m 389 #[.val (.int x0), .val (.long x1), .second, .val (.int W), .val (.int A), .val (.int B), .val (.ref b1), .val (.ref b18), .val (.ref b43), .val (.ref b78), .val (.ref b118), .val (.ref b164), .val (.ref b280), .val (.int (1 : Int32)), .val (.int (1 : Int32)), .val (.int (0 : Int32)), .val (.int (0 : Int32))] [])) _
  refine Goes.to (fun _ k => XS.aload Xpt.here hx rfl (hb hby at_389) rfl rfl k) ?_
  show Goes p.tables e below (Tpt.setTop (mkF m 391 #[.val (.int x0), .val (.long x1), .second, .val (.int W), .val (.int A), .val (.int B), .val (.ref b1), .val (.ref b18), .val (.ref b43), .val (.ref b78), .val (.ref b118), .val (.ref b164), .val (.ref b280), .val (.int (1 : Int32)), .val (.int (1 : Int32)), .val (.int (0 : Int32)), .val (.int (0 : Int32))] [(.ref b280)])) _
  refine Goes.to (fun _ k => XS.iload Xpt.here hx rfl (hb hby at_391) rfl k) ?_
  show Goes p.tables e below (Tpt.setTop (mkF m 393 #[.val (.int x0), .val (.long x1), .second, .val (.int W), .val (.int A), .val (.int B), .val (.ref b1), .val (.ref b18), .val (.ref b43), .val (.ref b78), .val (.ref b118), .val (.ref b164), .val (.ref b280), .val (.int (1 : Int32)), .val (.int (1 : Int32)), .val (.int (0 : Int32)), .val (.int (0 : Int32))] [(.int A), (.ref b280)])) _
  refine Goes.to (fun _ k => XS.iload Xpt.here hx rfl (hb hby at_393) rfl k) ?_
  show Goes p.tables e below (Tpt.setTop (mkF m 395 #[.val (.int x0), .val (.long x1), .second, .val (.int W), .val (.int A), .val (.int B), .val (.ref b1), .val (.ref b18), .val (.ref b43), .val (.ref b78), .val (.ref b118), .val (.ref b164), .val (.ref b280), .val (.int (1 : Int32)), .val (.int (1 : Int32)), .val (.int (0 : Int32)), .val (.int (0 : Int32))] [(.int B), (.int A), (.ref b280)])) _
  obtain ⟨_, _, ⟨T331, L331, k331, n331⟩, -, X331, ⟨Lc331, hQ331, l331, y331, z331⟩, st331⟩ := Jvm.LawKit.callS Xpt hx (y := (⟨"com/example/pareto4/pareto4/front/Keys", "noHigher", "([[DII)Z"⟩ : MethodName)) hown (mvT hZ (hw _ (List.mem_of_getElem? (i := 12) rfl))) (mvT hZ (hw _ (List.mem_of_getElem? (i := 13) rfl))) (mvT hZ (hw _ (List.mem_of_getElem? (i := 14) rfl))) (mvT hZ (hw _ (List.mem_of_getElem? (i := 15) rfl))) (by decide) (backOf (W := 0) (own_rmNH2 l Z a0 hw [] b280 A B k280 b1 k1 (own_dv x1 (0 : Int32)) (own_dv x1 (4 : Int32)) (own_dv x1 (8 : Int32)) b18 k18 (own_dv x1 (12 : Int32)) (own_dv x1 (16 : Int32)) (own_dv x1 (20 : Int32)) hpt n0 Zpt hA0 hA1 hB0 hB1 Pf330_1 Pf330_3 Pf330_9) hZ (hw _ (List.mem_of_getElem? (i := 15) rfl)) (hw _ (List.mem_of_getElem? (i := 14) rfl)) (by decide) (by decide)) (g := (mkF m 395 #[.val (.int x0), .val (.long x1), .second, .val (.int W), .val (.int A), .val (.int B), .val (.ref b1), .val (.ref b18), .val (.ref b43), .val (.ref b78), .val (.ref b118), .val (.ref b164), .val (.ref b280), .val (.int (1 : Int32)), .val (.int (1 : Int32)), .val (.int (0 : Int32)), .val (.int (0 : Int32))] [(.int B), (.int A), (.ref b280)])) rfl (by rw [hml]; rfl) (argsL := [(.ref b280), (.int A), (.int B)]) (rest := []) (lenOf own_pd_paaDIIqZ rfl) rfl (by show 2 * 0 + _ ≤ _; exact Nat.le_of_eq rfl) (hb hby at_395) (fun _ _ => ⟨rfl, Ept, (by decide : 7 + 0 ≤ _), (by decide : 20 + 0 ≤ _)⟩)
  dsimp only [Pt.U, Pt.locs, Pt.cells, Pt.slots] at X331 l331 y331 z331 st331 hQ331
  subst l331 y331 z331
  obtain ⟨hv331, Nq331, hp331_0⟩ := hQ331
  have N331 := Fr.app Npt Nq331
  by_cases hc332 : ((0 : Int32) < (cmpValue (FP.dcmp (own_at (own_dv x1 (0 : Int32)) (own_dv x1 (4 : Int32)) (own_dv x1 (8 : Int32)) A) (own_at (own_dv x1 (0 : Int32)) (own_dv x1 (4 : Int32)) (own_dv x1 (8 : Int32)) B)) .l)) ∨ ((0 : Int32) < (cmpValue (FP.dcmp (own_at (own_dv x1 (12 : Int32)) (own_dv x1 (16 : Int32)) (own_dv x1 (20 : Int32)) A) (own_at (own_dv x1 (12 : Int32)) (own_dv x1 (16 : Int32)) (own_dv x1 (20 : Int32)) B)) .l))
  · rw [if_pos hc332] at hv331
    subst hv331
    refine Goes.to st331 ?_
    show Goes p.tables e below (T331.setTop (mkF m 398 #[.val (.int x0), .val (.long x1), .second, .val (.int W), .val (.int A), .val (.int B), .val (.ref b1), .val (.ref b18), .val (.ref b43), .val (.ref b78), .val (.ref b118), .val (.ref b164), .val (.ref b280), .val (.int (1 : Int32)), .val (.int (1 : Int32)), .val (.int (0 : Int32)), .val (.int (0 : Int32))] [(.int (0 : Int32))])) _
    refine Goes.to (fun _ k => XS.iload X331.here hx rfl (hb hby at_398) rfl k) ?_
    show Goes p.tables e below (T331.setTop (mkF m 400 #[.val (.int x0), .val (.long x1), .second, .val (.int W), .val (.int A), .val (.int B), .val (.ref b1), .val (.ref b18), .val (.ref b43), .val (.ref b78), .val (.ref b118), .val (.ref b164), .val (.ref b280), .val (.int (1 : Int32)), .val (.int (1 : Int32)), .val (.int (0 : Int32)), .val (.int (0 : Int32))] [(.int (0 : Int32)), (.int (0 : Int32))])) _
    refine Goes.to (fun _ k => XS.icmpNo X331.here hx rfl (hb hby at_400) rfl (teq (by decide : (0 : Int32) = (0 : Int32))).2 k) ?_
    show Goes p.tables e below (T331.setTop (mkF m 403 #[.val (.int x0), .val (.long x1), .second, .val (.int W), .val (.int A), .val (.int B), .val (.ref b1), .val (.ref b18), .val (.ref b43), .val (.ref b78), .val (.ref b118), .val (.ref b164), .val (.ref b280), .val (.int (1 : Int32)), .val (.int (1 : Int32)), .val (.int (0 : Int32)), .val (.int (0 : Int32))] [])) _
    refine Goes.to (fun _ k => XS.iconst X331.here hx rfl (hb hby at_403) k) ?_
    show Goes p.tables e below (T331.setTop (mkF m 404 #[.val (.int x0), .val (.long x1), .second, .val (.int W), .val (.int A), .val (.int B), .val (.ref b1), .val (.ref b18), .val (.ref b43), .val (.ref b78), .val (.ref b118), .val (.ref b164), .val (.ref b280), .val (.int (1 : Int32)), .val (.int (1 : Int32)), .val (.int (0 : Int32)), .val (.int (0 : Int32))] [(.int (1 : Int32))])) _
    refine Goes.to (fun _ k => XS.goto X331.here hx rfl (pc0 := 404) (pc' := 408) rfl (hb hby at_404) (by decide) (by decide) k) ?_
    show Goes p.tables e below (T331.setTop (mkF m 408 #[.val (.int x0), .val (.long x1), .second, .val (.int W), .val (.int A), .val (.int B), .val (.ref b1), .val (.ref b18), .val (.ref b43), .val (.ref b78), .val (.ref b118), .val (.ref b164), .val (.ref b280), .val (.int (1 : Int32)), .val (.int (1 : Int32)), .val (.int (0 : Int32)), .val (.int (0 : Int32))] [(.int (1 : Int32))])) _
    obtain ⟨fs, hr, hrun, hended, hW, hsame⟩ := X331.leave (v := some (.int (1 : Int32))) (fun h => by rw [Bd.returns] at h; cases h)
    have hv : (some (.int (1 : Int32)) : Option Value) = some (.int (1 : Int32)) := by
      rfl
    exact ⟨_, _, retN X331 hx (t := .boolean) Bd.returns (by simp) (hb hby at_408) hr, hrun, hended, _, _, rfl, ⟨hv, N331⟩, ⟨_, rfl⟩, hW, hsame.mono (by decide) (by decide)⟩
  · exact absurd (show ((0 : Int32) < (cmpValue (FP.dcmp (own_at (own_dv x1 (0 : Int32)) (own_dv x1 (4 : Int32)) (own_dv x1 (8 : Int32)) A) (own_at (own_dv x1 (0 : Int32)) (own_dv x1 (4 : Int32)) (own_dv x1 (8 : Int32)) B)) .l)) ∨ ((0 : Int32) < (cmpValue (FP.dcmp (own_at (own_dv x1 (12 : Int32)) (own_dv x1 (16 : Int32)) (own_dv x1 (20 : Int32)) A) (own_at (own_dv x1 (12 : Int32)) (own_dv x1 (16 : Int32)) (own_dv x1 (20 : Int32)) B)) .l)) from (Or.inl ((own_row x1 (0 : Int32) (4 : Int32) (8 : Int32) A B hA0 hA1 hB0 hB1).mpr Ph330_48))) hc332
set_option maxRecDepth 65536 in
set_option maxHeartbeats 40000000 in
theorem own_pt_own_rm0_334 (l : Launch) (Z : State) (a0 : Array Value) (hw : ∀ d ∈ tables_1, d.before a0 Z = true) (ws : List Jvm.Cond) (x0 : Int32) (x1 : Int64)  (h0 : Heap) (n0 : Nat) (Z0 : n0 ≤ h0.size) 
    {p : Program} {e : Env} {s : State} {m : MethodId} {below : List Frame} {meth : Method} {c : Code} {s₁ : State} (Bd : BodyLoose p l x (head1 (Jvm.Cond.code x code maxLocals ret :: ws) room_1) code maxLocals ret e s m #[(.int x0), (.long x1)] below meth c s₁) (hml0 : c.maxLocals = maxLocals) (hh : s.heap = h0) (hZ : Z.Warmed39 s.vm)
    (b1 : Addr) (k1 : ClassId) (b18 : Addr) (k18 : ClassId) (b43 : Addr) (k43 : ClassId) (b78 : Addr) (k78 : ClassId) (b118 : Addr) (k118 : ClassId) (b164 : Addr) (k164 : ClassId) (b280 : Addr) (k280 : ClassId) (W : Int32) (A : Int32) (B : Int32)
    (Tpt : State) (lpt : List Loc)  (hpt : Heap)
    (Xpt : Stand p l e room_1 s m #[(.int x0), (.long x1)] below meth c Tpt lpt 7 20) (Ept : Tpt.heap = hpt) (Npt : Fr n0 lpt) (Zpt : n0 ≤ hpt.size) 
    (Pf334_0 : Exa Z hpt b1 "[D")
    (Pf334_1 : Arv Z hpt b1 k1 .double (3 : Int32) [(.double (own_dv x1 (0 : Int32))), (.double (own_dv x1 (4 : Int32))), (.double (own_dv x1 (8 : Int32)))] (.double (0 : UInt64)))
    (Pf334_2 : Exa Z hpt b18 "[D")
    (Pf334_3 : Arv Z hpt b18 k18 .double (3 : Int32) [(.double (own_dv x1 (12 : Int32))), (.double (own_dv x1 (16 : Int32))), (.double (own_dv x1 (20 : Int32)))] (.double (0 : UInt64)))
    (Pf334_4 : Exa Z hpt b43 "[D")
    (Pf334_5 : Arv Z hpt b43 k43 .double (3 : Int32) [(.double (own_dv x1 (24 : Int32))), (.double (own_dv x1 (28 : Int32))), (.double (own_dv x1 (32 : Int32)))] (.double (0 : UInt64)))
    (Pf334_6 : Arv Z hpt b78 k78 .int (3 : Int32) [(.int (own_iv x1 (0 : Int32))), (.int (own_iv x1 (4 : Int32))), (.int (own_iv x1 (8 : Int32)))] (.int (0 : Int32)))
    (Pf334_7 : Arv Z hpt b118 k118 .int (3 : Int32) [(.int (own_iv x1 (12 : Int32))), (.int (own_iv x1 (16 : Int32))), (.int (own_iv x1 (20 : Int32)))] (.int (0 : Int32)))
    (Pf334_8 : Arv Z hpt b164 k164 .int (3 : Int32) [(.int (own_iv x1 (24 : Int32))), (.int (own_iv x1 (28 : Int32))), (.int (own_iv x1 (32 : Int32)))] (.int (0 : Int32)))
    (Pf334_9 : Arv Z hpt b280 k280 (.array .double) (2 : Int32) [(.ref b1), (.ref b18)] .null)
    (Pg334_10 : n0 ≤ b1)
    (Pn334_11 : b1 ≠ b18)
    (Pg334_12 : n0 ≤ b18)
    (Pn334_13 : b1 ≠ b43)
    (Pn334_14 : b18 ≠ b43)
    (Pg334_15 : n0 ≤ b43)
    (Pn334_16 : b1 ≠ b78)
    (Pn334_17 : b18 ≠ b78)
    (Pn334_18 : b43 ≠ b78)
    (Pg334_19 : n0 ≤ b78)
    (Pn334_20 : b1 ≠ b118)
    (Pn334_21 : b18 ≠ b118)
    (Pn334_22 : b43 ≠ b118)
    (Pn334_23 : b78 ≠ b118)
    (Pg334_24 : n0 ≤ b118)
    (Pn334_25 : b1 ≠ b164)
    (Pn334_26 : b18 ≠ b164)
    (Pn334_27 : b43 ≠ b164)
    (Pn334_28 : b78 ≠ b164)
    (Pn334_29 : b118 ≠ b164)
    (Pg334_30 : n0 ≤ b164)
    (Po334_31 : OvrA Z k280 .double "[D")
    (Pn334_32 : b1 ≠ b280)
    (Pn334_33 : b18 ≠ b280)
    (Pn334_34 : b43 ≠ b280)
    (Pn334_35 : b78 ≠ b280)
    (Pn334_36 : b118 ≠ b280)
    (Pn334_37 : b164 ≠ b280)
    (Pg334_38 : n0 ≤ b280)
    (hA0 : ¬ (A < (0 : Int32)))
    (hA1 : A < (3 : Int32))
    (hB0 : ¬ (B < (0 : Int32)))
    (hB1 : B < (3 : Int32))
    (hnm_W : (x0 &&& (3 : Int32)) = W)
    (Ph334_44 : ¬ (W = (0 : Int32)))
    (Ph334_45 : ¬ (W = (1 : Int32)))
    (Ph334_46 : W = (2 : Int32))
    (Ph334_47 : ¬ (W < (1 : Int32)))
    (Ph334_48 : (own_iat (own_iv x1 (0 : Int32)) (own_iv x1 (4 : Int32)) (own_iv x1 (8 : Int32)) B) < (own_iat (own_iv x1 (0 : Int32)) (own_iv x1 (4 : Int32)) (own_iv x1 (8 : Int32)) A))
    (Ph334_49 : ¬ (W < (2 : Int32)))
    (Ph334_50 : ¬ ((own_iat (own_iv x1 (12 : Int32)) (own_iv x1 (16 : Int32)) (own_iv x1 (20 : Int32)) B) < (own_iat (own_iv x1 (12 : Int32)) (own_iv x1 (16 : Int32)) (own_iv x1 (20 : Int32)) A)))
    (Ph334_51 : W < (3 : Int32))
    : Goes p.tables e below (Tpt.setTop (mkF m 389 #[.val (.int x0), .val (.long x1), .second, .val (.int W), .val (.int A), .val (.int B), .val (.ref b1), .val (.ref b18), .val (.ref b43), .val (.ref b78), .val (.ref b118), .val (.ref b164), .val (.ref b280), .val (.int (1 : Int32)), .val (.int (0 : Int32)), .val (.int (0 : Int32)), .val (.int (0 : Int32))] [])) (own_R below s (own_Q_own_rm0 Z x0 x1 h0 n0) 7 21) := by
  have hx := Bd.exec
  have hby := Bd.bytes
  have hml : c.maxLocals = 17 := hml0
  have hnm := (name_of_methodNamed Bd.named Bd.method).1
  have hown : s.vm.findClass "com/example/pareto4/pareto4/front/KeysNoHigherPinLaw" = some m.cls := findClass_of_methodNamed Bd.named
  show Goes p.tables e below (Tpt.setTop (mkF m 389 #[.val (.int x0), .val (.long x1), .second, .val (.int W), .val (.int A), .val (.int B), .val (.ref b1), .val (.ref b18), .val (.ref b43), .val (.ref b78), .val (.ref b118), .val (.ref b164), .val (.ref b280), .val (.int (1 : Int32)), .val (.int (0 : Int32)), .val (.int (0 : Int32)), .val (.int (0 : Int32))] [])) _
  refine Goes.to (fun _ k => XS.aload Xpt.here hx rfl (hb hby at_389) rfl rfl k) ?_
  show Goes p.tables e below (Tpt.setTop (mkF m 391 #[.val (.int x0), .val (.long x1), .second, .val (.int W), .val (.int A), .val (.int B), .val (.ref b1), .val (.ref b18), .val (.ref b43), .val (.ref b78), .val (.ref b118), .val (.ref b164), .val (.ref b280), .val (.int (1 : Int32)), .val (.int (0 : Int32)), .val (.int (0 : Int32)), .val (.int (0 : Int32))] [(.ref b280)])) _
  refine Goes.to (fun _ k => XS.iload Xpt.here hx rfl (hb hby at_391) rfl k) ?_
  show Goes p.tables e below (Tpt.setTop (mkF m 393 #[.val (.int x0), .val (.long x1), .second, .val (.int W), .val (.int A), .val (.int B), .val (.ref b1), .val (.ref b18), .val (.ref b43), .val (.ref b78), .val (.ref b118), .val (.ref b164), .val (.ref b280), .val (.int (1 : Int32)), .val (.int (0 : Int32)), .val (.int (0 : Int32)), .val (.int (0 : Int32))] [(.int A), (.ref b280)])) _
  refine Goes.to (fun _ k => XS.iload Xpt.here hx rfl (hb hby at_393) rfl k) ?_
  show Goes p.tables e below (Tpt.setTop (mkF m 395 #[.val (.int x0), .val (.long x1), .second, .val (.int W), .val (.int A), .val (.int B), .val (.ref b1), .val (.ref b18), .val (.ref b43), .val (.ref b78), .val (.ref b118), .val (.ref b164), .val (.ref b280), .val (.int (1 : Int32)), .val (.int (0 : Int32)), .val (.int (0 : Int32)), .val (.int (0 : Int32))] [(.int B), (.int A), (.ref b280)])) _
  obtain ⟨_, _, ⟨T335, L335, k335, n335⟩, -, X335, ⟨Lc335, hQ335, l335, y335, z335⟩, st335⟩ := Jvm.LawKit.callS Xpt hx (y := (⟨"com/example/pareto4/pareto4/front/Keys", "noHigher", "([[DII)Z"⟩ : MethodName)) hown (mvT hZ (hw _ (List.mem_of_getElem? (i := 12) rfl))) (mvT hZ (hw _ (List.mem_of_getElem? (i := 13) rfl))) (mvT hZ (hw _ (List.mem_of_getElem? (i := 14) rfl))) (mvT hZ (hw _ (List.mem_of_getElem? (i := 15) rfl))) (by decide) (backOf (W := 0) (own_rmNH2 l Z a0 hw [] b280 A B k280 b1 k1 (own_dv x1 (0 : Int32)) (own_dv x1 (4 : Int32)) (own_dv x1 (8 : Int32)) b18 k18 (own_dv x1 (12 : Int32)) (own_dv x1 (16 : Int32)) (own_dv x1 (20 : Int32)) hpt n0 Zpt hA0 hA1 hB0 hB1 Pf334_1 Pf334_3 Pf334_9) hZ (hw _ (List.mem_of_getElem? (i := 15) rfl)) (hw _ (List.mem_of_getElem? (i := 14) rfl)) (by decide) (by decide)) (g := (mkF m 395 #[.val (.int x0), .val (.long x1), .second, .val (.int W), .val (.int A), .val (.int B), .val (.ref b1), .val (.ref b18), .val (.ref b43), .val (.ref b78), .val (.ref b118), .val (.ref b164), .val (.ref b280), .val (.int (1 : Int32)), .val (.int (0 : Int32)), .val (.int (0 : Int32)), .val (.int (0 : Int32))] [(.int B), (.int A), (.ref b280)])) rfl (by rw [hml]; rfl) (argsL := [(.ref b280), (.int A), (.int B)]) (rest := []) (lenOf own_pd_paaDIIqZ rfl) rfl (by show 2 * 0 + _ ≤ _; exact Nat.le_of_eq rfl) (hb hby at_395) (fun _ _ => ⟨rfl, Ept, (by decide : 7 + 0 ≤ _), (by decide : 20 + 0 ≤ _)⟩)
  dsimp only [Pt.U, Pt.locs, Pt.cells, Pt.slots] at X335 l335 y335 z335 st335 hQ335
  subst l335 y335 z335
  obtain ⟨hv335, Nq335, hp335_0⟩ := hQ335
  have N335 := Fr.app Npt Nq335
  by_cases hc336 : ((0 : Int32) < (cmpValue (FP.dcmp (own_at (own_dv x1 (0 : Int32)) (own_dv x1 (4 : Int32)) (own_dv x1 (8 : Int32)) A) (own_at (own_dv x1 (0 : Int32)) (own_dv x1 (4 : Int32)) (own_dv x1 (8 : Int32)) B)) .l)) ∨ ((0 : Int32) < (cmpValue (FP.dcmp (own_at (own_dv x1 (12 : Int32)) (own_dv x1 (16 : Int32)) (own_dv x1 (20 : Int32)) A) (own_at (own_dv x1 (12 : Int32)) (own_dv x1 (16 : Int32)) (own_dv x1 (20 : Int32)) B)) .l))
  · rw [if_pos hc336] at hv335
    subst hv335
    refine Goes.to st335 ?_
    show Goes p.tables e below (T335.setTop (mkF m 398 #[.val (.int x0), .val (.long x1), .second, .val (.int W), .val (.int A), .val (.int B), .val (.ref b1), .val (.ref b18), .val (.ref b43), .val (.ref b78), .val (.ref b118), .val (.ref b164), .val (.ref b280), .val (.int (1 : Int32)), .val (.int (0 : Int32)), .val (.int (0 : Int32)), .val (.int (0 : Int32))] [(.int (0 : Int32))])) _
    refine Goes.to (fun _ k => XS.iload X335.here hx rfl (hb hby at_398) rfl k) ?_
    show Goes p.tables e below (T335.setTop (mkF m 400 #[.val (.int x0), .val (.long x1), .second, .val (.int W), .val (.int A), .val (.int B), .val (.ref b1), .val (.ref b18), .val (.ref b43), .val (.ref b78), .val (.ref b118), .val (.ref b164), .val (.ref b280), .val (.int (1 : Int32)), .val (.int (0 : Int32)), .val (.int (0 : Int32)), .val (.int (0 : Int32))] [(.int (0 : Int32)), (.int (0 : Int32))])) _
    refine Goes.to (fun _ k => XS.icmpNo X335.here hx rfl (hb hby at_400) rfl (teq (by decide : (0 : Int32) = (0 : Int32))).2 k) ?_
    show Goes p.tables e below (T335.setTop (mkF m 403 #[.val (.int x0), .val (.long x1), .second, .val (.int W), .val (.int A), .val (.int B), .val (.ref b1), .val (.ref b18), .val (.ref b43), .val (.ref b78), .val (.ref b118), .val (.ref b164), .val (.ref b280), .val (.int (1 : Int32)), .val (.int (0 : Int32)), .val (.int (0 : Int32)), .val (.int (0 : Int32))] [])) _
    refine Goes.to (fun _ k => XS.iconst X335.here hx rfl (hb hby at_403) k) ?_
    show Goes p.tables e below (T335.setTop (mkF m 404 #[.val (.int x0), .val (.long x1), .second, .val (.int W), .val (.int A), .val (.int B), .val (.ref b1), .val (.ref b18), .val (.ref b43), .val (.ref b78), .val (.ref b118), .val (.ref b164), .val (.ref b280), .val (.int (1 : Int32)), .val (.int (0 : Int32)), .val (.int (0 : Int32)), .val (.int (0 : Int32))] [(.int (1 : Int32))])) _
    refine Goes.to (fun _ k => XS.goto X335.here hx rfl (pc0 := 404) (pc' := 408) rfl (hb hby at_404) (by decide) (by decide) k) ?_
    show Goes p.tables e below (T335.setTop (mkF m 408 #[.val (.int x0), .val (.long x1), .second, .val (.int W), .val (.int A), .val (.int B), .val (.ref b1), .val (.ref b18), .val (.ref b43), .val (.ref b78), .val (.ref b118), .val (.ref b164), .val (.ref b280), .val (.int (1 : Int32)), .val (.int (0 : Int32)), .val (.int (0 : Int32)), .val (.int (0 : Int32))] [(.int (1 : Int32))])) _
    obtain ⟨fs, hr, hrun, hended, hW, hsame⟩ := X335.leave (v := some (.int (1 : Int32))) (fun h => by rw [Bd.returns] at h; cases h)
    have hv : (some (.int (1 : Int32)) : Option Value) = some (.int (1 : Int32)) := by
      rfl
    exact ⟨_, _, retN X335 hx (t := .boolean) Bd.returns (by simp) (hb hby at_408) hr, hrun, hended, _, _, rfl, ⟨hv, N335⟩, ⟨_, rfl⟩, hW, hsame.mono (by decide) (by decide)⟩
  · exact absurd (show ((0 : Int32) < (cmpValue (FP.dcmp (own_at (own_dv x1 (0 : Int32)) (own_dv x1 (4 : Int32)) (own_dv x1 (8 : Int32)) A) (own_at (own_dv x1 (0 : Int32)) (own_dv x1 (4 : Int32)) (own_dv x1 (8 : Int32)) B)) .l)) ∨ ((0 : Int32) < (cmpValue (FP.dcmp (own_at (own_dv x1 (12 : Int32)) (own_dv x1 (16 : Int32)) (own_dv x1 (20 : Int32)) A) (own_at (own_dv x1 (12 : Int32)) (own_dv x1 (16 : Int32)) (own_dv x1 (20 : Int32)) B)) .l)) from (Or.inl ((own_row x1 (0 : Int32) (4 : Int32) (8 : Int32) A B hA0 hA1 hB0 hB1).mpr Ph334_48))) hc336
set_option maxRecDepth 65536 in
set_option maxHeartbeats 40000000 in
theorem own_pt_own_rm0_342 (l : Launch) (Z : State) (a0 : Array Value) (hw : ∀ d ∈ tables_1, d.before a0 Z = true) (ws : List Jvm.Cond) (x0 : Int32) (x1 : Int64)  (h0 : Heap) (n0 : Nat) (Z0 : n0 ≤ h0.size) 
    {p : Program} {e : Env} {s : State} {m : MethodId} {below : List Frame} {meth : Method} {c : Code} {s₁ : State} (Bd : BodyLoose p l x (head1 (Jvm.Cond.code x code maxLocals ret :: ws) room_1) code maxLocals ret e s m #[(.int x0), (.long x1)] below meth c s₁) (hml0 : c.maxLocals = maxLocals) (hh : s.heap = h0) (hZ : Z.Warmed39 s.vm)
    (b1 : Addr) (k1 : ClassId) (b18 : Addr) (k18 : ClassId) (b43 : Addr) (k43 : ClassId) (b78 : Addr) (k78 : ClassId) (b118 : Addr) (k118 : ClassId) (b164 : Addr) (k164 : ClassId) (b280 : Addr) (k280 : ClassId) (W : Int32) (A : Int32) (B : Int32)
    (Tpt : State) (lpt : List Loc)  (hpt : Heap)
    (Xpt : Stand p l e room_1 s m #[(.int x0), (.long x1)] below meth c Tpt lpt 7 20) (Ept : Tpt.heap = hpt) (Npt : Fr n0 lpt) (Zpt : n0 ≤ hpt.size) 
    (Pf342_0 : Exa Z hpt b1 "[D")
    (Pf342_1 : Arv Z hpt b1 k1 .double (3 : Int32) [(.double (own_dv x1 (0 : Int32))), (.double (own_dv x1 (4 : Int32))), (.double (own_dv x1 (8 : Int32)))] (.double (0 : UInt64)))
    (Pf342_2 : Exa Z hpt b18 "[D")
    (Pf342_3 : Arv Z hpt b18 k18 .double (3 : Int32) [(.double (own_dv x1 (12 : Int32))), (.double (own_dv x1 (16 : Int32))), (.double (own_dv x1 (20 : Int32)))] (.double (0 : UInt64)))
    (Pf342_4 : Exa Z hpt b43 "[D")
    (Pf342_5 : Arv Z hpt b43 k43 .double (3 : Int32) [(.double (own_dv x1 (24 : Int32))), (.double (own_dv x1 (28 : Int32))), (.double (own_dv x1 (32 : Int32)))] (.double (0 : UInt64)))
    (Pf342_6 : Arv Z hpt b78 k78 .int (3 : Int32) [(.int (own_iv x1 (0 : Int32))), (.int (own_iv x1 (4 : Int32))), (.int (own_iv x1 (8 : Int32)))] (.int (0 : Int32)))
    (Pf342_7 : Arv Z hpt b118 k118 .int (3 : Int32) [(.int (own_iv x1 (12 : Int32))), (.int (own_iv x1 (16 : Int32))), (.int (own_iv x1 (20 : Int32)))] (.int (0 : Int32)))
    (Pf342_8 : Arv Z hpt b164 k164 .int (3 : Int32) [(.int (own_iv x1 (24 : Int32))), (.int (own_iv x1 (28 : Int32))), (.int (own_iv x1 (32 : Int32)))] (.int (0 : Int32)))
    (Pf342_9 : Arv Z hpt b280 k280 (.array .double) (2 : Int32) [(.ref b1), (.ref b18)] .null)
    (Pg342_10 : n0 ≤ b1)
    (Pn342_11 : b1 ≠ b18)
    (Pg342_12 : n0 ≤ b18)
    (Pn342_13 : b1 ≠ b43)
    (Pn342_14 : b18 ≠ b43)
    (Pg342_15 : n0 ≤ b43)
    (Pn342_16 : b1 ≠ b78)
    (Pn342_17 : b18 ≠ b78)
    (Pn342_18 : b43 ≠ b78)
    (Pg342_19 : n0 ≤ b78)
    (Pn342_20 : b1 ≠ b118)
    (Pn342_21 : b18 ≠ b118)
    (Pn342_22 : b43 ≠ b118)
    (Pn342_23 : b78 ≠ b118)
    (Pg342_24 : n0 ≤ b118)
    (Pn342_25 : b1 ≠ b164)
    (Pn342_26 : b18 ≠ b164)
    (Pn342_27 : b43 ≠ b164)
    (Pn342_28 : b78 ≠ b164)
    (Pn342_29 : b118 ≠ b164)
    (Pg342_30 : n0 ≤ b164)
    (Po342_31 : OvrA Z k280 .double "[D")
    (Pn342_32 : b1 ≠ b280)
    (Pn342_33 : b18 ≠ b280)
    (Pn342_34 : b43 ≠ b280)
    (Pn342_35 : b78 ≠ b280)
    (Pn342_36 : b118 ≠ b280)
    (Pn342_37 : b164 ≠ b280)
    (Pg342_38 : n0 ≤ b280)
    (hA0 : ¬ (A < (0 : Int32)))
    (hA1 : A < (3 : Int32))
    (hB0 : ¬ (B < (0 : Int32)))
    (hB1 : B < (3 : Int32))
    (hnm_W : (x0 &&& (3 : Int32)) = W)
    (Ph342_44 : ¬ (W = (0 : Int32)))
    (Ph342_45 : ¬ (W = (1 : Int32)))
    (Ph342_46 : W = (2 : Int32))
    (Ph342_47 : ¬ (W < (1 : Int32)))
    (Ph342_48 : ¬ ((own_iat (own_iv x1 (0 : Int32)) (own_iv x1 (4 : Int32)) (own_iv x1 (8 : Int32)) B) < (own_iat (own_iv x1 (0 : Int32)) (own_iv x1 (4 : Int32)) (own_iv x1 (8 : Int32)) A)))
    (Ph342_49 : ¬ (W < (2 : Int32)))
    (Ph342_50 : (own_iat (own_iv x1 (12 : Int32)) (own_iv x1 (16 : Int32)) (own_iv x1 (20 : Int32)) B) < (own_iat (own_iv x1 (12 : Int32)) (own_iv x1 (16 : Int32)) (own_iv x1 (20 : Int32)) A))
    (Ph342_51 : W < (3 : Int32))
    : Goes p.tables e below (Tpt.setTop (mkF m 386 #[.val (.int x0), .val (.long x1), .second, .val (.int W), .val (.int A), .val (.int B), .val (.ref b1), .val (.ref b18), .val (.ref b43), .val (.ref b78), .val (.ref b118), .val (.ref b164), .val (.ref b280), .val (.int (0 : Int32)), .val (.int (1 : Int32)), .val (.int (0 : Int32)), .unset] [])) (own_R below s (own_Q_own_rm0 Z x0 x1 h0 n0) 7 21) := by
  have hx := Bd.exec
  have hby := Bd.bytes
  have hml : c.maxLocals = 17 := hml0
  have hnm := (name_of_methodNamed Bd.named Bd.method).1
  have hown : s.vm.findClass "com/example/pareto4/pareto4/front/KeysNoHigherPinLaw" = some m.cls := findClass_of_methodNamed Bd.named
  show Goes p.tables e below (Tpt.setTop (mkF m 386 #[.val (.int x0), .val (.long x1), .second, .val (.int W), .val (.int A), .val (.int B), .val (.ref b1), .val (.ref b18), .val (.ref b43), .val (.ref b78), .val (.ref b118), .val (.ref b164), .val (.ref b280), .val (.int (0 : Int32)), .val (.int (1 : Int32)), .val (.int (0 : Int32)), .unset] [])) _
  refine Goes.to (fun _ k => XS.iconst Xpt.here hx rfl (hb hby at_386) k) ?_
  show Goes p.tables e below (Tpt.setTop (mkF m 387 #[.val (.int x0), .val (.long x1), .second, .val (.int W), .val (.int A), .val (.int B), .val (.ref b1), .val (.ref b18), .val (.ref b43), .val (.ref b78), .val (.ref b118), .val (.ref b164), .val (.ref b280), .val (.int (0 : Int32)), .val (.int (1 : Int32)), .val (.int (0 : Int32)), .unset] [(.int (0 : Int32))])) _
  refine Goes.to (fun _ k => XS.istore Xpt.here hx rfl (hb hby at_387) rfl (l' := #[.val (.int x0), .val (.long x1), .second, .val (.int W), .val (.int A), .val (.int B), .val (.ref b1), .val (.ref b18), .val (.ref b43), .val (.ref b78), .val (.ref b118), .val (.ref b164), .val (.ref b280), .val (.int (0 : Int32)), .val (.int (1 : Int32)), .val (.int (0 : Int32)), .val (.int (0 : Int32))]) rfl k) ?_
  show Goes p.tables e below (Tpt.setTop (mkF m 389 #[.val (.int x0), .val (.long x1), .second, .val (.int W), .val (.int A), .val (.int B), .val (.ref b1), .val (.ref b18), .val (.ref b43), .val (.ref b78), .val (.ref b118), .val (.ref b164), .val (.ref b280), .val (.int (0 : Int32)), .val (.int (1 : Int32)), .val (.int (0 : Int32)), .val (.int (0 : Int32))] [])) _
  refine Goes.to (fun _ k => XS.aload Xpt.here hx rfl (hb hby at_389) rfl rfl k) ?_
  show Goes p.tables e below (Tpt.setTop (mkF m 391 #[.val (.int x0), .val (.long x1), .second, .val (.int W), .val (.int A), .val (.int B), .val (.ref b1), .val (.ref b18), .val (.ref b43), .val (.ref b78), .val (.ref b118), .val (.ref b164), .val (.ref b280), .val (.int (0 : Int32)), .val (.int (1 : Int32)), .val (.int (0 : Int32)), .val (.int (0 : Int32))] [(.ref b280)])) _
  refine Goes.to (fun _ k => XS.iload Xpt.here hx rfl (hb hby at_391) rfl k) ?_
  show Goes p.tables e below (Tpt.setTop (mkF m 393 #[.val (.int x0), .val (.long x1), .second, .val (.int W), .val (.int A), .val (.int B), .val (.ref b1), .val (.ref b18), .val (.ref b43), .val (.ref b78), .val (.ref b118), .val (.ref b164), .val (.ref b280), .val (.int (0 : Int32)), .val (.int (1 : Int32)), .val (.int (0 : Int32)), .val (.int (0 : Int32))] [(.int A), (.ref b280)])) _
  refine Goes.to (fun _ k => XS.iload Xpt.here hx rfl (hb hby at_393) rfl k) ?_
  show Goes p.tables e below (Tpt.setTop (mkF m 395 #[.val (.int x0), .val (.long x1), .second, .val (.int W), .val (.int A), .val (.int B), .val (.ref b1), .val (.ref b18), .val (.ref b43), .val (.ref b78), .val (.ref b118), .val (.ref b164), .val (.ref b280), .val (.int (0 : Int32)), .val (.int (1 : Int32)), .val (.int (0 : Int32)), .val (.int (0 : Int32))] [(.int B), (.int A), (.ref b280)])) _
  obtain ⟨_, _, ⟨T343, L343, k343, n343⟩, -, X343, ⟨Lc343, hQ343, l343, y343, z343⟩, st343⟩ := Jvm.LawKit.callS Xpt hx (y := (⟨"com/example/pareto4/pareto4/front/Keys", "noHigher", "([[DII)Z"⟩ : MethodName)) hown (mvT hZ (hw _ (List.mem_of_getElem? (i := 12) rfl))) (mvT hZ (hw _ (List.mem_of_getElem? (i := 13) rfl))) (mvT hZ (hw _ (List.mem_of_getElem? (i := 14) rfl))) (mvT hZ (hw _ (List.mem_of_getElem? (i := 15) rfl))) (by decide) (backOf (W := 0) (own_rmNH2 l Z a0 hw [] b280 A B k280 b1 k1 (own_dv x1 (0 : Int32)) (own_dv x1 (4 : Int32)) (own_dv x1 (8 : Int32)) b18 k18 (own_dv x1 (12 : Int32)) (own_dv x1 (16 : Int32)) (own_dv x1 (20 : Int32)) hpt n0 Zpt hA0 hA1 hB0 hB1 Pf342_1 Pf342_3 Pf342_9) hZ (hw _ (List.mem_of_getElem? (i := 15) rfl)) (hw _ (List.mem_of_getElem? (i := 14) rfl)) (by decide) (by decide)) (g := (mkF m 395 #[.val (.int x0), .val (.long x1), .second, .val (.int W), .val (.int A), .val (.int B), .val (.ref b1), .val (.ref b18), .val (.ref b43), .val (.ref b78), .val (.ref b118), .val (.ref b164), .val (.ref b280), .val (.int (0 : Int32)), .val (.int (1 : Int32)), .val (.int (0 : Int32)), .val (.int (0 : Int32))] [(.int B), (.int A), (.ref b280)])) rfl (by rw [hml]; rfl) (argsL := [(.ref b280), (.int A), (.int B)]) (rest := []) (lenOf own_pd_paaDIIqZ rfl) rfl (by show 2 * 0 + _ ≤ _; exact Nat.le_of_eq rfl) (hb hby at_395) (fun _ _ => ⟨rfl, Ept, (by decide : 7 + 0 ≤ _), (by decide : 20 + 0 ≤ _)⟩)
  dsimp only [Pt.U, Pt.locs, Pt.cells, Pt.slots] at X343 l343 y343 z343 st343 hQ343
  subst l343 y343 z343
  obtain ⟨hv343, Nq343, hp343_0⟩ := hQ343
  have N343 := Fr.app Npt Nq343
  by_cases hc344 : ((0 : Int32) < (cmpValue (FP.dcmp (own_at (own_dv x1 (0 : Int32)) (own_dv x1 (4 : Int32)) (own_dv x1 (8 : Int32)) A) (own_at (own_dv x1 (0 : Int32)) (own_dv x1 (4 : Int32)) (own_dv x1 (8 : Int32)) B)) .l)) ∨ ((0 : Int32) < (cmpValue (FP.dcmp (own_at (own_dv x1 (12 : Int32)) (own_dv x1 (16 : Int32)) (own_dv x1 (20 : Int32)) A) (own_at (own_dv x1 (12 : Int32)) (own_dv x1 (16 : Int32)) (own_dv x1 (20 : Int32)) B)) .l))
  · rw [if_pos hc344] at hv343
    subst hv343
    refine Goes.to st343 ?_
    show Goes p.tables e below (T343.setTop (mkF m 398 #[.val (.int x0), .val (.long x1), .second, .val (.int W), .val (.int A), .val (.int B), .val (.ref b1), .val (.ref b18), .val (.ref b43), .val (.ref b78), .val (.ref b118), .val (.ref b164), .val (.ref b280), .val (.int (0 : Int32)), .val (.int (1 : Int32)), .val (.int (0 : Int32)), .val (.int (0 : Int32))] [(.int (0 : Int32))])) _
    refine Goes.to (fun _ k => XS.iload X343.here hx rfl (hb hby at_398) rfl k) ?_
    show Goes p.tables e below (T343.setTop (mkF m 400 #[.val (.int x0), .val (.long x1), .second, .val (.int W), .val (.int A), .val (.int B), .val (.ref b1), .val (.ref b18), .val (.ref b43), .val (.ref b78), .val (.ref b118), .val (.ref b164), .val (.ref b280), .val (.int (0 : Int32)), .val (.int (1 : Int32)), .val (.int (0 : Int32)), .val (.int (0 : Int32))] [(.int (0 : Int32)), (.int (0 : Int32))])) _
    refine Goes.to (fun _ k => XS.icmpNo X343.here hx rfl (hb hby at_400) rfl (teq (by decide : (0 : Int32) = (0 : Int32))).2 k) ?_
    show Goes p.tables e below (T343.setTop (mkF m 403 #[.val (.int x0), .val (.long x1), .second, .val (.int W), .val (.int A), .val (.int B), .val (.ref b1), .val (.ref b18), .val (.ref b43), .val (.ref b78), .val (.ref b118), .val (.ref b164), .val (.ref b280), .val (.int (0 : Int32)), .val (.int (1 : Int32)), .val (.int (0 : Int32)), .val (.int (0 : Int32))] [])) _
    refine Goes.to (fun _ k => XS.iconst X343.here hx rfl (hb hby at_403) k) ?_
    show Goes p.tables e below (T343.setTop (mkF m 404 #[.val (.int x0), .val (.long x1), .second, .val (.int W), .val (.int A), .val (.int B), .val (.ref b1), .val (.ref b18), .val (.ref b43), .val (.ref b78), .val (.ref b118), .val (.ref b164), .val (.ref b280), .val (.int (0 : Int32)), .val (.int (1 : Int32)), .val (.int (0 : Int32)), .val (.int (0 : Int32))] [(.int (1 : Int32))])) _
    refine Goes.to (fun _ k => XS.goto X343.here hx rfl (pc0 := 404) (pc' := 408) rfl (hb hby at_404) (by decide) (by decide) k) ?_
    show Goes p.tables e below (T343.setTop (mkF m 408 #[.val (.int x0), .val (.long x1), .second, .val (.int W), .val (.int A), .val (.int B), .val (.ref b1), .val (.ref b18), .val (.ref b43), .val (.ref b78), .val (.ref b118), .val (.ref b164), .val (.ref b280), .val (.int (0 : Int32)), .val (.int (1 : Int32)), .val (.int (0 : Int32)), .val (.int (0 : Int32))] [(.int (1 : Int32))])) _
    obtain ⟨fs, hr, hrun, hended, hW, hsame⟩ := X343.leave (v := some (.int (1 : Int32))) (fun h => by rw [Bd.returns] at h; cases h)
    have hv : (some (.int (1 : Int32)) : Option Value) = some (.int (1 : Int32)) := by
      rfl
    exact ⟨_, _, retN X343 hx (t := .boolean) Bd.returns (by simp) (hb hby at_408) hr, hrun, hended, _, _, rfl, ⟨hv, N343⟩, ⟨_, rfl⟩, hW, hsame.mono (by decide) (by decide)⟩
  · exact absurd (show ((0 : Int32) < (cmpValue (FP.dcmp (own_at (own_dv x1 (0 : Int32)) (own_dv x1 (4 : Int32)) (own_dv x1 (8 : Int32)) A) (own_at (own_dv x1 (0 : Int32)) (own_dv x1 (4 : Int32)) (own_dv x1 (8 : Int32)) B)) .l)) ∨ ((0 : Int32) < (cmpValue (FP.dcmp (own_at (own_dv x1 (12 : Int32)) (own_dv x1 (16 : Int32)) (own_dv x1 (20 : Int32)) A) (own_at (own_dv x1 (12 : Int32)) (own_dv x1 (16 : Int32)) (own_dv x1 (20 : Int32)) B)) .l)) from (Or.inr ((own_row x1 (12 : Int32) (16 : Int32) (20 : Int32) A B hA0 hA1 hB0 hB1).mpr Ph342_50))) hc344
set_option maxRecDepth 65536 in
set_option maxHeartbeats 40000000 in
theorem own_pt_own_rm0_346 (l : Launch) (Z : State) (a0 : Array Value) (hw : ∀ d ∈ tables_1, d.before a0 Z = true) (ws : List Jvm.Cond) (x0 : Int32) (x1 : Int64)  (h0 : Heap) (n0 : Nat) (Z0 : n0 ≤ h0.size) 
    {p : Program} {e : Env} {s : State} {m : MethodId} {below : List Frame} {meth : Method} {c : Code} {s₁ : State} (Bd : BodyLoose p l x (head1 (Jvm.Cond.code x code maxLocals ret :: ws) room_1) code maxLocals ret e s m #[(.int x0), (.long x1)] below meth c s₁) (hml0 : c.maxLocals = maxLocals) (hh : s.heap = h0) (hZ : Z.Warmed39 s.vm)
    (b1 : Addr) (k1 : ClassId) (b18 : Addr) (k18 : ClassId) (b43 : Addr) (k43 : ClassId) (b78 : Addr) (k78 : ClassId) (b118 : Addr) (k118 : ClassId) (b164 : Addr) (k164 : ClassId) (b280 : Addr) (k280 : ClassId) (W : Int32) (A : Int32) (B : Int32)
    (Tpt : State) (lpt : List Loc)  (hpt : Heap)
    (Xpt : Stand p l e room_1 s m #[(.int x0), (.long x1)] below meth c Tpt lpt 7 20) (Ept : Tpt.heap = hpt) (Npt : Fr n0 lpt) (Zpt : n0 ≤ hpt.size) 
    (Pf346_0 : Exa Z hpt b1 "[D")
    (Pf346_1 : Arv Z hpt b1 k1 .double (3 : Int32) [(.double (own_dv x1 (0 : Int32))), (.double (own_dv x1 (4 : Int32))), (.double (own_dv x1 (8 : Int32)))] (.double (0 : UInt64)))
    (Pf346_2 : Exa Z hpt b18 "[D")
    (Pf346_3 : Arv Z hpt b18 k18 .double (3 : Int32) [(.double (own_dv x1 (12 : Int32))), (.double (own_dv x1 (16 : Int32))), (.double (own_dv x1 (20 : Int32)))] (.double (0 : UInt64)))
    (Pf346_4 : Exa Z hpt b43 "[D")
    (Pf346_5 : Arv Z hpt b43 k43 .double (3 : Int32) [(.double (own_dv x1 (24 : Int32))), (.double (own_dv x1 (28 : Int32))), (.double (own_dv x1 (32 : Int32)))] (.double (0 : UInt64)))
    (Pf346_6 : Arv Z hpt b78 k78 .int (3 : Int32) [(.int (own_iv x1 (0 : Int32))), (.int (own_iv x1 (4 : Int32))), (.int (own_iv x1 (8 : Int32)))] (.int (0 : Int32)))
    (Pf346_7 : Arv Z hpt b118 k118 .int (3 : Int32) [(.int (own_iv x1 (12 : Int32))), (.int (own_iv x1 (16 : Int32))), (.int (own_iv x1 (20 : Int32)))] (.int (0 : Int32)))
    (Pf346_8 : Arv Z hpt b164 k164 .int (3 : Int32) [(.int (own_iv x1 (24 : Int32))), (.int (own_iv x1 (28 : Int32))), (.int (own_iv x1 (32 : Int32)))] (.int (0 : Int32)))
    (Pf346_9 : Arv Z hpt b280 k280 (.array .double) (2 : Int32) [(.ref b1), (.ref b18)] .null)
    (Pg346_10 : n0 ≤ b1)
    (Pn346_11 : b1 ≠ b18)
    (Pg346_12 : n0 ≤ b18)
    (Pn346_13 : b1 ≠ b43)
    (Pn346_14 : b18 ≠ b43)
    (Pg346_15 : n0 ≤ b43)
    (Pn346_16 : b1 ≠ b78)
    (Pn346_17 : b18 ≠ b78)
    (Pn346_18 : b43 ≠ b78)
    (Pg346_19 : n0 ≤ b78)
    (Pn346_20 : b1 ≠ b118)
    (Pn346_21 : b18 ≠ b118)
    (Pn346_22 : b43 ≠ b118)
    (Pn346_23 : b78 ≠ b118)
    (Pg346_24 : n0 ≤ b118)
    (Pn346_25 : b1 ≠ b164)
    (Pn346_26 : b18 ≠ b164)
    (Pn346_27 : b43 ≠ b164)
    (Pn346_28 : b78 ≠ b164)
    (Pn346_29 : b118 ≠ b164)
    (Pg346_30 : n0 ≤ b164)
    (Po346_31 : OvrA Z k280 .double "[D")
    (Pn346_32 : b1 ≠ b280)
    (Pn346_33 : b18 ≠ b280)
    (Pn346_34 : b43 ≠ b280)
    (Pn346_35 : b78 ≠ b280)
    (Pn346_36 : b118 ≠ b280)
    (Pn346_37 : b164 ≠ b280)
    (Pg346_38 : n0 ≤ b280)
    (hA0 : ¬ (A < (0 : Int32)))
    (hA1 : A < (3 : Int32))
    (hB0 : ¬ (B < (0 : Int32)))
    (hB1 : B < (3 : Int32))
    (hnm_W : (x0 &&& (3 : Int32)) = W)
    (Ph346_44 : ¬ (W = (0 : Int32)))
    (Ph346_45 : ¬ (W = (1 : Int32)))
    (Ph346_46 : W = (2 : Int32))
    (Ph346_47 : ¬ (W < (1 : Int32)))
    (Ph346_48 : ¬ ((own_iat (own_iv x1 (0 : Int32)) (own_iv x1 (4 : Int32)) (own_iv x1 (8 : Int32)) B) < (own_iat (own_iv x1 (0 : Int32)) (own_iv x1 (4 : Int32)) (own_iv x1 (8 : Int32)) A)))
    (Ph346_49 : ¬ (W < (2 : Int32)))
    (Ph346_50 : ¬ ((own_iat (own_iv x1 (12 : Int32)) (own_iv x1 (16 : Int32)) (own_iv x1 (20 : Int32)) B) < (own_iat (own_iv x1 (12 : Int32)) (own_iv x1 (16 : Int32)) (own_iv x1 (20 : Int32)) A)))
    (Ph346_51 : W < (3 : Int32))
    : Goes p.tables e below (Tpt.setTop (mkF m 379 #[.val (.int x0), .val (.long x1), .second, .val (.int W), .val (.int A), .val (.int B), .val (.ref b1), .val (.ref b18), .val (.ref b43), .val (.ref b78), .val (.ref b118), .val (.ref b164), .val (.ref b280), .val (.int (0 : Int32)), .val (.int (0 : Int32)), .val (.int (0 : Int32)), .unset] [(.int (0 : Int32))])) (own_R below s (own_Q_own_rm0 Z x0 x1 h0 n0) 7 21) := by
  have hx := Bd.exec
  have hby := Bd.bytes
  have hml : c.maxLocals = 17 := hml0
  have hnm := (name_of_methodNamed Bd.named Bd.method).1
  have hown : s.vm.findClass "com/example/pareto4/pareto4/front/KeysNoHigherPinLaw" = some m.cls := findClass_of_methodNamed Bd.named
  show Goes p.tables e below (Tpt.setTop (mkF m 379 #[.val (.int x0), .val (.long x1), .second, .val (.int W), .val (.int A), .val (.int B), .val (.ref b1), .val (.ref b18), .val (.ref b43), .val (.ref b78), .val (.ref b118), .val (.ref b164), .val (.ref b280), .val (.int (0 : Int32)), .val (.int (0 : Int32)), .val (.int (0 : Int32)), .unset] [(.int (0 : Int32))])) _
  refine Goes.to (fun _ k => XS.ifNo Xpt.here hx rfl (hb hby at_379) rfl ((if0 _ _).trans (teq (by decide : (0 : Int32) = (0 : Int32))).2) k) ?_
  show Goes p.tables e below (Tpt.setTop (mkF m 382 #[.val (.int x0), .val (.long x1), .second, .val (.int W), .val (.int A), .val (.int B), .val (.ref b1), .val (.ref b18), .val (.ref b43), .val (.ref b78), .val (.ref b118), .val (.ref b164), .val (.ref b280), .val (.int (0 : Int32)), .val (.int (0 : Int32)), .val (.int (0 : Int32)), .unset] [])) _
  refine Goes.to (fun _ k => XS.iconst Xpt.here hx rfl (hb hby at_382) k) ?_
  show Goes p.tables e below (Tpt.setTop (mkF m 383 #[.val (.int x0), .val (.long x1), .second, .val (.int W), .val (.int A), .val (.int B), .val (.ref b1), .val (.ref b18), .val (.ref b43), .val (.ref b78), .val (.ref b118), .val (.ref b164), .val (.ref b280), .val (.int (0 : Int32)), .val (.int (0 : Int32)), .val (.int (0 : Int32)), .unset] [(.int (1 : Int32))])) _
  refine Goes.to (fun _ k => XS.goto Xpt.here hx rfl (pc0 := 383) (pc' := 387) rfl (hb hby at_383) (by decide) (by decide) k) ?_
  show Goes p.tables e below (Tpt.setTop (mkF m 387 #[.val (.int x0), .val (.long x1), .second, .val (.int W), .val (.int A), .val (.int B), .val (.ref b1), .val (.ref b18), .val (.ref b43), .val (.ref b78), .val (.ref b118), .val (.ref b164), .val (.ref b280), .val (.int (0 : Int32)), .val (.int (0 : Int32)), .val (.int (0 : Int32)), .unset] [(.int (1 : Int32))])) _
  refine Goes.to (fun _ k => XS.istore Xpt.here hx rfl (hb hby at_387) rfl (l' := #[.val (.int x0), .val (.long x1), .second, .val (.int W), .val (.int A), .val (.int B), .val (.ref b1), .val (.ref b18), .val (.ref b43), .val (.ref b78), .val (.ref b118), .val (.ref b164), .val (.ref b280), .val (.int (0 : Int32)), .val (.int (0 : Int32)), .val (.int (0 : Int32)), .val (.int (1 : Int32))]) rfl k) ?_
  show Goes p.tables e below (Tpt.setTop (mkF m 389 #[.val (.int x0), .val (.long x1), .second, .val (.int W), .val (.int A), .val (.int B), .val (.ref b1), .val (.ref b18), .val (.ref b43), .val (.ref b78), .val (.ref b118), .val (.ref b164), .val (.ref b280), .val (.int (0 : Int32)), .val (.int (0 : Int32)), .val (.int (0 : Int32)), .val (.int (1 : Int32))] [])) _
  refine Goes.to (fun _ k => XS.aload Xpt.here hx rfl (hb hby at_389) rfl rfl k) ?_
  show Goes p.tables e below (Tpt.setTop (mkF m 391 #[.val (.int x0), .val (.long x1), .second, .val (.int W), .val (.int A), .val (.int B), .val (.ref b1), .val (.ref b18), .val (.ref b43), .val (.ref b78), .val (.ref b118), .val (.ref b164), .val (.ref b280), .val (.int (0 : Int32)), .val (.int (0 : Int32)), .val (.int (0 : Int32)), .val (.int (1 : Int32))] [(.ref b280)])) _
  refine Goes.to (fun _ k => XS.iload Xpt.here hx rfl (hb hby at_391) rfl k) ?_
  show Goes p.tables e below (Tpt.setTop (mkF m 393 #[.val (.int x0), .val (.long x1), .second, .val (.int W), .val (.int A), .val (.int B), .val (.ref b1), .val (.ref b18), .val (.ref b43), .val (.ref b78), .val (.ref b118), .val (.ref b164), .val (.ref b280), .val (.int (0 : Int32)), .val (.int (0 : Int32)), .val (.int (0 : Int32)), .val (.int (1 : Int32))] [(.int A), (.ref b280)])) _
  refine Goes.to (fun _ k => XS.iload Xpt.here hx rfl (hb hby at_393) rfl k) ?_
  show Goes p.tables e below (Tpt.setTop (mkF m 395 #[.val (.int x0), .val (.long x1), .second, .val (.int W), .val (.int A), .val (.int B), .val (.ref b1), .val (.ref b18), .val (.ref b43), .val (.ref b78), .val (.ref b118), .val (.ref b164), .val (.ref b280), .val (.int (0 : Int32)), .val (.int (0 : Int32)), .val (.int (0 : Int32)), .val (.int (1 : Int32))] [(.int B), (.int A), (.ref b280)])) _
  obtain ⟨_, _, ⟨T347, L347, k347, n347⟩, -, X347, ⟨Lc347, hQ347, l347, y347, z347⟩, st347⟩ := Jvm.LawKit.callS Xpt hx (y := (⟨"com/example/pareto4/pareto4/front/Keys", "noHigher", "([[DII)Z"⟩ : MethodName)) hown (mvT hZ (hw _ (List.mem_of_getElem? (i := 12) rfl))) (mvT hZ (hw _ (List.mem_of_getElem? (i := 13) rfl))) (mvT hZ (hw _ (List.mem_of_getElem? (i := 14) rfl))) (mvT hZ (hw _ (List.mem_of_getElem? (i := 15) rfl))) (by decide) (backOf (W := 0) (own_rmNH2 l Z a0 hw [] b280 A B k280 b1 k1 (own_dv x1 (0 : Int32)) (own_dv x1 (4 : Int32)) (own_dv x1 (8 : Int32)) b18 k18 (own_dv x1 (12 : Int32)) (own_dv x1 (16 : Int32)) (own_dv x1 (20 : Int32)) hpt n0 Zpt hA0 hA1 hB0 hB1 Pf346_1 Pf346_3 Pf346_9) hZ (hw _ (List.mem_of_getElem? (i := 15) rfl)) (hw _ (List.mem_of_getElem? (i := 14) rfl)) (by decide) (by decide)) (g := (mkF m 395 #[.val (.int x0), .val (.long x1), .second, .val (.int W), .val (.int A), .val (.int B), .val (.ref b1), .val (.ref b18), .val (.ref b43), .val (.ref b78), .val (.ref b118), .val (.ref b164), .val (.ref b280), .val (.int (0 : Int32)), .val (.int (0 : Int32)), .val (.int (0 : Int32)), .val (.int (1 : Int32))] [(.int B), (.int A), (.ref b280)])) rfl (by rw [hml]; rfl) (argsL := [(.ref b280), (.int A), (.int B)]) (rest := []) (lenOf own_pd_paaDIIqZ rfl) rfl (by show 2 * 0 + _ ≤ _; exact Nat.le_of_eq rfl) (hb hby at_395) (fun _ _ => ⟨rfl, Ept, (by decide : 7 + 0 ≤ _), (by decide : 20 + 0 ≤ _)⟩)
  dsimp only [Pt.U, Pt.locs, Pt.cells, Pt.slots] at X347 l347 y347 z347 st347 hQ347
  subst l347 y347 z347
  obtain ⟨hv347, Nq347, hp347_0⟩ := hQ347
  have N347 := Fr.app Npt Nq347
  by_cases hc348 : ((0 : Int32) < (cmpValue (FP.dcmp (own_at (own_dv x1 (0 : Int32)) (own_dv x1 (4 : Int32)) (own_dv x1 (8 : Int32)) A) (own_at (own_dv x1 (0 : Int32)) (own_dv x1 (4 : Int32)) (own_dv x1 (8 : Int32)) B)) .l)) ∨ ((0 : Int32) < (cmpValue (FP.dcmp (own_at (own_dv x1 (12 : Int32)) (own_dv x1 (16 : Int32)) (own_dv x1 (20 : Int32)) A) (own_at (own_dv x1 (12 : Int32)) (own_dv x1 (16 : Int32)) (own_dv x1 (20 : Int32)) B)) .l))
  · exact absurd hc348 (fun q => q.elim (fun q => Ph346_48 ((own_row x1 (0 : Int32) (4 : Int32) (8 : Int32) A B hA0 hA1 hB0 hB1).mp q)) (fun q => Ph346_50 ((own_row x1 (12 : Int32) (16 : Int32) (20 : Int32) A B hA0 hA1 hB0 hB1).mp q)))
  · rw [if_neg hc348] at hv347
    subst hv347
    refine Goes.to st347 ?_
    show Goes p.tables e below (T347.setTop (mkF m 398 #[.val (.int x0), .val (.long x1), .second, .val (.int W), .val (.int A), .val (.int B), .val (.ref b1), .val (.ref b18), .val (.ref b43), .val (.ref b78), .val (.ref b118), .val (.ref b164), .val (.ref b280), .val (.int (0 : Int32)), .val (.int (0 : Int32)), .val (.int (0 : Int32)), .val (.int (1 : Int32))] [(.int (1 : Int32))])) _
    refine Goes.to (fun _ k => XS.iload X347.here hx rfl (hb hby at_398) rfl k) ?_
    show Goes p.tables e below (T347.setTop (mkF m 400 #[.val (.int x0), .val (.long x1), .second, .val (.int W), .val (.int A), .val (.int B), .val (.ref b1), .val (.ref b18), .val (.ref b43), .val (.ref b78), .val (.ref b118), .val (.ref b164), .val (.ref b280), .val (.int (0 : Int32)), .val (.int (0 : Int32)), .val (.int (0 : Int32)), .val (.int (1 : Int32))] [(.int (1 : Int32)), (.int (1 : Int32))])) _
    refine Goes.to (fun _ k => XS.icmpNo X347.here hx rfl (hb hby at_400) rfl (teq (by decide : (1 : Int32) = (1 : Int32))).2 k) ?_
    show Goes p.tables e below (T347.setTop (mkF m 403 #[.val (.int x0), .val (.long x1), .second, .val (.int W), .val (.int A), .val (.int B), .val (.ref b1), .val (.ref b18), .val (.ref b43), .val (.ref b78), .val (.ref b118), .val (.ref b164), .val (.ref b280), .val (.int (0 : Int32)), .val (.int (0 : Int32)), .val (.int (0 : Int32)), .val (.int (1 : Int32))] [])) _
    refine Goes.to (fun _ k => XS.iconst X347.here hx rfl (hb hby at_403) k) ?_
    show Goes p.tables e below (T347.setTop (mkF m 404 #[.val (.int x0), .val (.long x1), .second, .val (.int W), .val (.int A), .val (.int B), .val (.ref b1), .val (.ref b18), .val (.ref b43), .val (.ref b78), .val (.ref b118), .val (.ref b164), .val (.ref b280), .val (.int (0 : Int32)), .val (.int (0 : Int32)), .val (.int (0 : Int32)), .val (.int (1 : Int32))] [(.int (1 : Int32))])) _
    refine Goes.to (fun _ k => XS.goto X347.here hx rfl (pc0 := 404) (pc' := 408) rfl (hb hby at_404) (by decide) (by decide) k) ?_
    show Goes p.tables e below (T347.setTop (mkF m 408 #[.val (.int x0), .val (.long x1), .second, .val (.int W), .val (.int A), .val (.int B), .val (.ref b1), .val (.ref b18), .val (.ref b43), .val (.ref b78), .val (.ref b118), .val (.ref b164), .val (.ref b280), .val (.int (0 : Int32)), .val (.int (0 : Int32)), .val (.int (0 : Int32)), .val (.int (1 : Int32))] [(.int (1 : Int32))])) _
    obtain ⟨fs, hr, hrun, hended, hW, hsame⟩ := X347.leave (v := some (.int (1 : Int32))) (fun h => by rw [Bd.returns] at h; cases h)
    have hv : (some (.int (1 : Int32)) : Option Value) = some (.int (1 : Int32)) := by
      rfl
    exact ⟨_, _, retN X347 hx (t := .boolean) Bd.returns (by simp) (hb hby at_408) hr, hrun, hended, _, _, rfl, ⟨hv, N347⟩, ⟨_, rfl⟩, hW, hsame.mono (by decide) (by decide)⟩
set_option maxRecDepth 65536 in
set_option maxHeartbeats 40000000 in
theorem own_pt_own_rm0_308 (l : Launch) (Z : State) (a0 : Array Value) (hw : ∀ d ∈ tables_1, d.before a0 Z = true) (ws : List Jvm.Cond) (x0 : Int32) (x1 : Int64)  (h0 : Heap) (n0 : Nat) (Z0 : n0 ≤ h0.size) 
    {p : Program} {e : Env} {s : State} {m : MethodId} {below : List Frame} {meth : Method} {c : Code} {s₁ : State} (Bd : BodyLoose p l x (head1 (Jvm.Cond.code x code maxLocals ret :: ws) room_1) code maxLocals ret e s m #[(.int x0), (.long x1)] below meth c s₁) (hml0 : c.maxLocals = maxLocals) (hh : s.heap = h0) (hZ : Z.Warmed39 s.vm)
    (b1 : Addr) (k1 : ClassId) (b18 : Addr) (k18 : ClassId) (b43 : Addr) (k43 : ClassId) (b78 : Addr) (k78 : ClassId) (b118 : Addr) (k118 : ClassId) (b164 : Addr) (k164 : ClassId) (b280 : Addr) (k280 : ClassId) (W : Int32) (A : Int32) (B : Int32)
    (Tpt : State) (lpt : List Loc)  (hpt : Heap)
    (Xpt : Stand p l e room_1 s m #[(.int x0), (.long x1)] below meth c Tpt lpt 7 20) (Ept : Tpt.heap = hpt) (Npt : Fr n0 lpt) (Zpt : n0 ≤ hpt.size) 
    (Pf308_0 : Exa Z hpt b1 "[D")
    (Pf308_1 : Arv Z hpt b1 k1 .double (3 : Int32) [(.double (own_dv x1 (0 : Int32))), (.double (own_dv x1 (4 : Int32))), (.double (own_dv x1 (8 : Int32)))] (.double (0 : UInt64)))
    (Pf308_2 : Exa Z hpt b18 "[D")
    (Pf308_3 : Arv Z hpt b18 k18 .double (3 : Int32) [(.double (own_dv x1 (12 : Int32))), (.double (own_dv x1 (16 : Int32))), (.double (own_dv x1 (20 : Int32)))] (.double (0 : UInt64)))
    (Pf308_4 : Exa Z hpt b43 "[D")
    (Pf308_5 : Arv Z hpt b43 k43 .double (3 : Int32) [(.double (own_dv x1 (24 : Int32))), (.double (own_dv x1 (28 : Int32))), (.double (own_dv x1 (32 : Int32)))] (.double (0 : UInt64)))
    (Pf308_6 : Arv Z hpt b78 k78 .int (3 : Int32) [(.int (own_iv x1 (0 : Int32))), (.int (own_iv x1 (4 : Int32))), (.int (own_iv x1 (8 : Int32)))] (.int (0 : Int32)))
    (Pf308_7 : Arv Z hpt b118 k118 .int (3 : Int32) [(.int (own_iv x1 (12 : Int32))), (.int (own_iv x1 (16 : Int32))), (.int (own_iv x1 (20 : Int32)))] (.int (0 : Int32)))
    (Pf308_8 : Arv Z hpt b164 k164 .int (3 : Int32) [(.int (own_iv x1 (24 : Int32))), (.int (own_iv x1 (28 : Int32))), (.int (own_iv x1 (32 : Int32)))] (.int (0 : Int32)))
    (Pf308_9 : Arv Z hpt b280 k280 (.array .double) (2 : Int32) [(.ref b1), .null] .null)
    (Pg308_10 : n0 ≤ b1)
    (Pn308_11 : b1 ≠ b18)
    (Pg308_12 : n0 ≤ b18)
    (Pn308_13 : b1 ≠ b43)
    (Pn308_14 : b18 ≠ b43)
    (Pg308_15 : n0 ≤ b43)
    (Pn308_16 : b1 ≠ b78)
    (Pn308_17 : b18 ≠ b78)
    (Pn308_18 : b43 ≠ b78)
    (Pg308_19 : n0 ≤ b78)
    (Pn308_20 : b1 ≠ b118)
    (Pn308_21 : b18 ≠ b118)
    (Pn308_22 : b43 ≠ b118)
    (Pn308_23 : b78 ≠ b118)
    (Pg308_24 : n0 ≤ b118)
    (Pn308_25 : b1 ≠ b164)
    (Pn308_26 : b18 ≠ b164)
    (Pn308_27 : b43 ≠ b164)
    (Pn308_28 : b78 ≠ b164)
    (Pn308_29 : b118 ≠ b164)
    (Pg308_30 : n0 ≤ b164)
    (Po308_31 : OvrA Z k280 .double "[D")
    (Pn308_32 : b1 ≠ b280)
    (Pn308_33 : b18 ≠ b280)
    (Pn308_34 : b43 ≠ b280)
    (Pn308_35 : b78 ≠ b280)
    (Pn308_36 : b118 ≠ b280)
    (Pn308_37 : b164 ≠ b280)
    (Pg308_38 : n0 ≤ b280)
    (hA0 : ¬ (A < (0 : Int32)))
    (hA1 : A < (3 : Int32))
    (hB0 : ¬ (B < (0 : Int32)))
    (hB1 : B < (3 : Int32))
    (hnm_W : (x0 &&& (3 : Int32)) = W)
    (Ph308_44 : ¬ (W = (0 : Int32)))
    (Ph308_45 : ¬ (W = (1 : Int32)))
    (Ph308_46 : W = (2 : Int32))
    : Goes p.tables e below (Tpt.setTop (mkF m 261 #[.val (.int x0), .val (.long x1), .second, .val (.int W), .val (.int A), .val (.int B), .val (.ref b1), .val (.ref b18), .val (.ref b43), .val (.ref b78), .val (.ref b118), .val (.ref b164), .unset, .unset, .unset, .unset, .unset] [(.ref b280)])) (own_R below s (own_Q_own_rm0 Z x0 x1 h0 n0) 7 21) := by
  have hx := Bd.exec
  have hby := Bd.bytes
  have hml : c.maxLocals = 17 := hml0
  have hnm := (name_of_methodNamed Bd.named Bd.method).1
  have hown : s.vm.findClass "com/example/pareto4/pareto4/front/KeysNoHigherPinLaw" = some m.cls := findClass_of_methodNamed Bd.named
  show Goes p.tables e below (Tpt.setTop (mkF m 261 #[.val (.int x0), .val (.long x1), .second, .val (.int W), .val (.int A), .val (.int B), .val (.ref b1), .val (.ref b18), .val (.ref b43), .val (.ref b78), .val (.ref b118), .val (.ref b164), .unset, .unset, .unset, .unset, .unset] [(.ref b280)])) _
  refine Goes.to (fun _ k => XS.dup Xpt.here hx rfl (hb hby at_261) rfl rfl k) ?_
  show Goes p.tables e below (Tpt.setTop (mkF m 262 #[.val (.int x0), .val (.long x1), .second, .val (.int W), .val (.int A), .val (.int B), .val (.ref b1), .val (.ref b18), .val (.ref b43), .val (.ref b78), .val (.ref b118), .val (.ref b164), .unset, .unset, .unset, .unset, .unset] [(.ref b280), (.ref b280)])) _
  refine Goes.to (fun _ k => XS.iconst Xpt.here hx rfl (hb hby at_262) k) ?_
  show Goes p.tables e below (Tpt.setTop (mkF m 263 #[.val (.int x0), .val (.long x1), .second, .val (.int W), .val (.int A), .val (.int B), .val (.ref b1), .val (.ref b18), .val (.ref b43), .val (.ref b78), .val (.ref b118), .val (.ref b164), .unset, .unset, .unset, .unset, .unset] [(.int (1 : Int32)), (.ref b280), (.ref b280)])) _
  refine Goes.to (fun _ k => XS.aload Xpt.here hx rfl (hb hby at_263) rfl rfl k) ?_
  show Goes p.tables e below (Tpt.setTop (mkF m 265 #[.val (.int x0), .val (.long x1), .second, .val (.int W), .val (.int A), .val (.int B), .val (.ref b1), .val (.ref b18), .val (.ref b43), .val (.ref b78), .val (.ref b118), .val (.ref b164), .unset, .unset, .unset, .unset, .unset] [(.ref b18), (.int (1 : Int32)), (.ref b280), (.ref b280)])) _
  obtain ⟨cl309, Ar309, q309, S309, N309, H309, G309⟩ := id Pf308_9
  have hin309 : ¬ ((1 : Int32) < 0 ∨ cl309.slots.size ≤ ((1 : Int32)).toNatClampNeg) := inb_of S309 ⟨by decide, by decide⟩
  obtain ⟨T310, h310, X310, e310, W310, st310⟩ := stR Xpt hx hZ Ept Ar309 (j := (1 : Int32)) hin309 rfl (Sto.ofVA Ar309 q309 Po308_31 (Ins.self Pf308_2)) (g := (mkF m 265 #[.val (.int x0), .val (.long x1), .second, .val (.int W), .val (.int A), .val (.int B), .val (.ref b1), .val (.ref b18), .val (.ref b43), .val (.ref b78), .val (.ref b118), .val (.ref b164), .unset, .unset, .unset, .unset, .unset] [(.ref b18), (.int (1 : Int32)), (.ref b280), (.ref b280)])) rfl rfl (hb hby at_265)
  subst e310
  have F311 := Pf308_0.wr W310
  have F312 := Pf308_1.other W310 Pn308_32
  have F313 := Pf308_2.wr W310
  have F314 := Pf308_3.other W310 Pn308_33
  have F315 := Pf308_4.wr W310
  have F316 := Pf308_5.other W310 Pn308_34
  have F317 := Pf308_6.other W310 Pn308_35
  have F318 := Pf308_7.other W310 Pn308_36
  have F319 := Pf308_8.other W310 Pn308_37
  have N310 := Fr.snoc X310 Npt Pg308_38
  have Z310 : n0 ≤ T310.heap.size := Nat.le_trans Zpt (Nat.le_of_eq W310.size.symm)
  have V310 : Arv Z T310.heap b280 k280 (.array .double) (2 : Int32) [(.ref b1), (.ref b18)] .null := Arv.set Ar309 q309 S309 N309 H309 G309 rfl W310 1 rfl (Nat.le_of_ble_eq_true rfl)
  refine Goes.to st310 ?_
  show Goes p.tables e below (T310.setTop (mkF m 266 #[.val (.int x0), .val (.long x1), .second, .val (.int W), .val (.int A), .val (.int B), .val (.ref b1), .val (.ref b18), .val (.ref b43), .val (.ref b78), .val (.ref b118), .val (.ref b164), .unset, .unset, .unset, .unset, .unset] [(.ref b280)])) _
  refine Goes.to (fun _ k => XS.astore X310.here hx rfl (hb hby at_266) rfl rfl (l' := #[.val (.int x0), .val (.long x1), .second, .val (.int W), .val (.int A), .val (.int B), .val (.ref b1), .val (.ref b18), .val (.ref b43), .val (.ref b78), .val (.ref b118), .val (.ref b164), .val (.ref b280), .unset, .unset, .unset, .unset]) rfl k) ?_
  show Goes p.tables e below (T310.setTop (mkF m 268 #[.val (.int x0), .val (.long x1), .second, .val (.int W), .val (.int A), .val (.int B), .val (.ref b1), .val (.ref b18), .val (.ref b43), .val (.ref b78), .val (.ref b118), .val (.ref b164), .val (.ref b280), .unset, .unset, .unset, .unset] [])) _
  refine Goes.to (fun _ k => XS.goto X310.here hx rfl (pc0 := 268) (pc' := 292) rfl (hb hby at_268) (by decide) (by decide) k) ?_
  show Goes p.tables e below (T310.setTop (mkF m 292 #[.val (.int x0), .val (.long x1), .second, .val (.int W), .val (.int A), .val (.int B), .val (.ref b1), .val (.ref b18), .val (.ref b43), .val (.ref b78), .val (.ref b118), .val (.ref b164), .val (.ref b280), .unset, .unset, .unset, .unset] [])) _
  refine Goes.to (fun _ k => XS.iloadN X310.here hx rfl (hb hby at_292) rfl k) ?_
  show Goes p.tables e below (T310.setTop (mkF m 293 #[.val (.int x0), .val (.long x1), .second, .val (.int W), .val (.int A), .val (.int B), .val (.ref b1), .val (.ref b18), .val (.ref b43), .val (.ref b78), .val (.ref b118), .val (.ref b164), .val (.ref b280), .unset, .unset, .unset, .unset] [(.int W)])) _
  refine Goes.to (fun _ k => XS.iconst X310.here hx rfl (hb hby at_293) k) ?_
  show Goes p.tables e below (T310.setTop (mkF m 294 #[.val (.int x0), .val (.long x1), .second, .val (.int W), .val (.int A), .val (.int B), .val (.ref b1), .val (.ref b18), .val (.ref b43), .val (.ref b78), .val (.ref b118), .val (.ref b164), .val (.ref b280), .unset, .unset, .unset, .unset] [(.int (1 : Int32)), (.int W)])) _
  by_cases hc321 : W < (1 : Int32)
  · exfalso
    rw [Ph308_46] at hc321
    exact absurd hc321 (by decide)
  · refine Goes.to (fun _ k => XS.icmpNo X310.here hx rfl (hb hby at_294) rfl (flt hc321).1 k) ?_
    show Goes p.tables e below (T310.setTop (mkF m 297 #[.val (.int x0), .val (.long x1), .second, .val (.int W), .val (.int A), .val (.int B), .val (.ref b1), .val (.ref b18), .val (.ref b43), .val (.ref b78), .val (.ref b118), .val (.ref b164), .val (.ref b280), .unset, .unset, .unset, .unset] [])) _
    refine Goes.to (fun _ k => XS.aload X310.here hx rfl (hb hby at_297) rfl rfl k) ?_
    show Goes p.tables e below (T310.setTop (mkF m 299 #[.val (.int x0), .val (.long x1), .second, .val (.int W), .val (.int A), .val (.int B), .val (.ref b1), .val (.ref b18), .val (.ref b43), .val (.ref b78), .val (.ref b118), .val (.ref b164), .val (.ref b280), .unset, .unset, .unset, .unset] [(.ref b78)])) _
    refine Goes.to (fun _ k => XS.iload X310.here hx rfl (hb hby at_299) rfl k) ?_
    show Goes p.tables e below (T310.setTop (mkF m 301 #[.val (.int x0), .val (.long x1), .second, .val (.int W), .val (.int A), .val (.int B), .val (.ref b1), .val (.ref b18), .val (.ref b43), .val (.ref b78), .val (.ref b118), .val (.ref b164), .val (.ref b280), .unset, .unset, .unset, .unset] [(.int A), (.ref b78)])) _
    obtain ⟨cl322, Ar322, q322, S322, N322, H322, G322⟩ := id F317
    have hin322 : ¬ (A < 0 ∨ cl322.slots.size ≤ (A).toNatClampNeg) := by
      have k1 := rng32 A
      have k2 : (0 : Int32).toInt = 0 := rfl
      have k3 : ¬ A.toInt < (0 : Int32).toInt := fun z => hA0 (Int32.lt_iff_toInt_lt.mpr z)
      have k4 : (3 : Int32).toInt = 3 := rfl
      have k5 : A.toInt < (3 : Int32).toInt := Int32.lt_iff_toInt_lt.mp hA1
      have k6 := rng32 B
      have k7 : ¬ B.toInt < (0 : Int32).toInt := fun z => hB0 (Int32.lt_iff_toInt_lt.mpr z)
      have k8 : B.toInt < (3 : Int32).toInt := Int32.lt_iff_toInt_lt.mp hB1
      have k9 := rng32 x0
      have k10 : (x0 &&& (3 : Int32)).toInt = x0.toInt % 4 := c_mask x0 (3 : Int32) 2 (by decide) (by decide)
      have k11 := rng32 W
      have k12 : (x0 &&& (3 : Int32)).toInt = W.toInt := congrArg Int32.toInt hnm_W
      have k13 : ¬ W.toInt = (0 : Int32).toInt := fun z => Ph308_44 (Int32.toInt_inj.mp z)
      have k14 : (1 : Int32).toInt = 1 := rfl
      have k15 : ¬ W.toInt = (1 : Int32).toInt := fun z => Ph308_45 (Int32.toInt_inj.mp z)
      have k16 : (2 : Int32).toInt = 2 := rfl
      have k17 : W.toInt = (2 : Int32).toInt := congrArg Int32.toInt Ph308_46
      have k18 : ¬ W.toInt < (1 : Int32).toInt := fun z => hc321 (Int32.lt_iff_toInt_lt.mpr z)
      refine inb_of S322 ⟨fun hq => ?_, Int32.lt_iff_toInt_lt.mpr ?_⟩
      · have hq' := Int32.lt_iff_toInt_lt.mp hq
        omega
      · omega
    have hat322 : cl322.slots[(A).toNatClampNeg]? = some (.int (own_iat (own_iv x1 (0 : Int32)) (own_iv x1 (4 : Int32)) (own_iv x1 (8 : Int32)) A)) := Has.at H322 hin322 (own_iat_eq (own_iv x1 (0 : Int32)) (own_iv x1 (4 : Int32)) (own_iv x1 (8 : Int32)) A)
    refine Goes.to (fun _ k => X310.iaload hx (j := A) (v := (.int (own_iat (own_iv x1 (0 : Int32)) (own_iv x1 (4 : Int32)) (own_iv x1 (8 : Int32)) A))) Ar322.1 (State.isArrayOf_alike hZ.alike Ar322.2.1) Ar322.2.2 hin322 hat322 (g := (mkF m 301 #[.val (.int x0), .val (.long x1), .second, .val (.int W), .val (.int A), .val (.int B), .val (.ref b1), .val (.ref b18), .val (.ref b43), .val (.ref b78), .val (.ref b118), .val (.ref b164), .val (.ref b280), .unset, .unset, .unset, .unset] [(.int A), (.ref b78)])) rfl rfl (hb hby at_301) _ k) ?_
    show Goes p.tables e below (T310.setTop (mkF m 302 #[.val (.int x0), .val (.long x1), .second, .val (.int W), .val (.int A), .val (.int B), .val (.ref b1), .val (.ref b18), .val (.ref b43), .val (.ref b78), .val (.ref b118), .val (.ref b164), .val (.ref b280), .unset, .unset, .unset, .unset] [(.int (own_iat (own_iv x1 (0 : Int32)) (own_iv x1 (4 : Int32)) (own_iv x1 (8 : Int32)) A))])) _
    refine Goes.to (fun _ k => XS.aload X310.here hx rfl (hb hby at_302) rfl rfl k) ?_
    show Goes p.tables e below (T310.setTop (mkF m 304 #[.val (.int x0), .val (.long x1), .second, .val (.int W), .val (.int A), .val (.int B), .val (.ref b1), .val (.ref b18), .val (.ref b43), .val (.ref b78), .val (.ref b118), .val (.ref b164), .val (.ref b280), .unset, .unset, .unset, .unset] [(.ref b78), (.int (own_iat (own_iv x1 (0 : Int32)) (own_iv x1 (4 : Int32)) (own_iv x1 (8 : Int32)) A))])) _
    refine Goes.to (fun _ k => XS.iload X310.here hx rfl (hb hby at_304) rfl k) ?_
    show Goes p.tables e below (T310.setTop (mkF m 306 #[.val (.int x0), .val (.long x1), .second, .val (.int W), .val (.int A), .val (.int B), .val (.ref b1), .val (.ref b18), .val (.ref b43), .val (.ref b78), .val (.ref b118), .val (.ref b164), .val (.ref b280), .unset, .unset, .unset, .unset] [(.int B), (.ref b78), (.int (own_iat (own_iv x1 (0 : Int32)) (own_iv x1 (4 : Int32)) (own_iv x1 (8 : Int32)) A))])) _
    obtain ⟨cl323, Ar323, q323, S323, N323, H323, G323⟩ := id F317
    have hin323 : ¬ (B < 0 ∨ cl323.slots.size ≤ (B).toNatClampNeg) := by
      have k1 := rng32 A
      have k2 : (0 : Int32).toInt = 0 := rfl
      have k3 : ¬ A.toInt < (0 : Int32).toInt := fun z => hA0 (Int32.lt_iff_toInt_lt.mpr z)
      have k4 : (3 : Int32).toInt = 3 := rfl
      have k5 : A.toInt < (3 : Int32).toInt := Int32.lt_iff_toInt_lt.mp hA1
      have k6 := rng32 B
      have k7 : ¬ B.toInt < (0 : Int32).toInt := fun z => hB0 (Int32.lt_iff_toInt_lt.mpr z)
      have k8 : B.toInt < (3 : Int32).toInt := Int32.lt_iff_toInt_lt.mp hB1
      have k9 := rng32 x0
      have k10 : (x0 &&& (3 : Int32)).toInt = x0.toInt % 4 := c_mask x0 (3 : Int32) 2 (by decide) (by decide)
      have k11 := rng32 W
      have k12 : (x0 &&& (3 : Int32)).toInt = W.toInt := congrArg Int32.toInt hnm_W
      have k13 : ¬ W.toInt = (0 : Int32).toInt := fun z => Ph308_44 (Int32.toInt_inj.mp z)
      have k14 : (1 : Int32).toInt = 1 := rfl
      have k15 : ¬ W.toInt = (1 : Int32).toInt := fun z => Ph308_45 (Int32.toInt_inj.mp z)
      have k16 : (2 : Int32).toInt = 2 := rfl
      have k17 : W.toInt = (2 : Int32).toInt := congrArg Int32.toInt Ph308_46
      have k18 : ¬ W.toInt < (1 : Int32).toInt := fun z => hc321 (Int32.lt_iff_toInt_lt.mpr z)
      refine inb_of S323 ⟨fun hq => ?_, Int32.lt_iff_toInt_lt.mpr ?_⟩
      · have hq' := Int32.lt_iff_toInt_lt.mp hq
        omega
      · omega
    have hat323 : cl323.slots[(B).toNatClampNeg]? = some (.int (own_iat (own_iv x1 (0 : Int32)) (own_iv x1 (4 : Int32)) (own_iv x1 (8 : Int32)) B)) := Has.at H323 hin323 (own_iat_eq (own_iv x1 (0 : Int32)) (own_iv x1 (4 : Int32)) (own_iv x1 (8 : Int32)) B)
    refine Goes.to (fun _ k => X310.iaload hx (j := B) (v := (.int (own_iat (own_iv x1 (0 : Int32)) (own_iv x1 (4 : Int32)) (own_iv x1 (8 : Int32)) B))) Ar323.1 (State.isArrayOf_alike hZ.alike Ar323.2.1) Ar323.2.2 hin323 hat323 (g := (mkF m 306 #[.val (.int x0), .val (.long x1), .second, .val (.int W), .val (.int A), .val (.int B), .val (.ref b1), .val (.ref b18), .val (.ref b43), .val (.ref b78), .val (.ref b118), .val (.ref b164), .val (.ref b280), .unset, .unset, .unset, .unset] [(.int B), (.ref b78), (.int (own_iat (own_iv x1 (0 : Int32)) (own_iv x1 (4 : Int32)) (own_iv x1 (8 : Int32)) A))])) rfl rfl (hb hby at_306) _ k) ?_
    show Goes p.tables e below (T310.setTop (mkF m 307 #[.val (.int x0), .val (.long x1), .second, .val (.int W), .val (.int A), .val (.int B), .val (.ref b1), .val (.ref b18), .val (.ref b43), .val (.ref b78), .val (.ref b118), .val (.ref b164), .val (.ref b280), .unset, .unset, .unset, .unset] [(.int (own_iat (own_iv x1 (0 : Int32)) (own_iv x1 (4 : Int32)) (own_iv x1 (8 : Int32)) B)), (.int (own_iat (own_iv x1 (0 : Int32)) (own_iv x1 (4 : Int32)) (own_iv x1 (8 : Int32)) A))])) _
    by_cases hc324 : (own_iat (own_iv x1 (0 : Int32)) (own_iv x1 (4 : Int32)) (own_iv x1 (8 : Int32)) B) < (own_iat (own_iv x1 (0 : Int32)) (own_iv x1 (4 : Int32)) (own_iv x1 (8 : Int32)) A)
    · refine Goes.to (fun _ k => XS.icmpNo X310.here hx rfl (hb hby at_307) rfl (tlt hc324).2.2.2 k) ?_
      show Goes p.tables e below (T310.setTop (mkF m 310 #[.val (.int x0), .val (.long x1), .second, .val (.int W), .val (.int A), .val (.int B), .val (.ref b1), .val (.ref b18), .val (.ref b43), .val (.ref b78), .val (.ref b118), .val (.ref b164), .val (.ref b280), .unset, .unset, .unset, .unset] [])) _
      refine Goes.to (fun _ k => XS.iconst X310.here hx rfl (hb hby at_310) k) ?_
      show Goes p.tables e below (T310.setTop (mkF m 311 #[.val (.int x0), .val (.long x1), .second, .val (.int W), .val (.int A), .val (.int B), .val (.ref b1), .val (.ref b18), .val (.ref b43), .val (.ref b78), .val (.ref b118), .val (.ref b164), .val (.ref b280), .unset, .unset, .unset, .unset] [(.int (1 : Int32))])) _
      refine Goes.to (fun _ k => XS.goto X310.here hx rfl (pc0 := 311) (pc' := 315) rfl (hb hby at_311) (by decide) (by decide) k) ?_
      show Goes p.tables e below (T310.setTop (mkF m 315 #[.val (.int x0), .val (.long x1), .second, .val (.int W), .val (.int A), .val (.int B), .val (.ref b1), .val (.ref b18), .val (.ref b43), .val (.ref b78), .val (.ref b118), .val (.ref b164), .val (.ref b280), .unset, .unset, .unset, .unset] [(.int (1 : Int32))])) _
      refine Goes.to (fun _ k => XS.istore X310.here hx rfl (hb hby at_315) rfl (l' := #[.val (.int x0), .val (.long x1), .second, .val (.int W), .val (.int A), .val (.int B), .val (.ref b1), .val (.ref b18), .val (.ref b43), .val (.ref b78), .val (.ref b118), .val (.ref b164), .val (.ref b280), .val (.int (1 : Int32)), .unset, .unset, .unset]) rfl k) ?_
      show Goes p.tables e below (T310.setTop (mkF m 317 #[.val (.int x0), .val (.long x1), .second, .val (.int W), .val (.int A), .val (.int B), .val (.ref b1), .val (.ref b18), .val (.ref b43), .val (.ref b78), .val (.ref b118), .val (.ref b164), .val (.ref b280), .val (.int (1 : Int32)), .unset, .unset, .unset] [])) _
      refine Goes.to (fun _ k => XS.iloadN X310.here hx rfl (hb hby at_317) rfl k) ?_
      show Goes p.tables e below (T310.setTop (mkF m 318 #[.val (.int x0), .val (.long x1), .second, .val (.int W), .val (.int A), .val (.int B), .val (.ref b1), .val (.ref b18), .val (.ref b43), .val (.ref b78), .val (.ref b118), .val (.ref b164), .val (.ref b280), .val (.int (1 : Int32)), .unset, .unset, .unset] [(.int W)])) _
      refine Goes.to (fun _ k => XS.iconst X310.here hx rfl (hb hby at_318) k) ?_
      show Goes p.tables e below (T310.setTop (mkF m 319 #[.val (.int x0), .val (.long x1), .second, .val (.int W), .val (.int A), .val (.int B), .val (.ref b1), .val (.ref b18), .val (.ref b43), .val (.ref b78), .val (.ref b118), .val (.ref b164), .val (.ref b280), .val (.int (1 : Int32)), .unset, .unset, .unset] [(.int (2 : Int32)), (.int W)])) _
      by_cases hc325 : W < (2 : Int32)
      · exfalso
        rw [Ph308_46] at hc325
        exact absurd hc325 (by decide)
      · refine Goes.to (fun _ k => XS.icmpNo X310.here hx rfl (hb hby at_319) rfl (flt hc325).1 k) ?_
        show Goes p.tables e below (T310.setTop (mkF m 322 #[.val (.int x0), .val (.long x1), .second, .val (.int W), .val (.int A), .val (.int B), .val (.ref b1), .val (.ref b18), .val (.ref b43), .val (.ref b78), .val (.ref b118), .val (.ref b164), .val (.ref b280), .val (.int (1 : Int32)), .unset, .unset, .unset] [])) _
        refine Goes.to (fun _ k => XS.aload X310.here hx rfl (hb hby at_322) rfl rfl k) ?_
        show Goes p.tables e below (T310.setTop (mkF m 324 #[.val (.int x0), .val (.long x1), .second, .val (.int W), .val (.int A), .val (.int B), .val (.ref b1), .val (.ref b18), .val (.ref b43), .val (.ref b78), .val (.ref b118), .val (.ref b164), .val (.ref b280), .val (.int (1 : Int32)), .unset, .unset, .unset] [(.ref b118)])) _
        refine Goes.to (fun _ k => XS.iload X310.here hx rfl (hb hby at_324) rfl k) ?_
        show Goes p.tables e below (T310.setTop (mkF m 326 #[.val (.int x0), .val (.long x1), .second, .val (.int W), .val (.int A), .val (.int B), .val (.ref b1), .val (.ref b18), .val (.ref b43), .val (.ref b78), .val (.ref b118), .val (.ref b164), .val (.ref b280), .val (.int (1 : Int32)), .unset, .unset, .unset] [(.int A), (.ref b118)])) _
        obtain ⟨cl326, Ar326, q326, S326, N326, H326, G326⟩ := id F318
        have hin326 : ¬ (A < 0 ∨ cl326.slots.size ≤ (A).toNatClampNeg) := by
          have k1 := rng32 A
          have k2 : (0 : Int32).toInt = 0 := rfl
          have k3 : ¬ A.toInt < (0 : Int32).toInt := fun z => hA0 (Int32.lt_iff_toInt_lt.mpr z)
          have k4 : (3 : Int32).toInt = 3 := rfl
          have k5 : A.toInt < (3 : Int32).toInt := Int32.lt_iff_toInt_lt.mp hA1
          have k6 := rng32 B
          have k7 : ¬ B.toInt < (0 : Int32).toInt := fun z => hB0 (Int32.lt_iff_toInt_lt.mpr z)
          have k8 : B.toInt < (3 : Int32).toInt := Int32.lt_iff_toInt_lt.mp hB1
          have k9 := rng32 x0
          have k10 : (x0 &&& (3 : Int32)).toInt = x0.toInt % 4 := c_mask x0 (3 : Int32) 2 (by decide) (by decide)
          have k11 := rng32 W
          have k12 : (x0 &&& (3 : Int32)).toInt = W.toInt := congrArg Int32.toInt hnm_W
          have k13 : ¬ W.toInt = (0 : Int32).toInt := fun z => Ph308_44 (Int32.toInt_inj.mp z)
          have k14 : (1 : Int32).toInt = 1 := rfl
          have k15 : ¬ W.toInt = (1 : Int32).toInt := fun z => Ph308_45 (Int32.toInt_inj.mp z)
          have k16 : (2 : Int32).toInt = 2 := rfl
          have k17 : W.toInt = (2 : Int32).toInt := congrArg Int32.toInt Ph308_46
          have k18 : ¬ W.toInt < (1 : Int32).toInt := fun z => hc321 (Int32.lt_iff_toInt_lt.mpr z)
          have k19 := rng32 (own_iat (own_iv x1 (0 : Int32)) (own_iv x1 (4 : Int32)) (own_iv x1 (8 : Int32)) B)
          have k20 := rng32 (own_iat (own_iv x1 (0 : Int32)) (own_iv x1 (4 : Int32)) (own_iv x1 (8 : Int32)) A)
          have k21 : (own_iat (own_iv x1 (0 : Int32)) (own_iv x1 (4 : Int32)) (own_iv x1 (8 : Int32)) B).toInt < (own_iat (own_iv x1 (0 : Int32)) (own_iv x1 (4 : Int32)) (own_iv x1 (8 : Int32)) A).toInt := Int32.lt_iff_toInt_lt.mp hc324
          have k22 : ¬ W.toInt < (2 : Int32).toInt := fun z => hc325 (Int32.lt_iff_toInt_lt.mpr z)
          refine inb_of S326 ⟨fun hq => ?_, Int32.lt_iff_toInt_lt.mpr ?_⟩
          · have hq' := Int32.lt_iff_toInt_lt.mp hq
            omega
          · omega
        have hat326 : cl326.slots[(A).toNatClampNeg]? = some (.int (own_iat (own_iv x1 (12 : Int32)) (own_iv x1 (16 : Int32)) (own_iv x1 (20 : Int32)) A)) := Has.at H326 hin326 (own_iat_eq (own_iv x1 (12 : Int32)) (own_iv x1 (16 : Int32)) (own_iv x1 (20 : Int32)) A)
        refine Goes.to (fun _ k => X310.iaload hx (j := A) (v := (.int (own_iat (own_iv x1 (12 : Int32)) (own_iv x1 (16 : Int32)) (own_iv x1 (20 : Int32)) A))) Ar326.1 (State.isArrayOf_alike hZ.alike Ar326.2.1) Ar326.2.2 hin326 hat326 (g := (mkF m 326 #[.val (.int x0), .val (.long x1), .second, .val (.int W), .val (.int A), .val (.int B), .val (.ref b1), .val (.ref b18), .val (.ref b43), .val (.ref b78), .val (.ref b118), .val (.ref b164), .val (.ref b280), .val (.int (1 : Int32)), .unset, .unset, .unset] [(.int A), (.ref b118)])) rfl rfl (hb hby at_326) _ k) ?_
        show Goes p.tables e below (T310.setTop (mkF m 327 #[.val (.int x0), .val (.long x1), .second, .val (.int W), .val (.int A), .val (.int B), .val (.ref b1), .val (.ref b18), .val (.ref b43), .val (.ref b78), .val (.ref b118), .val (.ref b164), .val (.ref b280), .val (.int (1 : Int32)), .unset, .unset, .unset] [(.int (own_iat (own_iv x1 (12 : Int32)) (own_iv x1 (16 : Int32)) (own_iv x1 (20 : Int32)) A))])) _
        refine Goes.to (fun _ k => XS.aload X310.here hx rfl (hb hby at_327) rfl rfl k) ?_
        show Goes p.tables e below (T310.setTop (mkF m 329 #[.val (.int x0), .val (.long x1), .second, .val (.int W), .val (.int A), .val (.int B), .val (.ref b1), .val (.ref b18), .val (.ref b43), .val (.ref b78), .val (.ref b118), .val (.ref b164), .val (.ref b280), .val (.int (1 : Int32)), .unset, .unset, .unset] [(.ref b118), (.int (own_iat (own_iv x1 (12 : Int32)) (own_iv x1 (16 : Int32)) (own_iv x1 (20 : Int32)) A))])) _
        refine Goes.to (fun _ k => XS.iload X310.here hx rfl (hb hby at_329) rfl k) ?_
        show Goes p.tables e below (T310.setTop (mkF m 331 #[.val (.int x0), .val (.long x1), .second, .val (.int W), .val (.int A), .val (.int B), .val (.ref b1), .val (.ref b18), .val (.ref b43), .val (.ref b78), .val (.ref b118), .val (.ref b164), .val (.ref b280), .val (.int (1 : Int32)), .unset, .unset, .unset] [(.int B), (.ref b118), (.int (own_iat (own_iv x1 (12 : Int32)) (own_iv x1 (16 : Int32)) (own_iv x1 (20 : Int32)) A))])) _
        obtain ⟨cl327, Ar327, q327, S327, N327, H327, G327⟩ := id F318
        have hin327 : ¬ (B < 0 ∨ cl327.slots.size ≤ (B).toNatClampNeg) := by
          have k1 := rng32 A
          have k2 : (0 : Int32).toInt = 0 := rfl
          have k3 : ¬ A.toInt < (0 : Int32).toInt := fun z => hA0 (Int32.lt_iff_toInt_lt.mpr z)
          have k4 : (3 : Int32).toInt = 3 := rfl
          have k5 : A.toInt < (3 : Int32).toInt := Int32.lt_iff_toInt_lt.mp hA1
          have k6 := rng32 B
          have k7 : ¬ B.toInt < (0 : Int32).toInt := fun z => hB0 (Int32.lt_iff_toInt_lt.mpr z)
          have k8 : B.toInt < (3 : Int32).toInt := Int32.lt_iff_toInt_lt.mp hB1
          have k9 := rng32 x0
          have k10 : (x0 &&& (3 : Int32)).toInt = x0.toInt % 4 := c_mask x0 (3 : Int32) 2 (by decide) (by decide)
          have k11 := rng32 W
          have k12 : (x0 &&& (3 : Int32)).toInt = W.toInt := congrArg Int32.toInt hnm_W
          have k13 : ¬ W.toInt = (0 : Int32).toInt := fun z => Ph308_44 (Int32.toInt_inj.mp z)
          have k14 : (1 : Int32).toInt = 1 := rfl
          have k15 : ¬ W.toInt = (1 : Int32).toInt := fun z => Ph308_45 (Int32.toInt_inj.mp z)
          have k16 : (2 : Int32).toInt = 2 := rfl
          have k17 : W.toInt = (2 : Int32).toInt := congrArg Int32.toInt Ph308_46
          have k18 : ¬ W.toInt < (1 : Int32).toInt := fun z => hc321 (Int32.lt_iff_toInt_lt.mpr z)
          have k19 := rng32 (own_iat (own_iv x1 (0 : Int32)) (own_iv x1 (4 : Int32)) (own_iv x1 (8 : Int32)) B)
          have k20 := rng32 (own_iat (own_iv x1 (0 : Int32)) (own_iv x1 (4 : Int32)) (own_iv x1 (8 : Int32)) A)
          have k21 : (own_iat (own_iv x1 (0 : Int32)) (own_iv x1 (4 : Int32)) (own_iv x1 (8 : Int32)) B).toInt < (own_iat (own_iv x1 (0 : Int32)) (own_iv x1 (4 : Int32)) (own_iv x1 (8 : Int32)) A).toInt := Int32.lt_iff_toInt_lt.mp hc324
          have k22 : ¬ W.toInt < (2 : Int32).toInt := fun z => hc325 (Int32.lt_iff_toInt_lt.mpr z)
          refine inb_of S327 ⟨fun hq => ?_, Int32.lt_iff_toInt_lt.mpr ?_⟩
          · have hq' := Int32.lt_iff_toInt_lt.mp hq
            omega
          · omega
        have hat327 : cl327.slots[(B).toNatClampNeg]? = some (.int (own_iat (own_iv x1 (12 : Int32)) (own_iv x1 (16 : Int32)) (own_iv x1 (20 : Int32)) B)) := Has.at H327 hin327 (own_iat_eq (own_iv x1 (12 : Int32)) (own_iv x1 (16 : Int32)) (own_iv x1 (20 : Int32)) B)
        refine Goes.to (fun _ k => X310.iaload hx (j := B) (v := (.int (own_iat (own_iv x1 (12 : Int32)) (own_iv x1 (16 : Int32)) (own_iv x1 (20 : Int32)) B))) Ar327.1 (State.isArrayOf_alike hZ.alike Ar327.2.1) Ar327.2.2 hin327 hat327 (g := (mkF m 331 #[.val (.int x0), .val (.long x1), .second, .val (.int W), .val (.int A), .val (.int B), .val (.ref b1), .val (.ref b18), .val (.ref b43), .val (.ref b78), .val (.ref b118), .val (.ref b164), .val (.ref b280), .val (.int (1 : Int32)), .unset, .unset, .unset] [(.int B), (.ref b118), (.int (own_iat (own_iv x1 (12 : Int32)) (own_iv x1 (16 : Int32)) (own_iv x1 (20 : Int32)) A))])) rfl rfl (hb hby at_331) _ k) ?_
        show Goes p.tables e below (T310.setTop (mkF m 332 #[.val (.int x0), .val (.long x1), .second, .val (.int W), .val (.int A), .val (.int B), .val (.ref b1), .val (.ref b18), .val (.ref b43), .val (.ref b78), .val (.ref b118), .val (.ref b164), .val (.ref b280), .val (.int (1 : Int32)), .unset, .unset, .unset] [(.int (own_iat (own_iv x1 (12 : Int32)) (own_iv x1 (16 : Int32)) (own_iv x1 (20 : Int32)) B)), (.int (own_iat (own_iv x1 (12 : Int32)) (own_iv x1 (16 : Int32)) (own_iv x1 (20 : Int32)) A))])) _
        by_cases hc328 : (own_iat (own_iv x1 (12 : Int32)) (own_iv x1 (16 : Int32)) (own_iv x1 (20 : Int32)) B) < (own_iat (own_iv x1 (12 : Int32)) (own_iv x1 (16 : Int32)) (own_iv x1 (20 : Int32)) A)
        · refine Goes.to (fun _ k => XS.icmpNo X310.here hx rfl (hb hby at_332) rfl (tlt hc328).2.2.2 k) ?_
          show Goes p.tables e below (T310.setTop (mkF m 335 #[.val (.int x0), .val (.long x1), .second, .val (.int W), .val (.int A), .val (.int B), .val (.ref b1), .val (.ref b18), .val (.ref b43), .val (.ref b78), .val (.ref b118), .val (.ref b164), .val (.ref b280), .val (.int (1 : Int32)), .unset, .unset, .unset] [])) _
          refine Goes.to (fun _ k => XS.iconst X310.here hx rfl (hb hby at_335) k) ?_
          show Goes p.tables e below (T310.setTop (mkF m 336 #[.val (.int x0), .val (.long x1), .second, .val (.int W), .val (.int A), .val (.int B), .val (.ref b1), .val (.ref b18), .val (.ref b43), .val (.ref b78), .val (.ref b118), .val (.ref b164), .val (.ref b280), .val (.int (1 : Int32)), .unset, .unset, .unset] [(.int (1 : Int32))])) _
          refine Goes.to (fun _ k => XS.goto X310.here hx rfl (pc0 := 336) (pc' := 340) rfl (hb hby at_336) (by decide) (by decide) k) ?_
          show Goes p.tables e below (T310.setTop (mkF m 340 #[.val (.int x0), .val (.long x1), .second, .val (.int W), .val (.int A), .val (.int B), .val (.ref b1), .val (.ref b18), .val (.ref b43), .val (.ref b78), .val (.ref b118), .val (.ref b164), .val (.ref b280), .val (.int (1 : Int32)), .unset, .unset, .unset] [(.int (1 : Int32))])) _
          refine Goes.to (fun _ k => XS.istore X310.here hx rfl (hb hby at_340) rfl (l' := #[.val (.int x0), .val (.long x1), .second, .val (.int W), .val (.int A), .val (.int B), .val (.ref b1), .val (.ref b18), .val (.ref b43), .val (.ref b78), .val (.ref b118), .val (.ref b164), .val (.ref b280), .val (.int (1 : Int32)), .val (.int (1 : Int32)), .unset, .unset]) rfl k) ?_
          show Goes p.tables e below (T310.setTop (mkF m 342 #[.val (.int x0), .val (.long x1), .second, .val (.int W), .val (.int A), .val (.int B), .val (.ref b1), .val (.ref b18), .val (.ref b43), .val (.ref b78), .val (.ref b118), .val (.ref b164), .val (.ref b280), .val (.int (1 : Int32)), .val (.int (1 : Int32)), .unset, .unset] [])) _
          refine Goes.to (fun _ k => XS.iloadN X310.here hx rfl (hb hby at_342) rfl k) ?_
          show Goes p.tables e below (T310.setTop (mkF m 343 #[.val (.int x0), .val (.long x1), .second, .val (.int W), .val (.int A), .val (.int B), .val (.ref b1), .val (.ref b18), .val (.ref b43), .val (.ref b78), .val (.ref b118), .val (.ref b164), .val (.ref b280), .val (.int (1 : Int32)), .val (.int (1 : Int32)), .unset, .unset] [(.int W)])) _
          refine Goes.to (fun _ k => XS.iconst X310.here hx rfl (hb hby at_343) k) ?_
          show Goes p.tables e below (T310.setTop (mkF m 344 #[.val (.int x0), .val (.long x1), .second, .val (.int W), .val (.int A), .val (.int B), .val (.ref b1), .val (.ref b18), .val (.ref b43), .val (.ref b78), .val (.ref b118), .val (.ref b164), .val (.ref b280), .val (.int (1 : Int32)), .val (.int (1 : Int32)), .unset, .unset] [(.int (3 : Int32)), (.int W)])) _
          by_cases hc329 : W < (3 : Int32)
          · refine Goes.to (fun _ k => XS.icmpYes X310.here hx rfl (pc0 := 344) (pc' := 364) rfl (hb hby at_344) rfl (tlt hc329).1 (by decide) (by decide) k) ?_
            show Goes p.tables e below (T310.setTop (mkF m 364 #[.val (.int x0), .val (.long x1), .second, .val (.int W), .val (.int A), .val (.int B), .val (.ref b1), .val (.ref b18), .val (.ref b43), .val (.ref b78), .val (.ref b118), .val (.ref b164), .val (.ref b280), .val (.int (1 : Int32)), .val (.int (1 : Int32)), .unset, .unset] [])) _
            refine Goes.to (fun _ k => XS.iconst X310.here hx rfl (hb hby at_364) k) ?_
            show Goes p.tables e below (T310.setTop (mkF m 365 #[.val (.int x0), .val (.long x1), .second, .val (.int W), .val (.int A), .val (.int B), .val (.ref b1), .val (.ref b18), .val (.ref b43), .val (.ref b78), .val (.ref b118), .val (.ref b164), .val (.ref b280), .val (.int (1 : Int32)), .val (.int (1 : Int32)), .unset, .unset] [(.int (0 : Int32))])) _
            refine Goes.to (fun _ k => XS.istore X310.here hx rfl (hb hby at_365) rfl (l' := #[.val (.int x0), .val (.long x1), .second, .val (.int W), .val (.int A), .val (.int B), .val (.ref b1), .val (.ref b18), .val (.ref b43), .val (.ref b78), .val (.ref b118), .val (.ref b164), .val (.ref b280), .val (.int (1 : Int32)), .val (.int (1 : Int32)), .val (.int (0 : Int32)), .unset]) rfl k) ?_
            show Goes p.tables e below (T310.setTop (mkF m 367 #[.val (.int x0), .val (.long x1), .second, .val (.int W), .val (.int A), .val (.int B), .val (.ref b1), .val (.ref b18), .val (.ref b43), .val (.ref b78), .val (.ref b118), .val (.ref b164), .val (.ref b280), .val (.int (1 : Int32)), .val (.int (1 : Int32)), .val (.int (0 : Int32)), .unset] [])) _
            refine Goes.to (fun _ k => XS.iload X310.here hx rfl (hb hby at_367) rfl k) ?_
            show Goes p.tables e below (T310.setTop (mkF m 369 #[.val (.int x0), .val (.long x1), .second, .val (.int W), .val (.int A), .val (.int B), .val (.ref b1), .val (.ref b18), .val (.ref b43), .val (.ref b78), .val (.ref b118), .val (.ref b164), .val (.ref b280), .val (.int (1 : Int32)), .val (.int (1 : Int32)), .val (.int (0 : Int32)), .unset] [(.int (1 : Int32))])) _
            refine Goes.to (fun _ k => XS.ifYes X310.here hx rfl (pc0 := 369) (pc' := 386) rfl (hb hby at_369) rfl ((if0 _ _).trans (feq (by decide : ¬ ((1 : Int32) = (0 : Int32)))).2) (by decide) (by decide) k) ?_
            show Goes p.tables e below (T310.setTop (mkF m 386 #[.val (.int x0), .val (.long x1), .second, .val (.int W), .val (.int A), .val (.int B), .val (.ref b1), .val (.ref b18), .val (.ref b43), .val (.ref b78), .val (.ref b118), .val (.ref b164), .val (.ref b280), .val (.int (1 : Int32)), .val (.int (1 : Int32)), .val (.int (0 : Int32)), .unset] [])) _
            refine Goes.to (fun _ k => XS.iconst X310.here hx rfl (hb hby at_386) k) ?_
            exact own_pt_own_rm0_330 l Z a0 hw ws x0 x1 h0 n0 Z0  Bd hml0 hh hZ b1 k1 b18 k18 b43 k43 b78 k78 b118 k118 b164 k164 b280 k280 W A B T310 _  T310.heap X310 rfl N310 Z310  F311 F312 F313 F314 F315 F316 F317 F318 F319 V310 Pg308_10 Pn308_11 Pg308_12 Pn308_13 Pn308_14 Pg308_15 Pn308_16 Pn308_17 Pn308_18 Pg308_19 Pn308_20 Pn308_21 Pn308_22 Pn308_23 Pg308_24 Pn308_25 Pn308_26 Pn308_27 Pn308_28 Pn308_29 Pg308_30 Po308_31 Pn308_32 Pn308_33 Pn308_34 Pn308_35 Pn308_36 Pn308_37 Pg308_38 hA0 hA1 hB0 hB1 hnm_W Ph308_44 Ph308_45 Ph308_46 hc321 hc324 hc325 hc328 hc329
          · exfalso
            rw [Ph308_46] at hc329
            exact hc329 (by decide)
        · refine Goes.to (fun _ k => XS.icmpYes X310.here hx rfl (pc0 := 332) (pc' := 339) rfl (hb hby at_332) rfl (flt hc328).2.2.2 (by decide) (by decide) k) ?_
          show Goes p.tables e below (T310.setTop (mkF m 339 #[.val (.int x0), .val (.long x1), .second, .val (.int W), .val (.int A), .val (.int B), .val (.ref b1), .val (.ref b18), .val (.ref b43), .val (.ref b78), .val (.ref b118), .val (.ref b164), .val (.ref b280), .val (.int (1 : Int32)), .unset, .unset, .unset] [])) _
          refine Goes.to (fun _ k => XS.iconst X310.here hx rfl (hb hby at_339) k) ?_
          show Goes p.tables e below (T310.setTop (mkF m 340 #[.val (.int x0), .val (.long x1), .second, .val (.int W), .val (.int A), .val (.int B), .val (.ref b1), .val (.ref b18), .val (.ref b43), .val (.ref b78), .val (.ref b118), .val (.ref b164), .val (.ref b280), .val (.int (1 : Int32)), .unset, .unset, .unset] [(.int (0 : Int32))])) _
          refine Goes.to (fun _ k => XS.istore X310.here hx rfl (hb hby at_340) rfl (l' := #[.val (.int x0), .val (.long x1), .second, .val (.int W), .val (.int A), .val (.int B), .val (.ref b1), .val (.ref b18), .val (.ref b43), .val (.ref b78), .val (.ref b118), .val (.ref b164), .val (.ref b280), .val (.int (1 : Int32)), .val (.int (0 : Int32)), .unset, .unset]) rfl k) ?_
          show Goes p.tables e below (T310.setTop (mkF m 342 #[.val (.int x0), .val (.long x1), .second, .val (.int W), .val (.int A), .val (.int B), .val (.ref b1), .val (.ref b18), .val (.ref b43), .val (.ref b78), .val (.ref b118), .val (.ref b164), .val (.ref b280), .val (.int (1 : Int32)), .val (.int (0 : Int32)), .unset, .unset] [])) _
          refine Goes.to (fun _ k => XS.iloadN X310.here hx rfl (hb hby at_342) rfl k) ?_
          show Goes p.tables e below (T310.setTop (mkF m 343 #[.val (.int x0), .val (.long x1), .second, .val (.int W), .val (.int A), .val (.int B), .val (.ref b1), .val (.ref b18), .val (.ref b43), .val (.ref b78), .val (.ref b118), .val (.ref b164), .val (.ref b280), .val (.int (1 : Int32)), .val (.int (0 : Int32)), .unset, .unset] [(.int W)])) _
          refine Goes.to (fun _ k => XS.iconst X310.here hx rfl (hb hby at_343) k) ?_
          show Goes p.tables e below (T310.setTop (mkF m 344 #[.val (.int x0), .val (.long x1), .second, .val (.int W), .val (.int A), .val (.int B), .val (.ref b1), .val (.ref b18), .val (.ref b43), .val (.ref b78), .val (.ref b118), .val (.ref b164), .val (.ref b280), .val (.int (1 : Int32)), .val (.int (0 : Int32)), .unset, .unset] [(.int (3 : Int32)), (.int W)])) _
          by_cases hc333 : W < (3 : Int32)
          · refine Goes.to (fun _ k => XS.icmpYes X310.here hx rfl (pc0 := 344) (pc' := 364) rfl (hb hby at_344) rfl (tlt hc333).1 (by decide) (by decide) k) ?_
            show Goes p.tables e below (T310.setTop (mkF m 364 #[.val (.int x0), .val (.long x1), .second, .val (.int W), .val (.int A), .val (.int B), .val (.ref b1), .val (.ref b18), .val (.ref b43), .val (.ref b78), .val (.ref b118), .val (.ref b164), .val (.ref b280), .val (.int (1 : Int32)), .val (.int (0 : Int32)), .unset, .unset] [])) _
            refine Goes.to (fun _ k => XS.iconst X310.here hx rfl (hb hby at_364) k) ?_
            show Goes p.tables e below (T310.setTop (mkF m 365 #[.val (.int x0), .val (.long x1), .second, .val (.int W), .val (.int A), .val (.int B), .val (.ref b1), .val (.ref b18), .val (.ref b43), .val (.ref b78), .val (.ref b118), .val (.ref b164), .val (.ref b280), .val (.int (1 : Int32)), .val (.int (0 : Int32)), .unset, .unset] [(.int (0 : Int32))])) _
            refine Goes.to (fun _ k => XS.istore X310.here hx rfl (hb hby at_365) rfl (l' := #[.val (.int x0), .val (.long x1), .second, .val (.int W), .val (.int A), .val (.int B), .val (.ref b1), .val (.ref b18), .val (.ref b43), .val (.ref b78), .val (.ref b118), .val (.ref b164), .val (.ref b280), .val (.int (1 : Int32)), .val (.int (0 : Int32)), .val (.int (0 : Int32)), .unset]) rfl k) ?_
            show Goes p.tables e below (T310.setTop (mkF m 367 #[.val (.int x0), .val (.long x1), .second, .val (.int W), .val (.int A), .val (.int B), .val (.ref b1), .val (.ref b18), .val (.ref b43), .val (.ref b78), .val (.ref b118), .val (.ref b164), .val (.ref b280), .val (.int (1 : Int32)), .val (.int (0 : Int32)), .val (.int (0 : Int32)), .unset] [])) _
            refine Goes.to (fun _ k => XS.iload X310.here hx rfl (hb hby at_367) rfl k) ?_
            show Goes p.tables e below (T310.setTop (mkF m 369 #[.val (.int x0), .val (.long x1), .second, .val (.int W), .val (.int A), .val (.int B), .val (.ref b1), .val (.ref b18), .val (.ref b43), .val (.ref b78), .val (.ref b118), .val (.ref b164), .val (.ref b280), .val (.int (1 : Int32)), .val (.int (0 : Int32)), .val (.int (0 : Int32)), .unset] [(.int (1 : Int32))])) _
            refine Goes.to (fun _ k => XS.ifYes X310.here hx rfl (pc0 := 369) (pc' := 386) rfl (hb hby at_369) rfl ((if0 _ _).trans (feq (by decide : ¬ ((1 : Int32) = (0 : Int32)))).2) (by decide) (by decide) k) ?_
            show Goes p.tables e below (T310.setTop (mkF m 386 #[.val (.int x0), .val (.long x1), .second, .val (.int W), .val (.int A), .val (.int B), .val (.ref b1), .val (.ref b18), .val (.ref b43), .val (.ref b78), .val (.ref b118), .val (.ref b164), .val (.ref b280), .val (.int (1 : Int32)), .val (.int (0 : Int32)), .val (.int (0 : Int32)), .unset] [])) _
            refine Goes.to (fun _ k => XS.iconst X310.here hx rfl (hb hby at_386) k) ?_
            show Goes p.tables e below (T310.setTop (mkF m 387 #[.val (.int x0), .val (.long x1), .second, .val (.int W), .val (.int A), .val (.int B), .val (.ref b1), .val (.ref b18), .val (.ref b43), .val (.ref b78), .val (.ref b118), .val (.ref b164), .val (.ref b280), .val (.int (1 : Int32)), .val (.int (0 : Int32)), .val (.int (0 : Int32)), .unset] [(.int (0 : Int32))])) _
            refine Goes.to (fun _ k => XS.istore X310.here hx rfl (hb hby at_387) rfl (l' := #[.val (.int x0), .val (.long x1), .second, .val (.int W), .val (.int A), .val (.int B), .val (.ref b1), .val (.ref b18), .val (.ref b43), .val (.ref b78), .val (.ref b118), .val (.ref b164), .val (.ref b280), .val (.int (1 : Int32)), .val (.int (0 : Int32)), .val (.int (0 : Int32)), .val (.int (0 : Int32))]) rfl k) ?_
            exact own_pt_own_rm0_334 l Z a0 hw ws x0 x1 h0 n0 Z0  Bd hml0 hh hZ b1 k1 b18 k18 b43 k43 b78 k78 b118 k118 b164 k164 b280 k280 W A B T310 _  T310.heap X310 rfl N310 Z310  F311 F312 F313 F314 F315 F316 F317 F318 F319 V310 Pg308_10 Pn308_11 Pg308_12 Pn308_13 Pn308_14 Pg308_15 Pn308_16 Pn308_17 Pn308_18 Pg308_19 Pn308_20 Pn308_21 Pn308_22 Pn308_23 Pg308_24 Pn308_25 Pn308_26 Pn308_27 Pn308_28 Pn308_29 Pg308_30 Po308_31 Pn308_32 Pn308_33 Pn308_34 Pn308_35 Pn308_36 Pn308_37 Pg308_38 hA0 hA1 hB0 hB1 hnm_W Ph308_44 Ph308_45 Ph308_46 hc321 hc324 hc325 hc328 hc333
          · exfalso
            rw [Ph308_46] at hc333
            exact hc333 (by decide)
    · refine Goes.to (fun _ k => XS.icmpYes X310.here hx rfl (pc0 := 307) (pc' := 314) rfl (hb hby at_307) rfl (flt hc324).2.2.2 (by decide) (by decide) k) ?_
      show Goes p.tables e below (T310.setTop (mkF m 314 #[.val (.int x0), .val (.long x1), .second, .val (.int W), .val (.int A), .val (.int B), .val (.ref b1), .val (.ref b18), .val (.ref b43), .val (.ref b78), .val (.ref b118), .val (.ref b164), .val (.ref b280), .unset, .unset, .unset, .unset] [])) _
      refine Goes.to (fun _ k => XS.iconst X310.here hx rfl (hb hby at_314) k) ?_
      show Goes p.tables e below (T310.setTop (mkF m 315 #[.val (.int x0), .val (.long x1), .second, .val (.int W), .val (.int A), .val (.int B), .val (.ref b1), .val (.ref b18), .val (.ref b43), .val (.ref b78), .val (.ref b118), .val (.ref b164), .val (.ref b280), .unset, .unset, .unset, .unset] [(.int (0 : Int32))])) _
      refine Goes.to (fun _ k => XS.istore X310.here hx rfl (hb hby at_315) rfl (l' := #[.val (.int x0), .val (.long x1), .second, .val (.int W), .val (.int A), .val (.int B), .val (.ref b1), .val (.ref b18), .val (.ref b43), .val (.ref b78), .val (.ref b118), .val (.ref b164), .val (.ref b280), .val (.int (0 : Int32)), .unset, .unset, .unset]) rfl k) ?_
      show Goes p.tables e below (T310.setTop (mkF m 317 #[.val (.int x0), .val (.long x1), .second, .val (.int W), .val (.int A), .val (.int B), .val (.ref b1), .val (.ref b18), .val (.ref b43), .val (.ref b78), .val (.ref b118), .val (.ref b164), .val (.ref b280), .val (.int (0 : Int32)), .unset, .unset, .unset] [])) _
      refine Goes.to (fun _ k => XS.iloadN X310.here hx rfl (hb hby at_317) rfl k) ?_
      show Goes p.tables e below (T310.setTop (mkF m 318 #[.val (.int x0), .val (.long x1), .second, .val (.int W), .val (.int A), .val (.int B), .val (.ref b1), .val (.ref b18), .val (.ref b43), .val (.ref b78), .val (.ref b118), .val (.ref b164), .val (.ref b280), .val (.int (0 : Int32)), .unset, .unset, .unset] [(.int W)])) _
      refine Goes.to (fun _ k => XS.iconst X310.here hx rfl (hb hby at_318) k) ?_
      show Goes p.tables e below (T310.setTop (mkF m 319 #[.val (.int x0), .val (.long x1), .second, .val (.int W), .val (.int A), .val (.int B), .val (.ref b1), .val (.ref b18), .val (.ref b43), .val (.ref b78), .val (.ref b118), .val (.ref b164), .val (.ref b280), .val (.int (0 : Int32)), .unset, .unset, .unset] [(.int (2 : Int32)), (.int W)])) _
      by_cases hc337 : W < (2 : Int32)
      · exfalso
        rw [Ph308_46] at hc337
        exact absurd hc337 (by decide)
      · refine Goes.to (fun _ k => XS.icmpNo X310.here hx rfl (hb hby at_319) rfl (flt hc337).1 k) ?_
        show Goes p.tables e below (T310.setTop (mkF m 322 #[.val (.int x0), .val (.long x1), .second, .val (.int W), .val (.int A), .val (.int B), .val (.ref b1), .val (.ref b18), .val (.ref b43), .val (.ref b78), .val (.ref b118), .val (.ref b164), .val (.ref b280), .val (.int (0 : Int32)), .unset, .unset, .unset] [])) _
        refine Goes.to (fun _ k => XS.aload X310.here hx rfl (hb hby at_322) rfl rfl k) ?_
        show Goes p.tables e below (T310.setTop (mkF m 324 #[.val (.int x0), .val (.long x1), .second, .val (.int W), .val (.int A), .val (.int B), .val (.ref b1), .val (.ref b18), .val (.ref b43), .val (.ref b78), .val (.ref b118), .val (.ref b164), .val (.ref b280), .val (.int (0 : Int32)), .unset, .unset, .unset] [(.ref b118)])) _
        refine Goes.to (fun _ k => XS.iload X310.here hx rfl (hb hby at_324) rfl k) ?_
        show Goes p.tables e below (T310.setTop (mkF m 326 #[.val (.int x0), .val (.long x1), .second, .val (.int W), .val (.int A), .val (.int B), .val (.ref b1), .val (.ref b18), .val (.ref b43), .val (.ref b78), .val (.ref b118), .val (.ref b164), .val (.ref b280), .val (.int (0 : Int32)), .unset, .unset, .unset] [(.int A), (.ref b118)])) _
        obtain ⟨cl338, Ar338, q338, S338, N338, H338, G338⟩ := id F318
        have hin338 : ¬ (A < 0 ∨ cl338.slots.size ≤ (A).toNatClampNeg) := by
          have k1 := rng32 A
          have k2 : (0 : Int32).toInt = 0 := rfl
          have k3 : ¬ A.toInt < (0 : Int32).toInt := fun z => hA0 (Int32.lt_iff_toInt_lt.mpr z)
          have k4 : (3 : Int32).toInt = 3 := rfl
          have k5 : A.toInt < (3 : Int32).toInt := Int32.lt_iff_toInt_lt.mp hA1
          have k6 := rng32 B
          have k7 : ¬ B.toInt < (0 : Int32).toInt := fun z => hB0 (Int32.lt_iff_toInt_lt.mpr z)
          have k8 : B.toInt < (3 : Int32).toInt := Int32.lt_iff_toInt_lt.mp hB1
          have k9 := rng32 x0
          have k10 : (x0 &&& (3 : Int32)).toInt = x0.toInt % 4 := c_mask x0 (3 : Int32) 2 (by decide) (by decide)
          have k11 := rng32 W
          have k12 : (x0 &&& (3 : Int32)).toInt = W.toInt := congrArg Int32.toInt hnm_W
          have k13 : ¬ W.toInt = (0 : Int32).toInt := fun z => Ph308_44 (Int32.toInt_inj.mp z)
          have k14 : (1 : Int32).toInt = 1 := rfl
          have k15 : ¬ W.toInt = (1 : Int32).toInt := fun z => Ph308_45 (Int32.toInt_inj.mp z)
          have k16 : (2 : Int32).toInt = 2 := rfl
          have k17 : W.toInt = (2 : Int32).toInt := congrArg Int32.toInt Ph308_46
          have k18 : ¬ W.toInt < (1 : Int32).toInt := fun z => hc321 (Int32.lt_iff_toInt_lt.mpr z)
          have k19 := rng32 (own_iat (own_iv x1 (0 : Int32)) (own_iv x1 (4 : Int32)) (own_iv x1 (8 : Int32)) B)
          have k20 := rng32 (own_iat (own_iv x1 (0 : Int32)) (own_iv x1 (4 : Int32)) (own_iv x1 (8 : Int32)) A)
          have k21 : ¬ (own_iat (own_iv x1 (0 : Int32)) (own_iv x1 (4 : Int32)) (own_iv x1 (8 : Int32)) B).toInt < (own_iat (own_iv x1 (0 : Int32)) (own_iv x1 (4 : Int32)) (own_iv x1 (8 : Int32)) A).toInt := fun z => hc324 (Int32.lt_iff_toInt_lt.mpr z)
          have k22 : ¬ W.toInt < (2 : Int32).toInt := fun z => hc337 (Int32.lt_iff_toInt_lt.mpr z)
          refine inb_of S338 ⟨fun hq => ?_, Int32.lt_iff_toInt_lt.mpr ?_⟩
          · have hq' := Int32.lt_iff_toInt_lt.mp hq
            omega
          · omega
        have hat338 : cl338.slots[(A).toNatClampNeg]? = some (.int (own_iat (own_iv x1 (12 : Int32)) (own_iv x1 (16 : Int32)) (own_iv x1 (20 : Int32)) A)) := Has.at H338 hin338 (own_iat_eq (own_iv x1 (12 : Int32)) (own_iv x1 (16 : Int32)) (own_iv x1 (20 : Int32)) A)
        refine Goes.to (fun _ k => X310.iaload hx (j := A) (v := (.int (own_iat (own_iv x1 (12 : Int32)) (own_iv x1 (16 : Int32)) (own_iv x1 (20 : Int32)) A))) Ar338.1 (State.isArrayOf_alike hZ.alike Ar338.2.1) Ar338.2.2 hin338 hat338 (g := (mkF m 326 #[.val (.int x0), .val (.long x1), .second, .val (.int W), .val (.int A), .val (.int B), .val (.ref b1), .val (.ref b18), .val (.ref b43), .val (.ref b78), .val (.ref b118), .val (.ref b164), .val (.ref b280), .val (.int (0 : Int32)), .unset, .unset, .unset] [(.int A), (.ref b118)])) rfl rfl (hb hby at_326) _ k) ?_
        show Goes p.tables e below (T310.setTop (mkF m 327 #[.val (.int x0), .val (.long x1), .second, .val (.int W), .val (.int A), .val (.int B), .val (.ref b1), .val (.ref b18), .val (.ref b43), .val (.ref b78), .val (.ref b118), .val (.ref b164), .val (.ref b280), .val (.int (0 : Int32)), .unset, .unset, .unset] [(.int (own_iat (own_iv x1 (12 : Int32)) (own_iv x1 (16 : Int32)) (own_iv x1 (20 : Int32)) A))])) _
        refine Goes.to (fun _ k => XS.aload X310.here hx rfl (hb hby at_327) rfl rfl k) ?_
        show Goes p.tables e below (T310.setTop (mkF m 329 #[.val (.int x0), .val (.long x1), .second, .val (.int W), .val (.int A), .val (.int B), .val (.ref b1), .val (.ref b18), .val (.ref b43), .val (.ref b78), .val (.ref b118), .val (.ref b164), .val (.ref b280), .val (.int (0 : Int32)), .unset, .unset, .unset] [(.ref b118), (.int (own_iat (own_iv x1 (12 : Int32)) (own_iv x1 (16 : Int32)) (own_iv x1 (20 : Int32)) A))])) _
        refine Goes.to (fun _ k => XS.iload X310.here hx rfl (hb hby at_329) rfl k) ?_
        show Goes p.tables e below (T310.setTop (mkF m 331 #[.val (.int x0), .val (.long x1), .second, .val (.int W), .val (.int A), .val (.int B), .val (.ref b1), .val (.ref b18), .val (.ref b43), .val (.ref b78), .val (.ref b118), .val (.ref b164), .val (.ref b280), .val (.int (0 : Int32)), .unset, .unset, .unset] [(.int B), (.ref b118), (.int (own_iat (own_iv x1 (12 : Int32)) (own_iv x1 (16 : Int32)) (own_iv x1 (20 : Int32)) A))])) _
        obtain ⟨cl339, Ar339, q339, S339, N339, H339, G339⟩ := id F318
        have hin339 : ¬ (B < 0 ∨ cl339.slots.size ≤ (B).toNatClampNeg) := by
          have k1 := rng32 A
          have k2 : (0 : Int32).toInt = 0 := rfl
          have k3 : ¬ A.toInt < (0 : Int32).toInt := fun z => hA0 (Int32.lt_iff_toInt_lt.mpr z)
          have k4 : (3 : Int32).toInt = 3 := rfl
          have k5 : A.toInt < (3 : Int32).toInt := Int32.lt_iff_toInt_lt.mp hA1
          have k6 := rng32 B
          have k7 : ¬ B.toInt < (0 : Int32).toInt := fun z => hB0 (Int32.lt_iff_toInt_lt.mpr z)
          have k8 : B.toInt < (3 : Int32).toInt := Int32.lt_iff_toInt_lt.mp hB1
          have k9 := rng32 x0
          have k10 : (x0 &&& (3 : Int32)).toInt = x0.toInt % 4 := c_mask x0 (3 : Int32) 2 (by decide) (by decide)
          have k11 := rng32 W
          have k12 : (x0 &&& (3 : Int32)).toInt = W.toInt := congrArg Int32.toInt hnm_W
          have k13 : ¬ W.toInt = (0 : Int32).toInt := fun z => Ph308_44 (Int32.toInt_inj.mp z)
          have k14 : (1 : Int32).toInt = 1 := rfl
          have k15 : ¬ W.toInt = (1 : Int32).toInt := fun z => Ph308_45 (Int32.toInt_inj.mp z)
          have k16 : (2 : Int32).toInt = 2 := rfl
          have k17 : W.toInt = (2 : Int32).toInt := congrArg Int32.toInt Ph308_46
          have k18 : ¬ W.toInt < (1 : Int32).toInt := fun z => hc321 (Int32.lt_iff_toInt_lt.mpr z)
          have k19 := rng32 (own_iat (own_iv x1 (0 : Int32)) (own_iv x1 (4 : Int32)) (own_iv x1 (8 : Int32)) B)
          have k20 := rng32 (own_iat (own_iv x1 (0 : Int32)) (own_iv x1 (4 : Int32)) (own_iv x1 (8 : Int32)) A)
          have k21 : ¬ (own_iat (own_iv x1 (0 : Int32)) (own_iv x1 (4 : Int32)) (own_iv x1 (8 : Int32)) B).toInt < (own_iat (own_iv x1 (0 : Int32)) (own_iv x1 (4 : Int32)) (own_iv x1 (8 : Int32)) A).toInt := fun z => hc324 (Int32.lt_iff_toInt_lt.mpr z)
          have k22 : ¬ W.toInt < (2 : Int32).toInt := fun z => hc337 (Int32.lt_iff_toInt_lt.mpr z)
          refine inb_of S339 ⟨fun hq => ?_, Int32.lt_iff_toInt_lt.mpr ?_⟩
          · have hq' := Int32.lt_iff_toInt_lt.mp hq
            omega
          · omega
        have hat339 : cl339.slots[(B).toNatClampNeg]? = some (.int (own_iat (own_iv x1 (12 : Int32)) (own_iv x1 (16 : Int32)) (own_iv x1 (20 : Int32)) B)) := Has.at H339 hin339 (own_iat_eq (own_iv x1 (12 : Int32)) (own_iv x1 (16 : Int32)) (own_iv x1 (20 : Int32)) B)
        refine Goes.to (fun _ k => X310.iaload hx (j := B) (v := (.int (own_iat (own_iv x1 (12 : Int32)) (own_iv x1 (16 : Int32)) (own_iv x1 (20 : Int32)) B))) Ar339.1 (State.isArrayOf_alike hZ.alike Ar339.2.1) Ar339.2.2 hin339 hat339 (g := (mkF m 331 #[.val (.int x0), .val (.long x1), .second, .val (.int W), .val (.int A), .val (.int B), .val (.ref b1), .val (.ref b18), .val (.ref b43), .val (.ref b78), .val (.ref b118), .val (.ref b164), .val (.ref b280), .val (.int (0 : Int32)), .unset, .unset, .unset] [(.int B), (.ref b118), (.int (own_iat (own_iv x1 (12 : Int32)) (own_iv x1 (16 : Int32)) (own_iv x1 (20 : Int32)) A))])) rfl rfl (hb hby at_331) _ k) ?_
        show Goes p.tables e below (T310.setTop (mkF m 332 #[.val (.int x0), .val (.long x1), .second, .val (.int W), .val (.int A), .val (.int B), .val (.ref b1), .val (.ref b18), .val (.ref b43), .val (.ref b78), .val (.ref b118), .val (.ref b164), .val (.ref b280), .val (.int (0 : Int32)), .unset, .unset, .unset] [(.int (own_iat (own_iv x1 (12 : Int32)) (own_iv x1 (16 : Int32)) (own_iv x1 (20 : Int32)) B)), (.int (own_iat (own_iv x1 (12 : Int32)) (own_iv x1 (16 : Int32)) (own_iv x1 (20 : Int32)) A))])) _
        by_cases hc340 : (own_iat (own_iv x1 (12 : Int32)) (own_iv x1 (16 : Int32)) (own_iv x1 (20 : Int32)) B) < (own_iat (own_iv x1 (12 : Int32)) (own_iv x1 (16 : Int32)) (own_iv x1 (20 : Int32)) A)
        · refine Goes.to (fun _ k => XS.icmpNo X310.here hx rfl (hb hby at_332) rfl (tlt hc340).2.2.2 k) ?_
          show Goes p.tables e below (T310.setTop (mkF m 335 #[.val (.int x0), .val (.long x1), .second, .val (.int W), .val (.int A), .val (.int B), .val (.ref b1), .val (.ref b18), .val (.ref b43), .val (.ref b78), .val (.ref b118), .val (.ref b164), .val (.ref b280), .val (.int (0 : Int32)), .unset, .unset, .unset] [])) _
          refine Goes.to (fun _ k => XS.iconst X310.here hx rfl (hb hby at_335) k) ?_
          show Goes p.tables e below (T310.setTop (mkF m 336 #[.val (.int x0), .val (.long x1), .second, .val (.int W), .val (.int A), .val (.int B), .val (.ref b1), .val (.ref b18), .val (.ref b43), .val (.ref b78), .val (.ref b118), .val (.ref b164), .val (.ref b280), .val (.int (0 : Int32)), .unset, .unset, .unset] [(.int (1 : Int32))])) _
          refine Goes.to (fun _ k => XS.goto X310.here hx rfl (pc0 := 336) (pc' := 340) rfl (hb hby at_336) (by decide) (by decide) k) ?_
          show Goes p.tables e below (T310.setTop (mkF m 340 #[.val (.int x0), .val (.long x1), .second, .val (.int W), .val (.int A), .val (.int B), .val (.ref b1), .val (.ref b18), .val (.ref b43), .val (.ref b78), .val (.ref b118), .val (.ref b164), .val (.ref b280), .val (.int (0 : Int32)), .unset, .unset, .unset] [(.int (1 : Int32))])) _
          refine Goes.to (fun _ k => XS.istore X310.here hx rfl (hb hby at_340) rfl (l' := #[.val (.int x0), .val (.long x1), .second, .val (.int W), .val (.int A), .val (.int B), .val (.ref b1), .val (.ref b18), .val (.ref b43), .val (.ref b78), .val (.ref b118), .val (.ref b164), .val (.ref b280), .val (.int (0 : Int32)), .val (.int (1 : Int32)), .unset, .unset]) rfl k) ?_
          show Goes p.tables e below (T310.setTop (mkF m 342 #[.val (.int x0), .val (.long x1), .second, .val (.int W), .val (.int A), .val (.int B), .val (.ref b1), .val (.ref b18), .val (.ref b43), .val (.ref b78), .val (.ref b118), .val (.ref b164), .val (.ref b280), .val (.int (0 : Int32)), .val (.int (1 : Int32)), .unset, .unset] [])) _
          refine Goes.to (fun _ k => XS.iloadN X310.here hx rfl (hb hby at_342) rfl k) ?_
          show Goes p.tables e below (T310.setTop (mkF m 343 #[.val (.int x0), .val (.long x1), .second, .val (.int W), .val (.int A), .val (.int B), .val (.ref b1), .val (.ref b18), .val (.ref b43), .val (.ref b78), .val (.ref b118), .val (.ref b164), .val (.ref b280), .val (.int (0 : Int32)), .val (.int (1 : Int32)), .unset, .unset] [(.int W)])) _
          refine Goes.to (fun _ k => XS.iconst X310.here hx rfl (hb hby at_343) k) ?_
          show Goes p.tables e below (T310.setTop (mkF m 344 #[.val (.int x0), .val (.long x1), .second, .val (.int W), .val (.int A), .val (.int B), .val (.ref b1), .val (.ref b18), .val (.ref b43), .val (.ref b78), .val (.ref b118), .val (.ref b164), .val (.ref b280), .val (.int (0 : Int32)), .val (.int (1 : Int32)), .unset, .unset] [(.int (3 : Int32)), (.int W)])) _
          by_cases hc341 : W < (3 : Int32)
          · refine Goes.to (fun _ k => XS.icmpYes X310.here hx rfl (pc0 := 344) (pc' := 364) rfl (hb hby at_344) rfl (tlt hc341).1 (by decide) (by decide) k) ?_
            show Goes p.tables e below (T310.setTop (mkF m 364 #[.val (.int x0), .val (.long x1), .second, .val (.int W), .val (.int A), .val (.int B), .val (.ref b1), .val (.ref b18), .val (.ref b43), .val (.ref b78), .val (.ref b118), .val (.ref b164), .val (.ref b280), .val (.int (0 : Int32)), .val (.int (1 : Int32)), .unset, .unset] [])) _
            refine Goes.to (fun _ k => XS.iconst X310.here hx rfl (hb hby at_364) k) ?_
            show Goes p.tables e below (T310.setTop (mkF m 365 #[.val (.int x0), .val (.long x1), .second, .val (.int W), .val (.int A), .val (.int B), .val (.ref b1), .val (.ref b18), .val (.ref b43), .val (.ref b78), .val (.ref b118), .val (.ref b164), .val (.ref b280), .val (.int (0 : Int32)), .val (.int (1 : Int32)), .unset, .unset] [(.int (0 : Int32))])) _
            refine Goes.to (fun _ k => XS.istore X310.here hx rfl (hb hby at_365) rfl (l' := #[.val (.int x0), .val (.long x1), .second, .val (.int W), .val (.int A), .val (.int B), .val (.ref b1), .val (.ref b18), .val (.ref b43), .val (.ref b78), .val (.ref b118), .val (.ref b164), .val (.ref b280), .val (.int (0 : Int32)), .val (.int (1 : Int32)), .val (.int (0 : Int32)), .unset]) rfl k) ?_
            show Goes p.tables e below (T310.setTop (mkF m 367 #[.val (.int x0), .val (.long x1), .second, .val (.int W), .val (.int A), .val (.int B), .val (.ref b1), .val (.ref b18), .val (.ref b43), .val (.ref b78), .val (.ref b118), .val (.ref b164), .val (.ref b280), .val (.int (0 : Int32)), .val (.int (1 : Int32)), .val (.int (0 : Int32)), .unset] [])) _
            refine Goes.to (fun _ k => XS.iload X310.here hx rfl (hb hby at_367) rfl k) ?_
            show Goes p.tables e below (T310.setTop (mkF m 369 #[.val (.int x0), .val (.long x1), .second, .val (.int W), .val (.int A), .val (.int B), .val (.ref b1), .val (.ref b18), .val (.ref b43), .val (.ref b78), .val (.ref b118), .val (.ref b164), .val (.ref b280), .val (.int (0 : Int32)), .val (.int (1 : Int32)), .val (.int (0 : Int32)), .unset] [(.int (0 : Int32))])) _
            refine Goes.to (fun _ k => XS.ifNo X310.here hx rfl (hb hby at_369) rfl ((if0 _ _).trans (teq (by decide : (0 : Int32) = (0 : Int32))).2) k) ?_
            show Goes p.tables e below (T310.setTop (mkF m 372 #[.val (.int x0), .val (.long x1), .second, .val (.int W), .val (.int A), .val (.int B), .val (.ref b1), .val (.ref b18), .val (.ref b43), .val (.ref b78), .val (.ref b118), .val (.ref b164), .val (.ref b280), .val (.int (0 : Int32)), .val (.int (1 : Int32)), .val (.int (0 : Int32)), .unset] [])) _
            refine Goes.to (fun _ k => XS.iload X310.here hx rfl (hb hby at_372) rfl k) ?_
            show Goes p.tables e below (T310.setTop (mkF m 374 #[.val (.int x0), .val (.long x1), .second, .val (.int W), .val (.int A), .val (.int B), .val (.ref b1), .val (.ref b18), .val (.ref b43), .val (.ref b78), .val (.ref b118), .val (.ref b164), .val (.ref b280), .val (.int (0 : Int32)), .val (.int (1 : Int32)), .val (.int (0 : Int32)), .unset] [(.int (1 : Int32))])) _
            refine Goes.to (fun _ k => XS.ifYes X310.here hx rfl (pc0 := 374) (pc' := 386) rfl (hb hby at_374) rfl ((if0 _ _).trans (feq (by decide : ¬ ((1 : Int32) = (0 : Int32)))).2) (by decide) (by decide) k) ?_
            exact own_pt_own_rm0_342 l Z a0 hw ws x0 x1 h0 n0 Z0  Bd hml0 hh hZ b1 k1 b18 k18 b43 k43 b78 k78 b118 k118 b164 k164 b280 k280 W A B T310 _  T310.heap X310 rfl N310 Z310  F311 F312 F313 F314 F315 F316 F317 F318 F319 V310 Pg308_10 Pn308_11 Pg308_12 Pn308_13 Pn308_14 Pg308_15 Pn308_16 Pn308_17 Pn308_18 Pg308_19 Pn308_20 Pn308_21 Pn308_22 Pn308_23 Pg308_24 Pn308_25 Pn308_26 Pn308_27 Pn308_28 Pn308_29 Pg308_30 Po308_31 Pn308_32 Pn308_33 Pn308_34 Pn308_35 Pn308_36 Pn308_37 Pg308_38 hA0 hA1 hB0 hB1 hnm_W Ph308_44 Ph308_45 Ph308_46 hc321 hc324 hc337 hc340 hc341
          · exfalso
            rw [Ph308_46] at hc341
            exact hc341 (by decide)
        · refine Goes.to (fun _ k => XS.icmpYes X310.here hx rfl (pc0 := 332) (pc' := 339) rfl (hb hby at_332) rfl (flt hc340).2.2.2 (by decide) (by decide) k) ?_
          show Goes p.tables e below (T310.setTop (mkF m 339 #[.val (.int x0), .val (.long x1), .second, .val (.int W), .val (.int A), .val (.int B), .val (.ref b1), .val (.ref b18), .val (.ref b43), .val (.ref b78), .val (.ref b118), .val (.ref b164), .val (.ref b280), .val (.int (0 : Int32)), .unset, .unset, .unset] [])) _
          refine Goes.to (fun _ k => XS.iconst X310.here hx rfl (hb hby at_339) k) ?_
          show Goes p.tables e below (T310.setTop (mkF m 340 #[.val (.int x0), .val (.long x1), .second, .val (.int W), .val (.int A), .val (.int B), .val (.ref b1), .val (.ref b18), .val (.ref b43), .val (.ref b78), .val (.ref b118), .val (.ref b164), .val (.ref b280), .val (.int (0 : Int32)), .unset, .unset, .unset] [(.int (0 : Int32))])) _
          refine Goes.to (fun _ k => XS.istore X310.here hx rfl (hb hby at_340) rfl (l' := #[.val (.int x0), .val (.long x1), .second, .val (.int W), .val (.int A), .val (.int B), .val (.ref b1), .val (.ref b18), .val (.ref b43), .val (.ref b78), .val (.ref b118), .val (.ref b164), .val (.ref b280), .val (.int (0 : Int32)), .val (.int (0 : Int32)), .unset, .unset]) rfl k) ?_
          show Goes p.tables e below (T310.setTop (mkF m 342 #[.val (.int x0), .val (.long x1), .second, .val (.int W), .val (.int A), .val (.int B), .val (.ref b1), .val (.ref b18), .val (.ref b43), .val (.ref b78), .val (.ref b118), .val (.ref b164), .val (.ref b280), .val (.int (0 : Int32)), .val (.int (0 : Int32)), .unset, .unset] [])) _
          refine Goes.to (fun _ k => XS.iloadN X310.here hx rfl (hb hby at_342) rfl k) ?_
          show Goes p.tables e below (T310.setTop (mkF m 343 #[.val (.int x0), .val (.long x1), .second, .val (.int W), .val (.int A), .val (.int B), .val (.ref b1), .val (.ref b18), .val (.ref b43), .val (.ref b78), .val (.ref b118), .val (.ref b164), .val (.ref b280), .val (.int (0 : Int32)), .val (.int (0 : Int32)), .unset, .unset] [(.int W)])) _
          refine Goes.to (fun _ k => XS.iconst X310.here hx rfl (hb hby at_343) k) ?_
          show Goes p.tables e below (T310.setTop (mkF m 344 #[.val (.int x0), .val (.long x1), .second, .val (.int W), .val (.int A), .val (.int B), .val (.ref b1), .val (.ref b18), .val (.ref b43), .val (.ref b78), .val (.ref b118), .val (.ref b164), .val (.ref b280), .val (.int (0 : Int32)), .val (.int (0 : Int32)), .unset, .unset] [(.int (3 : Int32)), (.int W)])) _
          by_cases hc345 : W < (3 : Int32)
          · refine Goes.to (fun _ k => XS.icmpYes X310.here hx rfl (pc0 := 344) (pc' := 364) rfl (hb hby at_344) rfl (tlt hc345).1 (by decide) (by decide) k) ?_
            show Goes p.tables e below (T310.setTop (mkF m 364 #[.val (.int x0), .val (.long x1), .second, .val (.int W), .val (.int A), .val (.int B), .val (.ref b1), .val (.ref b18), .val (.ref b43), .val (.ref b78), .val (.ref b118), .val (.ref b164), .val (.ref b280), .val (.int (0 : Int32)), .val (.int (0 : Int32)), .unset, .unset] [])) _
            refine Goes.to (fun _ k => XS.iconst X310.here hx rfl (hb hby at_364) k) ?_
            show Goes p.tables e below (T310.setTop (mkF m 365 #[.val (.int x0), .val (.long x1), .second, .val (.int W), .val (.int A), .val (.int B), .val (.ref b1), .val (.ref b18), .val (.ref b43), .val (.ref b78), .val (.ref b118), .val (.ref b164), .val (.ref b280), .val (.int (0 : Int32)), .val (.int (0 : Int32)), .unset, .unset] [(.int (0 : Int32))])) _
            refine Goes.to (fun _ k => XS.istore X310.here hx rfl (hb hby at_365) rfl (l' := #[.val (.int x0), .val (.long x1), .second, .val (.int W), .val (.int A), .val (.int B), .val (.ref b1), .val (.ref b18), .val (.ref b43), .val (.ref b78), .val (.ref b118), .val (.ref b164), .val (.ref b280), .val (.int (0 : Int32)), .val (.int (0 : Int32)), .val (.int (0 : Int32)), .unset]) rfl k) ?_
            show Goes p.tables e below (T310.setTop (mkF m 367 #[.val (.int x0), .val (.long x1), .second, .val (.int W), .val (.int A), .val (.int B), .val (.ref b1), .val (.ref b18), .val (.ref b43), .val (.ref b78), .val (.ref b118), .val (.ref b164), .val (.ref b280), .val (.int (0 : Int32)), .val (.int (0 : Int32)), .val (.int (0 : Int32)), .unset] [])) _
            refine Goes.to (fun _ k => XS.iload X310.here hx rfl (hb hby at_367) rfl k) ?_
            show Goes p.tables e below (T310.setTop (mkF m 369 #[.val (.int x0), .val (.long x1), .second, .val (.int W), .val (.int A), .val (.int B), .val (.ref b1), .val (.ref b18), .val (.ref b43), .val (.ref b78), .val (.ref b118), .val (.ref b164), .val (.ref b280), .val (.int (0 : Int32)), .val (.int (0 : Int32)), .val (.int (0 : Int32)), .unset] [(.int (0 : Int32))])) _
            refine Goes.to (fun _ k => XS.ifNo X310.here hx rfl (hb hby at_369) rfl ((if0 _ _).trans (teq (by decide : (0 : Int32) = (0 : Int32))).2) k) ?_
            show Goes p.tables e below (T310.setTop (mkF m 372 #[.val (.int x0), .val (.long x1), .second, .val (.int W), .val (.int A), .val (.int B), .val (.ref b1), .val (.ref b18), .val (.ref b43), .val (.ref b78), .val (.ref b118), .val (.ref b164), .val (.ref b280), .val (.int (0 : Int32)), .val (.int (0 : Int32)), .val (.int (0 : Int32)), .unset] [])) _
            refine Goes.to (fun _ k => XS.iload X310.here hx rfl (hb hby at_372) rfl k) ?_
            show Goes p.tables e below (T310.setTop (mkF m 374 #[.val (.int x0), .val (.long x1), .second, .val (.int W), .val (.int A), .val (.int B), .val (.ref b1), .val (.ref b18), .val (.ref b43), .val (.ref b78), .val (.ref b118), .val (.ref b164), .val (.ref b280), .val (.int (0 : Int32)), .val (.int (0 : Int32)), .val (.int (0 : Int32)), .unset] [(.int (0 : Int32))])) _
            refine Goes.to (fun _ k => XS.ifNo X310.here hx rfl (hb hby at_374) rfl ((if0 _ _).trans (teq (by decide : (0 : Int32) = (0 : Int32))).2) k) ?_
            show Goes p.tables e below (T310.setTop (mkF m 377 #[.val (.int x0), .val (.long x1), .second, .val (.int W), .val (.int A), .val (.int B), .val (.ref b1), .val (.ref b18), .val (.ref b43), .val (.ref b78), .val (.ref b118), .val (.ref b164), .val (.ref b280), .val (.int (0 : Int32)), .val (.int (0 : Int32)), .val (.int (0 : Int32)), .unset] [])) _
            refine Goes.to (fun _ k => XS.iload X310.here hx rfl (hb hby at_377) rfl k) ?_
            exact own_pt_own_rm0_346 l Z a0 hw ws x0 x1 h0 n0 Z0  Bd hml0 hh hZ b1 k1 b18 k18 b43 k43 b78 k78 b118 k118 b164 k164 b280 k280 W A B T310 _  T310.heap X310 rfl N310 Z310  F311 F312 F313 F314 F315 F316 F317 F318 F319 V310 Pg308_10 Pn308_11 Pg308_12 Pn308_13 Pn308_14 Pg308_15 Pn308_16 Pn308_17 Pn308_18 Pg308_19 Pn308_20 Pn308_21 Pn308_22 Pn308_23 Pg308_24 Pn308_25 Pn308_26 Pn308_27 Pn308_28 Pn308_29 Pg308_30 Po308_31 Pn308_32 Pn308_33 Pn308_34 Pn308_35 Pn308_36 Pn308_37 Pg308_38 hA0 hA1 hB0 hB1 hnm_W Ph308_44 Ph308_45 Ph308_46 hc321 hc324 hc337 hc340 hc345
          · exfalso
            rw [Ph308_46] at hc345
            exact hc345 (by decide)
set_option maxRecDepth 65536 in
set_option maxHeartbeats 40000000 in
theorem own_pt_own_rm0_411 (l : Launch) (Z : State) (a0 : Array Value) (hw : ∀ d ∈ tables_1, d.before a0 Z = true) (ws : List Jvm.Cond) (x0 : Int32) (x1 : Int64)  (h0 : Heap) (n0 : Nat) (Z0 : n0 ≤ h0.size) 
    {p : Program} {e : Env} {s : State} {m : MethodId} {below : List Frame} {meth : Method} {c : Code} {s₁ : State} (Bd : BodyLoose p l x (head1 (Jvm.Cond.code x code maxLocals ret :: ws) room_1) code maxLocals ret e s m #[(.int x0), (.long x1)] below meth c s₁) (hml0 : c.maxLocals = maxLocals) (hh : s.heap = h0) (hZ : Z.Warmed39 s.vm)
    (b1 : Addr) (k1 : ClassId) (b18 : Addr) (k18 : ClassId) (b43 : Addr) (k43 : ClassId) (b78 : Addr) (k78 : ClassId) (b118 : Addr) (k118 : ClassId) (b164 : Addr) (k164 : ClassId) (b349 : Addr) (k349 : ClassId) (W : Int32) (A : Int32) (B : Int32)
    (Tpt : State) (lpt : List Loc)  (hpt : Heap)
    (Xpt : Stand p l e room_1 s m #[(.int x0), (.long x1)] below meth c Tpt lpt 7 21) (Ept : Tpt.heap = hpt) (Npt : Fr n0 lpt) (Zpt : n0 ≤ hpt.size) 
    (Pf411_0 : Exa Z hpt b1 "[D")
    (Pf411_1 : Arv Z hpt b1 k1 .double (3 : Int32) [(.double (own_dv x1 (0 : Int32))), (.double (own_dv x1 (4 : Int32))), (.double (own_dv x1 (8 : Int32)))] (.double (0 : UInt64)))
    (Pf411_2 : Exa Z hpt b18 "[D")
    (Pf411_3 : Arv Z hpt b18 k18 .double (3 : Int32) [(.double (own_dv x1 (12 : Int32))), (.double (own_dv x1 (16 : Int32))), (.double (own_dv x1 (20 : Int32)))] (.double (0 : UInt64)))
    (Pf411_4 : Exa Z hpt b43 "[D")
    (Pf411_5 : Arv Z hpt b43 k43 .double (3 : Int32) [(.double (own_dv x1 (24 : Int32))), (.double (own_dv x1 (28 : Int32))), (.double (own_dv x1 (32 : Int32)))] (.double (0 : UInt64)))
    (Pf411_6 : Arv Z hpt b78 k78 .int (3 : Int32) [(.int (own_iv x1 (0 : Int32))), (.int (own_iv x1 (4 : Int32))), (.int (own_iv x1 (8 : Int32)))] (.int (0 : Int32)))
    (Pf411_7 : Arv Z hpt b118 k118 .int (3 : Int32) [(.int (own_iv x1 (12 : Int32))), (.int (own_iv x1 (16 : Int32))), (.int (own_iv x1 (20 : Int32)))] (.int (0 : Int32)))
    (Pf411_8 : Arv Z hpt b164 k164 .int (3 : Int32) [(.int (own_iv x1 (24 : Int32))), (.int (own_iv x1 (28 : Int32))), (.int (own_iv x1 (32 : Int32)))] (.int (0 : Int32)))
    (Pf411_9 : Arv Z hpt b349 k349 (.array .double) (3 : Int32) [(.ref b1), (.ref b18), (.ref b43)] .null)
    (Pg411_10 : n0 ≤ b1)
    (Pn411_11 : b1 ≠ b18)
    (Pg411_12 : n0 ≤ b18)
    (Pn411_13 : b1 ≠ b43)
    (Pn411_14 : b18 ≠ b43)
    (Pg411_15 : n0 ≤ b43)
    (Pn411_16 : b1 ≠ b78)
    (Pn411_17 : b18 ≠ b78)
    (Pn411_18 : b43 ≠ b78)
    (Pg411_19 : n0 ≤ b78)
    (Pn411_20 : b1 ≠ b118)
    (Pn411_21 : b18 ≠ b118)
    (Pn411_22 : b43 ≠ b118)
    (Pn411_23 : b78 ≠ b118)
    (Pg411_24 : n0 ≤ b118)
    (Pn411_25 : b1 ≠ b164)
    (Pn411_26 : b18 ≠ b164)
    (Pn411_27 : b43 ≠ b164)
    (Pn411_28 : b78 ≠ b164)
    (Pn411_29 : b118 ≠ b164)
    (Pg411_30 : n0 ≤ b164)
    (Po411_31 : OvrA Z k349 .double "[D")
    (Pn411_32 : b1 ≠ b349)
    (Pn411_33 : b18 ≠ b349)
    (Pn411_34 : b43 ≠ b349)
    (Pn411_35 : b78 ≠ b349)
    (Pn411_36 : b118 ≠ b349)
    (Pn411_37 : b164 ≠ b349)
    (Pg411_38 : n0 ≤ b349)
    (hA0 : ¬ (A < (0 : Int32)))
    (hA1 : A < (3 : Int32))
    (hB0 : ¬ (B < (0 : Int32)))
    (hB1 : B < (3 : Int32))
    (hnm_W : (x0 &&& (3 : Int32)) = W)
    (Ph411_44 : ¬ (W = (0 : Int32)))
    (Ph411_45 : ¬ (W = (1 : Int32)))
    (Ph411_46 : ¬ (W = (2 : Int32)))
    (Ph411_47 : ¬ (W < (1 : Int32)))
    (Ph411_48 : (own_iat (own_iv x1 (0 : Int32)) (own_iv x1 (4 : Int32)) (own_iv x1 (8 : Int32)) B) < (own_iat (own_iv x1 (0 : Int32)) (own_iv x1 (4 : Int32)) (own_iv x1 (8 : Int32)) A))
    (Ph411_49 : ¬ (W < (2 : Int32)))
    (Ph411_50 : (own_iat (own_iv x1 (12 : Int32)) (own_iv x1 (16 : Int32)) (own_iv x1 (20 : Int32)) B) < (own_iat (own_iv x1 (12 : Int32)) (own_iv x1 (16 : Int32)) (own_iv x1 (20 : Int32)) A))
    (Ph411_51 : ¬ (W < (3 : Int32)))
    : Goes p.tables e below (Tpt.setTop (mkF m 351 #[.val (.int x0), .val (.long x1), .second, .val (.int W), .val (.int A), .val (.int B), .val (.ref b1), .val (.ref b18), .val (.ref b43), .val (.ref b78), .val (.ref b118), .val (.ref b164), .val (.ref b349), .val (.int (1 : Int32)), .val (.int (1 : Int32)), .unset, .unset] [(.int A), (.ref b164)])) (own_R below s (own_Q_own_rm0 Z x0 x1 h0 n0) 7 21) := by
  have hx := Bd.exec
  have hby := Bd.bytes
  have hml : c.maxLocals = 17 := hml0
  have hnm := (name_of_methodNamed Bd.named Bd.method).1
  have hown : s.vm.findClass "com/example/pareto4/pareto4/front/KeysNoHigherPinLaw" = some m.cls := findClass_of_methodNamed Bd.named
  show Goes p.tables e below (Tpt.setTop (mkF m 351 #[.val (.int x0), .val (.long x1), .second, .val (.int W), .val (.int A), .val (.int B), .val (.ref b1), .val (.ref b18), .val (.ref b43), .val (.ref b78), .val (.ref b118), .val (.ref b164), .val (.ref b349), .val (.int (1 : Int32)), .val (.int (1 : Int32)), .unset, .unset] [(.int A), (.ref b164)])) _
  obtain ⟨cl412, Ar412, q412, S412, N412, H412, G412⟩ := id Pf411_8
  have hin412 : ¬ (A < 0 ∨ cl412.slots.size ≤ (A).toNatClampNeg) := by
    have k1 := rng32 A
    have k2 : (0 : Int32).toInt = 0 := rfl
    have k3 : ¬ A.toInt < (0 : Int32).toInt := fun z => hA0 (Int32.lt_iff_toInt_lt.mpr z)
    have k4 : (3 : Int32).toInt = 3 := rfl
    have k5 : A.toInt < (3 : Int32).toInt := Int32.lt_iff_toInt_lt.mp hA1
    have k6 := rng32 B
    have k7 : ¬ B.toInt < (0 : Int32).toInt := fun z => hB0 (Int32.lt_iff_toInt_lt.mpr z)
    have k8 : B.toInt < (3 : Int32).toInt := Int32.lt_iff_toInt_lt.mp hB1
    have k9 := rng32 x0
    have k10 : (x0 &&& (3 : Int32)).toInt = x0.toInt % 4 := c_mask x0 (3 : Int32) 2 (by decide) (by decide)
    have k11 := rng32 W
    have k12 : (x0 &&& (3 : Int32)).toInt = W.toInt := congrArg Int32.toInt hnm_W
    have k13 : ¬ W.toInt = (0 : Int32).toInt := fun z => Ph411_44 (Int32.toInt_inj.mp z)
    have k14 : (1 : Int32).toInt = 1 := rfl
    have k15 : ¬ W.toInt = (1 : Int32).toInt := fun z => Ph411_45 (Int32.toInt_inj.mp z)
    have k16 : (2 : Int32).toInt = 2 := rfl
    have k17 : ¬ W.toInt = (2 : Int32).toInt := fun z => Ph411_46 (Int32.toInt_inj.mp z)
    have k18 : ¬ W.toInt < (1 : Int32).toInt := fun z => Ph411_47 (Int32.lt_iff_toInt_lt.mpr z)
    have k19 := rng32 (own_iat (own_iv x1 (0 : Int32)) (own_iv x1 (4 : Int32)) (own_iv x1 (8 : Int32)) B)
    have k20 := rng32 (own_iat (own_iv x1 (0 : Int32)) (own_iv x1 (4 : Int32)) (own_iv x1 (8 : Int32)) A)
    have k21 : (own_iat (own_iv x1 (0 : Int32)) (own_iv x1 (4 : Int32)) (own_iv x1 (8 : Int32)) B).toInt < (own_iat (own_iv x1 (0 : Int32)) (own_iv x1 (4 : Int32)) (own_iv x1 (8 : Int32)) A).toInt := Int32.lt_iff_toInt_lt.mp Ph411_48
    have k22 : ¬ W.toInt < (2 : Int32).toInt := fun z => Ph411_49 (Int32.lt_iff_toInt_lt.mpr z)
    have k23 := rng32 (own_iat (own_iv x1 (12 : Int32)) (own_iv x1 (16 : Int32)) (own_iv x1 (20 : Int32)) B)
    have k24 := rng32 (own_iat (own_iv x1 (12 : Int32)) (own_iv x1 (16 : Int32)) (own_iv x1 (20 : Int32)) A)
    have k25 : (own_iat (own_iv x1 (12 : Int32)) (own_iv x1 (16 : Int32)) (own_iv x1 (20 : Int32)) B).toInt < (own_iat (own_iv x1 (12 : Int32)) (own_iv x1 (16 : Int32)) (own_iv x1 (20 : Int32)) A).toInt := Int32.lt_iff_toInt_lt.mp Ph411_50
    have k26 : ¬ W.toInt < (3 : Int32).toInt := fun z => Ph411_51 (Int32.lt_iff_toInt_lt.mpr z)
    refine inb_of S412 ⟨fun hq => ?_, Int32.lt_iff_toInt_lt.mpr ?_⟩
    · have hq' := Int32.lt_iff_toInt_lt.mp hq
      omega
    · omega
  have hat412 : cl412.slots[(A).toNatClampNeg]? = some (.int (own_iat (own_iv x1 (24 : Int32)) (own_iv x1 (28 : Int32)) (own_iv x1 (32 : Int32)) A)) := Has.at H412 hin412 (own_iat_eq (own_iv x1 (24 : Int32)) (own_iv x1 (28 : Int32)) (own_iv x1 (32 : Int32)) A)
  refine Goes.to (fun _ k => Xpt.iaload hx (j := A) (v := (.int (own_iat (own_iv x1 (24 : Int32)) (own_iv x1 (28 : Int32)) (own_iv x1 (32 : Int32)) A))) (by rw [Ept]; exact Ar412.1) (State.isArrayOf_alike hZ.alike Ar412.2.1) Ar412.2.2 hin412 hat412 (g := (mkF m 351 #[.val (.int x0), .val (.long x1), .second, .val (.int W), .val (.int A), .val (.int B), .val (.ref b1), .val (.ref b18), .val (.ref b43), .val (.ref b78), .val (.ref b118), .val (.ref b164), .val (.ref b349), .val (.int (1 : Int32)), .val (.int (1 : Int32)), .unset, .unset] [(.int A), (.ref b164)])) rfl rfl (hb hby at_351) _ k) ?_
  show Goes p.tables e below (Tpt.setTop (mkF m 352 #[.val (.int x0), .val (.long x1), .second, .val (.int W), .val (.int A), .val (.int B), .val (.ref b1), .val (.ref b18), .val (.ref b43), .val (.ref b78), .val (.ref b118), .val (.ref b164), .val (.ref b349), .val (.int (1 : Int32)), .val (.int (1 : Int32)), .unset, .unset] [(.int (own_iat (own_iv x1 (24 : Int32)) (own_iv x1 (28 : Int32)) (own_iv x1 (32 : Int32)) A))])) _
  refine Goes.to (fun _ k => XS.aload Xpt.here hx rfl (hb hby at_352) rfl rfl k) ?_
  show Goes p.tables e below (Tpt.setTop (mkF m 354 #[.val (.int x0), .val (.long x1), .second, .val (.int W), .val (.int A), .val (.int B), .val (.ref b1), .val (.ref b18), .val (.ref b43), .val (.ref b78), .val (.ref b118), .val (.ref b164), .val (.ref b349), .val (.int (1 : Int32)), .val (.int (1 : Int32)), .unset, .unset] [(.ref b164), (.int (own_iat (own_iv x1 (24 : Int32)) (own_iv x1 (28 : Int32)) (own_iv x1 (32 : Int32)) A))])) _
  refine Goes.to (fun _ k => XS.iload Xpt.here hx rfl (hb hby at_354) rfl k) ?_
  show Goes p.tables e below (Tpt.setTop (mkF m 356 #[.val (.int x0), .val (.long x1), .second, .val (.int W), .val (.int A), .val (.int B), .val (.ref b1), .val (.ref b18), .val (.ref b43), .val (.ref b78), .val (.ref b118), .val (.ref b164), .val (.ref b349), .val (.int (1 : Int32)), .val (.int (1 : Int32)), .unset, .unset] [(.int B), (.ref b164), (.int (own_iat (own_iv x1 (24 : Int32)) (own_iv x1 (28 : Int32)) (own_iv x1 (32 : Int32)) A))])) _
  obtain ⟨cl413, Ar413, q413, S413, N413, H413, G413⟩ := id Pf411_8
  have hin413 : ¬ (B < 0 ∨ cl413.slots.size ≤ (B).toNatClampNeg) := by
    have k1 := rng32 A
    have k2 : (0 : Int32).toInt = 0 := rfl
    have k3 : ¬ A.toInt < (0 : Int32).toInt := fun z => hA0 (Int32.lt_iff_toInt_lt.mpr z)
    have k4 : (3 : Int32).toInt = 3 := rfl
    have k5 : A.toInt < (3 : Int32).toInt := Int32.lt_iff_toInt_lt.mp hA1
    have k6 := rng32 B
    have k7 : ¬ B.toInt < (0 : Int32).toInt := fun z => hB0 (Int32.lt_iff_toInt_lt.mpr z)
    have k8 : B.toInt < (3 : Int32).toInt := Int32.lt_iff_toInt_lt.mp hB1
    have k9 := rng32 x0
    have k10 : (x0 &&& (3 : Int32)).toInt = x0.toInt % 4 := c_mask x0 (3 : Int32) 2 (by decide) (by decide)
    have k11 := rng32 W
    have k12 : (x0 &&& (3 : Int32)).toInt = W.toInt := congrArg Int32.toInt hnm_W
    have k13 : ¬ W.toInt = (0 : Int32).toInt := fun z => Ph411_44 (Int32.toInt_inj.mp z)
    have k14 : (1 : Int32).toInt = 1 := rfl
    have k15 : ¬ W.toInt = (1 : Int32).toInt := fun z => Ph411_45 (Int32.toInt_inj.mp z)
    have k16 : (2 : Int32).toInt = 2 := rfl
    have k17 : ¬ W.toInt = (2 : Int32).toInt := fun z => Ph411_46 (Int32.toInt_inj.mp z)
    have k18 : ¬ W.toInt < (1 : Int32).toInt := fun z => Ph411_47 (Int32.lt_iff_toInt_lt.mpr z)
    have k19 := rng32 (own_iat (own_iv x1 (0 : Int32)) (own_iv x1 (4 : Int32)) (own_iv x1 (8 : Int32)) B)
    have k20 := rng32 (own_iat (own_iv x1 (0 : Int32)) (own_iv x1 (4 : Int32)) (own_iv x1 (8 : Int32)) A)
    have k21 : (own_iat (own_iv x1 (0 : Int32)) (own_iv x1 (4 : Int32)) (own_iv x1 (8 : Int32)) B).toInt < (own_iat (own_iv x1 (0 : Int32)) (own_iv x1 (4 : Int32)) (own_iv x1 (8 : Int32)) A).toInt := Int32.lt_iff_toInt_lt.mp Ph411_48
    have k22 : ¬ W.toInt < (2 : Int32).toInt := fun z => Ph411_49 (Int32.lt_iff_toInt_lt.mpr z)
    have k23 := rng32 (own_iat (own_iv x1 (12 : Int32)) (own_iv x1 (16 : Int32)) (own_iv x1 (20 : Int32)) B)
    have k24 := rng32 (own_iat (own_iv x1 (12 : Int32)) (own_iv x1 (16 : Int32)) (own_iv x1 (20 : Int32)) A)
    have k25 : (own_iat (own_iv x1 (12 : Int32)) (own_iv x1 (16 : Int32)) (own_iv x1 (20 : Int32)) B).toInt < (own_iat (own_iv x1 (12 : Int32)) (own_iv x1 (16 : Int32)) (own_iv x1 (20 : Int32)) A).toInt := Int32.lt_iff_toInt_lt.mp Ph411_50
    have k26 : ¬ W.toInt < (3 : Int32).toInt := fun z => Ph411_51 (Int32.lt_iff_toInt_lt.mpr z)
    refine inb_of S413 ⟨fun hq => ?_, Int32.lt_iff_toInt_lt.mpr ?_⟩
    · have hq' := Int32.lt_iff_toInt_lt.mp hq
      omega
    · omega
  have hat413 : cl413.slots[(B).toNatClampNeg]? = some (.int (own_iat (own_iv x1 (24 : Int32)) (own_iv x1 (28 : Int32)) (own_iv x1 (32 : Int32)) B)) := Has.at H413 hin413 (own_iat_eq (own_iv x1 (24 : Int32)) (own_iv x1 (28 : Int32)) (own_iv x1 (32 : Int32)) B)
  refine Goes.to (fun _ k => Xpt.iaload hx (j := B) (v := (.int (own_iat (own_iv x1 (24 : Int32)) (own_iv x1 (28 : Int32)) (own_iv x1 (32 : Int32)) B))) (by rw [Ept]; exact Ar413.1) (State.isArrayOf_alike hZ.alike Ar413.2.1) Ar413.2.2 hin413 hat413 (g := (mkF m 356 #[.val (.int x0), .val (.long x1), .second, .val (.int W), .val (.int A), .val (.int B), .val (.ref b1), .val (.ref b18), .val (.ref b43), .val (.ref b78), .val (.ref b118), .val (.ref b164), .val (.ref b349), .val (.int (1 : Int32)), .val (.int (1 : Int32)), .unset, .unset] [(.int B), (.ref b164), (.int (own_iat (own_iv x1 (24 : Int32)) (own_iv x1 (28 : Int32)) (own_iv x1 (32 : Int32)) A))])) rfl rfl (hb hby at_356) _ k) ?_
  show Goes p.tables e below (Tpt.setTop (mkF m 357 #[.val (.int x0), .val (.long x1), .second, .val (.int W), .val (.int A), .val (.int B), .val (.ref b1), .val (.ref b18), .val (.ref b43), .val (.ref b78), .val (.ref b118), .val (.ref b164), .val (.ref b349), .val (.int (1 : Int32)), .val (.int (1 : Int32)), .unset, .unset] [(.int (own_iat (own_iv x1 (24 : Int32)) (own_iv x1 (28 : Int32)) (own_iv x1 (32 : Int32)) B)), (.int (own_iat (own_iv x1 (24 : Int32)) (own_iv x1 (28 : Int32)) (own_iv x1 (32 : Int32)) A))])) _
  by_cases hc414 : (own_iat (own_iv x1 (24 : Int32)) (own_iv x1 (28 : Int32)) (own_iv x1 (32 : Int32)) B) < (own_iat (own_iv x1 (24 : Int32)) (own_iv x1 (28 : Int32)) (own_iv x1 (32 : Int32)) A)
  · refine Goes.to (fun _ k => XS.icmpNo Xpt.here hx rfl (hb hby at_357) rfl (tlt hc414).2.2.2 k) ?_
    show Goes p.tables e below (Tpt.setTop (mkF m 360 #[.val (.int x0), .val (.long x1), .second, .val (.int W), .val (.int A), .val (.int B), .val (.ref b1), .val (.ref b18), .val (.ref b43), .val (.ref b78), .val (.ref b118), .val (.ref b164), .val (.ref b349), .val (.int (1 : Int32)), .val (.int (1 : Int32)), .unset, .unset] [])) _
    refine Goes.to (fun _ k => XS.iconst Xpt.here hx rfl (hb hby at_360) k) ?_
    show Goes p.tables e below (Tpt.setTop (mkF m 361 #[.val (.int x0), .val (.long x1), .second, .val (.int W), .val (.int A), .val (.int B), .val (.ref b1), .val (.ref b18), .val (.ref b43), .val (.ref b78), .val (.ref b118), .val (.ref b164), .val (.ref b349), .val (.int (1 : Int32)), .val (.int (1 : Int32)), .unset, .unset] [(.int (1 : Int32))])) _
    refine Goes.to (fun _ k => XS.goto Xpt.here hx rfl (pc0 := 361) (pc' := 365) rfl (hb hby at_361) (by decide) (by decide) k) ?_
    show Goes p.tables e below (Tpt.setTop (mkF m 365 #[.val (.int x0), .val (.long x1), .second, .val (.int W), .val (.int A), .val (.int B), .val (.ref b1), .val (.ref b18), .val (.ref b43), .val (.ref b78), .val (.ref b118), .val (.ref b164), .val (.ref b349), .val (.int (1 : Int32)), .val (.int (1 : Int32)), .unset, .unset] [(.int (1 : Int32))])) _
    refine Goes.to (fun _ k => XS.istore Xpt.here hx rfl (hb hby at_365) rfl (l' := #[.val (.int x0), .val (.long x1), .second, .val (.int W), .val (.int A), .val (.int B), .val (.ref b1), .val (.ref b18), .val (.ref b43), .val (.ref b78), .val (.ref b118), .val (.ref b164), .val (.ref b349), .val (.int (1 : Int32)), .val (.int (1 : Int32)), .val (.int (1 : Int32)), .unset]) rfl k) ?_
    show Goes p.tables e below (Tpt.setTop (mkF m 367 #[.val (.int x0), .val (.long x1), .second, .val (.int W), .val (.int A), .val (.int B), .val (.ref b1), .val (.ref b18), .val (.ref b43), .val (.ref b78), .val (.ref b118), .val (.ref b164), .val (.ref b349), .val (.int (1 : Int32)), .val (.int (1 : Int32)), .val (.int (1 : Int32)), .unset] [])) _
    refine Goes.to (fun _ k => XS.iload Xpt.here hx rfl (hb hby at_367) rfl k) ?_
    show Goes p.tables e below (Tpt.setTop (mkF m 369 #[.val (.int x0), .val (.long x1), .second, .val (.int W), .val (.int A), .val (.int B), .val (.ref b1), .val (.ref b18), .val (.ref b43), .val (.ref b78), .val (.ref b118), .val (.ref b164), .val (.ref b349), .val (.int (1 : Int32)), .val (.int (1 : Int32)), .val (.int (1 : Int32)), .unset] [(.int (1 : Int32))])) _
    refine Goes.to (fun _ k => XS.ifYes Xpt.here hx rfl (pc0 := 369) (pc' := 386) rfl (hb hby at_369) rfl ((if0 _ _).trans (feq (by decide : ¬ ((1 : Int32) = (0 : Int32)))).2) (by decide) (by decide) k) ?_
    show Goes p.tables e below (Tpt.setTop (mkF m 386 #[.val (.int x0), .val (.long x1), .second, .val (.int W), .val (.int A), .val (.int B), .val (.ref b1), .val (.ref b18), .val (.ref b43), .val (.ref b78), .val (.ref b118), .val (.ref b164), .val (.ref b349), .val (.int (1 : Int32)), .val (.int (1 : Int32)), .val (.int (1 : Int32)), .unset] [])) _
    refine Goes.to (fun _ k => XS.iconst Xpt.here hx rfl (hb hby at_386) k) ?_
    show Goes p.tables e below (Tpt.setTop (mkF m 387 #[.val (.int x0), .val (.long x1), .second, .val (.int W), .val (.int A), .val (.int B), .val (.ref b1), .val (.ref b18), .val (.ref b43), .val (.ref b78), .val (.ref b118), .val (.ref b164), .val (.ref b349), .val (.int (1 : Int32)), .val (.int (1 : Int32)), .val (.int (1 : Int32)), .unset] [(.int (0 : Int32))])) _
    refine Goes.to (fun _ k => XS.istore Xpt.here hx rfl (hb hby at_387) rfl (l' := #[.val (.int x0), .val (.long x1), .second, .val (.int W), .val (.int A), .val (.int B), .val (.ref b1), .val (.ref b18), .val (.ref b43), .val (.ref b78), .val (.ref b118), .val (.ref b164), .val (.ref b349), .val (.int (1 : Int32)), .val (.int (1 : Int32)), .val (.int (1 : Int32)), .val (.int (0 : Int32))]) rfl k) ?_
    show Goes p.tables e below (Tpt.setTop (mkF m 389 #[.val (.int x0), .val (.long x1), .second, .val (.int W), .val (.int A), .val (.int B), .val (.ref b1), .val (.ref b18), .val (.ref b43), .val (.ref b78), .val (.ref b118), .val (.ref b164), .val (.ref b349), .val (.int (1 : Int32)), .val (.int (1 : Int32)), .val (.int (1 : Int32)), .val (.int (0 : Int32))] [])) _
    refine Goes.to (fun _ k => XS.aload Xpt.here hx rfl (hb hby at_389) rfl rfl k) ?_
    show Goes p.tables e below (Tpt.setTop (mkF m 391 #[.val (.int x0), .val (.long x1), .second, .val (.int W), .val (.int A), .val (.int B), .val (.ref b1), .val (.ref b18), .val (.ref b43), .val (.ref b78), .val (.ref b118), .val (.ref b164), .val (.ref b349), .val (.int (1 : Int32)), .val (.int (1 : Int32)), .val (.int (1 : Int32)), .val (.int (0 : Int32))] [(.ref b349)])) _
    refine Goes.to (fun _ k => XS.iload Xpt.here hx rfl (hb hby at_391) rfl k) ?_
    show Goes p.tables e below (Tpt.setTop (mkF m 393 #[.val (.int x0), .val (.long x1), .second, .val (.int W), .val (.int A), .val (.int B), .val (.ref b1), .val (.ref b18), .val (.ref b43), .val (.ref b78), .val (.ref b118), .val (.ref b164), .val (.ref b349), .val (.int (1 : Int32)), .val (.int (1 : Int32)), .val (.int (1 : Int32)), .val (.int (0 : Int32))] [(.int A), (.ref b349)])) _
    refine Goes.to (fun _ k => XS.iload Xpt.here hx rfl (hb hby at_393) rfl k) ?_
    show Goes p.tables e below (Tpt.setTop (mkF m 395 #[.val (.int x0), .val (.long x1), .second, .val (.int W), .val (.int A), .val (.int B), .val (.ref b1), .val (.ref b18), .val (.ref b43), .val (.ref b78), .val (.ref b118), .val (.ref b164), .val (.ref b349), .val (.int (1 : Int32)), .val (.int (1 : Int32)), .val (.int (1 : Int32)), .val (.int (0 : Int32))] [(.int B), (.int A), (.ref b349)])) _
    obtain ⟨_, _, ⟨T415, L415, k415, n415⟩, -, X415, ⟨Lc415, hQ415, l415, y415, z415⟩, st415⟩ := Jvm.LawKit.callS Xpt hx (y := (⟨"com/example/pareto4/pareto4/front/Keys", "noHigher", "([[DII)Z"⟩ : MethodName)) hown (mvT hZ (hw _ (List.mem_of_getElem? (i := 12) rfl))) (mvT hZ (hw _ (List.mem_of_getElem? (i := 13) rfl))) (mvT hZ (hw _ (List.mem_of_getElem? (i := 14) rfl))) (mvT hZ (hw _ (List.mem_of_getElem? (i := 15) rfl))) (by decide) (backOf (W := 0) (own_rmNH3 l Z a0 hw [] b349 A B k349 b1 k1 (own_dv x1 (0 : Int32)) (own_dv x1 (4 : Int32)) (own_dv x1 (8 : Int32)) b18 k18 (own_dv x1 (12 : Int32)) (own_dv x1 (16 : Int32)) (own_dv x1 (20 : Int32)) b43 k43 (own_dv x1 (24 : Int32)) (own_dv x1 (28 : Int32)) (own_dv x1 (32 : Int32)) hpt n0 Zpt hA0 hA1 hB0 hB1 Pf411_1 Pf411_3 Pf411_5 Pf411_9) hZ (hw _ (List.mem_of_getElem? (i := 15) rfl)) (hw _ (List.mem_of_getElem? (i := 14) rfl)) (by decide) (by decide)) (g := (mkF m 395 #[.val (.int x0), .val (.long x1), .second, .val (.int W), .val (.int A), .val (.int B), .val (.ref b1), .val (.ref b18), .val (.ref b43), .val (.ref b78), .val (.ref b118), .val (.ref b164), .val (.ref b349), .val (.int (1 : Int32)), .val (.int (1 : Int32)), .val (.int (1 : Int32)), .val (.int (0 : Int32))] [(.int B), (.int A), (.ref b349)])) rfl (by rw [hml]; rfl) (argsL := [(.ref b349), (.int A), (.int B)]) (rest := []) (lenOf own_pd_paaDIIqZ rfl) rfl (by show 2 * 0 + _ ≤ _; exact Nat.le_of_eq rfl) (hb hby at_395) (fun _ _ => ⟨rfl, Ept, (by decide : 7 + 0 ≤ _), (by decide : 21 + 0 ≤ _)⟩)
    dsimp only [Pt.U, Pt.locs, Pt.cells, Pt.slots] at X415 l415 y415 z415 st415 hQ415
    subst l415 y415 z415
    obtain ⟨hv415, Nq415, hp415_0⟩ := hQ415
    have N415 := Fr.app Npt Nq415
    by_cases hc416 : ((0 : Int32) < (cmpValue (FP.dcmp (own_at (own_dv x1 (0 : Int32)) (own_dv x1 (4 : Int32)) (own_dv x1 (8 : Int32)) A) (own_at (own_dv x1 (0 : Int32)) (own_dv x1 (4 : Int32)) (own_dv x1 (8 : Int32)) B)) .l)) ∨ ((0 : Int32) < (cmpValue (FP.dcmp (own_at (own_dv x1 (12 : Int32)) (own_dv x1 (16 : Int32)) (own_dv x1 (20 : Int32)) A) (own_at (own_dv x1 (12 : Int32)) (own_dv x1 (16 : Int32)) (own_dv x1 (20 : Int32)) B)) .l)) ∨ ((0 : Int32) < (cmpValue (FP.dcmp (own_at (own_dv x1 (24 : Int32)) (own_dv x1 (28 : Int32)) (own_dv x1 (32 : Int32)) A) (own_at (own_dv x1 (24 : Int32)) (own_dv x1 (28 : Int32)) (own_dv x1 (32 : Int32)) B)) .l))
    · rw [if_pos hc416] at hv415
      subst hv415
      refine Goes.to st415 ?_
      show Goes p.tables e below (T415.setTop (mkF m 398 #[.val (.int x0), .val (.long x1), .second, .val (.int W), .val (.int A), .val (.int B), .val (.ref b1), .val (.ref b18), .val (.ref b43), .val (.ref b78), .val (.ref b118), .val (.ref b164), .val (.ref b349), .val (.int (1 : Int32)), .val (.int (1 : Int32)), .val (.int (1 : Int32)), .val (.int (0 : Int32))] [(.int (0 : Int32))])) _
      refine Goes.to (fun _ k => XS.iload X415.here hx rfl (hb hby at_398) rfl k) ?_
      show Goes p.tables e below (T415.setTop (mkF m 400 #[.val (.int x0), .val (.long x1), .second, .val (.int W), .val (.int A), .val (.int B), .val (.ref b1), .val (.ref b18), .val (.ref b43), .val (.ref b78), .val (.ref b118), .val (.ref b164), .val (.ref b349), .val (.int (1 : Int32)), .val (.int (1 : Int32)), .val (.int (1 : Int32)), .val (.int (0 : Int32))] [(.int (0 : Int32)), (.int (0 : Int32))])) _
      refine Goes.to (fun _ k => XS.icmpNo X415.here hx rfl (hb hby at_400) rfl (teq (by decide : (0 : Int32) = (0 : Int32))).2 k) ?_
      show Goes p.tables e below (T415.setTop (mkF m 403 #[.val (.int x0), .val (.long x1), .second, .val (.int W), .val (.int A), .val (.int B), .val (.ref b1), .val (.ref b18), .val (.ref b43), .val (.ref b78), .val (.ref b118), .val (.ref b164), .val (.ref b349), .val (.int (1 : Int32)), .val (.int (1 : Int32)), .val (.int (1 : Int32)), .val (.int (0 : Int32))] [])) _
      refine Goes.to (fun _ k => XS.iconst X415.here hx rfl (hb hby at_403) k) ?_
      show Goes p.tables e below (T415.setTop (mkF m 404 #[.val (.int x0), .val (.long x1), .second, .val (.int W), .val (.int A), .val (.int B), .val (.ref b1), .val (.ref b18), .val (.ref b43), .val (.ref b78), .val (.ref b118), .val (.ref b164), .val (.ref b349), .val (.int (1 : Int32)), .val (.int (1 : Int32)), .val (.int (1 : Int32)), .val (.int (0 : Int32))] [(.int (1 : Int32))])) _
      refine Goes.to (fun _ k => XS.goto X415.here hx rfl (pc0 := 404) (pc' := 408) rfl (hb hby at_404) (by decide) (by decide) k) ?_
      show Goes p.tables e below (T415.setTop (mkF m 408 #[.val (.int x0), .val (.long x1), .second, .val (.int W), .val (.int A), .val (.int B), .val (.ref b1), .val (.ref b18), .val (.ref b43), .val (.ref b78), .val (.ref b118), .val (.ref b164), .val (.ref b349), .val (.int (1 : Int32)), .val (.int (1 : Int32)), .val (.int (1 : Int32)), .val (.int (0 : Int32))] [(.int (1 : Int32))])) _
      obtain ⟨fs, hr, hrun, hended, hW, hsame⟩ := X415.leave (v := some (.int (1 : Int32))) (fun h => by rw [Bd.returns] at h; cases h)
      have hv : (some (.int (1 : Int32)) : Option Value) = some (.int (1 : Int32)) := by
        rfl
      exact ⟨_, _, retN X415 hx (t := .boolean) Bd.returns (by simp) (hb hby at_408) hr, hrun, hended, _, _, rfl, ⟨hv, N415⟩, ⟨_, rfl⟩, hW, hsame.mono (by decide) (by decide)⟩
    · exact absurd (show ((0 : Int32) < (cmpValue (FP.dcmp (own_at (own_dv x1 (0 : Int32)) (own_dv x1 (4 : Int32)) (own_dv x1 (8 : Int32)) A) (own_at (own_dv x1 (0 : Int32)) (own_dv x1 (4 : Int32)) (own_dv x1 (8 : Int32)) B)) .l)) ∨ ((0 : Int32) < (cmpValue (FP.dcmp (own_at (own_dv x1 (12 : Int32)) (own_dv x1 (16 : Int32)) (own_dv x1 (20 : Int32)) A) (own_at (own_dv x1 (12 : Int32)) (own_dv x1 (16 : Int32)) (own_dv x1 (20 : Int32)) B)) .l)) ∨ ((0 : Int32) < (cmpValue (FP.dcmp (own_at (own_dv x1 (24 : Int32)) (own_dv x1 (28 : Int32)) (own_dv x1 (32 : Int32)) A) (own_at (own_dv x1 (24 : Int32)) (own_dv x1 (28 : Int32)) (own_dv x1 (32 : Int32)) B)) .l)) from (Or.inl ((own_row x1 (0 : Int32) (4 : Int32) (8 : Int32) A B hA0 hA1 hB0 hB1).mpr Ph411_48))) hc416
  · refine Goes.to (fun _ k => XS.icmpYes Xpt.here hx rfl (pc0 := 357) (pc' := 364) rfl (hb hby at_357) rfl (flt hc414).2.2.2 (by decide) (by decide) k) ?_
    show Goes p.tables e below (Tpt.setTop (mkF m 364 #[.val (.int x0), .val (.long x1), .second, .val (.int W), .val (.int A), .val (.int B), .val (.ref b1), .val (.ref b18), .val (.ref b43), .val (.ref b78), .val (.ref b118), .val (.ref b164), .val (.ref b349), .val (.int (1 : Int32)), .val (.int (1 : Int32)), .unset, .unset] [])) _
    refine Goes.to (fun _ k => XS.iconst Xpt.here hx rfl (hb hby at_364) k) ?_
    show Goes p.tables e below (Tpt.setTop (mkF m 365 #[.val (.int x0), .val (.long x1), .second, .val (.int W), .val (.int A), .val (.int B), .val (.ref b1), .val (.ref b18), .val (.ref b43), .val (.ref b78), .val (.ref b118), .val (.ref b164), .val (.ref b349), .val (.int (1 : Int32)), .val (.int (1 : Int32)), .unset, .unset] [(.int (0 : Int32))])) _
    refine Goes.to (fun _ k => XS.istore Xpt.here hx rfl (hb hby at_365) rfl (l' := #[.val (.int x0), .val (.long x1), .second, .val (.int W), .val (.int A), .val (.int B), .val (.ref b1), .val (.ref b18), .val (.ref b43), .val (.ref b78), .val (.ref b118), .val (.ref b164), .val (.ref b349), .val (.int (1 : Int32)), .val (.int (1 : Int32)), .val (.int (0 : Int32)), .unset]) rfl k) ?_
    show Goes p.tables e below (Tpt.setTop (mkF m 367 #[.val (.int x0), .val (.long x1), .second, .val (.int W), .val (.int A), .val (.int B), .val (.ref b1), .val (.ref b18), .val (.ref b43), .val (.ref b78), .val (.ref b118), .val (.ref b164), .val (.ref b349), .val (.int (1 : Int32)), .val (.int (1 : Int32)), .val (.int (0 : Int32)), .unset] [])) _
    refine Goes.to (fun _ k => XS.iload Xpt.here hx rfl (hb hby at_367) rfl k) ?_
    show Goes p.tables e below (Tpt.setTop (mkF m 369 #[.val (.int x0), .val (.long x1), .second, .val (.int W), .val (.int A), .val (.int B), .val (.ref b1), .val (.ref b18), .val (.ref b43), .val (.ref b78), .val (.ref b118), .val (.ref b164), .val (.ref b349), .val (.int (1 : Int32)), .val (.int (1 : Int32)), .val (.int (0 : Int32)), .unset] [(.int (1 : Int32))])) _
    refine Goes.to (fun _ k => XS.ifYes Xpt.here hx rfl (pc0 := 369) (pc' := 386) rfl (hb hby at_369) rfl ((if0 _ _).trans (feq (by decide : ¬ ((1 : Int32) = (0 : Int32)))).2) (by decide) (by decide) k) ?_
    show Goes p.tables e below (Tpt.setTop (mkF m 386 #[.val (.int x0), .val (.long x1), .second, .val (.int W), .val (.int A), .val (.int B), .val (.ref b1), .val (.ref b18), .val (.ref b43), .val (.ref b78), .val (.ref b118), .val (.ref b164), .val (.ref b349), .val (.int (1 : Int32)), .val (.int (1 : Int32)), .val (.int (0 : Int32)), .unset] [])) _
    refine Goes.to (fun _ k => XS.iconst Xpt.here hx rfl (hb hby at_386) k) ?_
    show Goes p.tables e below (Tpt.setTop (mkF m 387 #[.val (.int x0), .val (.long x1), .second, .val (.int W), .val (.int A), .val (.int B), .val (.ref b1), .val (.ref b18), .val (.ref b43), .val (.ref b78), .val (.ref b118), .val (.ref b164), .val (.ref b349), .val (.int (1 : Int32)), .val (.int (1 : Int32)), .val (.int (0 : Int32)), .unset] [(.int (0 : Int32))])) _
    refine Goes.to (fun _ k => XS.istore Xpt.here hx rfl (hb hby at_387) rfl (l' := #[.val (.int x0), .val (.long x1), .second, .val (.int W), .val (.int A), .val (.int B), .val (.ref b1), .val (.ref b18), .val (.ref b43), .val (.ref b78), .val (.ref b118), .val (.ref b164), .val (.ref b349), .val (.int (1 : Int32)), .val (.int (1 : Int32)), .val (.int (0 : Int32)), .val (.int (0 : Int32))]) rfl k) ?_
    show Goes p.tables e below (Tpt.setTop (mkF m 389 #[.val (.int x0), .val (.long x1), .second, .val (.int W), .val (.int A), .val (.int B), .val (.ref b1), .val (.ref b18), .val (.ref b43), .val (.ref b78), .val (.ref b118), .val (.ref b164), .val (.ref b349), .val (.int (1 : Int32)), .val (.int (1 : Int32)), .val (.int (0 : Int32)), .val (.int (0 : Int32))] [])) _
    refine Goes.to (fun _ k => XS.aload Xpt.here hx rfl (hb hby at_389) rfl rfl k) ?_
    show Goes p.tables e below (Tpt.setTop (mkF m 391 #[.val (.int x0), .val (.long x1), .second, .val (.int W), .val (.int A), .val (.int B), .val (.ref b1), .val (.ref b18), .val (.ref b43), .val (.ref b78), .val (.ref b118), .val (.ref b164), .val (.ref b349), .val (.int (1 : Int32)), .val (.int (1 : Int32)), .val (.int (0 : Int32)), .val (.int (0 : Int32))] [(.ref b349)])) _
    refine Goes.to (fun _ k => XS.iload Xpt.here hx rfl (hb hby at_391) rfl k) ?_
    show Goes p.tables e below (Tpt.setTop (mkF m 393 #[.val (.int x0), .val (.long x1), .second, .val (.int W), .val (.int A), .val (.int B), .val (.ref b1), .val (.ref b18), .val (.ref b43), .val (.ref b78), .val (.ref b118), .val (.ref b164), .val (.ref b349), .val (.int (1 : Int32)), .val (.int (1 : Int32)), .val (.int (0 : Int32)), .val (.int (0 : Int32))] [(.int A), (.ref b349)])) _
    refine Goes.to (fun _ k => XS.iload Xpt.here hx rfl (hb hby at_393) rfl k) ?_
    show Goes p.tables e below (Tpt.setTop (mkF m 395 #[.val (.int x0), .val (.long x1), .second, .val (.int W), .val (.int A), .val (.int B), .val (.ref b1), .val (.ref b18), .val (.ref b43), .val (.ref b78), .val (.ref b118), .val (.ref b164), .val (.ref b349), .val (.int (1 : Int32)), .val (.int (1 : Int32)), .val (.int (0 : Int32)), .val (.int (0 : Int32))] [(.int B), (.int A), (.ref b349)])) _
    obtain ⟨_, _, ⟨T417, L417, k417, n417⟩, -, X417, ⟨Lc417, hQ417, l417, y417, z417⟩, st417⟩ := Jvm.LawKit.callS Xpt hx (y := (⟨"com/example/pareto4/pareto4/front/Keys", "noHigher", "([[DII)Z"⟩ : MethodName)) hown (mvT hZ (hw _ (List.mem_of_getElem? (i := 12) rfl))) (mvT hZ (hw _ (List.mem_of_getElem? (i := 13) rfl))) (mvT hZ (hw _ (List.mem_of_getElem? (i := 14) rfl))) (mvT hZ (hw _ (List.mem_of_getElem? (i := 15) rfl))) (by decide) (backOf (W := 0) (own_rmNH3 l Z a0 hw [] b349 A B k349 b1 k1 (own_dv x1 (0 : Int32)) (own_dv x1 (4 : Int32)) (own_dv x1 (8 : Int32)) b18 k18 (own_dv x1 (12 : Int32)) (own_dv x1 (16 : Int32)) (own_dv x1 (20 : Int32)) b43 k43 (own_dv x1 (24 : Int32)) (own_dv x1 (28 : Int32)) (own_dv x1 (32 : Int32)) hpt n0 Zpt hA0 hA1 hB0 hB1 Pf411_1 Pf411_3 Pf411_5 Pf411_9) hZ (hw _ (List.mem_of_getElem? (i := 15) rfl)) (hw _ (List.mem_of_getElem? (i := 14) rfl)) (by decide) (by decide)) (g := (mkF m 395 #[.val (.int x0), .val (.long x1), .second, .val (.int W), .val (.int A), .val (.int B), .val (.ref b1), .val (.ref b18), .val (.ref b43), .val (.ref b78), .val (.ref b118), .val (.ref b164), .val (.ref b349), .val (.int (1 : Int32)), .val (.int (1 : Int32)), .val (.int (0 : Int32)), .val (.int (0 : Int32))] [(.int B), (.int A), (.ref b349)])) rfl (by rw [hml]; rfl) (argsL := [(.ref b349), (.int A), (.int B)]) (rest := []) (lenOf own_pd_paaDIIqZ rfl) rfl (by show 2 * 0 + _ ≤ _; exact Nat.le_of_eq rfl) (hb hby at_395) (fun _ _ => ⟨rfl, Ept, (by decide : 7 + 0 ≤ _), (by decide : 21 + 0 ≤ _)⟩)
    dsimp only [Pt.U, Pt.locs, Pt.cells, Pt.slots] at X417 l417 y417 z417 st417 hQ417
    subst l417 y417 z417
    obtain ⟨hv417, Nq417, hp417_0⟩ := hQ417
    have N417 := Fr.app Npt Nq417
    by_cases hc418 : ((0 : Int32) < (cmpValue (FP.dcmp (own_at (own_dv x1 (0 : Int32)) (own_dv x1 (4 : Int32)) (own_dv x1 (8 : Int32)) A) (own_at (own_dv x1 (0 : Int32)) (own_dv x1 (4 : Int32)) (own_dv x1 (8 : Int32)) B)) .l)) ∨ ((0 : Int32) < (cmpValue (FP.dcmp (own_at (own_dv x1 (12 : Int32)) (own_dv x1 (16 : Int32)) (own_dv x1 (20 : Int32)) A) (own_at (own_dv x1 (12 : Int32)) (own_dv x1 (16 : Int32)) (own_dv x1 (20 : Int32)) B)) .l)) ∨ ((0 : Int32) < (cmpValue (FP.dcmp (own_at (own_dv x1 (24 : Int32)) (own_dv x1 (28 : Int32)) (own_dv x1 (32 : Int32)) A) (own_at (own_dv x1 (24 : Int32)) (own_dv x1 (28 : Int32)) (own_dv x1 (32 : Int32)) B)) .l))
    · rw [if_pos hc418] at hv417
      subst hv417
      refine Goes.to st417 ?_
      show Goes p.tables e below (T417.setTop (mkF m 398 #[.val (.int x0), .val (.long x1), .second, .val (.int W), .val (.int A), .val (.int B), .val (.ref b1), .val (.ref b18), .val (.ref b43), .val (.ref b78), .val (.ref b118), .val (.ref b164), .val (.ref b349), .val (.int (1 : Int32)), .val (.int (1 : Int32)), .val (.int (0 : Int32)), .val (.int (0 : Int32))] [(.int (0 : Int32))])) _
      refine Goes.to (fun _ k => XS.iload X417.here hx rfl (hb hby at_398) rfl k) ?_
      show Goes p.tables e below (T417.setTop (mkF m 400 #[.val (.int x0), .val (.long x1), .second, .val (.int W), .val (.int A), .val (.int B), .val (.ref b1), .val (.ref b18), .val (.ref b43), .val (.ref b78), .val (.ref b118), .val (.ref b164), .val (.ref b349), .val (.int (1 : Int32)), .val (.int (1 : Int32)), .val (.int (0 : Int32)), .val (.int (0 : Int32))] [(.int (0 : Int32)), (.int (0 : Int32))])) _
      refine Goes.to (fun _ k => XS.icmpNo X417.here hx rfl (hb hby at_400) rfl (teq (by decide : (0 : Int32) = (0 : Int32))).2 k) ?_
      show Goes p.tables e below (T417.setTop (mkF m 403 #[.val (.int x0), .val (.long x1), .second, .val (.int W), .val (.int A), .val (.int B), .val (.ref b1), .val (.ref b18), .val (.ref b43), .val (.ref b78), .val (.ref b118), .val (.ref b164), .val (.ref b349), .val (.int (1 : Int32)), .val (.int (1 : Int32)), .val (.int (0 : Int32)), .val (.int (0 : Int32))] [])) _
      refine Goes.to (fun _ k => XS.iconst X417.here hx rfl (hb hby at_403) k) ?_
      show Goes p.tables e below (T417.setTop (mkF m 404 #[.val (.int x0), .val (.long x1), .second, .val (.int W), .val (.int A), .val (.int B), .val (.ref b1), .val (.ref b18), .val (.ref b43), .val (.ref b78), .val (.ref b118), .val (.ref b164), .val (.ref b349), .val (.int (1 : Int32)), .val (.int (1 : Int32)), .val (.int (0 : Int32)), .val (.int (0 : Int32))] [(.int (1 : Int32))])) _
      refine Goes.to (fun _ k => XS.goto X417.here hx rfl (pc0 := 404) (pc' := 408) rfl (hb hby at_404) (by decide) (by decide) k) ?_
      show Goes p.tables e below (T417.setTop (mkF m 408 #[.val (.int x0), .val (.long x1), .second, .val (.int W), .val (.int A), .val (.int B), .val (.ref b1), .val (.ref b18), .val (.ref b43), .val (.ref b78), .val (.ref b118), .val (.ref b164), .val (.ref b349), .val (.int (1 : Int32)), .val (.int (1 : Int32)), .val (.int (0 : Int32)), .val (.int (0 : Int32))] [(.int (1 : Int32))])) _
      obtain ⟨fs, hr, hrun, hended, hW, hsame⟩ := X417.leave (v := some (.int (1 : Int32))) (fun h => by rw [Bd.returns] at h; cases h)
      have hv : (some (.int (1 : Int32)) : Option Value) = some (.int (1 : Int32)) := by
        rfl
      exact ⟨_, _, retN X417 hx (t := .boolean) Bd.returns (by simp) (hb hby at_408) hr, hrun, hended, _, _, rfl, ⟨hv, N417⟩, ⟨_, rfl⟩, hW, hsame.mono (by decide) (by decide)⟩
    · exact absurd (show ((0 : Int32) < (cmpValue (FP.dcmp (own_at (own_dv x1 (0 : Int32)) (own_dv x1 (4 : Int32)) (own_dv x1 (8 : Int32)) A) (own_at (own_dv x1 (0 : Int32)) (own_dv x1 (4 : Int32)) (own_dv x1 (8 : Int32)) B)) .l)) ∨ ((0 : Int32) < (cmpValue (FP.dcmp (own_at (own_dv x1 (12 : Int32)) (own_dv x1 (16 : Int32)) (own_dv x1 (20 : Int32)) A) (own_at (own_dv x1 (12 : Int32)) (own_dv x1 (16 : Int32)) (own_dv x1 (20 : Int32)) B)) .l)) ∨ ((0 : Int32) < (cmpValue (FP.dcmp (own_at (own_dv x1 (24 : Int32)) (own_dv x1 (28 : Int32)) (own_dv x1 (32 : Int32)) A) (own_at (own_dv x1 (24 : Int32)) (own_dv x1 (28 : Int32)) (own_dv x1 (32 : Int32)) B)) .l)) from (Or.inl ((own_row x1 (0 : Int32) (4 : Int32) (8 : Int32) A B hA0 hA1 hB0 hB1).mpr Ph411_48))) hc418
set_option maxRecDepth 65536 in
set_option maxHeartbeats 40000000 in
theorem own_pt_own_rm0_421 (l : Launch) (Z : State) (a0 : Array Value) (hw : ∀ d ∈ tables_1, d.before a0 Z = true) (ws : List Jvm.Cond) (x0 : Int32) (x1 : Int64)  (h0 : Heap) (n0 : Nat) (Z0 : n0 ≤ h0.size) 
    {p : Program} {e : Env} {s : State} {m : MethodId} {below : List Frame} {meth : Method} {c : Code} {s₁ : State} (Bd : BodyLoose p l x (head1 (Jvm.Cond.code x code maxLocals ret :: ws) room_1) code maxLocals ret e s m #[(.int x0), (.long x1)] below meth c s₁) (hml0 : c.maxLocals = maxLocals) (hh : s.heap = h0) (hZ : Z.Warmed39 s.vm)
    (b1 : Addr) (k1 : ClassId) (b18 : Addr) (k18 : ClassId) (b43 : Addr) (k43 : ClassId) (b78 : Addr) (k78 : ClassId) (b118 : Addr) (k118 : ClassId) (b164 : Addr) (k164 : ClassId) (b349 : Addr) (k349 : ClassId) (W : Int32) (A : Int32) (B : Int32)
    (Tpt : State) (lpt : List Loc)  (hpt : Heap)
    (Xpt : Stand p l e room_1 s m #[(.int x0), (.long x1)] below meth c Tpt lpt 7 21) (Ept : Tpt.heap = hpt) (Npt : Fr n0 lpt) (Zpt : n0 ≤ hpt.size) 
    (Pf421_0 : Exa Z hpt b1 "[D")
    (Pf421_1 : Arv Z hpt b1 k1 .double (3 : Int32) [(.double (own_dv x1 (0 : Int32))), (.double (own_dv x1 (4 : Int32))), (.double (own_dv x1 (8 : Int32)))] (.double (0 : UInt64)))
    (Pf421_2 : Exa Z hpt b18 "[D")
    (Pf421_3 : Arv Z hpt b18 k18 .double (3 : Int32) [(.double (own_dv x1 (12 : Int32))), (.double (own_dv x1 (16 : Int32))), (.double (own_dv x1 (20 : Int32)))] (.double (0 : UInt64)))
    (Pf421_4 : Exa Z hpt b43 "[D")
    (Pf421_5 : Arv Z hpt b43 k43 .double (3 : Int32) [(.double (own_dv x1 (24 : Int32))), (.double (own_dv x1 (28 : Int32))), (.double (own_dv x1 (32 : Int32)))] (.double (0 : UInt64)))
    (Pf421_6 : Arv Z hpt b78 k78 .int (3 : Int32) [(.int (own_iv x1 (0 : Int32))), (.int (own_iv x1 (4 : Int32))), (.int (own_iv x1 (8 : Int32)))] (.int (0 : Int32)))
    (Pf421_7 : Arv Z hpt b118 k118 .int (3 : Int32) [(.int (own_iv x1 (12 : Int32))), (.int (own_iv x1 (16 : Int32))), (.int (own_iv x1 (20 : Int32)))] (.int (0 : Int32)))
    (Pf421_8 : Arv Z hpt b164 k164 .int (3 : Int32) [(.int (own_iv x1 (24 : Int32))), (.int (own_iv x1 (28 : Int32))), (.int (own_iv x1 (32 : Int32)))] (.int (0 : Int32)))
    (Pf421_9 : Arv Z hpt b349 k349 (.array .double) (3 : Int32) [(.ref b1), (.ref b18), (.ref b43)] .null)
    (Pg421_10 : n0 ≤ b1)
    (Pn421_11 : b1 ≠ b18)
    (Pg421_12 : n0 ≤ b18)
    (Pn421_13 : b1 ≠ b43)
    (Pn421_14 : b18 ≠ b43)
    (Pg421_15 : n0 ≤ b43)
    (Pn421_16 : b1 ≠ b78)
    (Pn421_17 : b18 ≠ b78)
    (Pn421_18 : b43 ≠ b78)
    (Pg421_19 : n0 ≤ b78)
    (Pn421_20 : b1 ≠ b118)
    (Pn421_21 : b18 ≠ b118)
    (Pn421_22 : b43 ≠ b118)
    (Pn421_23 : b78 ≠ b118)
    (Pg421_24 : n0 ≤ b118)
    (Pn421_25 : b1 ≠ b164)
    (Pn421_26 : b18 ≠ b164)
    (Pn421_27 : b43 ≠ b164)
    (Pn421_28 : b78 ≠ b164)
    (Pn421_29 : b118 ≠ b164)
    (Pg421_30 : n0 ≤ b164)
    (Po421_31 : OvrA Z k349 .double "[D")
    (Pn421_32 : b1 ≠ b349)
    (Pn421_33 : b18 ≠ b349)
    (Pn421_34 : b43 ≠ b349)
    (Pn421_35 : b78 ≠ b349)
    (Pn421_36 : b118 ≠ b349)
    (Pn421_37 : b164 ≠ b349)
    (Pg421_38 : n0 ≤ b349)
    (hA0 : ¬ (A < (0 : Int32)))
    (hA1 : A < (3 : Int32))
    (hB0 : ¬ (B < (0 : Int32)))
    (hB1 : B < (3 : Int32))
    (hnm_W : (x0 &&& (3 : Int32)) = W)
    (Ph421_44 : ¬ (W = (0 : Int32)))
    (Ph421_45 : ¬ (W = (1 : Int32)))
    (Ph421_46 : ¬ (W = (2 : Int32)))
    (Ph421_47 : ¬ (W < (1 : Int32)))
    (Ph421_48 : (own_iat (own_iv x1 (0 : Int32)) (own_iv x1 (4 : Int32)) (own_iv x1 (8 : Int32)) B) < (own_iat (own_iv x1 (0 : Int32)) (own_iv x1 (4 : Int32)) (own_iv x1 (8 : Int32)) A))
    (Ph421_49 : ¬ (W < (2 : Int32)))
    (Ph421_50 : ¬ ((own_iat (own_iv x1 (12 : Int32)) (own_iv x1 (16 : Int32)) (own_iv x1 (20 : Int32)) B) < (own_iat (own_iv x1 (12 : Int32)) (own_iv x1 (16 : Int32)) (own_iv x1 (20 : Int32)) A)))
    (Ph421_51 : ¬ (W < (3 : Int32)))
    : Goes p.tables e below (Tpt.setTop (mkF m 352 #[.val (.int x0), .val (.long x1), .second, .val (.int W), .val (.int A), .val (.int B), .val (.ref b1), .val (.ref b18), .val (.ref b43), .val (.ref b78), .val (.ref b118), .val (.ref b164), .val (.ref b349), .val (.int (1 : Int32)), .val (.int (0 : Int32)), .unset, .unset] [(.int (own_iat (own_iv x1 (24 : Int32)) (own_iv x1 (28 : Int32)) (own_iv x1 (32 : Int32)) A))])) (own_R below s (own_Q_own_rm0 Z x0 x1 h0 n0) 7 21) := by
  have hx := Bd.exec
  have hby := Bd.bytes
  have hml : c.maxLocals = 17 := hml0
  have hnm := (name_of_methodNamed Bd.named Bd.method).1
  have hown : s.vm.findClass "com/example/pareto4/pareto4/front/KeysNoHigherPinLaw" = some m.cls := findClass_of_methodNamed Bd.named
  show Goes p.tables e below (Tpt.setTop (mkF m 352 #[.val (.int x0), .val (.long x1), .second, .val (.int W), .val (.int A), .val (.int B), .val (.ref b1), .val (.ref b18), .val (.ref b43), .val (.ref b78), .val (.ref b118), .val (.ref b164), .val (.ref b349), .val (.int (1 : Int32)), .val (.int (0 : Int32)), .unset, .unset] [(.int (own_iat (own_iv x1 (24 : Int32)) (own_iv x1 (28 : Int32)) (own_iv x1 (32 : Int32)) A))])) _
  refine Goes.to (fun _ k => XS.aload Xpt.here hx rfl (hb hby at_352) rfl rfl k) ?_
  show Goes p.tables e below (Tpt.setTop (mkF m 354 #[.val (.int x0), .val (.long x1), .second, .val (.int W), .val (.int A), .val (.int B), .val (.ref b1), .val (.ref b18), .val (.ref b43), .val (.ref b78), .val (.ref b118), .val (.ref b164), .val (.ref b349), .val (.int (1 : Int32)), .val (.int (0 : Int32)), .unset, .unset] [(.ref b164), (.int (own_iat (own_iv x1 (24 : Int32)) (own_iv x1 (28 : Int32)) (own_iv x1 (32 : Int32)) A))])) _
  refine Goes.to (fun _ k => XS.iload Xpt.here hx rfl (hb hby at_354) rfl k) ?_
  show Goes p.tables e below (Tpt.setTop (mkF m 356 #[.val (.int x0), .val (.long x1), .second, .val (.int W), .val (.int A), .val (.int B), .val (.ref b1), .val (.ref b18), .val (.ref b43), .val (.ref b78), .val (.ref b118), .val (.ref b164), .val (.ref b349), .val (.int (1 : Int32)), .val (.int (0 : Int32)), .unset, .unset] [(.int B), (.ref b164), (.int (own_iat (own_iv x1 (24 : Int32)) (own_iv x1 (28 : Int32)) (own_iv x1 (32 : Int32)) A))])) _
  obtain ⟨cl422, Ar422, q422, S422, N422, H422, G422⟩ := id Pf421_8
  have hin422 : ¬ (B < 0 ∨ cl422.slots.size ≤ (B).toNatClampNeg) := by
    have k1 := rng32 A
    have k2 : (0 : Int32).toInt = 0 := rfl
    have k3 : ¬ A.toInt < (0 : Int32).toInt := fun z => hA0 (Int32.lt_iff_toInt_lt.mpr z)
    have k4 : (3 : Int32).toInt = 3 := rfl
    have k5 : A.toInt < (3 : Int32).toInt := Int32.lt_iff_toInt_lt.mp hA1
    have k6 := rng32 B
    have k7 : ¬ B.toInt < (0 : Int32).toInt := fun z => hB0 (Int32.lt_iff_toInt_lt.mpr z)
    have k8 : B.toInt < (3 : Int32).toInt := Int32.lt_iff_toInt_lt.mp hB1
    have k9 := rng32 x0
    have k10 : (x0 &&& (3 : Int32)).toInt = x0.toInt % 4 := c_mask x0 (3 : Int32) 2 (by decide) (by decide)
    have k11 := rng32 W
    have k12 : (x0 &&& (3 : Int32)).toInt = W.toInt := congrArg Int32.toInt hnm_W
    have k13 : ¬ W.toInt = (0 : Int32).toInt := fun z => Ph421_44 (Int32.toInt_inj.mp z)
    have k14 : (1 : Int32).toInt = 1 := rfl
    have k15 : ¬ W.toInt = (1 : Int32).toInt := fun z => Ph421_45 (Int32.toInt_inj.mp z)
    have k16 : (2 : Int32).toInt = 2 := rfl
    have k17 : ¬ W.toInt = (2 : Int32).toInt := fun z => Ph421_46 (Int32.toInt_inj.mp z)
    have k18 : ¬ W.toInt < (1 : Int32).toInt := fun z => Ph421_47 (Int32.lt_iff_toInt_lt.mpr z)
    have k19 := rng32 (own_iat (own_iv x1 (0 : Int32)) (own_iv x1 (4 : Int32)) (own_iv x1 (8 : Int32)) B)
    have k20 := rng32 (own_iat (own_iv x1 (0 : Int32)) (own_iv x1 (4 : Int32)) (own_iv x1 (8 : Int32)) A)
    have k21 : (own_iat (own_iv x1 (0 : Int32)) (own_iv x1 (4 : Int32)) (own_iv x1 (8 : Int32)) B).toInt < (own_iat (own_iv x1 (0 : Int32)) (own_iv x1 (4 : Int32)) (own_iv x1 (8 : Int32)) A).toInt := Int32.lt_iff_toInt_lt.mp Ph421_48
    have k22 : ¬ W.toInt < (2 : Int32).toInt := fun z => Ph421_49 (Int32.lt_iff_toInt_lt.mpr z)
    have k23 := rng32 (own_iat (own_iv x1 (12 : Int32)) (own_iv x1 (16 : Int32)) (own_iv x1 (20 : Int32)) B)
    have k24 := rng32 (own_iat (own_iv x1 (12 : Int32)) (own_iv x1 (16 : Int32)) (own_iv x1 (20 : Int32)) A)
    have k25 : ¬ (own_iat (own_iv x1 (12 : Int32)) (own_iv x1 (16 : Int32)) (own_iv x1 (20 : Int32)) B).toInt < (own_iat (own_iv x1 (12 : Int32)) (own_iv x1 (16 : Int32)) (own_iv x1 (20 : Int32)) A).toInt := fun z => Ph421_50 (Int32.lt_iff_toInt_lt.mpr z)
    have k26 : ¬ W.toInt < (3 : Int32).toInt := fun z => Ph421_51 (Int32.lt_iff_toInt_lt.mpr z)
    refine inb_of S422 ⟨fun hq => ?_, Int32.lt_iff_toInt_lt.mpr ?_⟩
    · have hq' := Int32.lt_iff_toInt_lt.mp hq
      omega
    · omega
  have hat422 : cl422.slots[(B).toNatClampNeg]? = some (.int (own_iat (own_iv x1 (24 : Int32)) (own_iv x1 (28 : Int32)) (own_iv x1 (32 : Int32)) B)) := Has.at H422 hin422 (own_iat_eq (own_iv x1 (24 : Int32)) (own_iv x1 (28 : Int32)) (own_iv x1 (32 : Int32)) B)
  refine Goes.to (fun _ k => Xpt.iaload hx (j := B) (v := (.int (own_iat (own_iv x1 (24 : Int32)) (own_iv x1 (28 : Int32)) (own_iv x1 (32 : Int32)) B))) (by rw [Ept]; exact Ar422.1) (State.isArrayOf_alike hZ.alike Ar422.2.1) Ar422.2.2 hin422 hat422 (g := (mkF m 356 #[.val (.int x0), .val (.long x1), .second, .val (.int W), .val (.int A), .val (.int B), .val (.ref b1), .val (.ref b18), .val (.ref b43), .val (.ref b78), .val (.ref b118), .val (.ref b164), .val (.ref b349), .val (.int (1 : Int32)), .val (.int (0 : Int32)), .unset, .unset] [(.int B), (.ref b164), (.int (own_iat (own_iv x1 (24 : Int32)) (own_iv x1 (28 : Int32)) (own_iv x1 (32 : Int32)) A))])) rfl rfl (hb hby at_356) _ k) ?_
  show Goes p.tables e below (Tpt.setTop (mkF m 357 #[.val (.int x0), .val (.long x1), .second, .val (.int W), .val (.int A), .val (.int B), .val (.ref b1), .val (.ref b18), .val (.ref b43), .val (.ref b78), .val (.ref b118), .val (.ref b164), .val (.ref b349), .val (.int (1 : Int32)), .val (.int (0 : Int32)), .unset, .unset] [(.int (own_iat (own_iv x1 (24 : Int32)) (own_iv x1 (28 : Int32)) (own_iv x1 (32 : Int32)) B)), (.int (own_iat (own_iv x1 (24 : Int32)) (own_iv x1 (28 : Int32)) (own_iv x1 (32 : Int32)) A))])) _
  by_cases hc423 : (own_iat (own_iv x1 (24 : Int32)) (own_iv x1 (28 : Int32)) (own_iv x1 (32 : Int32)) B) < (own_iat (own_iv x1 (24 : Int32)) (own_iv x1 (28 : Int32)) (own_iv x1 (32 : Int32)) A)
  · refine Goes.to (fun _ k => XS.icmpNo Xpt.here hx rfl (hb hby at_357) rfl (tlt hc423).2.2.2 k) ?_
    show Goes p.tables e below (Tpt.setTop (mkF m 360 #[.val (.int x0), .val (.long x1), .second, .val (.int W), .val (.int A), .val (.int B), .val (.ref b1), .val (.ref b18), .val (.ref b43), .val (.ref b78), .val (.ref b118), .val (.ref b164), .val (.ref b349), .val (.int (1 : Int32)), .val (.int (0 : Int32)), .unset, .unset] [])) _
    refine Goes.to (fun _ k => XS.iconst Xpt.here hx rfl (hb hby at_360) k) ?_
    show Goes p.tables e below (Tpt.setTop (mkF m 361 #[.val (.int x0), .val (.long x1), .second, .val (.int W), .val (.int A), .val (.int B), .val (.ref b1), .val (.ref b18), .val (.ref b43), .val (.ref b78), .val (.ref b118), .val (.ref b164), .val (.ref b349), .val (.int (1 : Int32)), .val (.int (0 : Int32)), .unset, .unset] [(.int (1 : Int32))])) _
    refine Goes.to (fun _ k => XS.goto Xpt.here hx rfl (pc0 := 361) (pc' := 365) rfl (hb hby at_361) (by decide) (by decide) k) ?_
    show Goes p.tables e below (Tpt.setTop (mkF m 365 #[.val (.int x0), .val (.long x1), .second, .val (.int W), .val (.int A), .val (.int B), .val (.ref b1), .val (.ref b18), .val (.ref b43), .val (.ref b78), .val (.ref b118), .val (.ref b164), .val (.ref b349), .val (.int (1 : Int32)), .val (.int (0 : Int32)), .unset, .unset] [(.int (1 : Int32))])) _
    refine Goes.to (fun _ k => XS.istore Xpt.here hx rfl (hb hby at_365) rfl (l' := #[.val (.int x0), .val (.long x1), .second, .val (.int W), .val (.int A), .val (.int B), .val (.ref b1), .val (.ref b18), .val (.ref b43), .val (.ref b78), .val (.ref b118), .val (.ref b164), .val (.ref b349), .val (.int (1 : Int32)), .val (.int (0 : Int32)), .val (.int (1 : Int32)), .unset]) rfl k) ?_
    show Goes p.tables e below (Tpt.setTop (mkF m 367 #[.val (.int x0), .val (.long x1), .second, .val (.int W), .val (.int A), .val (.int B), .val (.ref b1), .val (.ref b18), .val (.ref b43), .val (.ref b78), .val (.ref b118), .val (.ref b164), .val (.ref b349), .val (.int (1 : Int32)), .val (.int (0 : Int32)), .val (.int (1 : Int32)), .unset] [])) _
    refine Goes.to (fun _ k => XS.iload Xpt.here hx rfl (hb hby at_367) rfl k) ?_
    show Goes p.tables e below (Tpt.setTop (mkF m 369 #[.val (.int x0), .val (.long x1), .second, .val (.int W), .val (.int A), .val (.int B), .val (.ref b1), .val (.ref b18), .val (.ref b43), .val (.ref b78), .val (.ref b118), .val (.ref b164), .val (.ref b349), .val (.int (1 : Int32)), .val (.int (0 : Int32)), .val (.int (1 : Int32)), .unset] [(.int (1 : Int32))])) _
    refine Goes.to (fun _ k => XS.ifYes Xpt.here hx rfl (pc0 := 369) (pc' := 386) rfl (hb hby at_369) rfl ((if0 _ _).trans (feq (by decide : ¬ ((1 : Int32) = (0 : Int32)))).2) (by decide) (by decide) k) ?_
    show Goes p.tables e below (Tpt.setTop (mkF m 386 #[.val (.int x0), .val (.long x1), .second, .val (.int W), .val (.int A), .val (.int B), .val (.ref b1), .val (.ref b18), .val (.ref b43), .val (.ref b78), .val (.ref b118), .val (.ref b164), .val (.ref b349), .val (.int (1 : Int32)), .val (.int (0 : Int32)), .val (.int (1 : Int32)), .unset] [])) _
    refine Goes.to (fun _ k => XS.iconst Xpt.here hx rfl (hb hby at_386) k) ?_
    show Goes p.tables e below (Tpt.setTop (mkF m 387 #[.val (.int x0), .val (.long x1), .second, .val (.int W), .val (.int A), .val (.int B), .val (.ref b1), .val (.ref b18), .val (.ref b43), .val (.ref b78), .val (.ref b118), .val (.ref b164), .val (.ref b349), .val (.int (1 : Int32)), .val (.int (0 : Int32)), .val (.int (1 : Int32)), .unset] [(.int (0 : Int32))])) _
    refine Goes.to (fun _ k => XS.istore Xpt.here hx rfl (hb hby at_387) rfl (l' := #[.val (.int x0), .val (.long x1), .second, .val (.int W), .val (.int A), .val (.int B), .val (.ref b1), .val (.ref b18), .val (.ref b43), .val (.ref b78), .val (.ref b118), .val (.ref b164), .val (.ref b349), .val (.int (1 : Int32)), .val (.int (0 : Int32)), .val (.int (1 : Int32)), .val (.int (0 : Int32))]) rfl k) ?_
    show Goes p.tables e below (Tpt.setTop (mkF m 389 #[.val (.int x0), .val (.long x1), .second, .val (.int W), .val (.int A), .val (.int B), .val (.ref b1), .val (.ref b18), .val (.ref b43), .val (.ref b78), .val (.ref b118), .val (.ref b164), .val (.ref b349), .val (.int (1 : Int32)), .val (.int (0 : Int32)), .val (.int (1 : Int32)), .val (.int (0 : Int32))] [])) _
    refine Goes.to (fun _ k => XS.aload Xpt.here hx rfl (hb hby at_389) rfl rfl k) ?_
    show Goes p.tables e below (Tpt.setTop (mkF m 391 #[.val (.int x0), .val (.long x1), .second, .val (.int W), .val (.int A), .val (.int B), .val (.ref b1), .val (.ref b18), .val (.ref b43), .val (.ref b78), .val (.ref b118), .val (.ref b164), .val (.ref b349), .val (.int (1 : Int32)), .val (.int (0 : Int32)), .val (.int (1 : Int32)), .val (.int (0 : Int32))] [(.ref b349)])) _
    refine Goes.to (fun _ k => XS.iload Xpt.here hx rfl (hb hby at_391) rfl k) ?_
    show Goes p.tables e below (Tpt.setTop (mkF m 393 #[.val (.int x0), .val (.long x1), .second, .val (.int W), .val (.int A), .val (.int B), .val (.ref b1), .val (.ref b18), .val (.ref b43), .val (.ref b78), .val (.ref b118), .val (.ref b164), .val (.ref b349), .val (.int (1 : Int32)), .val (.int (0 : Int32)), .val (.int (1 : Int32)), .val (.int (0 : Int32))] [(.int A), (.ref b349)])) _
    refine Goes.to (fun _ k => XS.iload Xpt.here hx rfl (hb hby at_393) rfl k) ?_
    show Goes p.tables e below (Tpt.setTop (mkF m 395 #[.val (.int x0), .val (.long x1), .second, .val (.int W), .val (.int A), .val (.int B), .val (.ref b1), .val (.ref b18), .val (.ref b43), .val (.ref b78), .val (.ref b118), .val (.ref b164), .val (.ref b349), .val (.int (1 : Int32)), .val (.int (0 : Int32)), .val (.int (1 : Int32)), .val (.int (0 : Int32))] [(.int B), (.int A), (.ref b349)])) _
    obtain ⟨_, _, ⟨T424, L424, k424, n424⟩, -, X424, ⟨Lc424, hQ424, l424, y424, z424⟩, st424⟩ := Jvm.LawKit.callS Xpt hx (y := (⟨"com/example/pareto4/pareto4/front/Keys", "noHigher", "([[DII)Z"⟩ : MethodName)) hown (mvT hZ (hw _ (List.mem_of_getElem? (i := 12) rfl))) (mvT hZ (hw _ (List.mem_of_getElem? (i := 13) rfl))) (mvT hZ (hw _ (List.mem_of_getElem? (i := 14) rfl))) (mvT hZ (hw _ (List.mem_of_getElem? (i := 15) rfl))) (by decide) (backOf (W := 0) (own_rmNH3 l Z a0 hw [] b349 A B k349 b1 k1 (own_dv x1 (0 : Int32)) (own_dv x1 (4 : Int32)) (own_dv x1 (8 : Int32)) b18 k18 (own_dv x1 (12 : Int32)) (own_dv x1 (16 : Int32)) (own_dv x1 (20 : Int32)) b43 k43 (own_dv x1 (24 : Int32)) (own_dv x1 (28 : Int32)) (own_dv x1 (32 : Int32)) hpt n0 Zpt hA0 hA1 hB0 hB1 Pf421_1 Pf421_3 Pf421_5 Pf421_9) hZ (hw _ (List.mem_of_getElem? (i := 15) rfl)) (hw _ (List.mem_of_getElem? (i := 14) rfl)) (by decide) (by decide)) (g := (mkF m 395 #[.val (.int x0), .val (.long x1), .second, .val (.int W), .val (.int A), .val (.int B), .val (.ref b1), .val (.ref b18), .val (.ref b43), .val (.ref b78), .val (.ref b118), .val (.ref b164), .val (.ref b349), .val (.int (1 : Int32)), .val (.int (0 : Int32)), .val (.int (1 : Int32)), .val (.int (0 : Int32))] [(.int B), (.int A), (.ref b349)])) rfl (by rw [hml]; rfl) (argsL := [(.ref b349), (.int A), (.int B)]) (rest := []) (lenOf own_pd_paaDIIqZ rfl) rfl (by show 2 * 0 + _ ≤ _; exact Nat.le_of_eq rfl) (hb hby at_395) (fun _ _ => ⟨rfl, Ept, (by decide : 7 + 0 ≤ _), (by decide : 21 + 0 ≤ _)⟩)
    dsimp only [Pt.U, Pt.locs, Pt.cells, Pt.slots] at X424 l424 y424 z424 st424 hQ424
    subst l424 y424 z424
    obtain ⟨hv424, Nq424, hp424_0⟩ := hQ424
    have N424 := Fr.app Npt Nq424
    by_cases hc425 : ((0 : Int32) < (cmpValue (FP.dcmp (own_at (own_dv x1 (0 : Int32)) (own_dv x1 (4 : Int32)) (own_dv x1 (8 : Int32)) A) (own_at (own_dv x1 (0 : Int32)) (own_dv x1 (4 : Int32)) (own_dv x1 (8 : Int32)) B)) .l)) ∨ ((0 : Int32) < (cmpValue (FP.dcmp (own_at (own_dv x1 (12 : Int32)) (own_dv x1 (16 : Int32)) (own_dv x1 (20 : Int32)) A) (own_at (own_dv x1 (12 : Int32)) (own_dv x1 (16 : Int32)) (own_dv x1 (20 : Int32)) B)) .l)) ∨ ((0 : Int32) < (cmpValue (FP.dcmp (own_at (own_dv x1 (24 : Int32)) (own_dv x1 (28 : Int32)) (own_dv x1 (32 : Int32)) A) (own_at (own_dv x1 (24 : Int32)) (own_dv x1 (28 : Int32)) (own_dv x1 (32 : Int32)) B)) .l))
    · rw [if_pos hc425] at hv424
      subst hv424
      refine Goes.to st424 ?_
      show Goes p.tables e below (T424.setTop (mkF m 398 #[.val (.int x0), .val (.long x1), .second, .val (.int W), .val (.int A), .val (.int B), .val (.ref b1), .val (.ref b18), .val (.ref b43), .val (.ref b78), .val (.ref b118), .val (.ref b164), .val (.ref b349), .val (.int (1 : Int32)), .val (.int (0 : Int32)), .val (.int (1 : Int32)), .val (.int (0 : Int32))] [(.int (0 : Int32))])) _
      refine Goes.to (fun _ k => XS.iload X424.here hx rfl (hb hby at_398) rfl k) ?_
      show Goes p.tables e below (T424.setTop (mkF m 400 #[.val (.int x0), .val (.long x1), .second, .val (.int W), .val (.int A), .val (.int B), .val (.ref b1), .val (.ref b18), .val (.ref b43), .val (.ref b78), .val (.ref b118), .val (.ref b164), .val (.ref b349), .val (.int (1 : Int32)), .val (.int (0 : Int32)), .val (.int (1 : Int32)), .val (.int (0 : Int32))] [(.int (0 : Int32)), (.int (0 : Int32))])) _
      refine Goes.to (fun _ k => XS.icmpNo X424.here hx rfl (hb hby at_400) rfl (teq (by decide : (0 : Int32) = (0 : Int32))).2 k) ?_
      show Goes p.tables e below (T424.setTop (mkF m 403 #[.val (.int x0), .val (.long x1), .second, .val (.int W), .val (.int A), .val (.int B), .val (.ref b1), .val (.ref b18), .val (.ref b43), .val (.ref b78), .val (.ref b118), .val (.ref b164), .val (.ref b349), .val (.int (1 : Int32)), .val (.int (0 : Int32)), .val (.int (1 : Int32)), .val (.int (0 : Int32))] [])) _
      refine Goes.to (fun _ k => XS.iconst X424.here hx rfl (hb hby at_403) k) ?_
      show Goes p.tables e below (T424.setTop (mkF m 404 #[.val (.int x0), .val (.long x1), .second, .val (.int W), .val (.int A), .val (.int B), .val (.ref b1), .val (.ref b18), .val (.ref b43), .val (.ref b78), .val (.ref b118), .val (.ref b164), .val (.ref b349), .val (.int (1 : Int32)), .val (.int (0 : Int32)), .val (.int (1 : Int32)), .val (.int (0 : Int32))] [(.int (1 : Int32))])) _
      refine Goes.to (fun _ k => XS.goto X424.here hx rfl (pc0 := 404) (pc' := 408) rfl (hb hby at_404) (by decide) (by decide) k) ?_
      show Goes p.tables e below (T424.setTop (mkF m 408 #[.val (.int x0), .val (.long x1), .second, .val (.int W), .val (.int A), .val (.int B), .val (.ref b1), .val (.ref b18), .val (.ref b43), .val (.ref b78), .val (.ref b118), .val (.ref b164), .val (.ref b349), .val (.int (1 : Int32)), .val (.int (0 : Int32)), .val (.int (1 : Int32)), .val (.int (0 : Int32))] [(.int (1 : Int32))])) _
      obtain ⟨fs, hr, hrun, hended, hW, hsame⟩ := X424.leave (v := some (.int (1 : Int32))) (fun h => by rw [Bd.returns] at h; cases h)
      have hv : (some (.int (1 : Int32)) : Option Value) = some (.int (1 : Int32)) := by
        rfl
      exact ⟨_, _, retN X424 hx (t := .boolean) Bd.returns (by simp) (hb hby at_408) hr, hrun, hended, _, _, rfl, ⟨hv, N424⟩, ⟨_, rfl⟩, hW, hsame.mono (by decide) (by decide)⟩
    · exact absurd (show ((0 : Int32) < (cmpValue (FP.dcmp (own_at (own_dv x1 (0 : Int32)) (own_dv x1 (4 : Int32)) (own_dv x1 (8 : Int32)) A) (own_at (own_dv x1 (0 : Int32)) (own_dv x1 (4 : Int32)) (own_dv x1 (8 : Int32)) B)) .l)) ∨ ((0 : Int32) < (cmpValue (FP.dcmp (own_at (own_dv x1 (12 : Int32)) (own_dv x1 (16 : Int32)) (own_dv x1 (20 : Int32)) A) (own_at (own_dv x1 (12 : Int32)) (own_dv x1 (16 : Int32)) (own_dv x1 (20 : Int32)) B)) .l)) ∨ ((0 : Int32) < (cmpValue (FP.dcmp (own_at (own_dv x1 (24 : Int32)) (own_dv x1 (28 : Int32)) (own_dv x1 (32 : Int32)) A) (own_at (own_dv x1 (24 : Int32)) (own_dv x1 (28 : Int32)) (own_dv x1 (32 : Int32)) B)) .l)) from (Or.inl ((own_row x1 (0 : Int32) (4 : Int32) (8 : Int32) A B hA0 hA1 hB0 hB1).mpr Ph421_48))) hc425
  · refine Goes.to (fun _ k => XS.icmpYes Xpt.here hx rfl (pc0 := 357) (pc' := 364) rfl (hb hby at_357) rfl (flt hc423).2.2.2 (by decide) (by decide) k) ?_
    show Goes p.tables e below (Tpt.setTop (mkF m 364 #[.val (.int x0), .val (.long x1), .second, .val (.int W), .val (.int A), .val (.int B), .val (.ref b1), .val (.ref b18), .val (.ref b43), .val (.ref b78), .val (.ref b118), .val (.ref b164), .val (.ref b349), .val (.int (1 : Int32)), .val (.int (0 : Int32)), .unset, .unset] [])) _
    refine Goes.to (fun _ k => XS.iconst Xpt.here hx rfl (hb hby at_364) k) ?_
    show Goes p.tables e below (Tpt.setTop (mkF m 365 #[.val (.int x0), .val (.long x1), .second, .val (.int W), .val (.int A), .val (.int B), .val (.ref b1), .val (.ref b18), .val (.ref b43), .val (.ref b78), .val (.ref b118), .val (.ref b164), .val (.ref b349), .val (.int (1 : Int32)), .val (.int (0 : Int32)), .unset, .unset] [(.int (0 : Int32))])) _
    refine Goes.to (fun _ k => XS.istore Xpt.here hx rfl (hb hby at_365) rfl (l' := #[.val (.int x0), .val (.long x1), .second, .val (.int W), .val (.int A), .val (.int B), .val (.ref b1), .val (.ref b18), .val (.ref b43), .val (.ref b78), .val (.ref b118), .val (.ref b164), .val (.ref b349), .val (.int (1 : Int32)), .val (.int (0 : Int32)), .val (.int (0 : Int32)), .unset]) rfl k) ?_
    show Goes p.tables e below (Tpt.setTop (mkF m 367 #[.val (.int x0), .val (.long x1), .second, .val (.int W), .val (.int A), .val (.int B), .val (.ref b1), .val (.ref b18), .val (.ref b43), .val (.ref b78), .val (.ref b118), .val (.ref b164), .val (.ref b349), .val (.int (1 : Int32)), .val (.int (0 : Int32)), .val (.int (0 : Int32)), .unset] [])) _
    refine Goes.to (fun _ k => XS.iload Xpt.here hx rfl (hb hby at_367) rfl k) ?_
    show Goes p.tables e below (Tpt.setTop (mkF m 369 #[.val (.int x0), .val (.long x1), .second, .val (.int W), .val (.int A), .val (.int B), .val (.ref b1), .val (.ref b18), .val (.ref b43), .val (.ref b78), .val (.ref b118), .val (.ref b164), .val (.ref b349), .val (.int (1 : Int32)), .val (.int (0 : Int32)), .val (.int (0 : Int32)), .unset] [(.int (1 : Int32))])) _
    refine Goes.to (fun _ k => XS.ifYes Xpt.here hx rfl (pc0 := 369) (pc' := 386) rfl (hb hby at_369) rfl ((if0 _ _).trans (feq (by decide : ¬ ((1 : Int32) = (0 : Int32)))).2) (by decide) (by decide) k) ?_
    show Goes p.tables e below (Tpt.setTop (mkF m 386 #[.val (.int x0), .val (.long x1), .second, .val (.int W), .val (.int A), .val (.int B), .val (.ref b1), .val (.ref b18), .val (.ref b43), .val (.ref b78), .val (.ref b118), .val (.ref b164), .val (.ref b349), .val (.int (1 : Int32)), .val (.int (0 : Int32)), .val (.int (0 : Int32)), .unset] [])) _
    refine Goes.to (fun _ k => XS.iconst Xpt.here hx rfl (hb hby at_386) k) ?_
    show Goes p.tables e below (Tpt.setTop (mkF m 387 #[.val (.int x0), .val (.long x1), .second, .val (.int W), .val (.int A), .val (.int B), .val (.ref b1), .val (.ref b18), .val (.ref b43), .val (.ref b78), .val (.ref b118), .val (.ref b164), .val (.ref b349), .val (.int (1 : Int32)), .val (.int (0 : Int32)), .val (.int (0 : Int32)), .unset] [(.int (0 : Int32))])) _
    refine Goes.to (fun _ k => XS.istore Xpt.here hx rfl (hb hby at_387) rfl (l' := #[.val (.int x0), .val (.long x1), .second, .val (.int W), .val (.int A), .val (.int B), .val (.ref b1), .val (.ref b18), .val (.ref b43), .val (.ref b78), .val (.ref b118), .val (.ref b164), .val (.ref b349), .val (.int (1 : Int32)), .val (.int (0 : Int32)), .val (.int (0 : Int32)), .val (.int (0 : Int32))]) rfl k) ?_
    show Goes p.tables e below (Tpt.setTop (mkF m 389 #[.val (.int x0), .val (.long x1), .second, .val (.int W), .val (.int A), .val (.int B), .val (.ref b1), .val (.ref b18), .val (.ref b43), .val (.ref b78), .val (.ref b118), .val (.ref b164), .val (.ref b349), .val (.int (1 : Int32)), .val (.int (0 : Int32)), .val (.int (0 : Int32)), .val (.int (0 : Int32))] [])) _
    refine Goes.to (fun _ k => XS.aload Xpt.here hx rfl (hb hby at_389) rfl rfl k) ?_
    show Goes p.tables e below (Tpt.setTop (mkF m 391 #[.val (.int x0), .val (.long x1), .second, .val (.int W), .val (.int A), .val (.int B), .val (.ref b1), .val (.ref b18), .val (.ref b43), .val (.ref b78), .val (.ref b118), .val (.ref b164), .val (.ref b349), .val (.int (1 : Int32)), .val (.int (0 : Int32)), .val (.int (0 : Int32)), .val (.int (0 : Int32))] [(.ref b349)])) _
    refine Goes.to (fun _ k => XS.iload Xpt.here hx rfl (hb hby at_391) rfl k) ?_
    show Goes p.tables e below (Tpt.setTop (mkF m 393 #[.val (.int x0), .val (.long x1), .second, .val (.int W), .val (.int A), .val (.int B), .val (.ref b1), .val (.ref b18), .val (.ref b43), .val (.ref b78), .val (.ref b118), .val (.ref b164), .val (.ref b349), .val (.int (1 : Int32)), .val (.int (0 : Int32)), .val (.int (0 : Int32)), .val (.int (0 : Int32))] [(.int A), (.ref b349)])) _
    refine Goes.to (fun _ k => XS.iload Xpt.here hx rfl (hb hby at_393) rfl k) ?_
    show Goes p.tables e below (Tpt.setTop (mkF m 395 #[.val (.int x0), .val (.long x1), .second, .val (.int W), .val (.int A), .val (.int B), .val (.ref b1), .val (.ref b18), .val (.ref b43), .val (.ref b78), .val (.ref b118), .val (.ref b164), .val (.ref b349), .val (.int (1 : Int32)), .val (.int (0 : Int32)), .val (.int (0 : Int32)), .val (.int (0 : Int32))] [(.int B), (.int A), (.ref b349)])) _
    obtain ⟨_, _, ⟨T426, L426, k426, n426⟩, -, X426, ⟨Lc426, hQ426, l426, y426, z426⟩, st426⟩ := Jvm.LawKit.callS Xpt hx (y := (⟨"com/example/pareto4/pareto4/front/Keys", "noHigher", "([[DII)Z"⟩ : MethodName)) hown (mvT hZ (hw _ (List.mem_of_getElem? (i := 12) rfl))) (mvT hZ (hw _ (List.mem_of_getElem? (i := 13) rfl))) (mvT hZ (hw _ (List.mem_of_getElem? (i := 14) rfl))) (mvT hZ (hw _ (List.mem_of_getElem? (i := 15) rfl))) (by decide) (backOf (W := 0) (own_rmNH3 l Z a0 hw [] b349 A B k349 b1 k1 (own_dv x1 (0 : Int32)) (own_dv x1 (4 : Int32)) (own_dv x1 (8 : Int32)) b18 k18 (own_dv x1 (12 : Int32)) (own_dv x1 (16 : Int32)) (own_dv x1 (20 : Int32)) b43 k43 (own_dv x1 (24 : Int32)) (own_dv x1 (28 : Int32)) (own_dv x1 (32 : Int32)) hpt n0 Zpt hA0 hA1 hB0 hB1 Pf421_1 Pf421_3 Pf421_5 Pf421_9) hZ (hw _ (List.mem_of_getElem? (i := 15) rfl)) (hw _ (List.mem_of_getElem? (i := 14) rfl)) (by decide) (by decide)) (g := (mkF m 395 #[.val (.int x0), .val (.long x1), .second, .val (.int W), .val (.int A), .val (.int B), .val (.ref b1), .val (.ref b18), .val (.ref b43), .val (.ref b78), .val (.ref b118), .val (.ref b164), .val (.ref b349), .val (.int (1 : Int32)), .val (.int (0 : Int32)), .val (.int (0 : Int32)), .val (.int (0 : Int32))] [(.int B), (.int A), (.ref b349)])) rfl (by rw [hml]; rfl) (argsL := [(.ref b349), (.int A), (.int B)]) (rest := []) (lenOf own_pd_paaDIIqZ rfl) rfl (by show 2 * 0 + _ ≤ _; exact Nat.le_of_eq rfl) (hb hby at_395) (fun _ _ => ⟨rfl, Ept, (by decide : 7 + 0 ≤ _), (by decide : 21 + 0 ≤ _)⟩)
    dsimp only [Pt.U, Pt.locs, Pt.cells, Pt.slots] at X426 l426 y426 z426 st426 hQ426
    subst l426 y426 z426
    obtain ⟨hv426, Nq426, hp426_0⟩ := hQ426
    have N426 := Fr.app Npt Nq426
    by_cases hc427 : ((0 : Int32) < (cmpValue (FP.dcmp (own_at (own_dv x1 (0 : Int32)) (own_dv x1 (4 : Int32)) (own_dv x1 (8 : Int32)) A) (own_at (own_dv x1 (0 : Int32)) (own_dv x1 (4 : Int32)) (own_dv x1 (8 : Int32)) B)) .l)) ∨ ((0 : Int32) < (cmpValue (FP.dcmp (own_at (own_dv x1 (12 : Int32)) (own_dv x1 (16 : Int32)) (own_dv x1 (20 : Int32)) A) (own_at (own_dv x1 (12 : Int32)) (own_dv x1 (16 : Int32)) (own_dv x1 (20 : Int32)) B)) .l)) ∨ ((0 : Int32) < (cmpValue (FP.dcmp (own_at (own_dv x1 (24 : Int32)) (own_dv x1 (28 : Int32)) (own_dv x1 (32 : Int32)) A) (own_at (own_dv x1 (24 : Int32)) (own_dv x1 (28 : Int32)) (own_dv x1 (32 : Int32)) B)) .l))
    · rw [if_pos hc427] at hv426
      subst hv426
      refine Goes.to st426 ?_
      show Goes p.tables e below (T426.setTop (mkF m 398 #[.val (.int x0), .val (.long x1), .second, .val (.int W), .val (.int A), .val (.int B), .val (.ref b1), .val (.ref b18), .val (.ref b43), .val (.ref b78), .val (.ref b118), .val (.ref b164), .val (.ref b349), .val (.int (1 : Int32)), .val (.int (0 : Int32)), .val (.int (0 : Int32)), .val (.int (0 : Int32))] [(.int (0 : Int32))])) _
      refine Goes.to (fun _ k => XS.iload X426.here hx rfl (hb hby at_398) rfl k) ?_
      show Goes p.tables e below (T426.setTop (mkF m 400 #[.val (.int x0), .val (.long x1), .second, .val (.int W), .val (.int A), .val (.int B), .val (.ref b1), .val (.ref b18), .val (.ref b43), .val (.ref b78), .val (.ref b118), .val (.ref b164), .val (.ref b349), .val (.int (1 : Int32)), .val (.int (0 : Int32)), .val (.int (0 : Int32)), .val (.int (0 : Int32))] [(.int (0 : Int32)), (.int (0 : Int32))])) _
      refine Goes.to (fun _ k => XS.icmpNo X426.here hx rfl (hb hby at_400) rfl (teq (by decide : (0 : Int32) = (0 : Int32))).2 k) ?_
      show Goes p.tables e below (T426.setTop (mkF m 403 #[.val (.int x0), .val (.long x1), .second, .val (.int W), .val (.int A), .val (.int B), .val (.ref b1), .val (.ref b18), .val (.ref b43), .val (.ref b78), .val (.ref b118), .val (.ref b164), .val (.ref b349), .val (.int (1 : Int32)), .val (.int (0 : Int32)), .val (.int (0 : Int32)), .val (.int (0 : Int32))] [])) _
      refine Goes.to (fun _ k => XS.iconst X426.here hx rfl (hb hby at_403) k) ?_
      show Goes p.tables e below (T426.setTop (mkF m 404 #[.val (.int x0), .val (.long x1), .second, .val (.int W), .val (.int A), .val (.int B), .val (.ref b1), .val (.ref b18), .val (.ref b43), .val (.ref b78), .val (.ref b118), .val (.ref b164), .val (.ref b349), .val (.int (1 : Int32)), .val (.int (0 : Int32)), .val (.int (0 : Int32)), .val (.int (0 : Int32))] [(.int (1 : Int32))])) _
      refine Goes.to (fun _ k => XS.goto X426.here hx rfl (pc0 := 404) (pc' := 408) rfl (hb hby at_404) (by decide) (by decide) k) ?_
      show Goes p.tables e below (T426.setTop (mkF m 408 #[.val (.int x0), .val (.long x1), .second, .val (.int W), .val (.int A), .val (.int B), .val (.ref b1), .val (.ref b18), .val (.ref b43), .val (.ref b78), .val (.ref b118), .val (.ref b164), .val (.ref b349), .val (.int (1 : Int32)), .val (.int (0 : Int32)), .val (.int (0 : Int32)), .val (.int (0 : Int32))] [(.int (1 : Int32))])) _
      obtain ⟨fs, hr, hrun, hended, hW, hsame⟩ := X426.leave (v := some (.int (1 : Int32))) (fun h => by rw [Bd.returns] at h; cases h)
      have hv : (some (.int (1 : Int32)) : Option Value) = some (.int (1 : Int32)) := by
        rfl
      exact ⟨_, _, retN X426 hx (t := .boolean) Bd.returns (by simp) (hb hby at_408) hr, hrun, hended, _, _, rfl, ⟨hv, N426⟩, ⟨_, rfl⟩, hW, hsame.mono (by decide) (by decide)⟩
    · exact absurd (show ((0 : Int32) < (cmpValue (FP.dcmp (own_at (own_dv x1 (0 : Int32)) (own_dv x1 (4 : Int32)) (own_dv x1 (8 : Int32)) A) (own_at (own_dv x1 (0 : Int32)) (own_dv x1 (4 : Int32)) (own_dv x1 (8 : Int32)) B)) .l)) ∨ ((0 : Int32) < (cmpValue (FP.dcmp (own_at (own_dv x1 (12 : Int32)) (own_dv x1 (16 : Int32)) (own_dv x1 (20 : Int32)) A) (own_at (own_dv x1 (12 : Int32)) (own_dv x1 (16 : Int32)) (own_dv x1 (20 : Int32)) B)) .l)) ∨ ((0 : Int32) < (cmpValue (FP.dcmp (own_at (own_dv x1 (24 : Int32)) (own_dv x1 (28 : Int32)) (own_dv x1 (32 : Int32)) A) (own_at (own_dv x1 (24 : Int32)) (own_dv x1 (28 : Int32)) (own_dv x1 (32 : Int32)) B)) .l)) from (Or.inl ((own_row x1 (0 : Int32) (4 : Int32) (8 : Int32) A B hA0 hA1 hB0 hB1).mpr Ph421_48))) hc427
set_option maxRecDepth 65536 in
set_option maxHeartbeats 40000000 in
theorem own_pt_own_rm0_434 (l : Launch) (Z : State) (a0 : Array Value) (hw : ∀ d ∈ tables_1, d.before a0 Z = true) (ws : List Jvm.Cond) (x0 : Int32) (x1 : Int64)  (h0 : Heap) (n0 : Nat) (Z0 : n0 ≤ h0.size) 
    {p : Program} {e : Env} {s : State} {m : MethodId} {below : List Frame} {meth : Method} {c : Code} {s₁ : State} (Bd : BodyLoose p l x (head1 (Jvm.Cond.code x code maxLocals ret :: ws) room_1) code maxLocals ret e s m #[(.int x0), (.long x1)] below meth c s₁) (hml0 : c.maxLocals = maxLocals) (hh : s.heap = h0) (hZ : Z.Warmed39 s.vm)
    (b1 : Addr) (k1 : ClassId) (b18 : Addr) (k18 : ClassId) (b43 : Addr) (k43 : ClassId) (b78 : Addr) (k78 : ClassId) (b118 : Addr) (k118 : ClassId) (b164 : Addr) (k164 : ClassId) (b349 : Addr) (k349 : ClassId) (W : Int32) (A : Int32) (B : Int32)
    (Tpt : State) (lpt : List Loc)  (hpt : Heap)
    (Xpt : Stand p l e room_1 s m #[(.int x0), (.long x1)] below meth c Tpt lpt 7 21) (Ept : Tpt.heap = hpt) (Npt : Fr n0 lpt) (Zpt : n0 ≤ hpt.size) 
    (Pf434_0 : Exa Z hpt b1 "[D")
    (Pf434_1 : Arv Z hpt b1 k1 .double (3 : Int32) [(.double (own_dv x1 (0 : Int32))), (.double (own_dv x1 (4 : Int32))), (.double (own_dv x1 (8 : Int32)))] (.double (0 : UInt64)))
    (Pf434_2 : Exa Z hpt b18 "[D")
    (Pf434_3 : Arv Z hpt b18 k18 .double (3 : Int32) [(.double (own_dv x1 (12 : Int32))), (.double (own_dv x1 (16 : Int32))), (.double (own_dv x1 (20 : Int32)))] (.double (0 : UInt64)))
    (Pf434_4 : Exa Z hpt b43 "[D")
    (Pf434_5 : Arv Z hpt b43 k43 .double (3 : Int32) [(.double (own_dv x1 (24 : Int32))), (.double (own_dv x1 (28 : Int32))), (.double (own_dv x1 (32 : Int32)))] (.double (0 : UInt64)))
    (Pf434_6 : Arv Z hpt b78 k78 .int (3 : Int32) [(.int (own_iv x1 (0 : Int32))), (.int (own_iv x1 (4 : Int32))), (.int (own_iv x1 (8 : Int32)))] (.int (0 : Int32)))
    (Pf434_7 : Arv Z hpt b118 k118 .int (3 : Int32) [(.int (own_iv x1 (12 : Int32))), (.int (own_iv x1 (16 : Int32))), (.int (own_iv x1 (20 : Int32)))] (.int (0 : Int32)))
    (Pf434_8 : Arv Z hpt b164 k164 .int (3 : Int32) [(.int (own_iv x1 (24 : Int32))), (.int (own_iv x1 (28 : Int32))), (.int (own_iv x1 (32 : Int32)))] (.int (0 : Int32)))
    (Pf434_9 : Arv Z hpt b349 k349 (.array .double) (3 : Int32) [(.ref b1), (.ref b18), (.ref b43)] .null)
    (Pg434_10 : n0 ≤ b1)
    (Pn434_11 : b1 ≠ b18)
    (Pg434_12 : n0 ≤ b18)
    (Pn434_13 : b1 ≠ b43)
    (Pn434_14 : b18 ≠ b43)
    (Pg434_15 : n0 ≤ b43)
    (Pn434_16 : b1 ≠ b78)
    (Pn434_17 : b18 ≠ b78)
    (Pn434_18 : b43 ≠ b78)
    (Pg434_19 : n0 ≤ b78)
    (Pn434_20 : b1 ≠ b118)
    (Pn434_21 : b18 ≠ b118)
    (Pn434_22 : b43 ≠ b118)
    (Pn434_23 : b78 ≠ b118)
    (Pg434_24 : n0 ≤ b118)
    (Pn434_25 : b1 ≠ b164)
    (Pn434_26 : b18 ≠ b164)
    (Pn434_27 : b43 ≠ b164)
    (Pn434_28 : b78 ≠ b164)
    (Pn434_29 : b118 ≠ b164)
    (Pg434_30 : n0 ≤ b164)
    (Po434_31 : OvrA Z k349 .double "[D")
    (Pn434_32 : b1 ≠ b349)
    (Pn434_33 : b18 ≠ b349)
    (Pn434_34 : b43 ≠ b349)
    (Pn434_35 : b78 ≠ b349)
    (Pn434_36 : b118 ≠ b349)
    (Pn434_37 : b164 ≠ b349)
    (Pg434_38 : n0 ≤ b349)
    (hA0 : ¬ (A < (0 : Int32)))
    (hA1 : A < (3 : Int32))
    (hB0 : ¬ (B < (0 : Int32)))
    (hB1 : B < (3 : Int32))
    (hnm_W : (x0 &&& (3 : Int32)) = W)
    (Ph434_44 : ¬ (W = (0 : Int32)))
    (Ph434_45 : ¬ (W = (1 : Int32)))
    (Ph434_46 : ¬ (W = (2 : Int32)))
    (Ph434_47 : ¬ (W < (1 : Int32)))
    (Ph434_48 : ¬ ((own_iat (own_iv x1 (0 : Int32)) (own_iv x1 (4 : Int32)) (own_iv x1 (8 : Int32)) B) < (own_iat (own_iv x1 (0 : Int32)) (own_iv x1 (4 : Int32)) (own_iv x1 (8 : Int32)) A)))
    (Ph434_49 : ¬ (W < (2 : Int32)))
    (Ph434_50 : (own_iat (own_iv x1 (12 : Int32)) (own_iv x1 (16 : Int32)) (own_iv x1 (20 : Int32)) B) < (own_iat (own_iv x1 (12 : Int32)) (own_iv x1 (16 : Int32)) (own_iv x1 (20 : Int32)) A))
    (Ph434_51 : ¬ (W < (3 : Int32)))
    : Goes p.tables e below (Tpt.setTop (mkF m 352 #[.val (.int x0), .val (.long x1), .second, .val (.int W), .val (.int A), .val (.int B), .val (.ref b1), .val (.ref b18), .val (.ref b43), .val (.ref b78), .val (.ref b118), .val (.ref b164), .val (.ref b349), .val (.int (0 : Int32)), .val (.int (1 : Int32)), .unset, .unset] [(.int (own_iat (own_iv x1 (24 : Int32)) (own_iv x1 (28 : Int32)) (own_iv x1 (32 : Int32)) A))])) (own_R below s (own_Q_own_rm0 Z x0 x1 h0 n0) 7 21) := by
  have hx := Bd.exec
  have hby := Bd.bytes
  have hml : c.maxLocals = 17 := hml0
  have hnm := (name_of_methodNamed Bd.named Bd.method).1
  have hown : s.vm.findClass "com/example/pareto4/pareto4/front/KeysNoHigherPinLaw" = some m.cls := findClass_of_methodNamed Bd.named
  show Goes p.tables e below (Tpt.setTop (mkF m 352 #[.val (.int x0), .val (.long x1), .second, .val (.int W), .val (.int A), .val (.int B), .val (.ref b1), .val (.ref b18), .val (.ref b43), .val (.ref b78), .val (.ref b118), .val (.ref b164), .val (.ref b349), .val (.int (0 : Int32)), .val (.int (1 : Int32)), .unset, .unset] [(.int (own_iat (own_iv x1 (24 : Int32)) (own_iv x1 (28 : Int32)) (own_iv x1 (32 : Int32)) A))])) _
  refine Goes.to (fun _ k => XS.aload Xpt.here hx rfl (hb hby at_352) rfl rfl k) ?_
  show Goes p.tables e below (Tpt.setTop (mkF m 354 #[.val (.int x0), .val (.long x1), .second, .val (.int W), .val (.int A), .val (.int B), .val (.ref b1), .val (.ref b18), .val (.ref b43), .val (.ref b78), .val (.ref b118), .val (.ref b164), .val (.ref b349), .val (.int (0 : Int32)), .val (.int (1 : Int32)), .unset, .unset] [(.ref b164), (.int (own_iat (own_iv x1 (24 : Int32)) (own_iv x1 (28 : Int32)) (own_iv x1 (32 : Int32)) A))])) _
  refine Goes.to (fun _ k => XS.iload Xpt.here hx rfl (hb hby at_354) rfl k) ?_
  show Goes p.tables e below (Tpt.setTop (mkF m 356 #[.val (.int x0), .val (.long x1), .second, .val (.int W), .val (.int A), .val (.int B), .val (.ref b1), .val (.ref b18), .val (.ref b43), .val (.ref b78), .val (.ref b118), .val (.ref b164), .val (.ref b349), .val (.int (0 : Int32)), .val (.int (1 : Int32)), .unset, .unset] [(.int B), (.ref b164), (.int (own_iat (own_iv x1 (24 : Int32)) (own_iv x1 (28 : Int32)) (own_iv x1 (32 : Int32)) A))])) _
  obtain ⟨cl435, Ar435, q435, S435, N435, H435, G435⟩ := id Pf434_8
  have hin435 : ¬ (B < 0 ∨ cl435.slots.size ≤ (B).toNatClampNeg) := by
    have k1 := rng32 A
    have k2 : (0 : Int32).toInt = 0 := rfl
    have k3 : ¬ A.toInt < (0 : Int32).toInt := fun z => hA0 (Int32.lt_iff_toInt_lt.mpr z)
    have k4 : (3 : Int32).toInt = 3 := rfl
    have k5 : A.toInt < (3 : Int32).toInt := Int32.lt_iff_toInt_lt.mp hA1
    have k6 := rng32 B
    have k7 : ¬ B.toInt < (0 : Int32).toInt := fun z => hB0 (Int32.lt_iff_toInt_lt.mpr z)
    have k8 : B.toInt < (3 : Int32).toInt := Int32.lt_iff_toInt_lt.mp hB1
    have k9 := rng32 x0
    have k10 : (x0 &&& (3 : Int32)).toInt = x0.toInt % 4 := c_mask x0 (3 : Int32) 2 (by decide) (by decide)
    have k11 := rng32 W
    have k12 : (x0 &&& (3 : Int32)).toInt = W.toInt := congrArg Int32.toInt hnm_W
    have k13 : ¬ W.toInt = (0 : Int32).toInt := fun z => Ph434_44 (Int32.toInt_inj.mp z)
    have k14 : (1 : Int32).toInt = 1 := rfl
    have k15 : ¬ W.toInt = (1 : Int32).toInt := fun z => Ph434_45 (Int32.toInt_inj.mp z)
    have k16 : (2 : Int32).toInt = 2 := rfl
    have k17 : ¬ W.toInt = (2 : Int32).toInt := fun z => Ph434_46 (Int32.toInt_inj.mp z)
    have k18 : ¬ W.toInt < (1 : Int32).toInt := fun z => Ph434_47 (Int32.lt_iff_toInt_lt.mpr z)
    have k19 := rng32 (own_iat (own_iv x1 (0 : Int32)) (own_iv x1 (4 : Int32)) (own_iv x1 (8 : Int32)) B)
    have k20 := rng32 (own_iat (own_iv x1 (0 : Int32)) (own_iv x1 (4 : Int32)) (own_iv x1 (8 : Int32)) A)
    have k21 : ¬ (own_iat (own_iv x1 (0 : Int32)) (own_iv x1 (4 : Int32)) (own_iv x1 (8 : Int32)) B).toInt < (own_iat (own_iv x1 (0 : Int32)) (own_iv x1 (4 : Int32)) (own_iv x1 (8 : Int32)) A).toInt := fun z => Ph434_48 (Int32.lt_iff_toInt_lt.mpr z)
    have k22 : ¬ W.toInt < (2 : Int32).toInt := fun z => Ph434_49 (Int32.lt_iff_toInt_lt.mpr z)
    have k23 := rng32 (own_iat (own_iv x1 (12 : Int32)) (own_iv x1 (16 : Int32)) (own_iv x1 (20 : Int32)) B)
    have k24 := rng32 (own_iat (own_iv x1 (12 : Int32)) (own_iv x1 (16 : Int32)) (own_iv x1 (20 : Int32)) A)
    have k25 : (own_iat (own_iv x1 (12 : Int32)) (own_iv x1 (16 : Int32)) (own_iv x1 (20 : Int32)) B).toInt < (own_iat (own_iv x1 (12 : Int32)) (own_iv x1 (16 : Int32)) (own_iv x1 (20 : Int32)) A).toInt := Int32.lt_iff_toInt_lt.mp Ph434_50
    have k26 : ¬ W.toInt < (3 : Int32).toInt := fun z => Ph434_51 (Int32.lt_iff_toInt_lt.mpr z)
    refine inb_of S435 ⟨fun hq => ?_, Int32.lt_iff_toInt_lt.mpr ?_⟩
    · have hq' := Int32.lt_iff_toInt_lt.mp hq
      omega
    · omega
  have hat435 : cl435.slots[(B).toNatClampNeg]? = some (.int (own_iat (own_iv x1 (24 : Int32)) (own_iv x1 (28 : Int32)) (own_iv x1 (32 : Int32)) B)) := Has.at H435 hin435 (own_iat_eq (own_iv x1 (24 : Int32)) (own_iv x1 (28 : Int32)) (own_iv x1 (32 : Int32)) B)
  refine Goes.to (fun _ k => Xpt.iaload hx (j := B) (v := (.int (own_iat (own_iv x1 (24 : Int32)) (own_iv x1 (28 : Int32)) (own_iv x1 (32 : Int32)) B))) (by rw [Ept]; exact Ar435.1) (State.isArrayOf_alike hZ.alike Ar435.2.1) Ar435.2.2 hin435 hat435 (g := (mkF m 356 #[.val (.int x0), .val (.long x1), .second, .val (.int W), .val (.int A), .val (.int B), .val (.ref b1), .val (.ref b18), .val (.ref b43), .val (.ref b78), .val (.ref b118), .val (.ref b164), .val (.ref b349), .val (.int (0 : Int32)), .val (.int (1 : Int32)), .unset, .unset] [(.int B), (.ref b164), (.int (own_iat (own_iv x1 (24 : Int32)) (own_iv x1 (28 : Int32)) (own_iv x1 (32 : Int32)) A))])) rfl rfl (hb hby at_356) _ k) ?_
  show Goes p.tables e below (Tpt.setTop (mkF m 357 #[.val (.int x0), .val (.long x1), .second, .val (.int W), .val (.int A), .val (.int B), .val (.ref b1), .val (.ref b18), .val (.ref b43), .val (.ref b78), .val (.ref b118), .val (.ref b164), .val (.ref b349), .val (.int (0 : Int32)), .val (.int (1 : Int32)), .unset, .unset] [(.int (own_iat (own_iv x1 (24 : Int32)) (own_iv x1 (28 : Int32)) (own_iv x1 (32 : Int32)) B)), (.int (own_iat (own_iv x1 (24 : Int32)) (own_iv x1 (28 : Int32)) (own_iv x1 (32 : Int32)) A))])) _
  by_cases hc436 : (own_iat (own_iv x1 (24 : Int32)) (own_iv x1 (28 : Int32)) (own_iv x1 (32 : Int32)) B) < (own_iat (own_iv x1 (24 : Int32)) (own_iv x1 (28 : Int32)) (own_iv x1 (32 : Int32)) A)
  · refine Goes.to (fun _ k => XS.icmpNo Xpt.here hx rfl (hb hby at_357) rfl (tlt hc436).2.2.2 k) ?_
    show Goes p.tables e below (Tpt.setTop (mkF m 360 #[.val (.int x0), .val (.long x1), .second, .val (.int W), .val (.int A), .val (.int B), .val (.ref b1), .val (.ref b18), .val (.ref b43), .val (.ref b78), .val (.ref b118), .val (.ref b164), .val (.ref b349), .val (.int (0 : Int32)), .val (.int (1 : Int32)), .unset, .unset] [])) _
    refine Goes.to (fun _ k => XS.iconst Xpt.here hx rfl (hb hby at_360) k) ?_
    show Goes p.tables e below (Tpt.setTop (mkF m 361 #[.val (.int x0), .val (.long x1), .second, .val (.int W), .val (.int A), .val (.int B), .val (.ref b1), .val (.ref b18), .val (.ref b43), .val (.ref b78), .val (.ref b118), .val (.ref b164), .val (.ref b349), .val (.int (0 : Int32)), .val (.int (1 : Int32)), .unset, .unset] [(.int (1 : Int32))])) _
    refine Goes.to (fun _ k => XS.goto Xpt.here hx rfl (pc0 := 361) (pc' := 365) rfl (hb hby at_361) (by decide) (by decide) k) ?_
    show Goes p.tables e below (Tpt.setTop (mkF m 365 #[.val (.int x0), .val (.long x1), .second, .val (.int W), .val (.int A), .val (.int B), .val (.ref b1), .val (.ref b18), .val (.ref b43), .val (.ref b78), .val (.ref b118), .val (.ref b164), .val (.ref b349), .val (.int (0 : Int32)), .val (.int (1 : Int32)), .unset, .unset] [(.int (1 : Int32))])) _
    refine Goes.to (fun _ k => XS.istore Xpt.here hx rfl (hb hby at_365) rfl (l' := #[.val (.int x0), .val (.long x1), .second, .val (.int W), .val (.int A), .val (.int B), .val (.ref b1), .val (.ref b18), .val (.ref b43), .val (.ref b78), .val (.ref b118), .val (.ref b164), .val (.ref b349), .val (.int (0 : Int32)), .val (.int (1 : Int32)), .val (.int (1 : Int32)), .unset]) rfl k) ?_
    show Goes p.tables e below (Tpt.setTop (mkF m 367 #[.val (.int x0), .val (.long x1), .second, .val (.int W), .val (.int A), .val (.int B), .val (.ref b1), .val (.ref b18), .val (.ref b43), .val (.ref b78), .val (.ref b118), .val (.ref b164), .val (.ref b349), .val (.int (0 : Int32)), .val (.int (1 : Int32)), .val (.int (1 : Int32)), .unset] [])) _
    refine Goes.to (fun _ k => XS.iload Xpt.here hx rfl (hb hby at_367) rfl k) ?_
    show Goes p.tables e below (Tpt.setTop (mkF m 369 #[.val (.int x0), .val (.long x1), .second, .val (.int W), .val (.int A), .val (.int B), .val (.ref b1), .val (.ref b18), .val (.ref b43), .val (.ref b78), .val (.ref b118), .val (.ref b164), .val (.ref b349), .val (.int (0 : Int32)), .val (.int (1 : Int32)), .val (.int (1 : Int32)), .unset] [(.int (0 : Int32))])) _
    refine Goes.to (fun _ k => XS.ifNo Xpt.here hx rfl (hb hby at_369) rfl ((if0 _ _).trans (teq (by decide : (0 : Int32) = (0 : Int32))).2) k) ?_
    show Goes p.tables e below (Tpt.setTop (mkF m 372 #[.val (.int x0), .val (.long x1), .second, .val (.int W), .val (.int A), .val (.int B), .val (.ref b1), .val (.ref b18), .val (.ref b43), .val (.ref b78), .val (.ref b118), .val (.ref b164), .val (.ref b349), .val (.int (0 : Int32)), .val (.int (1 : Int32)), .val (.int (1 : Int32)), .unset] [])) _
    refine Goes.to (fun _ k => XS.iload Xpt.here hx rfl (hb hby at_372) rfl k) ?_
    show Goes p.tables e below (Tpt.setTop (mkF m 374 #[.val (.int x0), .val (.long x1), .second, .val (.int W), .val (.int A), .val (.int B), .val (.ref b1), .val (.ref b18), .val (.ref b43), .val (.ref b78), .val (.ref b118), .val (.ref b164), .val (.ref b349), .val (.int (0 : Int32)), .val (.int (1 : Int32)), .val (.int (1 : Int32)), .unset] [(.int (1 : Int32))])) _
    refine Goes.to (fun _ k => XS.ifYes Xpt.here hx rfl (pc0 := 374) (pc' := 386) rfl (hb hby at_374) rfl ((if0 _ _).trans (feq (by decide : ¬ ((1 : Int32) = (0 : Int32)))).2) (by decide) (by decide) k) ?_
    show Goes p.tables e below (Tpt.setTop (mkF m 386 #[.val (.int x0), .val (.long x1), .second, .val (.int W), .val (.int A), .val (.int B), .val (.ref b1), .val (.ref b18), .val (.ref b43), .val (.ref b78), .val (.ref b118), .val (.ref b164), .val (.ref b349), .val (.int (0 : Int32)), .val (.int (1 : Int32)), .val (.int (1 : Int32)), .unset] [])) _
    refine Goes.to (fun _ k => XS.iconst Xpt.here hx rfl (hb hby at_386) k) ?_
    show Goes p.tables e below (Tpt.setTop (mkF m 387 #[.val (.int x0), .val (.long x1), .second, .val (.int W), .val (.int A), .val (.int B), .val (.ref b1), .val (.ref b18), .val (.ref b43), .val (.ref b78), .val (.ref b118), .val (.ref b164), .val (.ref b349), .val (.int (0 : Int32)), .val (.int (1 : Int32)), .val (.int (1 : Int32)), .unset] [(.int (0 : Int32))])) _
    refine Goes.to (fun _ k => XS.istore Xpt.here hx rfl (hb hby at_387) rfl (l' := #[.val (.int x0), .val (.long x1), .second, .val (.int W), .val (.int A), .val (.int B), .val (.ref b1), .val (.ref b18), .val (.ref b43), .val (.ref b78), .val (.ref b118), .val (.ref b164), .val (.ref b349), .val (.int (0 : Int32)), .val (.int (1 : Int32)), .val (.int (1 : Int32)), .val (.int (0 : Int32))]) rfl k) ?_
    show Goes p.tables e below (Tpt.setTop (mkF m 389 #[.val (.int x0), .val (.long x1), .second, .val (.int W), .val (.int A), .val (.int B), .val (.ref b1), .val (.ref b18), .val (.ref b43), .val (.ref b78), .val (.ref b118), .val (.ref b164), .val (.ref b349), .val (.int (0 : Int32)), .val (.int (1 : Int32)), .val (.int (1 : Int32)), .val (.int (0 : Int32))] [])) _
    refine Goes.to (fun _ k => XS.aload Xpt.here hx rfl (hb hby at_389) rfl rfl k) ?_
    show Goes p.tables e below (Tpt.setTop (mkF m 391 #[.val (.int x0), .val (.long x1), .second, .val (.int W), .val (.int A), .val (.int B), .val (.ref b1), .val (.ref b18), .val (.ref b43), .val (.ref b78), .val (.ref b118), .val (.ref b164), .val (.ref b349), .val (.int (0 : Int32)), .val (.int (1 : Int32)), .val (.int (1 : Int32)), .val (.int (0 : Int32))] [(.ref b349)])) _
    refine Goes.to (fun _ k => XS.iload Xpt.here hx rfl (hb hby at_391) rfl k) ?_
    show Goes p.tables e below (Tpt.setTop (mkF m 393 #[.val (.int x0), .val (.long x1), .second, .val (.int W), .val (.int A), .val (.int B), .val (.ref b1), .val (.ref b18), .val (.ref b43), .val (.ref b78), .val (.ref b118), .val (.ref b164), .val (.ref b349), .val (.int (0 : Int32)), .val (.int (1 : Int32)), .val (.int (1 : Int32)), .val (.int (0 : Int32))] [(.int A), (.ref b349)])) _
    refine Goes.to (fun _ k => XS.iload Xpt.here hx rfl (hb hby at_393) rfl k) ?_
    show Goes p.tables e below (Tpt.setTop (mkF m 395 #[.val (.int x0), .val (.long x1), .second, .val (.int W), .val (.int A), .val (.int B), .val (.ref b1), .val (.ref b18), .val (.ref b43), .val (.ref b78), .val (.ref b118), .val (.ref b164), .val (.ref b349), .val (.int (0 : Int32)), .val (.int (1 : Int32)), .val (.int (1 : Int32)), .val (.int (0 : Int32))] [(.int B), (.int A), (.ref b349)])) _
    obtain ⟨_, _, ⟨T437, L437, k437, n437⟩, -, X437, ⟨Lc437, hQ437, l437, y437, z437⟩, st437⟩ := Jvm.LawKit.callS Xpt hx (y := (⟨"com/example/pareto4/pareto4/front/Keys", "noHigher", "([[DII)Z"⟩ : MethodName)) hown (mvT hZ (hw _ (List.mem_of_getElem? (i := 12) rfl))) (mvT hZ (hw _ (List.mem_of_getElem? (i := 13) rfl))) (mvT hZ (hw _ (List.mem_of_getElem? (i := 14) rfl))) (mvT hZ (hw _ (List.mem_of_getElem? (i := 15) rfl))) (by decide) (backOf (W := 0) (own_rmNH3 l Z a0 hw [] b349 A B k349 b1 k1 (own_dv x1 (0 : Int32)) (own_dv x1 (4 : Int32)) (own_dv x1 (8 : Int32)) b18 k18 (own_dv x1 (12 : Int32)) (own_dv x1 (16 : Int32)) (own_dv x1 (20 : Int32)) b43 k43 (own_dv x1 (24 : Int32)) (own_dv x1 (28 : Int32)) (own_dv x1 (32 : Int32)) hpt n0 Zpt hA0 hA1 hB0 hB1 Pf434_1 Pf434_3 Pf434_5 Pf434_9) hZ (hw _ (List.mem_of_getElem? (i := 15) rfl)) (hw _ (List.mem_of_getElem? (i := 14) rfl)) (by decide) (by decide)) (g := (mkF m 395 #[.val (.int x0), .val (.long x1), .second, .val (.int W), .val (.int A), .val (.int B), .val (.ref b1), .val (.ref b18), .val (.ref b43), .val (.ref b78), .val (.ref b118), .val (.ref b164), .val (.ref b349), .val (.int (0 : Int32)), .val (.int (1 : Int32)), .val (.int (1 : Int32)), .val (.int (0 : Int32))] [(.int B), (.int A), (.ref b349)])) rfl (by rw [hml]; rfl) (argsL := [(.ref b349), (.int A), (.int B)]) (rest := []) (lenOf own_pd_paaDIIqZ rfl) rfl (by show 2 * 0 + _ ≤ _; exact Nat.le_of_eq rfl) (hb hby at_395) (fun _ _ => ⟨rfl, Ept, (by decide : 7 + 0 ≤ _), (by decide : 21 + 0 ≤ _)⟩)
    dsimp only [Pt.U, Pt.locs, Pt.cells, Pt.slots] at X437 l437 y437 z437 st437 hQ437
    subst l437 y437 z437
    obtain ⟨hv437, Nq437, hp437_0⟩ := hQ437
    have N437 := Fr.app Npt Nq437
    by_cases hc438 : ((0 : Int32) < (cmpValue (FP.dcmp (own_at (own_dv x1 (0 : Int32)) (own_dv x1 (4 : Int32)) (own_dv x1 (8 : Int32)) A) (own_at (own_dv x1 (0 : Int32)) (own_dv x1 (4 : Int32)) (own_dv x1 (8 : Int32)) B)) .l)) ∨ ((0 : Int32) < (cmpValue (FP.dcmp (own_at (own_dv x1 (12 : Int32)) (own_dv x1 (16 : Int32)) (own_dv x1 (20 : Int32)) A) (own_at (own_dv x1 (12 : Int32)) (own_dv x1 (16 : Int32)) (own_dv x1 (20 : Int32)) B)) .l)) ∨ ((0 : Int32) < (cmpValue (FP.dcmp (own_at (own_dv x1 (24 : Int32)) (own_dv x1 (28 : Int32)) (own_dv x1 (32 : Int32)) A) (own_at (own_dv x1 (24 : Int32)) (own_dv x1 (28 : Int32)) (own_dv x1 (32 : Int32)) B)) .l))
    · rw [if_pos hc438] at hv437
      subst hv437
      refine Goes.to st437 ?_
      show Goes p.tables e below (T437.setTop (mkF m 398 #[.val (.int x0), .val (.long x1), .second, .val (.int W), .val (.int A), .val (.int B), .val (.ref b1), .val (.ref b18), .val (.ref b43), .val (.ref b78), .val (.ref b118), .val (.ref b164), .val (.ref b349), .val (.int (0 : Int32)), .val (.int (1 : Int32)), .val (.int (1 : Int32)), .val (.int (0 : Int32))] [(.int (0 : Int32))])) _
      refine Goes.to (fun _ k => XS.iload X437.here hx rfl (hb hby at_398) rfl k) ?_
      show Goes p.tables e below (T437.setTop (mkF m 400 #[.val (.int x0), .val (.long x1), .second, .val (.int W), .val (.int A), .val (.int B), .val (.ref b1), .val (.ref b18), .val (.ref b43), .val (.ref b78), .val (.ref b118), .val (.ref b164), .val (.ref b349), .val (.int (0 : Int32)), .val (.int (1 : Int32)), .val (.int (1 : Int32)), .val (.int (0 : Int32))] [(.int (0 : Int32)), (.int (0 : Int32))])) _
      refine Goes.to (fun _ k => XS.icmpNo X437.here hx rfl (hb hby at_400) rfl (teq (by decide : (0 : Int32) = (0 : Int32))).2 k) ?_
      show Goes p.tables e below (T437.setTop (mkF m 403 #[.val (.int x0), .val (.long x1), .second, .val (.int W), .val (.int A), .val (.int B), .val (.ref b1), .val (.ref b18), .val (.ref b43), .val (.ref b78), .val (.ref b118), .val (.ref b164), .val (.ref b349), .val (.int (0 : Int32)), .val (.int (1 : Int32)), .val (.int (1 : Int32)), .val (.int (0 : Int32))] [])) _
      refine Goes.to (fun _ k => XS.iconst X437.here hx rfl (hb hby at_403) k) ?_
      show Goes p.tables e below (T437.setTop (mkF m 404 #[.val (.int x0), .val (.long x1), .second, .val (.int W), .val (.int A), .val (.int B), .val (.ref b1), .val (.ref b18), .val (.ref b43), .val (.ref b78), .val (.ref b118), .val (.ref b164), .val (.ref b349), .val (.int (0 : Int32)), .val (.int (1 : Int32)), .val (.int (1 : Int32)), .val (.int (0 : Int32))] [(.int (1 : Int32))])) _
      refine Goes.to (fun _ k => XS.goto X437.here hx rfl (pc0 := 404) (pc' := 408) rfl (hb hby at_404) (by decide) (by decide) k) ?_
      show Goes p.tables e below (T437.setTop (mkF m 408 #[.val (.int x0), .val (.long x1), .second, .val (.int W), .val (.int A), .val (.int B), .val (.ref b1), .val (.ref b18), .val (.ref b43), .val (.ref b78), .val (.ref b118), .val (.ref b164), .val (.ref b349), .val (.int (0 : Int32)), .val (.int (1 : Int32)), .val (.int (1 : Int32)), .val (.int (0 : Int32))] [(.int (1 : Int32))])) _
      obtain ⟨fs, hr, hrun, hended, hW, hsame⟩ := X437.leave (v := some (.int (1 : Int32))) (fun h => by rw [Bd.returns] at h; cases h)
      have hv : (some (.int (1 : Int32)) : Option Value) = some (.int (1 : Int32)) := by
        rfl
      exact ⟨_, _, retN X437 hx (t := .boolean) Bd.returns (by simp) (hb hby at_408) hr, hrun, hended, _, _, rfl, ⟨hv, N437⟩, ⟨_, rfl⟩, hW, hsame.mono (by decide) (by decide)⟩
    · exact absurd (show ((0 : Int32) < (cmpValue (FP.dcmp (own_at (own_dv x1 (0 : Int32)) (own_dv x1 (4 : Int32)) (own_dv x1 (8 : Int32)) A) (own_at (own_dv x1 (0 : Int32)) (own_dv x1 (4 : Int32)) (own_dv x1 (8 : Int32)) B)) .l)) ∨ ((0 : Int32) < (cmpValue (FP.dcmp (own_at (own_dv x1 (12 : Int32)) (own_dv x1 (16 : Int32)) (own_dv x1 (20 : Int32)) A) (own_at (own_dv x1 (12 : Int32)) (own_dv x1 (16 : Int32)) (own_dv x1 (20 : Int32)) B)) .l)) ∨ ((0 : Int32) < (cmpValue (FP.dcmp (own_at (own_dv x1 (24 : Int32)) (own_dv x1 (28 : Int32)) (own_dv x1 (32 : Int32)) A) (own_at (own_dv x1 (24 : Int32)) (own_dv x1 (28 : Int32)) (own_dv x1 (32 : Int32)) B)) .l)) from (Or.inr (Or.inl ((own_row x1 (12 : Int32) (16 : Int32) (20 : Int32) A B hA0 hA1 hB0 hB1).mpr Ph434_50)))) hc438
  · refine Goes.to (fun _ k => XS.icmpYes Xpt.here hx rfl (pc0 := 357) (pc' := 364) rfl (hb hby at_357) rfl (flt hc436).2.2.2 (by decide) (by decide) k) ?_
    show Goes p.tables e below (Tpt.setTop (mkF m 364 #[.val (.int x0), .val (.long x1), .second, .val (.int W), .val (.int A), .val (.int B), .val (.ref b1), .val (.ref b18), .val (.ref b43), .val (.ref b78), .val (.ref b118), .val (.ref b164), .val (.ref b349), .val (.int (0 : Int32)), .val (.int (1 : Int32)), .unset, .unset] [])) _
    refine Goes.to (fun _ k => XS.iconst Xpt.here hx rfl (hb hby at_364) k) ?_
    show Goes p.tables e below (Tpt.setTop (mkF m 365 #[.val (.int x0), .val (.long x1), .second, .val (.int W), .val (.int A), .val (.int B), .val (.ref b1), .val (.ref b18), .val (.ref b43), .val (.ref b78), .val (.ref b118), .val (.ref b164), .val (.ref b349), .val (.int (0 : Int32)), .val (.int (1 : Int32)), .unset, .unset] [(.int (0 : Int32))])) _
    refine Goes.to (fun _ k => XS.istore Xpt.here hx rfl (hb hby at_365) rfl (l' := #[.val (.int x0), .val (.long x1), .second, .val (.int W), .val (.int A), .val (.int B), .val (.ref b1), .val (.ref b18), .val (.ref b43), .val (.ref b78), .val (.ref b118), .val (.ref b164), .val (.ref b349), .val (.int (0 : Int32)), .val (.int (1 : Int32)), .val (.int (0 : Int32)), .unset]) rfl k) ?_
    show Goes p.tables e below (Tpt.setTop (mkF m 367 #[.val (.int x0), .val (.long x1), .second, .val (.int W), .val (.int A), .val (.int B), .val (.ref b1), .val (.ref b18), .val (.ref b43), .val (.ref b78), .val (.ref b118), .val (.ref b164), .val (.ref b349), .val (.int (0 : Int32)), .val (.int (1 : Int32)), .val (.int (0 : Int32)), .unset] [])) _
    refine Goes.to (fun _ k => XS.iload Xpt.here hx rfl (hb hby at_367) rfl k) ?_
    show Goes p.tables e below (Tpt.setTop (mkF m 369 #[.val (.int x0), .val (.long x1), .second, .val (.int W), .val (.int A), .val (.int B), .val (.ref b1), .val (.ref b18), .val (.ref b43), .val (.ref b78), .val (.ref b118), .val (.ref b164), .val (.ref b349), .val (.int (0 : Int32)), .val (.int (1 : Int32)), .val (.int (0 : Int32)), .unset] [(.int (0 : Int32))])) _
    refine Goes.to (fun _ k => XS.ifNo Xpt.here hx rfl (hb hby at_369) rfl ((if0 _ _).trans (teq (by decide : (0 : Int32) = (0 : Int32))).2) k) ?_
    show Goes p.tables e below (Tpt.setTop (mkF m 372 #[.val (.int x0), .val (.long x1), .second, .val (.int W), .val (.int A), .val (.int B), .val (.ref b1), .val (.ref b18), .val (.ref b43), .val (.ref b78), .val (.ref b118), .val (.ref b164), .val (.ref b349), .val (.int (0 : Int32)), .val (.int (1 : Int32)), .val (.int (0 : Int32)), .unset] [])) _
    refine Goes.to (fun _ k => XS.iload Xpt.here hx rfl (hb hby at_372) rfl k) ?_
    show Goes p.tables e below (Tpt.setTop (mkF m 374 #[.val (.int x0), .val (.long x1), .second, .val (.int W), .val (.int A), .val (.int B), .val (.ref b1), .val (.ref b18), .val (.ref b43), .val (.ref b78), .val (.ref b118), .val (.ref b164), .val (.ref b349), .val (.int (0 : Int32)), .val (.int (1 : Int32)), .val (.int (0 : Int32)), .unset] [(.int (1 : Int32))])) _
    refine Goes.to (fun _ k => XS.ifYes Xpt.here hx rfl (pc0 := 374) (pc' := 386) rfl (hb hby at_374) rfl ((if0 _ _).trans (feq (by decide : ¬ ((1 : Int32) = (0 : Int32)))).2) (by decide) (by decide) k) ?_
    show Goes p.tables e below (Tpt.setTop (mkF m 386 #[.val (.int x0), .val (.long x1), .second, .val (.int W), .val (.int A), .val (.int B), .val (.ref b1), .val (.ref b18), .val (.ref b43), .val (.ref b78), .val (.ref b118), .val (.ref b164), .val (.ref b349), .val (.int (0 : Int32)), .val (.int (1 : Int32)), .val (.int (0 : Int32)), .unset] [])) _
    refine Goes.to (fun _ k => XS.iconst Xpt.here hx rfl (hb hby at_386) k) ?_
    show Goes p.tables e below (Tpt.setTop (mkF m 387 #[.val (.int x0), .val (.long x1), .second, .val (.int W), .val (.int A), .val (.int B), .val (.ref b1), .val (.ref b18), .val (.ref b43), .val (.ref b78), .val (.ref b118), .val (.ref b164), .val (.ref b349), .val (.int (0 : Int32)), .val (.int (1 : Int32)), .val (.int (0 : Int32)), .unset] [(.int (0 : Int32))])) _
    refine Goes.to (fun _ k => XS.istore Xpt.here hx rfl (hb hby at_387) rfl (l' := #[.val (.int x0), .val (.long x1), .second, .val (.int W), .val (.int A), .val (.int B), .val (.ref b1), .val (.ref b18), .val (.ref b43), .val (.ref b78), .val (.ref b118), .val (.ref b164), .val (.ref b349), .val (.int (0 : Int32)), .val (.int (1 : Int32)), .val (.int (0 : Int32)), .val (.int (0 : Int32))]) rfl k) ?_
    show Goes p.tables e below (Tpt.setTop (mkF m 389 #[.val (.int x0), .val (.long x1), .second, .val (.int W), .val (.int A), .val (.int B), .val (.ref b1), .val (.ref b18), .val (.ref b43), .val (.ref b78), .val (.ref b118), .val (.ref b164), .val (.ref b349), .val (.int (0 : Int32)), .val (.int (1 : Int32)), .val (.int (0 : Int32)), .val (.int (0 : Int32))] [])) _
    refine Goes.to (fun _ k => XS.aload Xpt.here hx rfl (hb hby at_389) rfl rfl k) ?_
    show Goes p.tables e below (Tpt.setTop (mkF m 391 #[.val (.int x0), .val (.long x1), .second, .val (.int W), .val (.int A), .val (.int B), .val (.ref b1), .val (.ref b18), .val (.ref b43), .val (.ref b78), .val (.ref b118), .val (.ref b164), .val (.ref b349), .val (.int (0 : Int32)), .val (.int (1 : Int32)), .val (.int (0 : Int32)), .val (.int (0 : Int32))] [(.ref b349)])) _
    refine Goes.to (fun _ k => XS.iload Xpt.here hx rfl (hb hby at_391) rfl k) ?_
    show Goes p.tables e below (Tpt.setTop (mkF m 393 #[.val (.int x0), .val (.long x1), .second, .val (.int W), .val (.int A), .val (.int B), .val (.ref b1), .val (.ref b18), .val (.ref b43), .val (.ref b78), .val (.ref b118), .val (.ref b164), .val (.ref b349), .val (.int (0 : Int32)), .val (.int (1 : Int32)), .val (.int (0 : Int32)), .val (.int (0 : Int32))] [(.int A), (.ref b349)])) _
    refine Goes.to (fun _ k => XS.iload Xpt.here hx rfl (hb hby at_393) rfl k) ?_
    show Goes p.tables e below (Tpt.setTop (mkF m 395 #[.val (.int x0), .val (.long x1), .second, .val (.int W), .val (.int A), .val (.int B), .val (.ref b1), .val (.ref b18), .val (.ref b43), .val (.ref b78), .val (.ref b118), .val (.ref b164), .val (.ref b349), .val (.int (0 : Int32)), .val (.int (1 : Int32)), .val (.int (0 : Int32)), .val (.int (0 : Int32))] [(.int B), (.int A), (.ref b349)])) _
    obtain ⟨_, _, ⟨T439, L439, k439, n439⟩, -, X439, ⟨Lc439, hQ439, l439, y439, z439⟩, st439⟩ := Jvm.LawKit.callS Xpt hx (y := (⟨"com/example/pareto4/pareto4/front/Keys", "noHigher", "([[DII)Z"⟩ : MethodName)) hown (mvT hZ (hw _ (List.mem_of_getElem? (i := 12) rfl))) (mvT hZ (hw _ (List.mem_of_getElem? (i := 13) rfl))) (mvT hZ (hw _ (List.mem_of_getElem? (i := 14) rfl))) (mvT hZ (hw _ (List.mem_of_getElem? (i := 15) rfl))) (by decide) (backOf (W := 0) (own_rmNH3 l Z a0 hw [] b349 A B k349 b1 k1 (own_dv x1 (0 : Int32)) (own_dv x1 (4 : Int32)) (own_dv x1 (8 : Int32)) b18 k18 (own_dv x1 (12 : Int32)) (own_dv x1 (16 : Int32)) (own_dv x1 (20 : Int32)) b43 k43 (own_dv x1 (24 : Int32)) (own_dv x1 (28 : Int32)) (own_dv x1 (32 : Int32)) hpt n0 Zpt hA0 hA1 hB0 hB1 Pf434_1 Pf434_3 Pf434_5 Pf434_9) hZ (hw _ (List.mem_of_getElem? (i := 15) rfl)) (hw _ (List.mem_of_getElem? (i := 14) rfl)) (by decide) (by decide)) (g := (mkF m 395 #[.val (.int x0), .val (.long x1), .second, .val (.int W), .val (.int A), .val (.int B), .val (.ref b1), .val (.ref b18), .val (.ref b43), .val (.ref b78), .val (.ref b118), .val (.ref b164), .val (.ref b349), .val (.int (0 : Int32)), .val (.int (1 : Int32)), .val (.int (0 : Int32)), .val (.int (0 : Int32))] [(.int B), (.int A), (.ref b349)])) rfl (by rw [hml]; rfl) (argsL := [(.ref b349), (.int A), (.int B)]) (rest := []) (lenOf own_pd_paaDIIqZ rfl) rfl (by show 2 * 0 + _ ≤ _; exact Nat.le_of_eq rfl) (hb hby at_395) (fun _ _ => ⟨rfl, Ept, (by decide : 7 + 0 ≤ _), (by decide : 21 + 0 ≤ _)⟩)
    dsimp only [Pt.U, Pt.locs, Pt.cells, Pt.slots] at X439 l439 y439 z439 st439 hQ439
    subst l439 y439 z439
    obtain ⟨hv439, Nq439, hp439_0⟩ := hQ439
    have N439 := Fr.app Npt Nq439
    by_cases hc440 : ((0 : Int32) < (cmpValue (FP.dcmp (own_at (own_dv x1 (0 : Int32)) (own_dv x1 (4 : Int32)) (own_dv x1 (8 : Int32)) A) (own_at (own_dv x1 (0 : Int32)) (own_dv x1 (4 : Int32)) (own_dv x1 (8 : Int32)) B)) .l)) ∨ ((0 : Int32) < (cmpValue (FP.dcmp (own_at (own_dv x1 (12 : Int32)) (own_dv x1 (16 : Int32)) (own_dv x1 (20 : Int32)) A) (own_at (own_dv x1 (12 : Int32)) (own_dv x1 (16 : Int32)) (own_dv x1 (20 : Int32)) B)) .l)) ∨ ((0 : Int32) < (cmpValue (FP.dcmp (own_at (own_dv x1 (24 : Int32)) (own_dv x1 (28 : Int32)) (own_dv x1 (32 : Int32)) A) (own_at (own_dv x1 (24 : Int32)) (own_dv x1 (28 : Int32)) (own_dv x1 (32 : Int32)) B)) .l))
    · rw [if_pos hc440] at hv439
      subst hv439
      refine Goes.to st439 ?_
      show Goes p.tables e below (T439.setTop (mkF m 398 #[.val (.int x0), .val (.long x1), .second, .val (.int W), .val (.int A), .val (.int B), .val (.ref b1), .val (.ref b18), .val (.ref b43), .val (.ref b78), .val (.ref b118), .val (.ref b164), .val (.ref b349), .val (.int (0 : Int32)), .val (.int (1 : Int32)), .val (.int (0 : Int32)), .val (.int (0 : Int32))] [(.int (0 : Int32))])) _
      refine Goes.to (fun _ k => XS.iload X439.here hx rfl (hb hby at_398) rfl k) ?_
      show Goes p.tables e below (T439.setTop (mkF m 400 #[.val (.int x0), .val (.long x1), .second, .val (.int W), .val (.int A), .val (.int B), .val (.ref b1), .val (.ref b18), .val (.ref b43), .val (.ref b78), .val (.ref b118), .val (.ref b164), .val (.ref b349), .val (.int (0 : Int32)), .val (.int (1 : Int32)), .val (.int (0 : Int32)), .val (.int (0 : Int32))] [(.int (0 : Int32)), (.int (0 : Int32))])) _
      refine Goes.to (fun _ k => XS.icmpNo X439.here hx rfl (hb hby at_400) rfl (teq (by decide : (0 : Int32) = (0 : Int32))).2 k) ?_
      show Goes p.tables e below (T439.setTop (mkF m 403 #[.val (.int x0), .val (.long x1), .second, .val (.int W), .val (.int A), .val (.int B), .val (.ref b1), .val (.ref b18), .val (.ref b43), .val (.ref b78), .val (.ref b118), .val (.ref b164), .val (.ref b349), .val (.int (0 : Int32)), .val (.int (1 : Int32)), .val (.int (0 : Int32)), .val (.int (0 : Int32))] [])) _
      refine Goes.to (fun _ k => XS.iconst X439.here hx rfl (hb hby at_403) k) ?_
      show Goes p.tables e below (T439.setTop (mkF m 404 #[.val (.int x0), .val (.long x1), .second, .val (.int W), .val (.int A), .val (.int B), .val (.ref b1), .val (.ref b18), .val (.ref b43), .val (.ref b78), .val (.ref b118), .val (.ref b164), .val (.ref b349), .val (.int (0 : Int32)), .val (.int (1 : Int32)), .val (.int (0 : Int32)), .val (.int (0 : Int32))] [(.int (1 : Int32))])) _
      refine Goes.to (fun _ k => XS.goto X439.here hx rfl (pc0 := 404) (pc' := 408) rfl (hb hby at_404) (by decide) (by decide) k) ?_
      show Goes p.tables e below (T439.setTop (mkF m 408 #[.val (.int x0), .val (.long x1), .second, .val (.int W), .val (.int A), .val (.int B), .val (.ref b1), .val (.ref b18), .val (.ref b43), .val (.ref b78), .val (.ref b118), .val (.ref b164), .val (.ref b349), .val (.int (0 : Int32)), .val (.int (1 : Int32)), .val (.int (0 : Int32)), .val (.int (0 : Int32))] [(.int (1 : Int32))])) _
      obtain ⟨fs, hr, hrun, hended, hW, hsame⟩ := X439.leave (v := some (.int (1 : Int32))) (fun h => by rw [Bd.returns] at h; cases h)
      have hv : (some (.int (1 : Int32)) : Option Value) = some (.int (1 : Int32)) := by
        rfl
      exact ⟨_, _, retN X439 hx (t := .boolean) Bd.returns (by simp) (hb hby at_408) hr, hrun, hended, _, _, rfl, ⟨hv, N439⟩, ⟨_, rfl⟩, hW, hsame.mono (by decide) (by decide)⟩
    · exact absurd (show ((0 : Int32) < (cmpValue (FP.dcmp (own_at (own_dv x1 (0 : Int32)) (own_dv x1 (4 : Int32)) (own_dv x1 (8 : Int32)) A) (own_at (own_dv x1 (0 : Int32)) (own_dv x1 (4 : Int32)) (own_dv x1 (8 : Int32)) B)) .l)) ∨ ((0 : Int32) < (cmpValue (FP.dcmp (own_at (own_dv x1 (12 : Int32)) (own_dv x1 (16 : Int32)) (own_dv x1 (20 : Int32)) A) (own_at (own_dv x1 (12 : Int32)) (own_dv x1 (16 : Int32)) (own_dv x1 (20 : Int32)) B)) .l)) ∨ ((0 : Int32) < (cmpValue (FP.dcmp (own_at (own_dv x1 (24 : Int32)) (own_dv x1 (28 : Int32)) (own_dv x1 (32 : Int32)) A) (own_at (own_dv x1 (24 : Int32)) (own_dv x1 (28 : Int32)) (own_dv x1 (32 : Int32)) B)) .l)) from (Or.inr (Or.inl ((own_row x1 (12 : Int32) (16 : Int32) (20 : Int32) A B hA0 hA1 hB0 hB1).mpr Ph434_50)))) hc440
set_option maxRecDepth 65536 in
set_option maxHeartbeats 40000000 in
theorem own_pt_own_rm0_443 (l : Launch) (Z : State) (a0 : Array Value) (hw : ∀ d ∈ tables_1, d.before a0 Z = true) (ws : List Jvm.Cond) (x0 : Int32) (x1 : Int64)  (h0 : Heap) (n0 : Nat) (Z0 : n0 ≤ h0.size) 
    {p : Program} {e : Env} {s : State} {m : MethodId} {below : List Frame} {meth : Method} {c : Code} {s₁ : State} (Bd : BodyLoose p l x (head1 (Jvm.Cond.code x code maxLocals ret :: ws) room_1) code maxLocals ret e s m #[(.int x0), (.long x1)] below meth c s₁) (hml0 : c.maxLocals = maxLocals) (hh : s.heap = h0) (hZ : Z.Warmed39 s.vm)
    (b1 : Addr) (k1 : ClassId) (b18 : Addr) (k18 : ClassId) (b43 : Addr) (k43 : ClassId) (b78 : Addr) (k78 : ClassId) (b118 : Addr) (k118 : ClassId) (b164 : Addr) (k164 : ClassId) (b349 : Addr) (k349 : ClassId) (W : Int32) (A : Int32) (B : Int32)
    (Tpt : State) (lpt : List Loc)  (hpt : Heap)
    (Xpt : Stand p l e room_1 s m #[(.int x0), (.long x1)] below meth c Tpt lpt 7 21) (Ept : Tpt.heap = hpt) (Npt : Fr n0 lpt) (Zpt : n0 ≤ hpt.size) 
    (Pf443_0 : Exa Z hpt b1 "[D")
    (Pf443_1 : Arv Z hpt b1 k1 .double (3 : Int32) [(.double (own_dv x1 (0 : Int32))), (.double (own_dv x1 (4 : Int32))), (.double (own_dv x1 (8 : Int32)))] (.double (0 : UInt64)))
    (Pf443_2 : Exa Z hpt b18 "[D")
    (Pf443_3 : Arv Z hpt b18 k18 .double (3 : Int32) [(.double (own_dv x1 (12 : Int32))), (.double (own_dv x1 (16 : Int32))), (.double (own_dv x1 (20 : Int32)))] (.double (0 : UInt64)))
    (Pf443_4 : Exa Z hpt b43 "[D")
    (Pf443_5 : Arv Z hpt b43 k43 .double (3 : Int32) [(.double (own_dv x1 (24 : Int32))), (.double (own_dv x1 (28 : Int32))), (.double (own_dv x1 (32 : Int32)))] (.double (0 : UInt64)))
    (Pf443_6 : Arv Z hpt b78 k78 .int (3 : Int32) [(.int (own_iv x1 (0 : Int32))), (.int (own_iv x1 (4 : Int32))), (.int (own_iv x1 (8 : Int32)))] (.int (0 : Int32)))
    (Pf443_7 : Arv Z hpt b118 k118 .int (3 : Int32) [(.int (own_iv x1 (12 : Int32))), (.int (own_iv x1 (16 : Int32))), (.int (own_iv x1 (20 : Int32)))] (.int (0 : Int32)))
    (Pf443_8 : Arv Z hpt b164 k164 .int (3 : Int32) [(.int (own_iv x1 (24 : Int32))), (.int (own_iv x1 (28 : Int32))), (.int (own_iv x1 (32 : Int32)))] (.int (0 : Int32)))
    (Pf443_9 : Arv Z hpt b349 k349 (.array .double) (3 : Int32) [(.ref b1), (.ref b18), (.ref b43)] .null)
    (Pg443_10 : n0 ≤ b1)
    (Pn443_11 : b1 ≠ b18)
    (Pg443_12 : n0 ≤ b18)
    (Pn443_13 : b1 ≠ b43)
    (Pn443_14 : b18 ≠ b43)
    (Pg443_15 : n0 ≤ b43)
    (Pn443_16 : b1 ≠ b78)
    (Pn443_17 : b18 ≠ b78)
    (Pn443_18 : b43 ≠ b78)
    (Pg443_19 : n0 ≤ b78)
    (Pn443_20 : b1 ≠ b118)
    (Pn443_21 : b18 ≠ b118)
    (Pn443_22 : b43 ≠ b118)
    (Pn443_23 : b78 ≠ b118)
    (Pg443_24 : n0 ≤ b118)
    (Pn443_25 : b1 ≠ b164)
    (Pn443_26 : b18 ≠ b164)
    (Pn443_27 : b43 ≠ b164)
    (Pn443_28 : b78 ≠ b164)
    (Pn443_29 : b118 ≠ b164)
    (Pg443_30 : n0 ≤ b164)
    (Po443_31 : OvrA Z k349 .double "[D")
    (Pn443_32 : b1 ≠ b349)
    (Pn443_33 : b18 ≠ b349)
    (Pn443_34 : b43 ≠ b349)
    (Pn443_35 : b78 ≠ b349)
    (Pn443_36 : b118 ≠ b349)
    (Pn443_37 : b164 ≠ b349)
    (Pg443_38 : n0 ≤ b349)
    (hA0 : ¬ (A < (0 : Int32)))
    (hA1 : A < (3 : Int32))
    (hB0 : ¬ (B < (0 : Int32)))
    (hB1 : B < (3 : Int32))
    (hnm_W : (x0 &&& (3 : Int32)) = W)
    (Ph443_44 : ¬ (W = (0 : Int32)))
    (Ph443_45 : ¬ (W = (1 : Int32)))
    (Ph443_46 : ¬ (W = (2 : Int32)))
    (Ph443_47 : ¬ (W < (1 : Int32)))
    (Ph443_48 : ¬ ((own_iat (own_iv x1 (0 : Int32)) (own_iv x1 (4 : Int32)) (own_iv x1 (8 : Int32)) B) < (own_iat (own_iv x1 (0 : Int32)) (own_iv x1 (4 : Int32)) (own_iv x1 (8 : Int32)) A)))
    (Ph443_49 : ¬ (W < (2 : Int32)))
    (Ph443_50 : ¬ ((own_iat (own_iv x1 (12 : Int32)) (own_iv x1 (16 : Int32)) (own_iv x1 (20 : Int32)) B) < (own_iat (own_iv x1 (12 : Int32)) (own_iv x1 (16 : Int32)) (own_iv x1 (20 : Int32)) A)))
    (Ph443_51 : ¬ (W < (3 : Int32)))
    : Goes p.tables e below (Tpt.setTop (mkF m 354 #[.val (.int x0), .val (.long x1), .second, .val (.int W), .val (.int A), .val (.int B), .val (.ref b1), .val (.ref b18), .val (.ref b43), .val (.ref b78), .val (.ref b118), .val (.ref b164), .val (.ref b349), .val (.int (0 : Int32)), .val (.int (0 : Int32)), .unset, .unset] [(.ref b164), (.int (own_iat (own_iv x1 (24 : Int32)) (own_iv x1 (28 : Int32)) (own_iv x1 (32 : Int32)) A))])) (own_R below s (own_Q_own_rm0 Z x0 x1 h0 n0) 7 21) := by
  have hx := Bd.exec
  have hby := Bd.bytes
  have hml : c.maxLocals = 17 := hml0
  have hnm := (name_of_methodNamed Bd.named Bd.method).1
  have hown : s.vm.findClass "com/example/pareto4/pareto4/front/KeysNoHigherPinLaw" = some m.cls := findClass_of_methodNamed Bd.named
  show Goes p.tables e below (Tpt.setTop (mkF m 354 #[.val (.int x0), .val (.long x1), .second, .val (.int W), .val (.int A), .val (.int B), .val (.ref b1), .val (.ref b18), .val (.ref b43), .val (.ref b78), .val (.ref b118), .val (.ref b164), .val (.ref b349), .val (.int (0 : Int32)), .val (.int (0 : Int32)), .unset, .unset] [(.ref b164), (.int (own_iat (own_iv x1 (24 : Int32)) (own_iv x1 (28 : Int32)) (own_iv x1 (32 : Int32)) A))])) _
  refine Goes.to (fun _ k => XS.iload Xpt.here hx rfl (hb hby at_354) rfl k) ?_
  show Goes p.tables e below (Tpt.setTop (mkF m 356 #[.val (.int x0), .val (.long x1), .second, .val (.int W), .val (.int A), .val (.int B), .val (.ref b1), .val (.ref b18), .val (.ref b43), .val (.ref b78), .val (.ref b118), .val (.ref b164), .val (.ref b349), .val (.int (0 : Int32)), .val (.int (0 : Int32)), .unset, .unset] [(.int B), (.ref b164), (.int (own_iat (own_iv x1 (24 : Int32)) (own_iv x1 (28 : Int32)) (own_iv x1 (32 : Int32)) A))])) _
  obtain ⟨cl444, Ar444, q444, S444, N444, H444, G444⟩ := id Pf443_8
  have hin444 : ¬ (B < 0 ∨ cl444.slots.size ≤ (B).toNatClampNeg) := by
    have k1 := rng32 A
    have k2 : (0 : Int32).toInt = 0 := rfl
    have k3 : ¬ A.toInt < (0 : Int32).toInt := fun z => hA0 (Int32.lt_iff_toInt_lt.mpr z)
    have k4 : (3 : Int32).toInt = 3 := rfl
    have k5 : A.toInt < (3 : Int32).toInt := Int32.lt_iff_toInt_lt.mp hA1
    have k6 := rng32 B
    have k7 : ¬ B.toInt < (0 : Int32).toInt := fun z => hB0 (Int32.lt_iff_toInt_lt.mpr z)
    have k8 : B.toInt < (3 : Int32).toInt := Int32.lt_iff_toInt_lt.mp hB1
    have k9 := rng32 x0
    have k10 : (x0 &&& (3 : Int32)).toInt = x0.toInt % 4 := c_mask x0 (3 : Int32) 2 (by decide) (by decide)
    have k11 := rng32 W
    have k12 : (x0 &&& (3 : Int32)).toInt = W.toInt := congrArg Int32.toInt hnm_W
    have k13 : ¬ W.toInt = (0 : Int32).toInt := fun z => Ph443_44 (Int32.toInt_inj.mp z)
    have k14 : (1 : Int32).toInt = 1 := rfl
    have k15 : ¬ W.toInt = (1 : Int32).toInt := fun z => Ph443_45 (Int32.toInt_inj.mp z)
    have k16 : (2 : Int32).toInt = 2 := rfl
    have k17 : ¬ W.toInt = (2 : Int32).toInt := fun z => Ph443_46 (Int32.toInt_inj.mp z)
    have k18 : ¬ W.toInt < (1 : Int32).toInt := fun z => Ph443_47 (Int32.lt_iff_toInt_lt.mpr z)
    have k19 := rng32 (own_iat (own_iv x1 (0 : Int32)) (own_iv x1 (4 : Int32)) (own_iv x1 (8 : Int32)) B)
    have k20 := rng32 (own_iat (own_iv x1 (0 : Int32)) (own_iv x1 (4 : Int32)) (own_iv x1 (8 : Int32)) A)
    have k21 : ¬ (own_iat (own_iv x1 (0 : Int32)) (own_iv x1 (4 : Int32)) (own_iv x1 (8 : Int32)) B).toInt < (own_iat (own_iv x1 (0 : Int32)) (own_iv x1 (4 : Int32)) (own_iv x1 (8 : Int32)) A).toInt := fun z => Ph443_48 (Int32.lt_iff_toInt_lt.mpr z)
    have k22 : ¬ W.toInt < (2 : Int32).toInt := fun z => Ph443_49 (Int32.lt_iff_toInt_lt.mpr z)
    have k23 := rng32 (own_iat (own_iv x1 (12 : Int32)) (own_iv x1 (16 : Int32)) (own_iv x1 (20 : Int32)) B)
    have k24 := rng32 (own_iat (own_iv x1 (12 : Int32)) (own_iv x1 (16 : Int32)) (own_iv x1 (20 : Int32)) A)
    have k25 : ¬ (own_iat (own_iv x1 (12 : Int32)) (own_iv x1 (16 : Int32)) (own_iv x1 (20 : Int32)) B).toInt < (own_iat (own_iv x1 (12 : Int32)) (own_iv x1 (16 : Int32)) (own_iv x1 (20 : Int32)) A).toInt := fun z => Ph443_50 (Int32.lt_iff_toInt_lt.mpr z)
    have k26 : ¬ W.toInt < (3 : Int32).toInt := fun z => Ph443_51 (Int32.lt_iff_toInt_lt.mpr z)
    refine inb_of S444 ⟨fun hq => ?_, Int32.lt_iff_toInt_lt.mpr ?_⟩
    · have hq' := Int32.lt_iff_toInt_lt.mp hq
      omega
    · omega
  have hat444 : cl444.slots[(B).toNatClampNeg]? = some (.int (own_iat (own_iv x1 (24 : Int32)) (own_iv x1 (28 : Int32)) (own_iv x1 (32 : Int32)) B)) := Has.at H444 hin444 (own_iat_eq (own_iv x1 (24 : Int32)) (own_iv x1 (28 : Int32)) (own_iv x1 (32 : Int32)) B)
  refine Goes.to (fun _ k => Xpt.iaload hx (j := B) (v := (.int (own_iat (own_iv x1 (24 : Int32)) (own_iv x1 (28 : Int32)) (own_iv x1 (32 : Int32)) B))) (by rw [Ept]; exact Ar444.1) (State.isArrayOf_alike hZ.alike Ar444.2.1) Ar444.2.2 hin444 hat444 (g := (mkF m 356 #[.val (.int x0), .val (.long x1), .second, .val (.int W), .val (.int A), .val (.int B), .val (.ref b1), .val (.ref b18), .val (.ref b43), .val (.ref b78), .val (.ref b118), .val (.ref b164), .val (.ref b349), .val (.int (0 : Int32)), .val (.int (0 : Int32)), .unset, .unset] [(.int B), (.ref b164), (.int (own_iat (own_iv x1 (24 : Int32)) (own_iv x1 (28 : Int32)) (own_iv x1 (32 : Int32)) A))])) rfl rfl (hb hby at_356) _ k) ?_
  show Goes p.tables e below (Tpt.setTop (mkF m 357 #[.val (.int x0), .val (.long x1), .second, .val (.int W), .val (.int A), .val (.int B), .val (.ref b1), .val (.ref b18), .val (.ref b43), .val (.ref b78), .val (.ref b118), .val (.ref b164), .val (.ref b349), .val (.int (0 : Int32)), .val (.int (0 : Int32)), .unset, .unset] [(.int (own_iat (own_iv x1 (24 : Int32)) (own_iv x1 (28 : Int32)) (own_iv x1 (32 : Int32)) B)), (.int (own_iat (own_iv x1 (24 : Int32)) (own_iv x1 (28 : Int32)) (own_iv x1 (32 : Int32)) A))])) _
  by_cases hc445 : (own_iat (own_iv x1 (24 : Int32)) (own_iv x1 (28 : Int32)) (own_iv x1 (32 : Int32)) B) < (own_iat (own_iv x1 (24 : Int32)) (own_iv x1 (28 : Int32)) (own_iv x1 (32 : Int32)) A)
  · refine Goes.to (fun _ k => XS.icmpNo Xpt.here hx rfl (hb hby at_357) rfl (tlt hc445).2.2.2 k) ?_
    show Goes p.tables e below (Tpt.setTop (mkF m 360 #[.val (.int x0), .val (.long x1), .second, .val (.int W), .val (.int A), .val (.int B), .val (.ref b1), .val (.ref b18), .val (.ref b43), .val (.ref b78), .val (.ref b118), .val (.ref b164), .val (.ref b349), .val (.int (0 : Int32)), .val (.int (0 : Int32)), .unset, .unset] [])) _
    refine Goes.to (fun _ k => XS.iconst Xpt.here hx rfl (hb hby at_360) k) ?_
    show Goes p.tables e below (Tpt.setTop (mkF m 361 #[.val (.int x0), .val (.long x1), .second, .val (.int W), .val (.int A), .val (.int B), .val (.ref b1), .val (.ref b18), .val (.ref b43), .val (.ref b78), .val (.ref b118), .val (.ref b164), .val (.ref b349), .val (.int (0 : Int32)), .val (.int (0 : Int32)), .unset, .unset] [(.int (1 : Int32))])) _
    refine Goes.to (fun _ k => XS.goto Xpt.here hx rfl (pc0 := 361) (pc' := 365) rfl (hb hby at_361) (by decide) (by decide) k) ?_
    show Goes p.tables e below (Tpt.setTop (mkF m 365 #[.val (.int x0), .val (.long x1), .second, .val (.int W), .val (.int A), .val (.int B), .val (.ref b1), .val (.ref b18), .val (.ref b43), .val (.ref b78), .val (.ref b118), .val (.ref b164), .val (.ref b349), .val (.int (0 : Int32)), .val (.int (0 : Int32)), .unset, .unset] [(.int (1 : Int32))])) _
    refine Goes.to (fun _ k => XS.istore Xpt.here hx rfl (hb hby at_365) rfl (l' := #[.val (.int x0), .val (.long x1), .second, .val (.int W), .val (.int A), .val (.int B), .val (.ref b1), .val (.ref b18), .val (.ref b43), .val (.ref b78), .val (.ref b118), .val (.ref b164), .val (.ref b349), .val (.int (0 : Int32)), .val (.int (0 : Int32)), .val (.int (1 : Int32)), .unset]) rfl k) ?_
    show Goes p.tables e below (Tpt.setTop (mkF m 367 #[.val (.int x0), .val (.long x1), .second, .val (.int W), .val (.int A), .val (.int B), .val (.ref b1), .val (.ref b18), .val (.ref b43), .val (.ref b78), .val (.ref b118), .val (.ref b164), .val (.ref b349), .val (.int (0 : Int32)), .val (.int (0 : Int32)), .val (.int (1 : Int32)), .unset] [])) _
    refine Goes.to (fun _ k => XS.iload Xpt.here hx rfl (hb hby at_367) rfl k) ?_
    show Goes p.tables e below (Tpt.setTop (mkF m 369 #[.val (.int x0), .val (.long x1), .second, .val (.int W), .val (.int A), .val (.int B), .val (.ref b1), .val (.ref b18), .val (.ref b43), .val (.ref b78), .val (.ref b118), .val (.ref b164), .val (.ref b349), .val (.int (0 : Int32)), .val (.int (0 : Int32)), .val (.int (1 : Int32)), .unset] [(.int (0 : Int32))])) _
    refine Goes.to (fun _ k => XS.ifNo Xpt.here hx rfl (hb hby at_369) rfl ((if0 _ _).trans (teq (by decide : (0 : Int32) = (0 : Int32))).2) k) ?_
    show Goes p.tables e below (Tpt.setTop (mkF m 372 #[.val (.int x0), .val (.long x1), .second, .val (.int W), .val (.int A), .val (.int B), .val (.ref b1), .val (.ref b18), .val (.ref b43), .val (.ref b78), .val (.ref b118), .val (.ref b164), .val (.ref b349), .val (.int (0 : Int32)), .val (.int (0 : Int32)), .val (.int (1 : Int32)), .unset] [])) _
    refine Goes.to (fun _ k => XS.iload Xpt.here hx rfl (hb hby at_372) rfl k) ?_
    show Goes p.tables e below (Tpt.setTop (mkF m 374 #[.val (.int x0), .val (.long x1), .second, .val (.int W), .val (.int A), .val (.int B), .val (.ref b1), .val (.ref b18), .val (.ref b43), .val (.ref b78), .val (.ref b118), .val (.ref b164), .val (.ref b349), .val (.int (0 : Int32)), .val (.int (0 : Int32)), .val (.int (1 : Int32)), .unset] [(.int (0 : Int32))])) _
    refine Goes.to (fun _ k => XS.ifNo Xpt.here hx rfl (hb hby at_374) rfl ((if0 _ _).trans (teq (by decide : (0 : Int32) = (0 : Int32))).2) k) ?_
    show Goes p.tables e below (Tpt.setTop (mkF m 377 #[.val (.int x0), .val (.long x1), .second, .val (.int W), .val (.int A), .val (.int B), .val (.ref b1), .val (.ref b18), .val (.ref b43), .val (.ref b78), .val (.ref b118), .val (.ref b164), .val (.ref b349), .val (.int (0 : Int32)), .val (.int (0 : Int32)), .val (.int (1 : Int32)), .unset] [])) _
    refine Goes.to (fun _ k => XS.iload Xpt.here hx rfl (hb hby at_377) rfl k) ?_
    show Goes p.tables e below (Tpt.setTop (mkF m 379 #[.val (.int x0), .val (.long x1), .second, .val (.int W), .val (.int A), .val (.int B), .val (.ref b1), .val (.ref b18), .val (.ref b43), .val (.ref b78), .val (.ref b118), .val (.ref b164), .val (.ref b349), .val (.int (0 : Int32)), .val (.int (0 : Int32)), .val (.int (1 : Int32)), .unset] [(.int (1 : Int32))])) _
    refine Goes.to (fun _ k => XS.ifYes Xpt.here hx rfl (pc0 := 379) (pc' := 386) rfl (hb hby at_379) rfl ((if0 _ _).trans (feq (by decide : ¬ ((1 : Int32) = (0 : Int32)))).2) (by decide) (by decide) k) ?_
    show Goes p.tables e below (Tpt.setTop (mkF m 386 #[.val (.int x0), .val (.long x1), .second, .val (.int W), .val (.int A), .val (.int B), .val (.ref b1), .val (.ref b18), .val (.ref b43), .val (.ref b78), .val (.ref b118), .val (.ref b164), .val (.ref b349), .val (.int (0 : Int32)), .val (.int (0 : Int32)), .val (.int (1 : Int32)), .unset] [])) _
    refine Goes.to (fun _ k => XS.iconst Xpt.here hx rfl (hb hby at_386) k) ?_
    show Goes p.tables e below (Tpt.setTop (mkF m 387 #[.val (.int x0), .val (.long x1), .second, .val (.int W), .val (.int A), .val (.int B), .val (.ref b1), .val (.ref b18), .val (.ref b43), .val (.ref b78), .val (.ref b118), .val (.ref b164), .val (.ref b349), .val (.int (0 : Int32)), .val (.int (0 : Int32)), .val (.int (1 : Int32)), .unset] [(.int (0 : Int32))])) _
    refine Goes.to (fun _ k => XS.istore Xpt.here hx rfl (hb hby at_387) rfl (l' := #[.val (.int x0), .val (.long x1), .second, .val (.int W), .val (.int A), .val (.int B), .val (.ref b1), .val (.ref b18), .val (.ref b43), .val (.ref b78), .val (.ref b118), .val (.ref b164), .val (.ref b349), .val (.int (0 : Int32)), .val (.int (0 : Int32)), .val (.int (1 : Int32)), .val (.int (0 : Int32))]) rfl k) ?_
    show Goes p.tables e below (Tpt.setTop (mkF m 389 #[.val (.int x0), .val (.long x1), .second, .val (.int W), .val (.int A), .val (.int B), .val (.ref b1), .val (.ref b18), .val (.ref b43), .val (.ref b78), .val (.ref b118), .val (.ref b164), .val (.ref b349), .val (.int (0 : Int32)), .val (.int (0 : Int32)), .val (.int (1 : Int32)), .val (.int (0 : Int32))] [])) _
    refine Goes.to (fun _ k => XS.aload Xpt.here hx rfl (hb hby at_389) rfl rfl k) ?_
    show Goes p.tables e below (Tpt.setTop (mkF m 391 #[.val (.int x0), .val (.long x1), .second, .val (.int W), .val (.int A), .val (.int B), .val (.ref b1), .val (.ref b18), .val (.ref b43), .val (.ref b78), .val (.ref b118), .val (.ref b164), .val (.ref b349), .val (.int (0 : Int32)), .val (.int (0 : Int32)), .val (.int (1 : Int32)), .val (.int (0 : Int32))] [(.ref b349)])) _
    refine Goes.to (fun _ k => XS.iload Xpt.here hx rfl (hb hby at_391) rfl k) ?_
    show Goes p.tables e below (Tpt.setTop (mkF m 393 #[.val (.int x0), .val (.long x1), .second, .val (.int W), .val (.int A), .val (.int B), .val (.ref b1), .val (.ref b18), .val (.ref b43), .val (.ref b78), .val (.ref b118), .val (.ref b164), .val (.ref b349), .val (.int (0 : Int32)), .val (.int (0 : Int32)), .val (.int (1 : Int32)), .val (.int (0 : Int32))] [(.int A), (.ref b349)])) _
    refine Goes.to (fun _ k => XS.iload Xpt.here hx rfl (hb hby at_393) rfl k) ?_
    show Goes p.tables e below (Tpt.setTop (mkF m 395 #[.val (.int x0), .val (.long x1), .second, .val (.int W), .val (.int A), .val (.int B), .val (.ref b1), .val (.ref b18), .val (.ref b43), .val (.ref b78), .val (.ref b118), .val (.ref b164), .val (.ref b349), .val (.int (0 : Int32)), .val (.int (0 : Int32)), .val (.int (1 : Int32)), .val (.int (0 : Int32))] [(.int B), (.int A), (.ref b349)])) _
    obtain ⟨_, _, ⟨T446, L446, k446, n446⟩, -, X446, ⟨Lc446, hQ446, l446, y446, z446⟩, st446⟩ := Jvm.LawKit.callS Xpt hx (y := (⟨"com/example/pareto4/pareto4/front/Keys", "noHigher", "([[DII)Z"⟩ : MethodName)) hown (mvT hZ (hw _ (List.mem_of_getElem? (i := 12) rfl))) (mvT hZ (hw _ (List.mem_of_getElem? (i := 13) rfl))) (mvT hZ (hw _ (List.mem_of_getElem? (i := 14) rfl))) (mvT hZ (hw _ (List.mem_of_getElem? (i := 15) rfl))) (by decide) (backOf (W := 0) (own_rmNH3 l Z a0 hw [] b349 A B k349 b1 k1 (own_dv x1 (0 : Int32)) (own_dv x1 (4 : Int32)) (own_dv x1 (8 : Int32)) b18 k18 (own_dv x1 (12 : Int32)) (own_dv x1 (16 : Int32)) (own_dv x1 (20 : Int32)) b43 k43 (own_dv x1 (24 : Int32)) (own_dv x1 (28 : Int32)) (own_dv x1 (32 : Int32)) hpt n0 Zpt hA0 hA1 hB0 hB1 Pf443_1 Pf443_3 Pf443_5 Pf443_9) hZ (hw _ (List.mem_of_getElem? (i := 15) rfl)) (hw _ (List.mem_of_getElem? (i := 14) rfl)) (by decide) (by decide)) (g := (mkF m 395 #[.val (.int x0), .val (.long x1), .second, .val (.int W), .val (.int A), .val (.int B), .val (.ref b1), .val (.ref b18), .val (.ref b43), .val (.ref b78), .val (.ref b118), .val (.ref b164), .val (.ref b349), .val (.int (0 : Int32)), .val (.int (0 : Int32)), .val (.int (1 : Int32)), .val (.int (0 : Int32))] [(.int B), (.int A), (.ref b349)])) rfl (by rw [hml]; rfl) (argsL := [(.ref b349), (.int A), (.int B)]) (rest := []) (lenOf own_pd_paaDIIqZ rfl) rfl (by show 2 * 0 + _ ≤ _; exact Nat.le_of_eq rfl) (hb hby at_395) (fun _ _ => ⟨rfl, Ept, (by decide : 7 + 0 ≤ _), (by decide : 21 + 0 ≤ _)⟩)
    dsimp only [Pt.U, Pt.locs, Pt.cells, Pt.slots] at X446 l446 y446 z446 st446 hQ446
    subst l446 y446 z446
    obtain ⟨hv446, Nq446, hp446_0⟩ := hQ446
    have N446 := Fr.app Npt Nq446
    by_cases hc447 : ((0 : Int32) < (cmpValue (FP.dcmp (own_at (own_dv x1 (0 : Int32)) (own_dv x1 (4 : Int32)) (own_dv x1 (8 : Int32)) A) (own_at (own_dv x1 (0 : Int32)) (own_dv x1 (4 : Int32)) (own_dv x1 (8 : Int32)) B)) .l)) ∨ ((0 : Int32) < (cmpValue (FP.dcmp (own_at (own_dv x1 (12 : Int32)) (own_dv x1 (16 : Int32)) (own_dv x1 (20 : Int32)) A) (own_at (own_dv x1 (12 : Int32)) (own_dv x1 (16 : Int32)) (own_dv x1 (20 : Int32)) B)) .l)) ∨ ((0 : Int32) < (cmpValue (FP.dcmp (own_at (own_dv x1 (24 : Int32)) (own_dv x1 (28 : Int32)) (own_dv x1 (32 : Int32)) A) (own_at (own_dv x1 (24 : Int32)) (own_dv x1 (28 : Int32)) (own_dv x1 (32 : Int32)) B)) .l))
    · rw [if_pos hc447] at hv446
      subst hv446
      refine Goes.to st446 ?_
      show Goes p.tables e below (T446.setTop (mkF m 398 #[.val (.int x0), .val (.long x1), .second, .val (.int W), .val (.int A), .val (.int B), .val (.ref b1), .val (.ref b18), .val (.ref b43), .val (.ref b78), .val (.ref b118), .val (.ref b164), .val (.ref b349), .val (.int (0 : Int32)), .val (.int (0 : Int32)), .val (.int (1 : Int32)), .val (.int (0 : Int32))] [(.int (0 : Int32))])) _
      refine Goes.to (fun _ k => XS.iload X446.here hx rfl (hb hby at_398) rfl k) ?_
      show Goes p.tables e below (T446.setTop (mkF m 400 #[.val (.int x0), .val (.long x1), .second, .val (.int W), .val (.int A), .val (.int B), .val (.ref b1), .val (.ref b18), .val (.ref b43), .val (.ref b78), .val (.ref b118), .val (.ref b164), .val (.ref b349), .val (.int (0 : Int32)), .val (.int (0 : Int32)), .val (.int (1 : Int32)), .val (.int (0 : Int32))] [(.int (0 : Int32)), (.int (0 : Int32))])) _
      refine Goes.to (fun _ k => XS.icmpNo X446.here hx rfl (hb hby at_400) rfl (teq (by decide : (0 : Int32) = (0 : Int32))).2 k) ?_
      show Goes p.tables e below (T446.setTop (mkF m 403 #[.val (.int x0), .val (.long x1), .second, .val (.int W), .val (.int A), .val (.int B), .val (.ref b1), .val (.ref b18), .val (.ref b43), .val (.ref b78), .val (.ref b118), .val (.ref b164), .val (.ref b349), .val (.int (0 : Int32)), .val (.int (0 : Int32)), .val (.int (1 : Int32)), .val (.int (0 : Int32))] [])) _
      refine Goes.to (fun _ k => XS.iconst X446.here hx rfl (hb hby at_403) k) ?_
      show Goes p.tables e below (T446.setTop (mkF m 404 #[.val (.int x0), .val (.long x1), .second, .val (.int W), .val (.int A), .val (.int B), .val (.ref b1), .val (.ref b18), .val (.ref b43), .val (.ref b78), .val (.ref b118), .val (.ref b164), .val (.ref b349), .val (.int (0 : Int32)), .val (.int (0 : Int32)), .val (.int (1 : Int32)), .val (.int (0 : Int32))] [(.int (1 : Int32))])) _
      refine Goes.to (fun _ k => XS.goto X446.here hx rfl (pc0 := 404) (pc' := 408) rfl (hb hby at_404) (by decide) (by decide) k) ?_
      show Goes p.tables e below (T446.setTop (mkF m 408 #[.val (.int x0), .val (.long x1), .second, .val (.int W), .val (.int A), .val (.int B), .val (.ref b1), .val (.ref b18), .val (.ref b43), .val (.ref b78), .val (.ref b118), .val (.ref b164), .val (.ref b349), .val (.int (0 : Int32)), .val (.int (0 : Int32)), .val (.int (1 : Int32)), .val (.int (0 : Int32))] [(.int (1 : Int32))])) _
      obtain ⟨fs, hr, hrun, hended, hW, hsame⟩ := X446.leave (v := some (.int (1 : Int32))) (fun h => by rw [Bd.returns] at h; cases h)
      have hv : (some (.int (1 : Int32)) : Option Value) = some (.int (1 : Int32)) := by
        rfl
      exact ⟨_, _, retN X446 hx (t := .boolean) Bd.returns (by simp) (hb hby at_408) hr, hrun, hended, _, _, rfl, ⟨hv, N446⟩, ⟨_, rfl⟩, hW, hsame.mono (by decide) (by decide)⟩
    · exact absurd (show ((0 : Int32) < (cmpValue (FP.dcmp (own_at (own_dv x1 (0 : Int32)) (own_dv x1 (4 : Int32)) (own_dv x1 (8 : Int32)) A) (own_at (own_dv x1 (0 : Int32)) (own_dv x1 (4 : Int32)) (own_dv x1 (8 : Int32)) B)) .l)) ∨ ((0 : Int32) < (cmpValue (FP.dcmp (own_at (own_dv x1 (12 : Int32)) (own_dv x1 (16 : Int32)) (own_dv x1 (20 : Int32)) A) (own_at (own_dv x1 (12 : Int32)) (own_dv x1 (16 : Int32)) (own_dv x1 (20 : Int32)) B)) .l)) ∨ ((0 : Int32) < (cmpValue (FP.dcmp (own_at (own_dv x1 (24 : Int32)) (own_dv x1 (28 : Int32)) (own_dv x1 (32 : Int32)) A) (own_at (own_dv x1 (24 : Int32)) (own_dv x1 (28 : Int32)) (own_dv x1 (32 : Int32)) B)) .l)) from (Or.inr (Or.inr ((own_row x1 (24 : Int32) (28 : Int32) (32 : Int32) A B hA0 hA1 hB0 hB1).mpr hc445)))) hc447
  · refine Goes.to (fun _ k => XS.icmpYes Xpt.here hx rfl (pc0 := 357) (pc' := 364) rfl (hb hby at_357) rfl (flt hc445).2.2.2 (by decide) (by decide) k) ?_
    show Goes p.tables e below (Tpt.setTop (mkF m 364 #[.val (.int x0), .val (.long x1), .second, .val (.int W), .val (.int A), .val (.int B), .val (.ref b1), .val (.ref b18), .val (.ref b43), .val (.ref b78), .val (.ref b118), .val (.ref b164), .val (.ref b349), .val (.int (0 : Int32)), .val (.int (0 : Int32)), .unset, .unset] [])) _
    refine Goes.to (fun _ k => XS.iconst Xpt.here hx rfl (hb hby at_364) k) ?_
    show Goes p.tables e below (Tpt.setTop (mkF m 365 #[.val (.int x0), .val (.long x1), .second, .val (.int W), .val (.int A), .val (.int B), .val (.ref b1), .val (.ref b18), .val (.ref b43), .val (.ref b78), .val (.ref b118), .val (.ref b164), .val (.ref b349), .val (.int (0 : Int32)), .val (.int (0 : Int32)), .unset, .unset] [(.int (0 : Int32))])) _
    refine Goes.to (fun _ k => XS.istore Xpt.here hx rfl (hb hby at_365) rfl (l' := #[.val (.int x0), .val (.long x1), .second, .val (.int W), .val (.int A), .val (.int B), .val (.ref b1), .val (.ref b18), .val (.ref b43), .val (.ref b78), .val (.ref b118), .val (.ref b164), .val (.ref b349), .val (.int (0 : Int32)), .val (.int (0 : Int32)), .val (.int (0 : Int32)), .unset]) rfl k) ?_
    show Goes p.tables e below (Tpt.setTop (mkF m 367 #[.val (.int x0), .val (.long x1), .second, .val (.int W), .val (.int A), .val (.int B), .val (.ref b1), .val (.ref b18), .val (.ref b43), .val (.ref b78), .val (.ref b118), .val (.ref b164), .val (.ref b349), .val (.int (0 : Int32)), .val (.int (0 : Int32)), .val (.int (0 : Int32)), .unset] [])) _
    refine Goes.to (fun _ k => XS.iload Xpt.here hx rfl (hb hby at_367) rfl k) ?_
    show Goes p.tables e below (Tpt.setTop (mkF m 369 #[.val (.int x0), .val (.long x1), .second, .val (.int W), .val (.int A), .val (.int B), .val (.ref b1), .val (.ref b18), .val (.ref b43), .val (.ref b78), .val (.ref b118), .val (.ref b164), .val (.ref b349), .val (.int (0 : Int32)), .val (.int (0 : Int32)), .val (.int (0 : Int32)), .unset] [(.int (0 : Int32))])) _
    refine Goes.to (fun _ k => XS.ifNo Xpt.here hx rfl (hb hby at_369) rfl ((if0 _ _).trans (teq (by decide : (0 : Int32) = (0 : Int32))).2) k) ?_
    show Goes p.tables e below (Tpt.setTop (mkF m 372 #[.val (.int x0), .val (.long x1), .second, .val (.int W), .val (.int A), .val (.int B), .val (.ref b1), .val (.ref b18), .val (.ref b43), .val (.ref b78), .val (.ref b118), .val (.ref b164), .val (.ref b349), .val (.int (0 : Int32)), .val (.int (0 : Int32)), .val (.int (0 : Int32)), .unset] [])) _
    refine Goes.to (fun _ k => XS.iload Xpt.here hx rfl (hb hby at_372) rfl k) ?_
    show Goes p.tables e below (Tpt.setTop (mkF m 374 #[.val (.int x0), .val (.long x1), .second, .val (.int W), .val (.int A), .val (.int B), .val (.ref b1), .val (.ref b18), .val (.ref b43), .val (.ref b78), .val (.ref b118), .val (.ref b164), .val (.ref b349), .val (.int (0 : Int32)), .val (.int (0 : Int32)), .val (.int (0 : Int32)), .unset] [(.int (0 : Int32))])) _
    refine Goes.to (fun _ k => XS.ifNo Xpt.here hx rfl (hb hby at_374) rfl ((if0 _ _).trans (teq (by decide : (0 : Int32) = (0 : Int32))).2) k) ?_
    show Goes p.tables e below (Tpt.setTop (mkF m 377 #[.val (.int x0), .val (.long x1), .second, .val (.int W), .val (.int A), .val (.int B), .val (.ref b1), .val (.ref b18), .val (.ref b43), .val (.ref b78), .val (.ref b118), .val (.ref b164), .val (.ref b349), .val (.int (0 : Int32)), .val (.int (0 : Int32)), .val (.int (0 : Int32)), .unset] [])) _
    refine Goes.to (fun _ k => XS.iload Xpt.here hx rfl (hb hby at_377) rfl k) ?_
    show Goes p.tables e below (Tpt.setTop (mkF m 379 #[.val (.int x0), .val (.long x1), .second, .val (.int W), .val (.int A), .val (.int B), .val (.ref b1), .val (.ref b18), .val (.ref b43), .val (.ref b78), .val (.ref b118), .val (.ref b164), .val (.ref b349), .val (.int (0 : Int32)), .val (.int (0 : Int32)), .val (.int (0 : Int32)), .unset] [(.int (0 : Int32))])) _
    refine Goes.to (fun _ k => XS.ifNo Xpt.here hx rfl (hb hby at_379) rfl ((if0 _ _).trans (teq (by decide : (0 : Int32) = (0 : Int32))).2) k) ?_
    show Goes p.tables e below (Tpt.setTop (mkF m 382 #[.val (.int x0), .val (.long x1), .second, .val (.int W), .val (.int A), .val (.int B), .val (.ref b1), .val (.ref b18), .val (.ref b43), .val (.ref b78), .val (.ref b118), .val (.ref b164), .val (.ref b349), .val (.int (0 : Int32)), .val (.int (0 : Int32)), .val (.int (0 : Int32)), .unset] [])) _
    refine Goes.to (fun _ k => XS.iconst Xpt.here hx rfl (hb hby at_382) k) ?_
    show Goes p.tables e below (Tpt.setTop (mkF m 383 #[.val (.int x0), .val (.long x1), .second, .val (.int W), .val (.int A), .val (.int B), .val (.ref b1), .val (.ref b18), .val (.ref b43), .val (.ref b78), .val (.ref b118), .val (.ref b164), .val (.ref b349), .val (.int (0 : Int32)), .val (.int (0 : Int32)), .val (.int (0 : Int32)), .unset] [(.int (1 : Int32))])) _
    refine Goes.to (fun _ k => XS.goto Xpt.here hx rfl (pc0 := 383) (pc' := 387) rfl (hb hby at_383) (by decide) (by decide) k) ?_
    show Goes p.tables e below (Tpt.setTop (mkF m 387 #[.val (.int x0), .val (.long x1), .second, .val (.int W), .val (.int A), .val (.int B), .val (.ref b1), .val (.ref b18), .val (.ref b43), .val (.ref b78), .val (.ref b118), .val (.ref b164), .val (.ref b349), .val (.int (0 : Int32)), .val (.int (0 : Int32)), .val (.int (0 : Int32)), .unset] [(.int (1 : Int32))])) _
    refine Goes.to (fun _ k => XS.istore Xpt.here hx rfl (hb hby at_387) rfl (l' := #[.val (.int x0), .val (.long x1), .second, .val (.int W), .val (.int A), .val (.int B), .val (.ref b1), .val (.ref b18), .val (.ref b43), .val (.ref b78), .val (.ref b118), .val (.ref b164), .val (.ref b349), .val (.int (0 : Int32)), .val (.int (0 : Int32)), .val (.int (0 : Int32)), .val (.int (1 : Int32))]) rfl k) ?_
    show Goes p.tables e below (Tpt.setTop (mkF m 389 #[.val (.int x0), .val (.long x1), .second, .val (.int W), .val (.int A), .val (.int B), .val (.ref b1), .val (.ref b18), .val (.ref b43), .val (.ref b78), .val (.ref b118), .val (.ref b164), .val (.ref b349), .val (.int (0 : Int32)), .val (.int (0 : Int32)), .val (.int (0 : Int32)), .val (.int (1 : Int32))] [])) _
    refine Goes.to (fun _ k => XS.aload Xpt.here hx rfl (hb hby at_389) rfl rfl k) ?_
    show Goes p.tables e below (Tpt.setTop (mkF m 391 #[.val (.int x0), .val (.long x1), .second, .val (.int W), .val (.int A), .val (.int B), .val (.ref b1), .val (.ref b18), .val (.ref b43), .val (.ref b78), .val (.ref b118), .val (.ref b164), .val (.ref b349), .val (.int (0 : Int32)), .val (.int (0 : Int32)), .val (.int (0 : Int32)), .val (.int (1 : Int32))] [(.ref b349)])) _
    refine Goes.to (fun _ k => XS.iload Xpt.here hx rfl (hb hby at_391) rfl k) ?_
    show Goes p.tables e below (Tpt.setTop (mkF m 393 #[.val (.int x0), .val (.long x1), .second, .val (.int W), .val (.int A), .val (.int B), .val (.ref b1), .val (.ref b18), .val (.ref b43), .val (.ref b78), .val (.ref b118), .val (.ref b164), .val (.ref b349), .val (.int (0 : Int32)), .val (.int (0 : Int32)), .val (.int (0 : Int32)), .val (.int (1 : Int32))] [(.int A), (.ref b349)])) _
    refine Goes.to (fun _ k => XS.iload Xpt.here hx rfl (hb hby at_393) rfl k) ?_
    show Goes p.tables e below (Tpt.setTop (mkF m 395 #[.val (.int x0), .val (.long x1), .second, .val (.int W), .val (.int A), .val (.int B), .val (.ref b1), .val (.ref b18), .val (.ref b43), .val (.ref b78), .val (.ref b118), .val (.ref b164), .val (.ref b349), .val (.int (0 : Int32)), .val (.int (0 : Int32)), .val (.int (0 : Int32)), .val (.int (1 : Int32))] [(.int B), (.int A), (.ref b349)])) _
    obtain ⟨_, _, ⟨T448, L448, k448, n448⟩, -, X448, ⟨Lc448, hQ448, l448, y448, z448⟩, st448⟩ := Jvm.LawKit.callS Xpt hx (y := (⟨"com/example/pareto4/pareto4/front/Keys", "noHigher", "([[DII)Z"⟩ : MethodName)) hown (mvT hZ (hw _ (List.mem_of_getElem? (i := 12) rfl))) (mvT hZ (hw _ (List.mem_of_getElem? (i := 13) rfl))) (mvT hZ (hw _ (List.mem_of_getElem? (i := 14) rfl))) (mvT hZ (hw _ (List.mem_of_getElem? (i := 15) rfl))) (by decide) (backOf (W := 0) (own_rmNH3 l Z a0 hw [] b349 A B k349 b1 k1 (own_dv x1 (0 : Int32)) (own_dv x1 (4 : Int32)) (own_dv x1 (8 : Int32)) b18 k18 (own_dv x1 (12 : Int32)) (own_dv x1 (16 : Int32)) (own_dv x1 (20 : Int32)) b43 k43 (own_dv x1 (24 : Int32)) (own_dv x1 (28 : Int32)) (own_dv x1 (32 : Int32)) hpt n0 Zpt hA0 hA1 hB0 hB1 Pf443_1 Pf443_3 Pf443_5 Pf443_9) hZ (hw _ (List.mem_of_getElem? (i := 15) rfl)) (hw _ (List.mem_of_getElem? (i := 14) rfl)) (by decide) (by decide)) (g := (mkF m 395 #[.val (.int x0), .val (.long x1), .second, .val (.int W), .val (.int A), .val (.int B), .val (.ref b1), .val (.ref b18), .val (.ref b43), .val (.ref b78), .val (.ref b118), .val (.ref b164), .val (.ref b349), .val (.int (0 : Int32)), .val (.int (0 : Int32)), .val (.int (0 : Int32)), .val (.int (1 : Int32))] [(.int B), (.int A), (.ref b349)])) rfl (by rw [hml]; rfl) (argsL := [(.ref b349), (.int A), (.int B)]) (rest := []) (lenOf own_pd_paaDIIqZ rfl) rfl (by show 2 * 0 + _ ≤ _; exact Nat.le_of_eq rfl) (hb hby at_395) (fun _ _ => ⟨rfl, Ept, (by decide : 7 + 0 ≤ _), (by decide : 21 + 0 ≤ _)⟩)
    dsimp only [Pt.U, Pt.locs, Pt.cells, Pt.slots] at X448 l448 y448 z448 st448 hQ448
    subst l448 y448 z448
    obtain ⟨hv448, Nq448, hp448_0⟩ := hQ448
    have N448 := Fr.app Npt Nq448
    by_cases hc449 : ((0 : Int32) < (cmpValue (FP.dcmp (own_at (own_dv x1 (0 : Int32)) (own_dv x1 (4 : Int32)) (own_dv x1 (8 : Int32)) A) (own_at (own_dv x1 (0 : Int32)) (own_dv x1 (4 : Int32)) (own_dv x1 (8 : Int32)) B)) .l)) ∨ ((0 : Int32) < (cmpValue (FP.dcmp (own_at (own_dv x1 (12 : Int32)) (own_dv x1 (16 : Int32)) (own_dv x1 (20 : Int32)) A) (own_at (own_dv x1 (12 : Int32)) (own_dv x1 (16 : Int32)) (own_dv x1 (20 : Int32)) B)) .l)) ∨ ((0 : Int32) < (cmpValue (FP.dcmp (own_at (own_dv x1 (24 : Int32)) (own_dv x1 (28 : Int32)) (own_dv x1 (32 : Int32)) A) (own_at (own_dv x1 (24 : Int32)) (own_dv x1 (28 : Int32)) (own_dv x1 (32 : Int32)) B)) .l))
    · exact absurd hc449 (fun q => q.elim (fun q => Ph443_48 ((own_row x1 (0 : Int32) (4 : Int32) (8 : Int32) A B hA0 hA1 hB0 hB1).mp q)) (fun q => q.elim (fun q => Ph443_50 ((own_row x1 (12 : Int32) (16 : Int32) (20 : Int32) A B hA0 hA1 hB0 hB1).mp q)) (fun q => hc445 ((own_row x1 (24 : Int32) (28 : Int32) (32 : Int32) A B hA0 hA1 hB0 hB1).mp q))))
    · rw [if_neg hc449] at hv448
      subst hv448
      refine Goes.to st448 ?_
      show Goes p.tables e below (T448.setTop (mkF m 398 #[.val (.int x0), .val (.long x1), .second, .val (.int W), .val (.int A), .val (.int B), .val (.ref b1), .val (.ref b18), .val (.ref b43), .val (.ref b78), .val (.ref b118), .val (.ref b164), .val (.ref b349), .val (.int (0 : Int32)), .val (.int (0 : Int32)), .val (.int (0 : Int32)), .val (.int (1 : Int32))] [(.int (1 : Int32))])) _
      refine Goes.to (fun _ k => XS.iload X448.here hx rfl (hb hby at_398) rfl k) ?_
      show Goes p.tables e below (T448.setTop (mkF m 400 #[.val (.int x0), .val (.long x1), .second, .val (.int W), .val (.int A), .val (.int B), .val (.ref b1), .val (.ref b18), .val (.ref b43), .val (.ref b78), .val (.ref b118), .val (.ref b164), .val (.ref b349), .val (.int (0 : Int32)), .val (.int (0 : Int32)), .val (.int (0 : Int32)), .val (.int (1 : Int32))] [(.int (1 : Int32)), (.int (1 : Int32))])) _
      refine Goes.to (fun _ k => XS.icmpNo X448.here hx rfl (hb hby at_400) rfl (teq (by decide : (1 : Int32) = (1 : Int32))).2 k) ?_
      show Goes p.tables e below (T448.setTop (mkF m 403 #[.val (.int x0), .val (.long x1), .second, .val (.int W), .val (.int A), .val (.int B), .val (.ref b1), .val (.ref b18), .val (.ref b43), .val (.ref b78), .val (.ref b118), .val (.ref b164), .val (.ref b349), .val (.int (0 : Int32)), .val (.int (0 : Int32)), .val (.int (0 : Int32)), .val (.int (1 : Int32))] [])) _
      refine Goes.to (fun _ k => XS.iconst X448.here hx rfl (hb hby at_403) k) ?_
      show Goes p.tables e below (T448.setTop (mkF m 404 #[.val (.int x0), .val (.long x1), .second, .val (.int W), .val (.int A), .val (.int B), .val (.ref b1), .val (.ref b18), .val (.ref b43), .val (.ref b78), .val (.ref b118), .val (.ref b164), .val (.ref b349), .val (.int (0 : Int32)), .val (.int (0 : Int32)), .val (.int (0 : Int32)), .val (.int (1 : Int32))] [(.int (1 : Int32))])) _
      refine Goes.to (fun _ k => XS.goto X448.here hx rfl (pc0 := 404) (pc' := 408) rfl (hb hby at_404) (by decide) (by decide) k) ?_
      show Goes p.tables e below (T448.setTop (mkF m 408 #[.val (.int x0), .val (.long x1), .second, .val (.int W), .val (.int A), .val (.int B), .val (.ref b1), .val (.ref b18), .val (.ref b43), .val (.ref b78), .val (.ref b118), .val (.ref b164), .val (.ref b349), .val (.int (0 : Int32)), .val (.int (0 : Int32)), .val (.int (0 : Int32)), .val (.int (1 : Int32))] [(.int (1 : Int32))])) _
      obtain ⟨fs, hr, hrun, hended, hW, hsame⟩ := X448.leave (v := some (.int (1 : Int32))) (fun h => by rw [Bd.returns] at h; cases h)
      have hv : (some (.int (1 : Int32)) : Option Value) = some (.int (1 : Int32)) := by
        rfl
      exact ⟨_, _, retN X448 hx (t := .boolean) Bd.returns (by simp) (hb hby at_408) hr, hrun, hended, _, _, rfl, ⟨hv, N448⟩, ⟨_, rfl⟩, hW, hsame.mono (by decide) (by decide)⟩
set_option maxRecDepth 65536 in
set_option maxHeartbeats 40000000 in
theorem own_pt_own_rm0_377 (l : Launch) (Z : State) (a0 : Array Value) (hw : ∀ d ∈ tables_1, d.before a0 Z = true) (ws : List Jvm.Cond) (x0 : Int32) (x1 : Int64)  (h0 : Heap) (n0 : Nat) (Z0 : n0 ≤ h0.size) 
    {p : Program} {e : Env} {s : State} {m : MethodId} {below : List Frame} {meth : Method} {c : Code} {s₁ : State} (Bd : BodyLoose p l x (head1 (Jvm.Cond.code x code maxLocals ret :: ws) room_1) code maxLocals ret e s m #[(.int x0), (.long x1)] below meth c s₁) (hml0 : c.maxLocals = maxLocals) (hh : s.heap = h0) (hZ : Z.Warmed39 s.vm)
    (b1 : Addr) (k1 : ClassId) (b18 : Addr) (k18 : ClassId) (b43 : Addr) (k43 : ClassId) (b78 : Addr) (k78 : ClassId) (b118 : Addr) (k118 : ClassId) (b164 : Addr) (k164 : ClassId) (b349 : Addr) (k349 : ClassId) (W : Int32) (A : Int32) (B : Int32)
    (Tpt : State) (lpt : List Loc)  (hpt : Heap)
    (Xpt : Stand p l e room_1 s m #[(.int x0), (.long x1)] below meth c Tpt lpt 7 21) (Ept : Tpt.heap = hpt) (Npt : Fr n0 lpt) (Zpt : n0 ≤ hpt.size) 
    (Pf377_0 : Exa Z hpt b1 "[D")
    (Pf377_1 : Arv Z hpt b1 k1 .double (3 : Int32) [(.double (own_dv x1 (0 : Int32))), (.double (own_dv x1 (4 : Int32))), (.double (own_dv x1 (8 : Int32)))] (.double (0 : UInt64)))
    (Pf377_2 : Exa Z hpt b18 "[D")
    (Pf377_3 : Arv Z hpt b18 k18 .double (3 : Int32) [(.double (own_dv x1 (12 : Int32))), (.double (own_dv x1 (16 : Int32))), (.double (own_dv x1 (20 : Int32)))] (.double (0 : UInt64)))
    (Pf377_4 : Exa Z hpt b43 "[D")
    (Pf377_5 : Arv Z hpt b43 k43 .double (3 : Int32) [(.double (own_dv x1 (24 : Int32))), (.double (own_dv x1 (28 : Int32))), (.double (own_dv x1 (32 : Int32)))] (.double (0 : UInt64)))
    (Pf377_6 : Arv Z hpt b78 k78 .int (3 : Int32) [(.int (own_iv x1 (0 : Int32))), (.int (own_iv x1 (4 : Int32))), (.int (own_iv x1 (8 : Int32)))] (.int (0 : Int32)))
    (Pf377_7 : Arv Z hpt b118 k118 .int (3 : Int32) [(.int (own_iv x1 (12 : Int32))), (.int (own_iv x1 (16 : Int32))), (.int (own_iv x1 (20 : Int32)))] (.int (0 : Int32)))
    (Pf377_8 : Arv Z hpt b164 k164 .int (3 : Int32) [(.int (own_iv x1 (24 : Int32))), (.int (own_iv x1 (28 : Int32))), (.int (own_iv x1 (32 : Int32)))] (.int (0 : Int32)))
    (Pf377_9 : Arv Z hpt b349 k349 (.array .double) (3 : Int32) [(.ref b1), .null, .null] .null)
    (Pg377_10 : n0 ≤ b1)
    (Pn377_11 : b1 ≠ b18)
    (Pg377_12 : n0 ≤ b18)
    (Pn377_13 : b1 ≠ b43)
    (Pn377_14 : b18 ≠ b43)
    (Pg377_15 : n0 ≤ b43)
    (Pn377_16 : b1 ≠ b78)
    (Pn377_17 : b18 ≠ b78)
    (Pn377_18 : b43 ≠ b78)
    (Pg377_19 : n0 ≤ b78)
    (Pn377_20 : b1 ≠ b118)
    (Pn377_21 : b18 ≠ b118)
    (Pn377_22 : b43 ≠ b118)
    (Pn377_23 : b78 ≠ b118)
    (Pg377_24 : n0 ≤ b118)
    (Pn377_25 : b1 ≠ b164)
    (Pn377_26 : b18 ≠ b164)
    (Pn377_27 : b43 ≠ b164)
    (Pn377_28 : b78 ≠ b164)
    (Pn377_29 : b118 ≠ b164)
    (Pg377_30 : n0 ≤ b164)
    (Po377_31 : OvrA Z k349 .double "[D")
    (Pn377_32 : b1 ≠ b349)
    (Pn377_33 : b18 ≠ b349)
    (Pn377_34 : b43 ≠ b349)
    (Pn377_35 : b78 ≠ b349)
    (Pn377_36 : b118 ≠ b349)
    (Pn377_37 : b164 ≠ b349)
    (Pg377_38 : n0 ≤ b349)
    (hA0 : ¬ (A < (0 : Int32)))
    (hA1 : A < (3 : Int32))
    (hB0 : ¬ (B < (0 : Int32)))
    (hB1 : B < (3 : Int32))
    (hnm_W : (x0 &&& (3 : Int32)) = W)
    (Ph377_44 : ¬ (W = (0 : Int32)))
    (Ph377_45 : ¬ (W = (1 : Int32)))
    (Ph377_46 : ¬ (W = (2 : Int32)))
    : Goes p.tables e below (Tpt.setTop (mkF m 280 #[.val (.int x0), .val (.long x1), .second, .val (.int W), .val (.int A), .val (.int B), .val (.ref b1), .val (.ref b18), .val (.ref b43), .val (.ref b78), .val (.ref b118), .val (.ref b164), .unset, .unset, .unset, .unset, .unset] [(.ref b349)])) (own_R below s (own_Q_own_rm0 Z x0 x1 h0 n0) 7 21) := by
  have hx := Bd.exec
  have hby := Bd.bytes
  have hml : c.maxLocals = 17 := hml0
  have hnm := (name_of_methodNamed Bd.named Bd.method).1
  have hown : s.vm.findClass "com/example/pareto4/pareto4/front/KeysNoHigherPinLaw" = some m.cls := findClass_of_methodNamed Bd.named
  show Goes p.tables e below (Tpt.setTop (mkF m 280 #[.val (.int x0), .val (.long x1), .second, .val (.int W), .val (.int A), .val (.int B), .val (.ref b1), .val (.ref b18), .val (.ref b43), .val (.ref b78), .val (.ref b118), .val (.ref b164), .unset, .unset, .unset, .unset, .unset] [(.ref b349)])) _
  refine Goes.to (fun _ k => XS.dup Xpt.here hx rfl (hb hby at_280) rfl rfl k) ?_
  show Goes p.tables e below (Tpt.setTop (mkF m 281 #[.val (.int x0), .val (.long x1), .second, .val (.int W), .val (.int A), .val (.int B), .val (.ref b1), .val (.ref b18), .val (.ref b43), .val (.ref b78), .val (.ref b118), .val (.ref b164), .unset, .unset, .unset, .unset, .unset] [(.ref b349), (.ref b349)])) _
  refine Goes.to (fun _ k => XS.iconst Xpt.here hx rfl (hb hby at_281) k) ?_
  show Goes p.tables e below (Tpt.setTop (mkF m 282 #[.val (.int x0), .val (.long x1), .second, .val (.int W), .val (.int A), .val (.int B), .val (.ref b1), .val (.ref b18), .val (.ref b43), .val (.ref b78), .val (.ref b118), .val (.ref b164), .unset, .unset, .unset, .unset, .unset] [(.int (1 : Int32)), (.ref b349), (.ref b349)])) _
  refine Goes.to (fun _ k => XS.aload Xpt.here hx rfl (hb hby at_282) rfl rfl k) ?_
  show Goes p.tables e below (Tpt.setTop (mkF m 284 #[.val (.int x0), .val (.long x1), .second, .val (.int W), .val (.int A), .val (.int B), .val (.ref b1), .val (.ref b18), .val (.ref b43), .val (.ref b78), .val (.ref b118), .val (.ref b164), .unset, .unset, .unset, .unset, .unset] [(.ref b18), (.int (1 : Int32)), (.ref b349), (.ref b349)])) _
  obtain ⟨cl378, Ar378, q378, S378, N378, H378, G378⟩ := id Pf377_9
  have hin378 : ¬ ((1 : Int32) < 0 ∨ cl378.slots.size ≤ ((1 : Int32)).toNatClampNeg) := inb_of S378 ⟨by decide, by decide⟩
  obtain ⟨T379, h379, X379, e379, W379, st379⟩ := stR Xpt hx hZ Ept Ar378 (j := (1 : Int32)) hin378 rfl (Sto.ofVA Ar378 q378 Po377_31 (Ins.self Pf377_2)) (g := (mkF m 284 #[.val (.int x0), .val (.long x1), .second, .val (.int W), .val (.int A), .val (.int B), .val (.ref b1), .val (.ref b18), .val (.ref b43), .val (.ref b78), .val (.ref b118), .val (.ref b164), .unset, .unset, .unset, .unset, .unset] [(.ref b18), (.int (1 : Int32)), (.ref b349), (.ref b349)])) rfl rfl (hb hby at_284)
  subst e379
  have F380 := Pf377_0.wr W379
  have F381 := Pf377_1.other W379 Pn377_32
  have F382 := Pf377_2.wr W379
  have F383 := Pf377_3.other W379 Pn377_33
  have F384 := Pf377_4.wr W379
  have F385 := Pf377_5.other W379 Pn377_34
  have F386 := Pf377_6.other W379 Pn377_35
  have F387 := Pf377_7.other W379 Pn377_36
  have F388 := Pf377_8.other W379 Pn377_37
  have N379 := Fr.snoc X379 Npt Pg377_38
  have Z379 : n0 ≤ T379.heap.size := Nat.le_trans Zpt (Nat.le_of_eq W379.size.symm)
  have V379 : Arv Z T379.heap b349 k349 (.array .double) (3 : Int32) [(.ref b1), (.ref b18), .null] .null := Arv.set Ar378 q378 S378 N378 H378 G378 rfl W379 1 rfl (Nat.le_of_ble_eq_true rfl)
  refine Goes.to st379 ?_
  show Goes p.tables e below (T379.setTop (mkF m 285 #[.val (.int x0), .val (.long x1), .second, .val (.int W), .val (.int A), .val (.int B), .val (.ref b1), .val (.ref b18), .val (.ref b43), .val (.ref b78), .val (.ref b118), .val (.ref b164), .unset, .unset, .unset, .unset, .unset] [(.ref b349)])) _
  refine Goes.to (fun _ k => XS.dup X379.here hx rfl (hb hby at_285) rfl rfl k) ?_
  show Goes p.tables e below (T379.setTop (mkF m 286 #[.val (.int x0), .val (.long x1), .second, .val (.int W), .val (.int A), .val (.int B), .val (.ref b1), .val (.ref b18), .val (.ref b43), .val (.ref b78), .val (.ref b118), .val (.ref b164), .unset, .unset, .unset, .unset, .unset] [(.ref b349), (.ref b349)])) _
  refine Goes.to (fun _ k => XS.iconst X379.here hx rfl (hb hby at_286) k) ?_
  show Goes p.tables e below (T379.setTop (mkF m 287 #[.val (.int x0), .val (.long x1), .second, .val (.int W), .val (.int A), .val (.int B), .val (.ref b1), .val (.ref b18), .val (.ref b43), .val (.ref b78), .val (.ref b118), .val (.ref b164), .unset, .unset, .unset, .unset, .unset] [(.int (2 : Int32)), (.ref b349), (.ref b349)])) _
  refine Goes.to (fun _ k => XS.aload X379.here hx rfl (hb hby at_287) rfl rfl k) ?_
  show Goes p.tables e below (T379.setTop (mkF m 289 #[.val (.int x0), .val (.long x1), .second, .val (.int W), .val (.int A), .val (.int B), .val (.ref b1), .val (.ref b18), .val (.ref b43), .val (.ref b78), .val (.ref b118), .val (.ref b164), .unset, .unset, .unset, .unset, .unset] [(.ref b43), (.int (2 : Int32)), (.ref b349), (.ref b349)])) _
  obtain ⟨cl390, Ar390, q390, S390, N390, H390, G390⟩ := id V379
  have hin390 : ¬ ((2 : Int32) < 0 ∨ cl390.slots.size ≤ ((2 : Int32)).toNatClampNeg) := inb_of S390 ⟨by decide, by decide⟩
  obtain ⟨T391, h391, X391, e391, W391, st391⟩ := stR X379 hx hZ rfl Ar390 (j := (2 : Int32)) hin390 rfl (Sto.ofVA Ar390 q390 Po377_31 (Ins.self F384)) (g := (mkF m 289 #[.val (.int x0), .val (.long x1), .second, .val (.int W), .val (.int A), .val (.int B), .val (.ref b1), .val (.ref b18), .val (.ref b43), .val (.ref b78), .val (.ref b118), .val (.ref b164), .unset, .unset, .unset, .unset, .unset] [(.ref b43), (.int (2 : Int32)), (.ref b349), (.ref b349)])) rfl rfl (hb hby at_289)
  subst e391
  have F392 := F380.wr W391
  have F393 := F381.other W391 Pn377_32
  have F394 := F382.wr W391
  have F395 := F383.other W391 Pn377_33
  have F396 := F384.wr W391
  have F397 := F385.other W391 Pn377_34
  have F398 := F386.other W391 Pn377_35
  have F399 := F387.other W391 Pn377_36
  have F400 := F388.other W391 Pn377_37
  have N391 := Fr.snoc X391 N379 Pg377_38
  have Z391 : n0 ≤ T391.heap.size := Nat.le_trans Z379 (Nat.le_of_eq W391.size.symm)
  have V391 : Arv Z T391.heap b349 k349 (.array .double) (3 : Int32) [(.ref b1), (.ref b18), (.ref b43)] .null := Arv.set Ar390 q390 S390 N390 H390 G390 rfl W391 2 rfl (Nat.le_of_ble_eq_true rfl)
  refine Goes.to st391 ?_
  show Goes p.tables e below (T391.setTop (mkF m 290 #[.val (.int x0), .val (.long x1), .second, .val (.int W), .val (.int A), .val (.int B), .val (.ref b1), .val (.ref b18), .val (.ref b43), .val (.ref b78), .val (.ref b118), .val (.ref b164), .unset, .unset, .unset, .unset, .unset] [(.ref b349)])) _
  refine Goes.to (fun _ k => XS.astore X391.here hx rfl (hb hby at_290) rfl rfl (l' := #[.val (.int x0), .val (.long x1), .second, .val (.int W), .val (.int A), .val (.int B), .val (.ref b1), .val (.ref b18), .val (.ref b43), .val (.ref b78), .val (.ref b118), .val (.ref b164), .val (.ref b349), .unset, .unset, .unset, .unset]) rfl k) ?_
  show Goes p.tables e below (T391.setTop (mkF m 292 #[.val (.int x0), .val (.long x1), .second, .val (.int W), .val (.int A), .val (.int B), .val (.ref b1), .val (.ref b18), .val (.ref b43), .val (.ref b78), .val (.ref b118), .val (.ref b164), .val (.ref b349), .unset, .unset, .unset, .unset] [])) _
  refine Goes.to (fun _ k => XS.iloadN X391.here hx rfl (hb hby at_292) rfl k) ?_
  show Goes p.tables e below (T391.setTop (mkF m 293 #[.val (.int x0), .val (.long x1), .second, .val (.int W), .val (.int A), .val (.int B), .val (.ref b1), .val (.ref b18), .val (.ref b43), .val (.ref b78), .val (.ref b118), .val (.ref b164), .val (.ref b349), .unset, .unset, .unset, .unset] [(.int W)])) _
  refine Goes.to (fun _ k => XS.iconst X391.here hx rfl (hb hby at_293) k) ?_
  show Goes p.tables e below (T391.setTop (mkF m 294 #[.val (.int x0), .val (.long x1), .second, .val (.int W), .val (.int A), .val (.int B), .val (.ref b1), .val (.ref b18), .val (.ref b43), .val (.ref b78), .val (.ref b118), .val (.ref b164), .val (.ref b349), .unset, .unset, .unset, .unset] [(.int (1 : Int32)), (.int W)])) _
  by_cases hc402 : W < (1 : Int32)
  · exfalso
    have k1 := rng32 A
    have k2 : (0 : Int32).toInt = 0 := rfl
    have k3 : ¬ A.toInt < (0 : Int32).toInt := fun z => hA0 (Int32.lt_iff_toInt_lt.mpr z)
    have k4 : (3 : Int32).toInt = 3 := rfl
    have k5 : A.toInt < (3 : Int32).toInt := Int32.lt_iff_toInt_lt.mp hA1
    have k6 := rng32 B
    have k7 : ¬ B.toInt < (0 : Int32).toInt := fun z => hB0 (Int32.lt_iff_toInt_lt.mpr z)
    have k8 : B.toInt < (3 : Int32).toInt := Int32.lt_iff_toInt_lt.mp hB1
    have k9 := rng32 x0
    have k10 : (x0 &&& (3 : Int32)).toInt = x0.toInt % 4 := c_mask x0 (3 : Int32) 2 (by decide) (by decide)
    have k11 := rng32 W
    have k12 : (x0 &&& (3 : Int32)).toInt = W.toInt := congrArg Int32.toInt hnm_W
    have k13 : ¬ W.toInt = (0 : Int32).toInt := fun z => Ph377_44 (Int32.toInt_inj.mp z)
    have k14 : (1 : Int32).toInt = 1 := rfl
    have k15 : ¬ W.toInt = (1 : Int32).toInt := fun z => Ph377_45 (Int32.toInt_inj.mp z)
    have k16 : (2 : Int32).toInt = 2 := rfl
    have k17 : ¬ W.toInt = (2 : Int32).toInt := fun z => Ph377_46 (Int32.toInt_inj.mp z)
    have k18 : W.toInt < (1 : Int32).toInt := Int32.lt_iff_toInt_lt.mp hc402
    omega
  · refine Goes.to (fun _ k => XS.icmpNo X391.here hx rfl (hb hby at_294) rfl (flt hc402).1 k) ?_
    show Goes p.tables e below (T391.setTop (mkF m 297 #[.val (.int x0), .val (.long x1), .second, .val (.int W), .val (.int A), .val (.int B), .val (.ref b1), .val (.ref b18), .val (.ref b43), .val (.ref b78), .val (.ref b118), .val (.ref b164), .val (.ref b349), .unset, .unset, .unset, .unset] [])) _
    refine Goes.to (fun _ k => XS.aload X391.here hx rfl (hb hby at_297) rfl rfl k) ?_
    show Goes p.tables e below (T391.setTop (mkF m 299 #[.val (.int x0), .val (.long x1), .second, .val (.int W), .val (.int A), .val (.int B), .val (.ref b1), .val (.ref b18), .val (.ref b43), .val (.ref b78), .val (.ref b118), .val (.ref b164), .val (.ref b349), .unset, .unset, .unset, .unset] [(.ref b78)])) _
    refine Goes.to (fun _ k => XS.iload X391.here hx rfl (hb hby at_299) rfl k) ?_
    show Goes p.tables e below (T391.setTop (mkF m 301 #[.val (.int x0), .val (.long x1), .second, .val (.int W), .val (.int A), .val (.int B), .val (.ref b1), .val (.ref b18), .val (.ref b43), .val (.ref b78), .val (.ref b118), .val (.ref b164), .val (.ref b349), .unset, .unset, .unset, .unset] [(.int A), (.ref b78)])) _
    obtain ⟨cl403, Ar403, q403, S403, N403, H403, G403⟩ := id F398
    have hin403 : ¬ (A < 0 ∨ cl403.slots.size ≤ (A).toNatClampNeg) := by
      have k1 := rng32 A
      have k2 : (0 : Int32).toInt = 0 := rfl
      have k3 : ¬ A.toInt < (0 : Int32).toInt := fun z => hA0 (Int32.lt_iff_toInt_lt.mpr z)
      have k4 : (3 : Int32).toInt = 3 := rfl
      have k5 : A.toInt < (3 : Int32).toInt := Int32.lt_iff_toInt_lt.mp hA1
      have k6 := rng32 B
      have k7 : ¬ B.toInt < (0 : Int32).toInt := fun z => hB0 (Int32.lt_iff_toInt_lt.mpr z)
      have k8 : B.toInt < (3 : Int32).toInt := Int32.lt_iff_toInt_lt.mp hB1
      have k9 := rng32 x0
      have k10 : (x0 &&& (3 : Int32)).toInt = x0.toInt % 4 := c_mask x0 (3 : Int32) 2 (by decide) (by decide)
      have k11 := rng32 W
      have k12 : (x0 &&& (3 : Int32)).toInt = W.toInt := congrArg Int32.toInt hnm_W
      have k13 : ¬ W.toInt = (0 : Int32).toInt := fun z => Ph377_44 (Int32.toInt_inj.mp z)
      have k14 : (1 : Int32).toInt = 1 := rfl
      have k15 : ¬ W.toInt = (1 : Int32).toInt := fun z => Ph377_45 (Int32.toInt_inj.mp z)
      have k16 : (2 : Int32).toInt = 2 := rfl
      have k17 : ¬ W.toInt = (2 : Int32).toInt := fun z => Ph377_46 (Int32.toInt_inj.mp z)
      have k18 : ¬ W.toInt < (1 : Int32).toInt := fun z => hc402 (Int32.lt_iff_toInt_lt.mpr z)
      refine inb_of S403 ⟨fun hq => ?_, Int32.lt_iff_toInt_lt.mpr ?_⟩
      · have hq' := Int32.lt_iff_toInt_lt.mp hq
        omega
      · omega
    have hat403 : cl403.slots[(A).toNatClampNeg]? = some (.int (own_iat (own_iv x1 (0 : Int32)) (own_iv x1 (4 : Int32)) (own_iv x1 (8 : Int32)) A)) := Has.at H403 hin403 (own_iat_eq (own_iv x1 (0 : Int32)) (own_iv x1 (4 : Int32)) (own_iv x1 (8 : Int32)) A)
    refine Goes.to (fun _ k => X391.iaload hx (j := A) (v := (.int (own_iat (own_iv x1 (0 : Int32)) (own_iv x1 (4 : Int32)) (own_iv x1 (8 : Int32)) A))) Ar403.1 (State.isArrayOf_alike hZ.alike Ar403.2.1) Ar403.2.2 hin403 hat403 (g := (mkF m 301 #[.val (.int x0), .val (.long x1), .second, .val (.int W), .val (.int A), .val (.int B), .val (.ref b1), .val (.ref b18), .val (.ref b43), .val (.ref b78), .val (.ref b118), .val (.ref b164), .val (.ref b349), .unset, .unset, .unset, .unset] [(.int A), (.ref b78)])) rfl rfl (hb hby at_301) _ k) ?_
    show Goes p.tables e below (T391.setTop (mkF m 302 #[.val (.int x0), .val (.long x1), .second, .val (.int W), .val (.int A), .val (.int B), .val (.ref b1), .val (.ref b18), .val (.ref b43), .val (.ref b78), .val (.ref b118), .val (.ref b164), .val (.ref b349), .unset, .unset, .unset, .unset] [(.int (own_iat (own_iv x1 (0 : Int32)) (own_iv x1 (4 : Int32)) (own_iv x1 (8 : Int32)) A))])) _
    refine Goes.to (fun _ k => XS.aload X391.here hx rfl (hb hby at_302) rfl rfl k) ?_
    show Goes p.tables e below (T391.setTop (mkF m 304 #[.val (.int x0), .val (.long x1), .second, .val (.int W), .val (.int A), .val (.int B), .val (.ref b1), .val (.ref b18), .val (.ref b43), .val (.ref b78), .val (.ref b118), .val (.ref b164), .val (.ref b349), .unset, .unset, .unset, .unset] [(.ref b78), (.int (own_iat (own_iv x1 (0 : Int32)) (own_iv x1 (4 : Int32)) (own_iv x1 (8 : Int32)) A))])) _
    refine Goes.to (fun _ k => XS.iload X391.here hx rfl (hb hby at_304) rfl k) ?_
    show Goes p.tables e below (T391.setTop (mkF m 306 #[.val (.int x0), .val (.long x1), .second, .val (.int W), .val (.int A), .val (.int B), .val (.ref b1), .val (.ref b18), .val (.ref b43), .val (.ref b78), .val (.ref b118), .val (.ref b164), .val (.ref b349), .unset, .unset, .unset, .unset] [(.int B), (.ref b78), (.int (own_iat (own_iv x1 (0 : Int32)) (own_iv x1 (4 : Int32)) (own_iv x1 (8 : Int32)) A))])) _
    obtain ⟨cl404, Ar404, q404, S404, N404, H404, G404⟩ := id F398
    have hin404 : ¬ (B < 0 ∨ cl404.slots.size ≤ (B).toNatClampNeg) := by
      have k1 := rng32 A
      have k2 : (0 : Int32).toInt = 0 := rfl
      have k3 : ¬ A.toInt < (0 : Int32).toInt := fun z => hA0 (Int32.lt_iff_toInt_lt.mpr z)
      have k4 : (3 : Int32).toInt = 3 := rfl
      have k5 : A.toInt < (3 : Int32).toInt := Int32.lt_iff_toInt_lt.mp hA1
      have k6 := rng32 B
      have k7 : ¬ B.toInt < (0 : Int32).toInt := fun z => hB0 (Int32.lt_iff_toInt_lt.mpr z)
      have k8 : B.toInt < (3 : Int32).toInt := Int32.lt_iff_toInt_lt.mp hB1
      have k9 := rng32 x0
      have k10 : (x0 &&& (3 : Int32)).toInt = x0.toInt % 4 := c_mask x0 (3 : Int32) 2 (by decide) (by decide)
      have k11 := rng32 W
      have k12 : (x0 &&& (3 : Int32)).toInt = W.toInt := congrArg Int32.toInt hnm_W
      have k13 : ¬ W.toInt = (0 : Int32).toInt := fun z => Ph377_44 (Int32.toInt_inj.mp z)
      have k14 : (1 : Int32).toInt = 1 := rfl
      have k15 : ¬ W.toInt = (1 : Int32).toInt := fun z => Ph377_45 (Int32.toInt_inj.mp z)
      have k16 : (2 : Int32).toInt = 2 := rfl
      have k17 : ¬ W.toInt = (2 : Int32).toInt := fun z => Ph377_46 (Int32.toInt_inj.mp z)
      have k18 : ¬ W.toInt < (1 : Int32).toInt := fun z => hc402 (Int32.lt_iff_toInt_lt.mpr z)
      refine inb_of S404 ⟨fun hq => ?_, Int32.lt_iff_toInt_lt.mpr ?_⟩
      · have hq' := Int32.lt_iff_toInt_lt.mp hq
        omega
      · omega
    have hat404 : cl404.slots[(B).toNatClampNeg]? = some (.int (own_iat (own_iv x1 (0 : Int32)) (own_iv x1 (4 : Int32)) (own_iv x1 (8 : Int32)) B)) := Has.at H404 hin404 (own_iat_eq (own_iv x1 (0 : Int32)) (own_iv x1 (4 : Int32)) (own_iv x1 (8 : Int32)) B)
    refine Goes.to (fun _ k => X391.iaload hx (j := B) (v := (.int (own_iat (own_iv x1 (0 : Int32)) (own_iv x1 (4 : Int32)) (own_iv x1 (8 : Int32)) B))) Ar404.1 (State.isArrayOf_alike hZ.alike Ar404.2.1) Ar404.2.2 hin404 hat404 (g := (mkF m 306 #[.val (.int x0), .val (.long x1), .second, .val (.int W), .val (.int A), .val (.int B), .val (.ref b1), .val (.ref b18), .val (.ref b43), .val (.ref b78), .val (.ref b118), .val (.ref b164), .val (.ref b349), .unset, .unset, .unset, .unset] [(.int B), (.ref b78), (.int (own_iat (own_iv x1 (0 : Int32)) (own_iv x1 (4 : Int32)) (own_iv x1 (8 : Int32)) A))])) rfl rfl (hb hby at_306) _ k) ?_
    show Goes p.tables e below (T391.setTop (mkF m 307 #[.val (.int x0), .val (.long x1), .second, .val (.int W), .val (.int A), .val (.int B), .val (.ref b1), .val (.ref b18), .val (.ref b43), .val (.ref b78), .val (.ref b118), .val (.ref b164), .val (.ref b349), .unset, .unset, .unset, .unset] [(.int (own_iat (own_iv x1 (0 : Int32)) (own_iv x1 (4 : Int32)) (own_iv x1 (8 : Int32)) B)), (.int (own_iat (own_iv x1 (0 : Int32)) (own_iv x1 (4 : Int32)) (own_iv x1 (8 : Int32)) A))])) _
    by_cases hc405 : (own_iat (own_iv x1 (0 : Int32)) (own_iv x1 (4 : Int32)) (own_iv x1 (8 : Int32)) B) < (own_iat (own_iv x1 (0 : Int32)) (own_iv x1 (4 : Int32)) (own_iv x1 (8 : Int32)) A)
    · refine Goes.to (fun _ k => XS.icmpNo X391.here hx rfl (hb hby at_307) rfl (tlt hc405).2.2.2 k) ?_
      show Goes p.tables e below (T391.setTop (mkF m 310 #[.val (.int x0), .val (.long x1), .second, .val (.int W), .val (.int A), .val (.int B), .val (.ref b1), .val (.ref b18), .val (.ref b43), .val (.ref b78), .val (.ref b118), .val (.ref b164), .val (.ref b349), .unset, .unset, .unset, .unset] [])) _
      refine Goes.to (fun _ k => XS.iconst X391.here hx rfl (hb hby at_310) k) ?_
      show Goes p.tables e below (T391.setTop (mkF m 311 #[.val (.int x0), .val (.long x1), .second, .val (.int W), .val (.int A), .val (.int B), .val (.ref b1), .val (.ref b18), .val (.ref b43), .val (.ref b78), .val (.ref b118), .val (.ref b164), .val (.ref b349), .unset, .unset, .unset, .unset] [(.int (1 : Int32))])) _
      refine Goes.to (fun _ k => XS.goto X391.here hx rfl (pc0 := 311) (pc' := 315) rfl (hb hby at_311) (by decide) (by decide) k) ?_
      show Goes p.tables e below (T391.setTop (mkF m 315 #[.val (.int x0), .val (.long x1), .second, .val (.int W), .val (.int A), .val (.int B), .val (.ref b1), .val (.ref b18), .val (.ref b43), .val (.ref b78), .val (.ref b118), .val (.ref b164), .val (.ref b349), .unset, .unset, .unset, .unset] [(.int (1 : Int32))])) _
      refine Goes.to (fun _ k => XS.istore X391.here hx rfl (hb hby at_315) rfl (l' := #[.val (.int x0), .val (.long x1), .second, .val (.int W), .val (.int A), .val (.int B), .val (.ref b1), .val (.ref b18), .val (.ref b43), .val (.ref b78), .val (.ref b118), .val (.ref b164), .val (.ref b349), .val (.int (1 : Int32)), .unset, .unset, .unset]) rfl k) ?_
      show Goes p.tables e below (T391.setTop (mkF m 317 #[.val (.int x0), .val (.long x1), .second, .val (.int W), .val (.int A), .val (.int B), .val (.ref b1), .val (.ref b18), .val (.ref b43), .val (.ref b78), .val (.ref b118), .val (.ref b164), .val (.ref b349), .val (.int (1 : Int32)), .unset, .unset, .unset] [])) _
      refine Goes.to (fun _ k => XS.iloadN X391.here hx rfl (hb hby at_317) rfl k) ?_
      show Goes p.tables e below (T391.setTop (mkF m 318 #[.val (.int x0), .val (.long x1), .second, .val (.int W), .val (.int A), .val (.int B), .val (.ref b1), .val (.ref b18), .val (.ref b43), .val (.ref b78), .val (.ref b118), .val (.ref b164), .val (.ref b349), .val (.int (1 : Int32)), .unset, .unset, .unset] [(.int W)])) _
      refine Goes.to (fun _ k => XS.iconst X391.here hx rfl (hb hby at_318) k) ?_
      show Goes p.tables e below (T391.setTop (mkF m 319 #[.val (.int x0), .val (.long x1), .second, .val (.int W), .val (.int A), .val (.int B), .val (.ref b1), .val (.ref b18), .val (.ref b43), .val (.ref b78), .val (.ref b118), .val (.ref b164), .val (.ref b349), .val (.int (1 : Int32)), .unset, .unset, .unset] [(.int (2 : Int32)), (.int W)])) _
      by_cases hc406 : W < (2 : Int32)
      · exfalso
        have k1 := rng32 A
        have k2 : (0 : Int32).toInt = 0 := rfl
        have k3 : ¬ A.toInt < (0 : Int32).toInt := fun z => hA0 (Int32.lt_iff_toInt_lt.mpr z)
        have k4 : (3 : Int32).toInt = 3 := rfl
        have k5 : A.toInt < (3 : Int32).toInt := Int32.lt_iff_toInt_lt.mp hA1
        have k6 := rng32 B
        have k7 : ¬ B.toInt < (0 : Int32).toInt := fun z => hB0 (Int32.lt_iff_toInt_lt.mpr z)
        have k8 : B.toInt < (3 : Int32).toInt := Int32.lt_iff_toInt_lt.mp hB1
        have k9 := rng32 x0
        have k10 : (x0 &&& (3 : Int32)).toInt = x0.toInt % 4 := c_mask x0 (3 : Int32) 2 (by decide) (by decide)
        have k11 := rng32 W
        have k12 : (x0 &&& (3 : Int32)).toInt = W.toInt := congrArg Int32.toInt hnm_W
        have k13 : ¬ W.toInt = (0 : Int32).toInt := fun z => Ph377_44 (Int32.toInt_inj.mp z)
        have k14 : (1 : Int32).toInt = 1 := rfl
        have k15 : ¬ W.toInt = (1 : Int32).toInt := fun z => Ph377_45 (Int32.toInt_inj.mp z)
        have k16 : (2 : Int32).toInt = 2 := rfl
        have k17 : ¬ W.toInt = (2 : Int32).toInt := fun z => Ph377_46 (Int32.toInt_inj.mp z)
        have k18 : ¬ W.toInt < (1 : Int32).toInt := fun z => hc402 (Int32.lt_iff_toInt_lt.mpr z)
        have k19 := rng32 (own_iat (own_iv x1 (0 : Int32)) (own_iv x1 (4 : Int32)) (own_iv x1 (8 : Int32)) B)
        have k20 := rng32 (own_iat (own_iv x1 (0 : Int32)) (own_iv x1 (4 : Int32)) (own_iv x1 (8 : Int32)) A)
        have k21 : (own_iat (own_iv x1 (0 : Int32)) (own_iv x1 (4 : Int32)) (own_iv x1 (8 : Int32)) B).toInt < (own_iat (own_iv x1 (0 : Int32)) (own_iv x1 (4 : Int32)) (own_iv x1 (8 : Int32)) A).toInt := Int32.lt_iff_toInt_lt.mp hc405
        have k22 : W.toInt < (2 : Int32).toInt := Int32.lt_iff_toInt_lt.mp hc406
        omega
      · refine Goes.to (fun _ k => XS.icmpNo X391.here hx rfl (hb hby at_319) rfl (flt hc406).1 k) ?_
        show Goes p.tables e below (T391.setTop (mkF m 322 #[.val (.int x0), .val (.long x1), .second, .val (.int W), .val (.int A), .val (.int B), .val (.ref b1), .val (.ref b18), .val (.ref b43), .val (.ref b78), .val (.ref b118), .val (.ref b164), .val (.ref b349), .val (.int (1 : Int32)), .unset, .unset, .unset] [])) _
        refine Goes.to (fun _ k => XS.aload X391.here hx rfl (hb hby at_322) rfl rfl k) ?_
        show Goes p.tables e below (T391.setTop (mkF m 324 #[.val (.int x0), .val (.long x1), .second, .val (.int W), .val (.int A), .val (.int B), .val (.ref b1), .val (.ref b18), .val (.ref b43), .val (.ref b78), .val (.ref b118), .val (.ref b164), .val (.ref b349), .val (.int (1 : Int32)), .unset, .unset, .unset] [(.ref b118)])) _
        refine Goes.to (fun _ k => XS.iload X391.here hx rfl (hb hby at_324) rfl k) ?_
        show Goes p.tables e below (T391.setTop (mkF m 326 #[.val (.int x0), .val (.long x1), .second, .val (.int W), .val (.int A), .val (.int B), .val (.ref b1), .val (.ref b18), .val (.ref b43), .val (.ref b78), .val (.ref b118), .val (.ref b164), .val (.ref b349), .val (.int (1 : Int32)), .unset, .unset, .unset] [(.int A), (.ref b118)])) _
        obtain ⟨cl407, Ar407, q407, S407, N407, H407, G407⟩ := id F399
        have hin407 : ¬ (A < 0 ∨ cl407.slots.size ≤ (A).toNatClampNeg) := by
          have k1 := rng32 A
          have k2 : (0 : Int32).toInt = 0 := rfl
          have k3 : ¬ A.toInt < (0 : Int32).toInt := fun z => hA0 (Int32.lt_iff_toInt_lt.mpr z)
          have k4 : (3 : Int32).toInt = 3 := rfl
          have k5 : A.toInt < (3 : Int32).toInt := Int32.lt_iff_toInt_lt.mp hA1
          have k6 := rng32 B
          have k7 : ¬ B.toInt < (0 : Int32).toInt := fun z => hB0 (Int32.lt_iff_toInt_lt.mpr z)
          have k8 : B.toInt < (3 : Int32).toInt := Int32.lt_iff_toInt_lt.mp hB1
          have k9 := rng32 x0
          have k10 : (x0 &&& (3 : Int32)).toInt = x0.toInt % 4 := c_mask x0 (3 : Int32) 2 (by decide) (by decide)
          have k11 := rng32 W
          have k12 : (x0 &&& (3 : Int32)).toInt = W.toInt := congrArg Int32.toInt hnm_W
          have k13 : ¬ W.toInt = (0 : Int32).toInt := fun z => Ph377_44 (Int32.toInt_inj.mp z)
          have k14 : (1 : Int32).toInt = 1 := rfl
          have k15 : ¬ W.toInt = (1 : Int32).toInt := fun z => Ph377_45 (Int32.toInt_inj.mp z)
          have k16 : (2 : Int32).toInt = 2 := rfl
          have k17 : ¬ W.toInt = (2 : Int32).toInt := fun z => Ph377_46 (Int32.toInt_inj.mp z)
          have k18 : ¬ W.toInt < (1 : Int32).toInt := fun z => hc402 (Int32.lt_iff_toInt_lt.mpr z)
          have k19 := rng32 (own_iat (own_iv x1 (0 : Int32)) (own_iv x1 (4 : Int32)) (own_iv x1 (8 : Int32)) B)
          have k20 := rng32 (own_iat (own_iv x1 (0 : Int32)) (own_iv x1 (4 : Int32)) (own_iv x1 (8 : Int32)) A)
          have k21 : (own_iat (own_iv x1 (0 : Int32)) (own_iv x1 (4 : Int32)) (own_iv x1 (8 : Int32)) B).toInt < (own_iat (own_iv x1 (0 : Int32)) (own_iv x1 (4 : Int32)) (own_iv x1 (8 : Int32)) A).toInt := Int32.lt_iff_toInt_lt.mp hc405
          have k22 : ¬ W.toInt < (2 : Int32).toInt := fun z => hc406 (Int32.lt_iff_toInt_lt.mpr z)
          refine inb_of S407 ⟨fun hq => ?_, Int32.lt_iff_toInt_lt.mpr ?_⟩
          · have hq' := Int32.lt_iff_toInt_lt.mp hq
            omega
          · omega
        have hat407 : cl407.slots[(A).toNatClampNeg]? = some (.int (own_iat (own_iv x1 (12 : Int32)) (own_iv x1 (16 : Int32)) (own_iv x1 (20 : Int32)) A)) := Has.at H407 hin407 (own_iat_eq (own_iv x1 (12 : Int32)) (own_iv x1 (16 : Int32)) (own_iv x1 (20 : Int32)) A)
        refine Goes.to (fun _ k => X391.iaload hx (j := A) (v := (.int (own_iat (own_iv x1 (12 : Int32)) (own_iv x1 (16 : Int32)) (own_iv x1 (20 : Int32)) A))) Ar407.1 (State.isArrayOf_alike hZ.alike Ar407.2.1) Ar407.2.2 hin407 hat407 (g := (mkF m 326 #[.val (.int x0), .val (.long x1), .second, .val (.int W), .val (.int A), .val (.int B), .val (.ref b1), .val (.ref b18), .val (.ref b43), .val (.ref b78), .val (.ref b118), .val (.ref b164), .val (.ref b349), .val (.int (1 : Int32)), .unset, .unset, .unset] [(.int A), (.ref b118)])) rfl rfl (hb hby at_326) _ k) ?_
        show Goes p.tables e below (T391.setTop (mkF m 327 #[.val (.int x0), .val (.long x1), .second, .val (.int W), .val (.int A), .val (.int B), .val (.ref b1), .val (.ref b18), .val (.ref b43), .val (.ref b78), .val (.ref b118), .val (.ref b164), .val (.ref b349), .val (.int (1 : Int32)), .unset, .unset, .unset] [(.int (own_iat (own_iv x1 (12 : Int32)) (own_iv x1 (16 : Int32)) (own_iv x1 (20 : Int32)) A))])) _
        refine Goes.to (fun _ k => XS.aload X391.here hx rfl (hb hby at_327) rfl rfl k) ?_
        show Goes p.tables e below (T391.setTop (mkF m 329 #[.val (.int x0), .val (.long x1), .second, .val (.int W), .val (.int A), .val (.int B), .val (.ref b1), .val (.ref b18), .val (.ref b43), .val (.ref b78), .val (.ref b118), .val (.ref b164), .val (.ref b349), .val (.int (1 : Int32)), .unset, .unset, .unset] [(.ref b118), (.int (own_iat (own_iv x1 (12 : Int32)) (own_iv x1 (16 : Int32)) (own_iv x1 (20 : Int32)) A))])) _
        refine Goes.to (fun _ k => XS.iload X391.here hx rfl (hb hby at_329) rfl k) ?_
        show Goes p.tables e below (T391.setTop (mkF m 331 #[.val (.int x0), .val (.long x1), .second, .val (.int W), .val (.int A), .val (.int B), .val (.ref b1), .val (.ref b18), .val (.ref b43), .val (.ref b78), .val (.ref b118), .val (.ref b164), .val (.ref b349), .val (.int (1 : Int32)), .unset, .unset, .unset] [(.int B), (.ref b118), (.int (own_iat (own_iv x1 (12 : Int32)) (own_iv x1 (16 : Int32)) (own_iv x1 (20 : Int32)) A))])) _
        obtain ⟨cl408, Ar408, q408, S408, N408, H408, G408⟩ := id F399
        have hin408 : ¬ (B < 0 ∨ cl408.slots.size ≤ (B).toNatClampNeg) := by
          have k1 := rng32 A
          have k2 : (0 : Int32).toInt = 0 := rfl
          have k3 : ¬ A.toInt < (0 : Int32).toInt := fun z => hA0 (Int32.lt_iff_toInt_lt.mpr z)
          have k4 : (3 : Int32).toInt = 3 := rfl
          have k5 : A.toInt < (3 : Int32).toInt := Int32.lt_iff_toInt_lt.mp hA1
          have k6 := rng32 B
          have k7 : ¬ B.toInt < (0 : Int32).toInt := fun z => hB0 (Int32.lt_iff_toInt_lt.mpr z)
          have k8 : B.toInt < (3 : Int32).toInt := Int32.lt_iff_toInt_lt.mp hB1
          have k9 := rng32 x0
          have k10 : (x0 &&& (3 : Int32)).toInt = x0.toInt % 4 := c_mask x0 (3 : Int32) 2 (by decide) (by decide)
          have k11 := rng32 W
          have k12 : (x0 &&& (3 : Int32)).toInt = W.toInt := congrArg Int32.toInt hnm_W
          have k13 : ¬ W.toInt = (0 : Int32).toInt := fun z => Ph377_44 (Int32.toInt_inj.mp z)
          have k14 : (1 : Int32).toInt = 1 := rfl
          have k15 : ¬ W.toInt = (1 : Int32).toInt := fun z => Ph377_45 (Int32.toInt_inj.mp z)
          have k16 : (2 : Int32).toInt = 2 := rfl
          have k17 : ¬ W.toInt = (2 : Int32).toInt := fun z => Ph377_46 (Int32.toInt_inj.mp z)
          have k18 : ¬ W.toInt < (1 : Int32).toInt := fun z => hc402 (Int32.lt_iff_toInt_lt.mpr z)
          have k19 := rng32 (own_iat (own_iv x1 (0 : Int32)) (own_iv x1 (4 : Int32)) (own_iv x1 (8 : Int32)) B)
          have k20 := rng32 (own_iat (own_iv x1 (0 : Int32)) (own_iv x1 (4 : Int32)) (own_iv x1 (8 : Int32)) A)
          have k21 : (own_iat (own_iv x1 (0 : Int32)) (own_iv x1 (4 : Int32)) (own_iv x1 (8 : Int32)) B).toInt < (own_iat (own_iv x1 (0 : Int32)) (own_iv x1 (4 : Int32)) (own_iv x1 (8 : Int32)) A).toInt := Int32.lt_iff_toInt_lt.mp hc405
          have k22 : ¬ W.toInt < (2 : Int32).toInt := fun z => hc406 (Int32.lt_iff_toInt_lt.mpr z)
          refine inb_of S408 ⟨fun hq => ?_, Int32.lt_iff_toInt_lt.mpr ?_⟩
          · have hq' := Int32.lt_iff_toInt_lt.mp hq
            omega
          · omega
        have hat408 : cl408.slots[(B).toNatClampNeg]? = some (.int (own_iat (own_iv x1 (12 : Int32)) (own_iv x1 (16 : Int32)) (own_iv x1 (20 : Int32)) B)) := Has.at H408 hin408 (own_iat_eq (own_iv x1 (12 : Int32)) (own_iv x1 (16 : Int32)) (own_iv x1 (20 : Int32)) B)
        refine Goes.to (fun _ k => X391.iaload hx (j := B) (v := (.int (own_iat (own_iv x1 (12 : Int32)) (own_iv x1 (16 : Int32)) (own_iv x1 (20 : Int32)) B))) Ar408.1 (State.isArrayOf_alike hZ.alike Ar408.2.1) Ar408.2.2 hin408 hat408 (g := (mkF m 331 #[.val (.int x0), .val (.long x1), .second, .val (.int W), .val (.int A), .val (.int B), .val (.ref b1), .val (.ref b18), .val (.ref b43), .val (.ref b78), .val (.ref b118), .val (.ref b164), .val (.ref b349), .val (.int (1 : Int32)), .unset, .unset, .unset] [(.int B), (.ref b118), (.int (own_iat (own_iv x1 (12 : Int32)) (own_iv x1 (16 : Int32)) (own_iv x1 (20 : Int32)) A))])) rfl rfl (hb hby at_331) _ k) ?_
        show Goes p.tables e below (T391.setTop (mkF m 332 #[.val (.int x0), .val (.long x1), .second, .val (.int W), .val (.int A), .val (.int B), .val (.ref b1), .val (.ref b18), .val (.ref b43), .val (.ref b78), .val (.ref b118), .val (.ref b164), .val (.ref b349), .val (.int (1 : Int32)), .unset, .unset, .unset] [(.int (own_iat (own_iv x1 (12 : Int32)) (own_iv x1 (16 : Int32)) (own_iv x1 (20 : Int32)) B)), (.int (own_iat (own_iv x1 (12 : Int32)) (own_iv x1 (16 : Int32)) (own_iv x1 (20 : Int32)) A))])) _
        by_cases hc409 : (own_iat (own_iv x1 (12 : Int32)) (own_iv x1 (16 : Int32)) (own_iv x1 (20 : Int32)) B) < (own_iat (own_iv x1 (12 : Int32)) (own_iv x1 (16 : Int32)) (own_iv x1 (20 : Int32)) A)
        · refine Goes.to (fun _ k => XS.icmpNo X391.here hx rfl (hb hby at_332) rfl (tlt hc409).2.2.2 k) ?_
          show Goes p.tables e below (T391.setTop (mkF m 335 #[.val (.int x0), .val (.long x1), .second, .val (.int W), .val (.int A), .val (.int B), .val (.ref b1), .val (.ref b18), .val (.ref b43), .val (.ref b78), .val (.ref b118), .val (.ref b164), .val (.ref b349), .val (.int (1 : Int32)), .unset, .unset, .unset] [])) _
          refine Goes.to (fun _ k => XS.iconst X391.here hx rfl (hb hby at_335) k) ?_
          show Goes p.tables e below (T391.setTop (mkF m 336 #[.val (.int x0), .val (.long x1), .second, .val (.int W), .val (.int A), .val (.int B), .val (.ref b1), .val (.ref b18), .val (.ref b43), .val (.ref b78), .val (.ref b118), .val (.ref b164), .val (.ref b349), .val (.int (1 : Int32)), .unset, .unset, .unset] [(.int (1 : Int32))])) _
          refine Goes.to (fun _ k => XS.goto X391.here hx rfl (pc0 := 336) (pc' := 340) rfl (hb hby at_336) (by decide) (by decide) k) ?_
          show Goes p.tables e below (T391.setTop (mkF m 340 #[.val (.int x0), .val (.long x1), .second, .val (.int W), .val (.int A), .val (.int B), .val (.ref b1), .val (.ref b18), .val (.ref b43), .val (.ref b78), .val (.ref b118), .val (.ref b164), .val (.ref b349), .val (.int (1 : Int32)), .unset, .unset, .unset] [(.int (1 : Int32))])) _
          refine Goes.to (fun _ k => XS.istore X391.here hx rfl (hb hby at_340) rfl (l' := #[.val (.int x0), .val (.long x1), .second, .val (.int W), .val (.int A), .val (.int B), .val (.ref b1), .val (.ref b18), .val (.ref b43), .val (.ref b78), .val (.ref b118), .val (.ref b164), .val (.ref b349), .val (.int (1 : Int32)), .val (.int (1 : Int32)), .unset, .unset]) rfl k) ?_
          show Goes p.tables e below (T391.setTop (mkF m 342 #[.val (.int x0), .val (.long x1), .second, .val (.int W), .val (.int A), .val (.int B), .val (.ref b1), .val (.ref b18), .val (.ref b43), .val (.ref b78), .val (.ref b118), .val (.ref b164), .val (.ref b349), .val (.int (1 : Int32)), .val (.int (1 : Int32)), .unset, .unset] [])) _
          refine Goes.to (fun _ k => XS.iloadN X391.here hx rfl (hb hby at_342) rfl k) ?_
          show Goes p.tables e below (T391.setTop (mkF m 343 #[.val (.int x0), .val (.long x1), .second, .val (.int W), .val (.int A), .val (.int B), .val (.ref b1), .val (.ref b18), .val (.ref b43), .val (.ref b78), .val (.ref b118), .val (.ref b164), .val (.ref b349), .val (.int (1 : Int32)), .val (.int (1 : Int32)), .unset, .unset] [(.int W)])) _
          refine Goes.to (fun _ k => XS.iconst X391.here hx rfl (hb hby at_343) k) ?_
          show Goes p.tables e below (T391.setTop (mkF m 344 #[.val (.int x0), .val (.long x1), .second, .val (.int W), .val (.int A), .val (.int B), .val (.ref b1), .val (.ref b18), .val (.ref b43), .val (.ref b78), .val (.ref b118), .val (.ref b164), .val (.ref b349), .val (.int (1 : Int32)), .val (.int (1 : Int32)), .unset, .unset] [(.int (3 : Int32)), (.int W)])) _
          by_cases hc410 : W < (3 : Int32)
          · exfalso
            have k1 := rng32 A
            have k2 : (0 : Int32).toInt = 0 := rfl
            have k3 : ¬ A.toInt < (0 : Int32).toInt := fun z => hA0 (Int32.lt_iff_toInt_lt.mpr z)
            have k4 : (3 : Int32).toInt = 3 := rfl
            have k5 : A.toInt < (3 : Int32).toInt := Int32.lt_iff_toInt_lt.mp hA1
            have k6 := rng32 B
            have k7 : ¬ B.toInt < (0 : Int32).toInt := fun z => hB0 (Int32.lt_iff_toInt_lt.mpr z)
            have k8 : B.toInt < (3 : Int32).toInt := Int32.lt_iff_toInt_lt.mp hB1
            have k9 := rng32 x0
            have k10 : (x0 &&& (3 : Int32)).toInt = x0.toInt % 4 := c_mask x0 (3 : Int32) 2 (by decide) (by decide)
            have k11 := rng32 W
            have k12 : (x0 &&& (3 : Int32)).toInt = W.toInt := congrArg Int32.toInt hnm_W
            have k13 : ¬ W.toInt = (0 : Int32).toInt := fun z => Ph377_44 (Int32.toInt_inj.mp z)
            have k14 : (1 : Int32).toInt = 1 := rfl
            have k15 : ¬ W.toInt = (1 : Int32).toInt := fun z => Ph377_45 (Int32.toInt_inj.mp z)
            have k16 : (2 : Int32).toInt = 2 := rfl
            have k17 : ¬ W.toInt = (2 : Int32).toInt := fun z => Ph377_46 (Int32.toInt_inj.mp z)
            have k18 : ¬ W.toInt < (1 : Int32).toInt := fun z => hc402 (Int32.lt_iff_toInt_lt.mpr z)
            have k19 := rng32 (own_iat (own_iv x1 (0 : Int32)) (own_iv x1 (4 : Int32)) (own_iv x1 (8 : Int32)) B)
            have k20 := rng32 (own_iat (own_iv x1 (0 : Int32)) (own_iv x1 (4 : Int32)) (own_iv x1 (8 : Int32)) A)
            have k21 : (own_iat (own_iv x1 (0 : Int32)) (own_iv x1 (4 : Int32)) (own_iv x1 (8 : Int32)) B).toInt < (own_iat (own_iv x1 (0 : Int32)) (own_iv x1 (4 : Int32)) (own_iv x1 (8 : Int32)) A).toInt := Int32.lt_iff_toInt_lt.mp hc405
            have k22 : ¬ W.toInt < (2 : Int32).toInt := fun z => hc406 (Int32.lt_iff_toInt_lt.mpr z)
            have k23 := rng32 (own_iat (own_iv x1 (12 : Int32)) (own_iv x1 (16 : Int32)) (own_iv x1 (20 : Int32)) B)
            have k24 := rng32 (own_iat (own_iv x1 (12 : Int32)) (own_iv x1 (16 : Int32)) (own_iv x1 (20 : Int32)) A)
            have k25 : (own_iat (own_iv x1 (12 : Int32)) (own_iv x1 (16 : Int32)) (own_iv x1 (20 : Int32)) B).toInt < (own_iat (own_iv x1 (12 : Int32)) (own_iv x1 (16 : Int32)) (own_iv x1 (20 : Int32)) A).toInt := Int32.lt_iff_toInt_lt.mp hc409
            have k26 : W.toInt < (3 : Int32).toInt := Int32.lt_iff_toInt_lt.mp hc410
            omega
          · refine Goes.to (fun _ k => XS.icmpNo X391.here hx rfl (hb hby at_344) rfl (flt hc410).1 k) ?_
            show Goes p.tables e below (T391.setTop (mkF m 347 #[.val (.int x0), .val (.long x1), .second, .val (.int W), .val (.int A), .val (.int B), .val (.ref b1), .val (.ref b18), .val (.ref b43), .val (.ref b78), .val (.ref b118), .val (.ref b164), .val (.ref b349), .val (.int (1 : Int32)), .val (.int (1 : Int32)), .unset, .unset] [])) _
            refine Goes.to (fun _ k => XS.aload X391.here hx rfl (hb hby at_347) rfl rfl k) ?_
            show Goes p.tables e below (T391.setTop (mkF m 349 #[.val (.int x0), .val (.long x1), .second, .val (.int W), .val (.int A), .val (.int B), .val (.ref b1), .val (.ref b18), .val (.ref b43), .val (.ref b78), .val (.ref b118), .val (.ref b164), .val (.ref b349), .val (.int (1 : Int32)), .val (.int (1 : Int32)), .unset, .unset] [(.ref b164)])) _
            refine Goes.to (fun _ k => XS.iload X391.here hx rfl (hb hby at_349) rfl k) ?_
            exact own_pt_own_rm0_411 l Z a0 hw ws x0 x1 h0 n0 Z0  Bd hml0 hh hZ b1 k1 b18 k18 b43 k43 b78 k78 b118 k118 b164 k164 b349 k349 W A B T391 _  T391.heap X391 rfl N391 Z391  F392 F393 F394 F395 F396 F397 F398 F399 F400 V391 Pg377_10 Pn377_11 Pg377_12 Pn377_13 Pn377_14 Pg377_15 Pn377_16 Pn377_17 Pn377_18 Pg377_19 Pn377_20 Pn377_21 Pn377_22 Pn377_23 Pg377_24 Pn377_25 Pn377_26 Pn377_27 Pn377_28 Pn377_29 Pg377_30 Po377_31 Pn377_32 Pn377_33 Pn377_34 Pn377_35 Pn377_36 Pn377_37 Pg377_38 hA0 hA1 hB0 hB1 hnm_W Ph377_44 Ph377_45 Ph377_46 hc402 hc405 hc406 hc409 hc410
        · refine Goes.to (fun _ k => XS.icmpYes X391.here hx rfl (pc0 := 332) (pc' := 339) rfl (hb hby at_332) rfl (flt hc409).2.2.2 (by decide) (by decide) k) ?_
          show Goes p.tables e below (T391.setTop (mkF m 339 #[.val (.int x0), .val (.long x1), .second, .val (.int W), .val (.int A), .val (.int B), .val (.ref b1), .val (.ref b18), .val (.ref b43), .val (.ref b78), .val (.ref b118), .val (.ref b164), .val (.ref b349), .val (.int (1 : Int32)), .unset, .unset, .unset] [])) _
          refine Goes.to (fun _ k => XS.iconst X391.here hx rfl (hb hby at_339) k) ?_
          show Goes p.tables e below (T391.setTop (mkF m 340 #[.val (.int x0), .val (.long x1), .second, .val (.int W), .val (.int A), .val (.int B), .val (.ref b1), .val (.ref b18), .val (.ref b43), .val (.ref b78), .val (.ref b118), .val (.ref b164), .val (.ref b349), .val (.int (1 : Int32)), .unset, .unset, .unset] [(.int (0 : Int32))])) _
          refine Goes.to (fun _ k => XS.istore X391.here hx rfl (hb hby at_340) rfl (l' := #[.val (.int x0), .val (.long x1), .second, .val (.int W), .val (.int A), .val (.int B), .val (.ref b1), .val (.ref b18), .val (.ref b43), .val (.ref b78), .val (.ref b118), .val (.ref b164), .val (.ref b349), .val (.int (1 : Int32)), .val (.int (0 : Int32)), .unset, .unset]) rfl k) ?_
          show Goes p.tables e below (T391.setTop (mkF m 342 #[.val (.int x0), .val (.long x1), .second, .val (.int W), .val (.int A), .val (.int B), .val (.ref b1), .val (.ref b18), .val (.ref b43), .val (.ref b78), .val (.ref b118), .val (.ref b164), .val (.ref b349), .val (.int (1 : Int32)), .val (.int (0 : Int32)), .unset, .unset] [])) _
          refine Goes.to (fun _ k => XS.iloadN X391.here hx rfl (hb hby at_342) rfl k) ?_
          show Goes p.tables e below (T391.setTop (mkF m 343 #[.val (.int x0), .val (.long x1), .second, .val (.int W), .val (.int A), .val (.int B), .val (.ref b1), .val (.ref b18), .val (.ref b43), .val (.ref b78), .val (.ref b118), .val (.ref b164), .val (.ref b349), .val (.int (1 : Int32)), .val (.int (0 : Int32)), .unset, .unset] [(.int W)])) _
          refine Goes.to (fun _ k => XS.iconst X391.here hx rfl (hb hby at_343) k) ?_
          show Goes p.tables e below (T391.setTop (mkF m 344 #[.val (.int x0), .val (.long x1), .second, .val (.int W), .val (.int A), .val (.int B), .val (.ref b1), .val (.ref b18), .val (.ref b43), .val (.ref b78), .val (.ref b118), .val (.ref b164), .val (.ref b349), .val (.int (1 : Int32)), .val (.int (0 : Int32)), .unset, .unset] [(.int (3 : Int32)), (.int W)])) _
          by_cases hc419 : W < (3 : Int32)
          · exfalso
            have k1 := rng32 A
            have k2 : (0 : Int32).toInt = 0 := rfl
            have k3 : ¬ A.toInt < (0 : Int32).toInt := fun z => hA0 (Int32.lt_iff_toInt_lt.mpr z)
            have k4 : (3 : Int32).toInt = 3 := rfl
            have k5 : A.toInt < (3 : Int32).toInt := Int32.lt_iff_toInt_lt.mp hA1
            have k6 := rng32 B
            have k7 : ¬ B.toInt < (0 : Int32).toInt := fun z => hB0 (Int32.lt_iff_toInt_lt.mpr z)
            have k8 : B.toInt < (3 : Int32).toInt := Int32.lt_iff_toInt_lt.mp hB1
            have k9 := rng32 x0
            have k10 : (x0 &&& (3 : Int32)).toInt = x0.toInt % 4 := c_mask x0 (3 : Int32) 2 (by decide) (by decide)
            have k11 := rng32 W
            have k12 : (x0 &&& (3 : Int32)).toInt = W.toInt := congrArg Int32.toInt hnm_W
            have k13 : ¬ W.toInt = (0 : Int32).toInt := fun z => Ph377_44 (Int32.toInt_inj.mp z)
            have k14 : (1 : Int32).toInt = 1 := rfl
            have k15 : ¬ W.toInt = (1 : Int32).toInt := fun z => Ph377_45 (Int32.toInt_inj.mp z)
            have k16 : (2 : Int32).toInt = 2 := rfl
            have k17 : ¬ W.toInt = (2 : Int32).toInt := fun z => Ph377_46 (Int32.toInt_inj.mp z)
            have k18 : ¬ W.toInt < (1 : Int32).toInt := fun z => hc402 (Int32.lt_iff_toInt_lt.mpr z)
            have k19 := rng32 (own_iat (own_iv x1 (0 : Int32)) (own_iv x1 (4 : Int32)) (own_iv x1 (8 : Int32)) B)
            have k20 := rng32 (own_iat (own_iv x1 (0 : Int32)) (own_iv x1 (4 : Int32)) (own_iv x1 (8 : Int32)) A)
            have k21 : (own_iat (own_iv x1 (0 : Int32)) (own_iv x1 (4 : Int32)) (own_iv x1 (8 : Int32)) B).toInt < (own_iat (own_iv x1 (0 : Int32)) (own_iv x1 (4 : Int32)) (own_iv x1 (8 : Int32)) A).toInt := Int32.lt_iff_toInt_lt.mp hc405
            have k22 : ¬ W.toInt < (2 : Int32).toInt := fun z => hc406 (Int32.lt_iff_toInt_lt.mpr z)
            have k23 := rng32 (own_iat (own_iv x1 (12 : Int32)) (own_iv x1 (16 : Int32)) (own_iv x1 (20 : Int32)) B)
            have k24 := rng32 (own_iat (own_iv x1 (12 : Int32)) (own_iv x1 (16 : Int32)) (own_iv x1 (20 : Int32)) A)
            have k25 : ¬ (own_iat (own_iv x1 (12 : Int32)) (own_iv x1 (16 : Int32)) (own_iv x1 (20 : Int32)) B).toInt < (own_iat (own_iv x1 (12 : Int32)) (own_iv x1 (16 : Int32)) (own_iv x1 (20 : Int32)) A).toInt := fun z => hc409 (Int32.lt_iff_toInt_lt.mpr z)
            have k26 : W.toInt < (3 : Int32).toInt := Int32.lt_iff_toInt_lt.mp hc419
            omega
          · refine Goes.to (fun _ k => XS.icmpNo X391.here hx rfl (hb hby at_344) rfl (flt hc419).1 k) ?_
            show Goes p.tables e below (T391.setTop (mkF m 347 #[.val (.int x0), .val (.long x1), .second, .val (.int W), .val (.int A), .val (.int B), .val (.ref b1), .val (.ref b18), .val (.ref b43), .val (.ref b78), .val (.ref b118), .val (.ref b164), .val (.ref b349), .val (.int (1 : Int32)), .val (.int (0 : Int32)), .unset, .unset] [])) _
            refine Goes.to (fun _ k => XS.aload X391.here hx rfl (hb hby at_347) rfl rfl k) ?_
            show Goes p.tables e below (T391.setTop (mkF m 349 #[.val (.int x0), .val (.long x1), .second, .val (.int W), .val (.int A), .val (.int B), .val (.ref b1), .val (.ref b18), .val (.ref b43), .val (.ref b78), .val (.ref b118), .val (.ref b164), .val (.ref b349), .val (.int (1 : Int32)), .val (.int (0 : Int32)), .unset, .unset] [(.ref b164)])) _
            refine Goes.to (fun _ k => XS.iload X391.here hx rfl (hb hby at_349) rfl k) ?_
            show Goes p.tables e below (T391.setTop (mkF m 351 #[.val (.int x0), .val (.long x1), .second, .val (.int W), .val (.int A), .val (.int B), .val (.ref b1), .val (.ref b18), .val (.ref b43), .val (.ref b78), .val (.ref b118), .val (.ref b164), .val (.ref b349), .val (.int (1 : Int32)), .val (.int (0 : Int32)), .unset, .unset] [(.int A), (.ref b164)])) _
            obtain ⟨cl420, Ar420, q420, S420, N420, H420, G420⟩ := id F400
            have hin420 : ¬ (A < 0 ∨ cl420.slots.size ≤ (A).toNatClampNeg) := by
              have k1 := rng32 A
              have k2 : (0 : Int32).toInt = 0 := rfl
              have k3 : ¬ A.toInt < (0 : Int32).toInt := fun z => hA0 (Int32.lt_iff_toInt_lt.mpr z)
              have k4 : (3 : Int32).toInt = 3 := rfl
              have k5 : A.toInt < (3 : Int32).toInt := Int32.lt_iff_toInt_lt.mp hA1
              have k6 := rng32 B
              have k7 : ¬ B.toInt < (0 : Int32).toInt := fun z => hB0 (Int32.lt_iff_toInt_lt.mpr z)
              have k8 : B.toInt < (3 : Int32).toInt := Int32.lt_iff_toInt_lt.mp hB1
              have k9 := rng32 x0
              have k10 : (x0 &&& (3 : Int32)).toInt = x0.toInt % 4 := c_mask x0 (3 : Int32) 2 (by decide) (by decide)
              have k11 := rng32 W
              have k12 : (x0 &&& (3 : Int32)).toInt = W.toInt := congrArg Int32.toInt hnm_W
              have k13 : ¬ W.toInt = (0 : Int32).toInt := fun z => Ph377_44 (Int32.toInt_inj.mp z)
              have k14 : (1 : Int32).toInt = 1 := rfl
              have k15 : ¬ W.toInt = (1 : Int32).toInt := fun z => Ph377_45 (Int32.toInt_inj.mp z)
              have k16 : (2 : Int32).toInt = 2 := rfl
              have k17 : ¬ W.toInt = (2 : Int32).toInt := fun z => Ph377_46 (Int32.toInt_inj.mp z)
              have k18 : ¬ W.toInt < (1 : Int32).toInt := fun z => hc402 (Int32.lt_iff_toInt_lt.mpr z)
              have k19 := rng32 (own_iat (own_iv x1 (0 : Int32)) (own_iv x1 (4 : Int32)) (own_iv x1 (8 : Int32)) B)
              have k20 := rng32 (own_iat (own_iv x1 (0 : Int32)) (own_iv x1 (4 : Int32)) (own_iv x1 (8 : Int32)) A)
              have k21 : (own_iat (own_iv x1 (0 : Int32)) (own_iv x1 (4 : Int32)) (own_iv x1 (8 : Int32)) B).toInt < (own_iat (own_iv x1 (0 : Int32)) (own_iv x1 (4 : Int32)) (own_iv x1 (8 : Int32)) A).toInt := Int32.lt_iff_toInt_lt.mp hc405
              have k22 : ¬ W.toInt < (2 : Int32).toInt := fun z => hc406 (Int32.lt_iff_toInt_lt.mpr z)
              have k23 := rng32 (own_iat (own_iv x1 (12 : Int32)) (own_iv x1 (16 : Int32)) (own_iv x1 (20 : Int32)) B)
              have k24 := rng32 (own_iat (own_iv x1 (12 : Int32)) (own_iv x1 (16 : Int32)) (own_iv x1 (20 : Int32)) A)
              have k25 : ¬ (own_iat (own_iv x1 (12 : Int32)) (own_iv x1 (16 : Int32)) (own_iv x1 (20 : Int32)) B).toInt < (own_iat (own_iv x1 (12 : Int32)) (own_iv x1 (16 : Int32)) (own_iv x1 (20 : Int32)) A).toInt := fun z => hc409 (Int32.lt_iff_toInt_lt.mpr z)
              have k26 : ¬ W.toInt < (3 : Int32).toInt := fun z => hc419 (Int32.lt_iff_toInt_lt.mpr z)
              refine inb_of S420 ⟨fun hq => ?_, Int32.lt_iff_toInt_lt.mpr ?_⟩
              · have hq' := Int32.lt_iff_toInt_lt.mp hq
                omega
              · omega
            have hat420 : cl420.slots[(A).toNatClampNeg]? = some (.int (own_iat (own_iv x1 (24 : Int32)) (own_iv x1 (28 : Int32)) (own_iv x1 (32 : Int32)) A)) := Has.at H420 hin420 (own_iat_eq (own_iv x1 (24 : Int32)) (own_iv x1 (28 : Int32)) (own_iv x1 (32 : Int32)) A)
            refine Goes.to (fun _ k => X391.iaload hx (j := A) (v := (.int (own_iat (own_iv x1 (24 : Int32)) (own_iv x1 (28 : Int32)) (own_iv x1 (32 : Int32)) A))) Ar420.1 (State.isArrayOf_alike hZ.alike Ar420.2.1) Ar420.2.2 hin420 hat420 (g := (mkF m 351 #[.val (.int x0), .val (.long x1), .second, .val (.int W), .val (.int A), .val (.int B), .val (.ref b1), .val (.ref b18), .val (.ref b43), .val (.ref b78), .val (.ref b118), .val (.ref b164), .val (.ref b349), .val (.int (1 : Int32)), .val (.int (0 : Int32)), .unset, .unset] [(.int A), (.ref b164)])) rfl rfl (hb hby at_351) _ k) ?_
            exact own_pt_own_rm0_421 l Z a0 hw ws x0 x1 h0 n0 Z0  Bd hml0 hh hZ b1 k1 b18 k18 b43 k43 b78 k78 b118 k118 b164 k164 b349 k349 W A B T391 _  T391.heap X391 rfl N391 Z391  F392 F393 F394 F395 F396 F397 F398 F399 F400 V391 Pg377_10 Pn377_11 Pg377_12 Pn377_13 Pn377_14 Pg377_15 Pn377_16 Pn377_17 Pn377_18 Pg377_19 Pn377_20 Pn377_21 Pn377_22 Pn377_23 Pg377_24 Pn377_25 Pn377_26 Pn377_27 Pn377_28 Pn377_29 Pg377_30 Po377_31 Pn377_32 Pn377_33 Pn377_34 Pn377_35 Pn377_36 Pn377_37 Pg377_38 hA0 hA1 hB0 hB1 hnm_W Ph377_44 Ph377_45 Ph377_46 hc402 hc405 hc406 hc409 hc419
    · refine Goes.to (fun _ k => XS.icmpYes X391.here hx rfl (pc0 := 307) (pc' := 314) rfl (hb hby at_307) rfl (flt hc405).2.2.2 (by decide) (by decide) k) ?_
      show Goes p.tables e below (T391.setTop (mkF m 314 #[.val (.int x0), .val (.long x1), .second, .val (.int W), .val (.int A), .val (.int B), .val (.ref b1), .val (.ref b18), .val (.ref b43), .val (.ref b78), .val (.ref b118), .val (.ref b164), .val (.ref b349), .unset, .unset, .unset, .unset] [])) _
      refine Goes.to (fun _ k => XS.iconst X391.here hx rfl (hb hby at_314) k) ?_
      show Goes p.tables e below (T391.setTop (mkF m 315 #[.val (.int x0), .val (.long x1), .second, .val (.int W), .val (.int A), .val (.int B), .val (.ref b1), .val (.ref b18), .val (.ref b43), .val (.ref b78), .val (.ref b118), .val (.ref b164), .val (.ref b349), .unset, .unset, .unset, .unset] [(.int (0 : Int32))])) _
      refine Goes.to (fun _ k => XS.istore X391.here hx rfl (hb hby at_315) rfl (l' := #[.val (.int x0), .val (.long x1), .second, .val (.int W), .val (.int A), .val (.int B), .val (.ref b1), .val (.ref b18), .val (.ref b43), .val (.ref b78), .val (.ref b118), .val (.ref b164), .val (.ref b349), .val (.int (0 : Int32)), .unset, .unset, .unset]) rfl k) ?_
      show Goes p.tables e below (T391.setTop (mkF m 317 #[.val (.int x0), .val (.long x1), .second, .val (.int W), .val (.int A), .val (.int B), .val (.ref b1), .val (.ref b18), .val (.ref b43), .val (.ref b78), .val (.ref b118), .val (.ref b164), .val (.ref b349), .val (.int (0 : Int32)), .unset, .unset, .unset] [])) _
      refine Goes.to (fun _ k => XS.iloadN X391.here hx rfl (hb hby at_317) rfl k) ?_
      show Goes p.tables e below (T391.setTop (mkF m 318 #[.val (.int x0), .val (.long x1), .second, .val (.int W), .val (.int A), .val (.int B), .val (.ref b1), .val (.ref b18), .val (.ref b43), .val (.ref b78), .val (.ref b118), .val (.ref b164), .val (.ref b349), .val (.int (0 : Int32)), .unset, .unset, .unset] [(.int W)])) _
      refine Goes.to (fun _ k => XS.iconst X391.here hx rfl (hb hby at_318) k) ?_
      show Goes p.tables e below (T391.setTop (mkF m 319 #[.val (.int x0), .val (.long x1), .second, .val (.int W), .val (.int A), .val (.int B), .val (.ref b1), .val (.ref b18), .val (.ref b43), .val (.ref b78), .val (.ref b118), .val (.ref b164), .val (.ref b349), .val (.int (0 : Int32)), .unset, .unset, .unset] [(.int (2 : Int32)), (.int W)])) _
      by_cases hc428 : W < (2 : Int32)
      · exfalso
        have k1 := rng32 A
        have k2 : (0 : Int32).toInt = 0 := rfl
        have k3 : ¬ A.toInt < (0 : Int32).toInt := fun z => hA0 (Int32.lt_iff_toInt_lt.mpr z)
        have k4 : (3 : Int32).toInt = 3 := rfl
        have k5 : A.toInt < (3 : Int32).toInt := Int32.lt_iff_toInt_lt.mp hA1
        have k6 := rng32 B
        have k7 : ¬ B.toInt < (0 : Int32).toInt := fun z => hB0 (Int32.lt_iff_toInt_lt.mpr z)
        have k8 : B.toInt < (3 : Int32).toInt := Int32.lt_iff_toInt_lt.mp hB1
        have k9 := rng32 x0
        have k10 : (x0 &&& (3 : Int32)).toInt = x0.toInt % 4 := c_mask x0 (3 : Int32) 2 (by decide) (by decide)
        have k11 := rng32 W
        have k12 : (x0 &&& (3 : Int32)).toInt = W.toInt := congrArg Int32.toInt hnm_W
        have k13 : ¬ W.toInt = (0 : Int32).toInt := fun z => Ph377_44 (Int32.toInt_inj.mp z)
        have k14 : (1 : Int32).toInt = 1 := rfl
        have k15 : ¬ W.toInt = (1 : Int32).toInt := fun z => Ph377_45 (Int32.toInt_inj.mp z)
        have k16 : (2 : Int32).toInt = 2 := rfl
        have k17 : ¬ W.toInt = (2 : Int32).toInt := fun z => Ph377_46 (Int32.toInt_inj.mp z)
        have k18 : ¬ W.toInt < (1 : Int32).toInt := fun z => hc402 (Int32.lt_iff_toInt_lt.mpr z)
        have k19 := rng32 (own_iat (own_iv x1 (0 : Int32)) (own_iv x1 (4 : Int32)) (own_iv x1 (8 : Int32)) B)
        have k20 := rng32 (own_iat (own_iv x1 (0 : Int32)) (own_iv x1 (4 : Int32)) (own_iv x1 (8 : Int32)) A)
        have k21 : ¬ (own_iat (own_iv x1 (0 : Int32)) (own_iv x1 (4 : Int32)) (own_iv x1 (8 : Int32)) B).toInt < (own_iat (own_iv x1 (0 : Int32)) (own_iv x1 (4 : Int32)) (own_iv x1 (8 : Int32)) A).toInt := fun z => hc405 (Int32.lt_iff_toInt_lt.mpr z)
        have k22 : W.toInt < (2 : Int32).toInt := Int32.lt_iff_toInt_lt.mp hc428
        omega
      · refine Goes.to (fun _ k => XS.icmpNo X391.here hx rfl (hb hby at_319) rfl (flt hc428).1 k) ?_
        show Goes p.tables e below (T391.setTop (mkF m 322 #[.val (.int x0), .val (.long x1), .second, .val (.int W), .val (.int A), .val (.int B), .val (.ref b1), .val (.ref b18), .val (.ref b43), .val (.ref b78), .val (.ref b118), .val (.ref b164), .val (.ref b349), .val (.int (0 : Int32)), .unset, .unset, .unset] [])) _
        refine Goes.to (fun _ k => XS.aload X391.here hx rfl (hb hby at_322) rfl rfl k) ?_
        show Goes p.tables e below (T391.setTop (mkF m 324 #[.val (.int x0), .val (.long x1), .second, .val (.int W), .val (.int A), .val (.int B), .val (.ref b1), .val (.ref b18), .val (.ref b43), .val (.ref b78), .val (.ref b118), .val (.ref b164), .val (.ref b349), .val (.int (0 : Int32)), .unset, .unset, .unset] [(.ref b118)])) _
        refine Goes.to (fun _ k => XS.iload X391.here hx rfl (hb hby at_324) rfl k) ?_
        show Goes p.tables e below (T391.setTop (mkF m 326 #[.val (.int x0), .val (.long x1), .second, .val (.int W), .val (.int A), .val (.int B), .val (.ref b1), .val (.ref b18), .val (.ref b43), .val (.ref b78), .val (.ref b118), .val (.ref b164), .val (.ref b349), .val (.int (0 : Int32)), .unset, .unset, .unset] [(.int A), (.ref b118)])) _
        obtain ⟨cl429, Ar429, q429, S429, N429, H429, G429⟩ := id F399
        have hin429 : ¬ (A < 0 ∨ cl429.slots.size ≤ (A).toNatClampNeg) := by
          have k1 := rng32 A
          have k2 : (0 : Int32).toInt = 0 := rfl
          have k3 : ¬ A.toInt < (0 : Int32).toInt := fun z => hA0 (Int32.lt_iff_toInt_lt.mpr z)
          have k4 : (3 : Int32).toInt = 3 := rfl
          have k5 : A.toInt < (3 : Int32).toInt := Int32.lt_iff_toInt_lt.mp hA1
          have k6 := rng32 B
          have k7 : ¬ B.toInt < (0 : Int32).toInt := fun z => hB0 (Int32.lt_iff_toInt_lt.mpr z)
          have k8 : B.toInt < (3 : Int32).toInt := Int32.lt_iff_toInt_lt.mp hB1
          have k9 := rng32 x0
          have k10 : (x0 &&& (3 : Int32)).toInt = x0.toInt % 4 := c_mask x0 (3 : Int32) 2 (by decide) (by decide)
          have k11 := rng32 W
          have k12 : (x0 &&& (3 : Int32)).toInt = W.toInt := congrArg Int32.toInt hnm_W
          have k13 : ¬ W.toInt = (0 : Int32).toInt := fun z => Ph377_44 (Int32.toInt_inj.mp z)
          have k14 : (1 : Int32).toInt = 1 := rfl
          have k15 : ¬ W.toInt = (1 : Int32).toInt := fun z => Ph377_45 (Int32.toInt_inj.mp z)
          have k16 : (2 : Int32).toInt = 2 := rfl
          have k17 : ¬ W.toInt = (2 : Int32).toInt := fun z => Ph377_46 (Int32.toInt_inj.mp z)
          have k18 : ¬ W.toInt < (1 : Int32).toInt := fun z => hc402 (Int32.lt_iff_toInt_lt.mpr z)
          have k19 := rng32 (own_iat (own_iv x1 (0 : Int32)) (own_iv x1 (4 : Int32)) (own_iv x1 (8 : Int32)) B)
          have k20 := rng32 (own_iat (own_iv x1 (0 : Int32)) (own_iv x1 (4 : Int32)) (own_iv x1 (8 : Int32)) A)
          have k21 : ¬ (own_iat (own_iv x1 (0 : Int32)) (own_iv x1 (4 : Int32)) (own_iv x1 (8 : Int32)) B).toInt < (own_iat (own_iv x1 (0 : Int32)) (own_iv x1 (4 : Int32)) (own_iv x1 (8 : Int32)) A).toInt := fun z => hc405 (Int32.lt_iff_toInt_lt.mpr z)
          have k22 : ¬ W.toInt < (2 : Int32).toInt := fun z => hc428 (Int32.lt_iff_toInt_lt.mpr z)
          refine inb_of S429 ⟨fun hq => ?_, Int32.lt_iff_toInt_lt.mpr ?_⟩
          · have hq' := Int32.lt_iff_toInt_lt.mp hq
            omega
          · omega
        have hat429 : cl429.slots[(A).toNatClampNeg]? = some (.int (own_iat (own_iv x1 (12 : Int32)) (own_iv x1 (16 : Int32)) (own_iv x1 (20 : Int32)) A)) := Has.at H429 hin429 (own_iat_eq (own_iv x1 (12 : Int32)) (own_iv x1 (16 : Int32)) (own_iv x1 (20 : Int32)) A)
        refine Goes.to (fun _ k => X391.iaload hx (j := A) (v := (.int (own_iat (own_iv x1 (12 : Int32)) (own_iv x1 (16 : Int32)) (own_iv x1 (20 : Int32)) A))) Ar429.1 (State.isArrayOf_alike hZ.alike Ar429.2.1) Ar429.2.2 hin429 hat429 (g := (mkF m 326 #[.val (.int x0), .val (.long x1), .second, .val (.int W), .val (.int A), .val (.int B), .val (.ref b1), .val (.ref b18), .val (.ref b43), .val (.ref b78), .val (.ref b118), .val (.ref b164), .val (.ref b349), .val (.int (0 : Int32)), .unset, .unset, .unset] [(.int A), (.ref b118)])) rfl rfl (hb hby at_326) _ k) ?_
        show Goes p.tables e below (T391.setTop (mkF m 327 #[.val (.int x0), .val (.long x1), .second, .val (.int W), .val (.int A), .val (.int B), .val (.ref b1), .val (.ref b18), .val (.ref b43), .val (.ref b78), .val (.ref b118), .val (.ref b164), .val (.ref b349), .val (.int (0 : Int32)), .unset, .unset, .unset] [(.int (own_iat (own_iv x1 (12 : Int32)) (own_iv x1 (16 : Int32)) (own_iv x1 (20 : Int32)) A))])) _
        refine Goes.to (fun _ k => XS.aload X391.here hx rfl (hb hby at_327) rfl rfl k) ?_
        show Goes p.tables e below (T391.setTop (mkF m 329 #[.val (.int x0), .val (.long x1), .second, .val (.int W), .val (.int A), .val (.int B), .val (.ref b1), .val (.ref b18), .val (.ref b43), .val (.ref b78), .val (.ref b118), .val (.ref b164), .val (.ref b349), .val (.int (0 : Int32)), .unset, .unset, .unset] [(.ref b118), (.int (own_iat (own_iv x1 (12 : Int32)) (own_iv x1 (16 : Int32)) (own_iv x1 (20 : Int32)) A))])) _
        refine Goes.to (fun _ k => XS.iload X391.here hx rfl (hb hby at_329) rfl k) ?_
        show Goes p.tables e below (T391.setTop (mkF m 331 #[.val (.int x0), .val (.long x1), .second, .val (.int W), .val (.int A), .val (.int B), .val (.ref b1), .val (.ref b18), .val (.ref b43), .val (.ref b78), .val (.ref b118), .val (.ref b164), .val (.ref b349), .val (.int (0 : Int32)), .unset, .unset, .unset] [(.int B), (.ref b118), (.int (own_iat (own_iv x1 (12 : Int32)) (own_iv x1 (16 : Int32)) (own_iv x1 (20 : Int32)) A))])) _
        obtain ⟨cl430, Ar430, q430, S430, N430, H430, G430⟩ := id F399
        have hin430 : ¬ (B < 0 ∨ cl430.slots.size ≤ (B).toNatClampNeg) := by
          have k1 := rng32 A
          have k2 : (0 : Int32).toInt = 0 := rfl
          have k3 : ¬ A.toInt < (0 : Int32).toInt := fun z => hA0 (Int32.lt_iff_toInt_lt.mpr z)
          have k4 : (3 : Int32).toInt = 3 := rfl
          have k5 : A.toInt < (3 : Int32).toInt := Int32.lt_iff_toInt_lt.mp hA1
          have k6 := rng32 B
          have k7 : ¬ B.toInt < (0 : Int32).toInt := fun z => hB0 (Int32.lt_iff_toInt_lt.mpr z)
          have k8 : B.toInt < (3 : Int32).toInt := Int32.lt_iff_toInt_lt.mp hB1
          have k9 := rng32 x0
          have k10 : (x0 &&& (3 : Int32)).toInt = x0.toInt % 4 := c_mask x0 (3 : Int32) 2 (by decide) (by decide)
          have k11 := rng32 W
          have k12 : (x0 &&& (3 : Int32)).toInt = W.toInt := congrArg Int32.toInt hnm_W
          have k13 : ¬ W.toInt = (0 : Int32).toInt := fun z => Ph377_44 (Int32.toInt_inj.mp z)
          have k14 : (1 : Int32).toInt = 1 := rfl
          have k15 : ¬ W.toInt = (1 : Int32).toInt := fun z => Ph377_45 (Int32.toInt_inj.mp z)
          have k16 : (2 : Int32).toInt = 2 := rfl
          have k17 : ¬ W.toInt = (2 : Int32).toInt := fun z => Ph377_46 (Int32.toInt_inj.mp z)
          have k18 : ¬ W.toInt < (1 : Int32).toInt := fun z => hc402 (Int32.lt_iff_toInt_lt.mpr z)
          have k19 := rng32 (own_iat (own_iv x1 (0 : Int32)) (own_iv x1 (4 : Int32)) (own_iv x1 (8 : Int32)) B)
          have k20 := rng32 (own_iat (own_iv x1 (0 : Int32)) (own_iv x1 (4 : Int32)) (own_iv x1 (8 : Int32)) A)
          have k21 : ¬ (own_iat (own_iv x1 (0 : Int32)) (own_iv x1 (4 : Int32)) (own_iv x1 (8 : Int32)) B).toInt < (own_iat (own_iv x1 (0 : Int32)) (own_iv x1 (4 : Int32)) (own_iv x1 (8 : Int32)) A).toInt := fun z => hc405 (Int32.lt_iff_toInt_lt.mpr z)
          have k22 : ¬ W.toInt < (2 : Int32).toInt := fun z => hc428 (Int32.lt_iff_toInt_lt.mpr z)
          refine inb_of S430 ⟨fun hq => ?_, Int32.lt_iff_toInt_lt.mpr ?_⟩
          · have hq' := Int32.lt_iff_toInt_lt.mp hq
            omega
          · omega
        have hat430 : cl430.slots[(B).toNatClampNeg]? = some (.int (own_iat (own_iv x1 (12 : Int32)) (own_iv x1 (16 : Int32)) (own_iv x1 (20 : Int32)) B)) := Has.at H430 hin430 (own_iat_eq (own_iv x1 (12 : Int32)) (own_iv x1 (16 : Int32)) (own_iv x1 (20 : Int32)) B)
        refine Goes.to (fun _ k => X391.iaload hx (j := B) (v := (.int (own_iat (own_iv x1 (12 : Int32)) (own_iv x1 (16 : Int32)) (own_iv x1 (20 : Int32)) B))) Ar430.1 (State.isArrayOf_alike hZ.alike Ar430.2.1) Ar430.2.2 hin430 hat430 (g := (mkF m 331 #[.val (.int x0), .val (.long x1), .second, .val (.int W), .val (.int A), .val (.int B), .val (.ref b1), .val (.ref b18), .val (.ref b43), .val (.ref b78), .val (.ref b118), .val (.ref b164), .val (.ref b349), .val (.int (0 : Int32)), .unset, .unset, .unset] [(.int B), (.ref b118), (.int (own_iat (own_iv x1 (12 : Int32)) (own_iv x1 (16 : Int32)) (own_iv x1 (20 : Int32)) A))])) rfl rfl (hb hby at_331) _ k) ?_
        show Goes p.tables e below (T391.setTop (mkF m 332 #[.val (.int x0), .val (.long x1), .second, .val (.int W), .val (.int A), .val (.int B), .val (.ref b1), .val (.ref b18), .val (.ref b43), .val (.ref b78), .val (.ref b118), .val (.ref b164), .val (.ref b349), .val (.int (0 : Int32)), .unset, .unset, .unset] [(.int (own_iat (own_iv x1 (12 : Int32)) (own_iv x1 (16 : Int32)) (own_iv x1 (20 : Int32)) B)), (.int (own_iat (own_iv x1 (12 : Int32)) (own_iv x1 (16 : Int32)) (own_iv x1 (20 : Int32)) A))])) _
        by_cases hc431 : (own_iat (own_iv x1 (12 : Int32)) (own_iv x1 (16 : Int32)) (own_iv x1 (20 : Int32)) B) < (own_iat (own_iv x1 (12 : Int32)) (own_iv x1 (16 : Int32)) (own_iv x1 (20 : Int32)) A)
        · refine Goes.to (fun _ k => XS.icmpNo X391.here hx rfl (hb hby at_332) rfl (tlt hc431).2.2.2 k) ?_
          show Goes p.tables e below (T391.setTop (mkF m 335 #[.val (.int x0), .val (.long x1), .second, .val (.int W), .val (.int A), .val (.int B), .val (.ref b1), .val (.ref b18), .val (.ref b43), .val (.ref b78), .val (.ref b118), .val (.ref b164), .val (.ref b349), .val (.int (0 : Int32)), .unset, .unset, .unset] [])) _
          refine Goes.to (fun _ k => XS.iconst X391.here hx rfl (hb hby at_335) k) ?_
          show Goes p.tables e below (T391.setTop (mkF m 336 #[.val (.int x0), .val (.long x1), .second, .val (.int W), .val (.int A), .val (.int B), .val (.ref b1), .val (.ref b18), .val (.ref b43), .val (.ref b78), .val (.ref b118), .val (.ref b164), .val (.ref b349), .val (.int (0 : Int32)), .unset, .unset, .unset] [(.int (1 : Int32))])) _
          refine Goes.to (fun _ k => XS.goto X391.here hx rfl (pc0 := 336) (pc' := 340) rfl (hb hby at_336) (by decide) (by decide) k) ?_
          show Goes p.tables e below (T391.setTop (mkF m 340 #[.val (.int x0), .val (.long x1), .second, .val (.int W), .val (.int A), .val (.int B), .val (.ref b1), .val (.ref b18), .val (.ref b43), .val (.ref b78), .val (.ref b118), .val (.ref b164), .val (.ref b349), .val (.int (0 : Int32)), .unset, .unset, .unset] [(.int (1 : Int32))])) _
          refine Goes.to (fun _ k => XS.istore X391.here hx rfl (hb hby at_340) rfl (l' := #[.val (.int x0), .val (.long x1), .second, .val (.int W), .val (.int A), .val (.int B), .val (.ref b1), .val (.ref b18), .val (.ref b43), .val (.ref b78), .val (.ref b118), .val (.ref b164), .val (.ref b349), .val (.int (0 : Int32)), .val (.int (1 : Int32)), .unset, .unset]) rfl k) ?_
          show Goes p.tables e below (T391.setTop (mkF m 342 #[.val (.int x0), .val (.long x1), .second, .val (.int W), .val (.int A), .val (.int B), .val (.ref b1), .val (.ref b18), .val (.ref b43), .val (.ref b78), .val (.ref b118), .val (.ref b164), .val (.ref b349), .val (.int (0 : Int32)), .val (.int (1 : Int32)), .unset, .unset] [])) _
          refine Goes.to (fun _ k => XS.iloadN X391.here hx rfl (hb hby at_342) rfl k) ?_
          show Goes p.tables e below (T391.setTop (mkF m 343 #[.val (.int x0), .val (.long x1), .second, .val (.int W), .val (.int A), .val (.int B), .val (.ref b1), .val (.ref b18), .val (.ref b43), .val (.ref b78), .val (.ref b118), .val (.ref b164), .val (.ref b349), .val (.int (0 : Int32)), .val (.int (1 : Int32)), .unset, .unset] [(.int W)])) _
          refine Goes.to (fun _ k => XS.iconst X391.here hx rfl (hb hby at_343) k) ?_
          show Goes p.tables e below (T391.setTop (mkF m 344 #[.val (.int x0), .val (.long x1), .second, .val (.int W), .val (.int A), .val (.int B), .val (.ref b1), .val (.ref b18), .val (.ref b43), .val (.ref b78), .val (.ref b118), .val (.ref b164), .val (.ref b349), .val (.int (0 : Int32)), .val (.int (1 : Int32)), .unset, .unset] [(.int (3 : Int32)), (.int W)])) _
          by_cases hc432 : W < (3 : Int32)
          · exfalso
            have k1 := rng32 A
            have k2 : (0 : Int32).toInt = 0 := rfl
            have k3 : ¬ A.toInt < (0 : Int32).toInt := fun z => hA0 (Int32.lt_iff_toInt_lt.mpr z)
            have k4 : (3 : Int32).toInt = 3 := rfl
            have k5 : A.toInt < (3 : Int32).toInt := Int32.lt_iff_toInt_lt.mp hA1
            have k6 := rng32 B
            have k7 : ¬ B.toInt < (0 : Int32).toInt := fun z => hB0 (Int32.lt_iff_toInt_lt.mpr z)
            have k8 : B.toInt < (3 : Int32).toInt := Int32.lt_iff_toInt_lt.mp hB1
            have k9 := rng32 x0
            have k10 : (x0 &&& (3 : Int32)).toInt = x0.toInt % 4 := c_mask x0 (3 : Int32) 2 (by decide) (by decide)
            have k11 := rng32 W
            have k12 : (x0 &&& (3 : Int32)).toInt = W.toInt := congrArg Int32.toInt hnm_W
            have k13 : ¬ W.toInt = (0 : Int32).toInt := fun z => Ph377_44 (Int32.toInt_inj.mp z)
            have k14 : (1 : Int32).toInt = 1 := rfl
            have k15 : ¬ W.toInt = (1 : Int32).toInt := fun z => Ph377_45 (Int32.toInt_inj.mp z)
            have k16 : (2 : Int32).toInt = 2 := rfl
            have k17 : ¬ W.toInt = (2 : Int32).toInt := fun z => Ph377_46 (Int32.toInt_inj.mp z)
            have k18 : ¬ W.toInt < (1 : Int32).toInt := fun z => hc402 (Int32.lt_iff_toInt_lt.mpr z)
            have k19 := rng32 (own_iat (own_iv x1 (0 : Int32)) (own_iv x1 (4 : Int32)) (own_iv x1 (8 : Int32)) B)
            have k20 := rng32 (own_iat (own_iv x1 (0 : Int32)) (own_iv x1 (4 : Int32)) (own_iv x1 (8 : Int32)) A)
            have k21 : ¬ (own_iat (own_iv x1 (0 : Int32)) (own_iv x1 (4 : Int32)) (own_iv x1 (8 : Int32)) B).toInt < (own_iat (own_iv x1 (0 : Int32)) (own_iv x1 (4 : Int32)) (own_iv x1 (8 : Int32)) A).toInt := fun z => hc405 (Int32.lt_iff_toInt_lt.mpr z)
            have k22 : ¬ W.toInt < (2 : Int32).toInt := fun z => hc428 (Int32.lt_iff_toInt_lt.mpr z)
            have k23 := rng32 (own_iat (own_iv x1 (12 : Int32)) (own_iv x1 (16 : Int32)) (own_iv x1 (20 : Int32)) B)
            have k24 := rng32 (own_iat (own_iv x1 (12 : Int32)) (own_iv x1 (16 : Int32)) (own_iv x1 (20 : Int32)) A)
            have k25 : (own_iat (own_iv x1 (12 : Int32)) (own_iv x1 (16 : Int32)) (own_iv x1 (20 : Int32)) B).toInt < (own_iat (own_iv x1 (12 : Int32)) (own_iv x1 (16 : Int32)) (own_iv x1 (20 : Int32)) A).toInt := Int32.lt_iff_toInt_lt.mp hc431
            have k26 : W.toInt < (3 : Int32).toInt := Int32.lt_iff_toInt_lt.mp hc432
            omega
          · refine Goes.to (fun _ k => XS.icmpNo X391.here hx rfl (hb hby at_344) rfl (flt hc432).1 k) ?_
            show Goes p.tables e below (T391.setTop (mkF m 347 #[.val (.int x0), .val (.long x1), .second, .val (.int W), .val (.int A), .val (.int B), .val (.ref b1), .val (.ref b18), .val (.ref b43), .val (.ref b78), .val (.ref b118), .val (.ref b164), .val (.ref b349), .val (.int (0 : Int32)), .val (.int (1 : Int32)), .unset, .unset] [])) _
            refine Goes.to (fun _ k => XS.aload X391.here hx rfl (hb hby at_347) rfl rfl k) ?_
            show Goes p.tables e below (T391.setTop (mkF m 349 #[.val (.int x0), .val (.long x1), .second, .val (.int W), .val (.int A), .val (.int B), .val (.ref b1), .val (.ref b18), .val (.ref b43), .val (.ref b78), .val (.ref b118), .val (.ref b164), .val (.ref b349), .val (.int (0 : Int32)), .val (.int (1 : Int32)), .unset, .unset] [(.ref b164)])) _
            refine Goes.to (fun _ k => XS.iload X391.here hx rfl (hb hby at_349) rfl k) ?_
            show Goes p.tables e below (T391.setTop (mkF m 351 #[.val (.int x0), .val (.long x1), .second, .val (.int W), .val (.int A), .val (.int B), .val (.ref b1), .val (.ref b18), .val (.ref b43), .val (.ref b78), .val (.ref b118), .val (.ref b164), .val (.ref b349), .val (.int (0 : Int32)), .val (.int (1 : Int32)), .unset, .unset] [(.int A), (.ref b164)])) _
            obtain ⟨cl433, Ar433, q433, S433, N433, H433, G433⟩ := id F400
            have hin433 : ¬ (A < 0 ∨ cl433.slots.size ≤ (A).toNatClampNeg) := by
              have k1 := rng32 A
              have k2 : (0 : Int32).toInt = 0 := rfl
              have k3 : ¬ A.toInt < (0 : Int32).toInt := fun z => hA0 (Int32.lt_iff_toInt_lt.mpr z)
              have k4 : (3 : Int32).toInt = 3 := rfl
              have k5 : A.toInt < (3 : Int32).toInt := Int32.lt_iff_toInt_lt.mp hA1
              have k6 := rng32 B
              have k7 : ¬ B.toInt < (0 : Int32).toInt := fun z => hB0 (Int32.lt_iff_toInt_lt.mpr z)
              have k8 : B.toInt < (3 : Int32).toInt := Int32.lt_iff_toInt_lt.mp hB1
              have k9 := rng32 x0
              have k10 : (x0 &&& (3 : Int32)).toInt = x0.toInt % 4 := c_mask x0 (3 : Int32) 2 (by decide) (by decide)
              have k11 := rng32 W
              have k12 : (x0 &&& (3 : Int32)).toInt = W.toInt := congrArg Int32.toInt hnm_W
              have k13 : ¬ W.toInt = (0 : Int32).toInt := fun z => Ph377_44 (Int32.toInt_inj.mp z)
              have k14 : (1 : Int32).toInt = 1 := rfl
              have k15 : ¬ W.toInt = (1 : Int32).toInt := fun z => Ph377_45 (Int32.toInt_inj.mp z)
              have k16 : (2 : Int32).toInt = 2 := rfl
              have k17 : ¬ W.toInt = (2 : Int32).toInt := fun z => Ph377_46 (Int32.toInt_inj.mp z)
              have k18 : ¬ W.toInt < (1 : Int32).toInt := fun z => hc402 (Int32.lt_iff_toInt_lt.mpr z)
              have k19 := rng32 (own_iat (own_iv x1 (0 : Int32)) (own_iv x1 (4 : Int32)) (own_iv x1 (8 : Int32)) B)
              have k20 := rng32 (own_iat (own_iv x1 (0 : Int32)) (own_iv x1 (4 : Int32)) (own_iv x1 (8 : Int32)) A)
              have k21 : ¬ (own_iat (own_iv x1 (0 : Int32)) (own_iv x1 (4 : Int32)) (own_iv x1 (8 : Int32)) B).toInt < (own_iat (own_iv x1 (0 : Int32)) (own_iv x1 (4 : Int32)) (own_iv x1 (8 : Int32)) A).toInt := fun z => hc405 (Int32.lt_iff_toInt_lt.mpr z)
              have k22 : ¬ W.toInt < (2 : Int32).toInt := fun z => hc428 (Int32.lt_iff_toInt_lt.mpr z)
              have k23 := rng32 (own_iat (own_iv x1 (12 : Int32)) (own_iv x1 (16 : Int32)) (own_iv x1 (20 : Int32)) B)
              have k24 := rng32 (own_iat (own_iv x1 (12 : Int32)) (own_iv x1 (16 : Int32)) (own_iv x1 (20 : Int32)) A)
              have k25 : (own_iat (own_iv x1 (12 : Int32)) (own_iv x1 (16 : Int32)) (own_iv x1 (20 : Int32)) B).toInt < (own_iat (own_iv x1 (12 : Int32)) (own_iv x1 (16 : Int32)) (own_iv x1 (20 : Int32)) A).toInt := Int32.lt_iff_toInt_lt.mp hc431
              have k26 : ¬ W.toInt < (3 : Int32).toInt := fun z => hc432 (Int32.lt_iff_toInt_lt.mpr z)
              refine inb_of S433 ⟨fun hq => ?_, Int32.lt_iff_toInt_lt.mpr ?_⟩
              · have hq' := Int32.lt_iff_toInt_lt.mp hq
                omega
              · omega
            have hat433 : cl433.slots[(A).toNatClampNeg]? = some (.int (own_iat (own_iv x1 (24 : Int32)) (own_iv x1 (28 : Int32)) (own_iv x1 (32 : Int32)) A)) := Has.at H433 hin433 (own_iat_eq (own_iv x1 (24 : Int32)) (own_iv x1 (28 : Int32)) (own_iv x1 (32 : Int32)) A)
            refine Goes.to (fun _ k => X391.iaload hx (j := A) (v := (.int (own_iat (own_iv x1 (24 : Int32)) (own_iv x1 (28 : Int32)) (own_iv x1 (32 : Int32)) A))) Ar433.1 (State.isArrayOf_alike hZ.alike Ar433.2.1) Ar433.2.2 hin433 hat433 (g := (mkF m 351 #[.val (.int x0), .val (.long x1), .second, .val (.int W), .val (.int A), .val (.int B), .val (.ref b1), .val (.ref b18), .val (.ref b43), .val (.ref b78), .val (.ref b118), .val (.ref b164), .val (.ref b349), .val (.int (0 : Int32)), .val (.int (1 : Int32)), .unset, .unset] [(.int A), (.ref b164)])) rfl rfl (hb hby at_351) _ k) ?_
            exact own_pt_own_rm0_434 l Z a0 hw ws x0 x1 h0 n0 Z0  Bd hml0 hh hZ b1 k1 b18 k18 b43 k43 b78 k78 b118 k118 b164 k164 b349 k349 W A B T391 _  T391.heap X391 rfl N391 Z391  F392 F393 F394 F395 F396 F397 F398 F399 F400 V391 Pg377_10 Pn377_11 Pg377_12 Pn377_13 Pn377_14 Pg377_15 Pn377_16 Pn377_17 Pn377_18 Pg377_19 Pn377_20 Pn377_21 Pn377_22 Pn377_23 Pg377_24 Pn377_25 Pn377_26 Pn377_27 Pn377_28 Pn377_29 Pg377_30 Po377_31 Pn377_32 Pn377_33 Pn377_34 Pn377_35 Pn377_36 Pn377_37 Pg377_38 hA0 hA1 hB0 hB1 hnm_W Ph377_44 Ph377_45 Ph377_46 hc402 hc405 hc428 hc431 hc432
        · refine Goes.to (fun _ k => XS.icmpYes X391.here hx rfl (pc0 := 332) (pc' := 339) rfl (hb hby at_332) rfl (flt hc431).2.2.2 (by decide) (by decide) k) ?_
          show Goes p.tables e below (T391.setTop (mkF m 339 #[.val (.int x0), .val (.long x1), .second, .val (.int W), .val (.int A), .val (.int B), .val (.ref b1), .val (.ref b18), .val (.ref b43), .val (.ref b78), .val (.ref b118), .val (.ref b164), .val (.ref b349), .val (.int (0 : Int32)), .unset, .unset, .unset] [])) _
          refine Goes.to (fun _ k => XS.iconst X391.here hx rfl (hb hby at_339) k) ?_
          show Goes p.tables e below (T391.setTop (mkF m 340 #[.val (.int x0), .val (.long x1), .second, .val (.int W), .val (.int A), .val (.int B), .val (.ref b1), .val (.ref b18), .val (.ref b43), .val (.ref b78), .val (.ref b118), .val (.ref b164), .val (.ref b349), .val (.int (0 : Int32)), .unset, .unset, .unset] [(.int (0 : Int32))])) _
          refine Goes.to (fun _ k => XS.istore X391.here hx rfl (hb hby at_340) rfl (l' := #[.val (.int x0), .val (.long x1), .second, .val (.int W), .val (.int A), .val (.int B), .val (.ref b1), .val (.ref b18), .val (.ref b43), .val (.ref b78), .val (.ref b118), .val (.ref b164), .val (.ref b349), .val (.int (0 : Int32)), .val (.int (0 : Int32)), .unset, .unset]) rfl k) ?_
          show Goes p.tables e below (T391.setTop (mkF m 342 #[.val (.int x0), .val (.long x1), .second, .val (.int W), .val (.int A), .val (.int B), .val (.ref b1), .val (.ref b18), .val (.ref b43), .val (.ref b78), .val (.ref b118), .val (.ref b164), .val (.ref b349), .val (.int (0 : Int32)), .val (.int (0 : Int32)), .unset, .unset] [])) _
          refine Goes.to (fun _ k => XS.iloadN X391.here hx rfl (hb hby at_342) rfl k) ?_
          show Goes p.tables e below (T391.setTop (mkF m 343 #[.val (.int x0), .val (.long x1), .second, .val (.int W), .val (.int A), .val (.int B), .val (.ref b1), .val (.ref b18), .val (.ref b43), .val (.ref b78), .val (.ref b118), .val (.ref b164), .val (.ref b349), .val (.int (0 : Int32)), .val (.int (0 : Int32)), .unset, .unset] [(.int W)])) _
          refine Goes.to (fun _ k => XS.iconst X391.here hx rfl (hb hby at_343) k) ?_
          show Goes p.tables e below (T391.setTop (mkF m 344 #[.val (.int x0), .val (.long x1), .second, .val (.int W), .val (.int A), .val (.int B), .val (.ref b1), .val (.ref b18), .val (.ref b43), .val (.ref b78), .val (.ref b118), .val (.ref b164), .val (.ref b349), .val (.int (0 : Int32)), .val (.int (0 : Int32)), .unset, .unset] [(.int (3 : Int32)), (.int W)])) _
          by_cases hc441 : W < (3 : Int32)
          · exfalso
            have k1 := rng32 A
            have k2 : (0 : Int32).toInt = 0 := rfl
            have k3 : ¬ A.toInt < (0 : Int32).toInt := fun z => hA0 (Int32.lt_iff_toInt_lt.mpr z)
            have k4 : (3 : Int32).toInt = 3 := rfl
            have k5 : A.toInt < (3 : Int32).toInt := Int32.lt_iff_toInt_lt.mp hA1
            have k6 := rng32 B
            have k7 : ¬ B.toInt < (0 : Int32).toInt := fun z => hB0 (Int32.lt_iff_toInt_lt.mpr z)
            have k8 : B.toInt < (3 : Int32).toInt := Int32.lt_iff_toInt_lt.mp hB1
            have k9 := rng32 x0
            have k10 : (x0 &&& (3 : Int32)).toInt = x0.toInt % 4 := c_mask x0 (3 : Int32) 2 (by decide) (by decide)
            have k11 := rng32 W
            have k12 : (x0 &&& (3 : Int32)).toInt = W.toInt := congrArg Int32.toInt hnm_W
            have k13 : ¬ W.toInt = (0 : Int32).toInt := fun z => Ph377_44 (Int32.toInt_inj.mp z)
            have k14 : (1 : Int32).toInt = 1 := rfl
            have k15 : ¬ W.toInt = (1 : Int32).toInt := fun z => Ph377_45 (Int32.toInt_inj.mp z)
            have k16 : (2 : Int32).toInt = 2 := rfl
            have k17 : ¬ W.toInt = (2 : Int32).toInt := fun z => Ph377_46 (Int32.toInt_inj.mp z)
            have k18 : ¬ W.toInt < (1 : Int32).toInt := fun z => hc402 (Int32.lt_iff_toInt_lt.mpr z)
            have k19 := rng32 (own_iat (own_iv x1 (0 : Int32)) (own_iv x1 (4 : Int32)) (own_iv x1 (8 : Int32)) B)
            have k20 := rng32 (own_iat (own_iv x1 (0 : Int32)) (own_iv x1 (4 : Int32)) (own_iv x1 (8 : Int32)) A)
            have k21 : ¬ (own_iat (own_iv x1 (0 : Int32)) (own_iv x1 (4 : Int32)) (own_iv x1 (8 : Int32)) B).toInt < (own_iat (own_iv x1 (0 : Int32)) (own_iv x1 (4 : Int32)) (own_iv x1 (8 : Int32)) A).toInt := fun z => hc405 (Int32.lt_iff_toInt_lt.mpr z)
            have k22 : ¬ W.toInt < (2 : Int32).toInt := fun z => hc428 (Int32.lt_iff_toInt_lt.mpr z)
            have k23 := rng32 (own_iat (own_iv x1 (12 : Int32)) (own_iv x1 (16 : Int32)) (own_iv x1 (20 : Int32)) B)
            have k24 := rng32 (own_iat (own_iv x1 (12 : Int32)) (own_iv x1 (16 : Int32)) (own_iv x1 (20 : Int32)) A)
            have k25 : ¬ (own_iat (own_iv x1 (12 : Int32)) (own_iv x1 (16 : Int32)) (own_iv x1 (20 : Int32)) B).toInt < (own_iat (own_iv x1 (12 : Int32)) (own_iv x1 (16 : Int32)) (own_iv x1 (20 : Int32)) A).toInt := fun z => hc431 (Int32.lt_iff_toInt_lt.mpr z)
            have k26 : W.toInt < (3 : Int32).toInt := Int32.lt_iff_toInt_lt.mp hc441
            omega
          · refine Goes.to (fun _ k => XS.icmpNo X391.here hx rfl (hb hby at_344) rfl (flt hc441).1 k) ?_
            show Goes p.tables e below (T391.setTop (mkF m 347 #[.val (.int x0), .val (.long x1), .second, .val (.int W), .val (.int A), .val (.int B), .val (.ref b1), .val (.ref b18), .val (.ref b43), .val (.ref b78), .val (.ref b118), .val (.ref b164), .val (.ref b349), .val (.int (0 : Int32)), .val (.int (0 : Int32)), .unset, .unset] [])) _
            refine Goes.to (fun _ k => XS.aload X391.here hx rfl (hb hby at_347) rfl rfl k) ?_
            show Goes p.tables e below (T391.setTop (mkF m 349 #[.val (.int x0), .val (.long x1), .second, .val (.int W), .val (.int A), .val (.int B), .val (.ref b1), .val (.ref b18), .val (.ref b43), .val (.ref b78), .val (.ref b118), .val (.ref b164), .val (.ref b349), .val (.int (0 : Int32)), .val (.int (0 : Int32)), .unset, .unset] [(.ref b164)])) _
            refine Goes.to (fun _ k => XS.iload X391.here hx rfl (hb hby at_349) rfl k) ?_
            show Goes p.tables e below (T391.setTop (mkF m 351 #[.val (.int x0), .val (.long x1), .second, .val (.int W), .val (.int A), .val (.int B), .val (.ref b1), .val (.ref b18), .val (.ref b43), .val (.ref b78), .val (.ref b118), .val (.ref b164), .val (.ref b349), .val (.int (0 : Int32)), .val (.int (0 : Int32)), .unset, .unset] [(.int A), (.ref b164)])) _
            obtain ⟨cl442, Ar442, q442, S442, N442, H442, G442⟩ := id F400
            have hin442 : ¬ (A < 0 ∨ cl442.slots.size ≤ (A).toNatClampNeg) := by
              have k1 := rng32 A
              have k2 : (0 : Int32).toInt = 0 := rfl
              have k3 : ¬ A.toInt < (0 : Int32).toInt := fun z => hA0 (Int32.lt_iff_toInt_lt.mpr z)
              have k4 : (3 : Int32).toInt = 3 := rfl
              have k5 : A.toInt < (3 : Int32).toInt := Int32.lt_iff_toInt_lt.mp hA1
              have k6 := rng32 B
              have k7 : ¬ B.toInt < (0 : Int32).toInt := fun z => hB0 (Int32.lt_iff_toInt_lt.mpr z)
              have k8 : B.toInt < (3 : Int32).toInt := Int32.lt_iff_toInt_lt.mp hB1
              have k9 := rng32 x0
              have k10 : (x0 &&& (3 : Int32)).toInt = x0.toInt % 4 := c_mask x0 (3 : Int32) 2 (by decide) (by decide)
              have k11 := rng32 W
              have k12 : (x0 &&& (3 : Int32)).toInt = W.toInt := congrArg Int32.toInt hnm_W
              have k13 : ¬ W.toInt = (0 : Int32).toInt := fun z => Ph377_44 (Int32.toInt_inj.mp z)
              have k14 : (1 : Int32).toInt = 1 := rfl
              have k15 : ¬ W.toInt = (1 : Int32).toInt := fun z => Ph377_45 (Int32.toInt_inj.mp z)
              have k16 : (2 : Int32).toInt = 2 := rfl
              have k17 : ¬ W.toInt = (2 : Int32).toInt := fun z => Ph377_46 (Int32.toInt_inj.mp z)
              have k18 : ¬ W.toInt < (1 : Int32).toInt := fun z => hc402 (Int32.lt_iff_toInt_lt.mpr z)
              have k19 := rng32 (own_iat (own_iv x1 (0 : Int32)) (own_iv x1 (4 : Int32)) (own_iv x1 (8 : Int32)) B)
              have k20 := rng32 (own_iat (own_iv x1 (0 : Int32)) (own_iv x1 (4 : Int32)) (own_iv x1 (8 : Int32)) A)
              have k21 : ¬ (own_iat (own_iv x1 (0 : Int32)) (own_iv x1 (4 : Int32)) (own_iv x1 (8 : Int32)) B).toInt < (own_iat (own_iv x1 (0 : Int32)) (own_iv x1 (4 : Int32)) (own_iv x1 (8 : Int32)) A).toInt := fun z => hc405 (Int32.lt_iff_toInt_lt.mpr z)
              have k22 : ¬ W.toInt < (2 : Int32).toInt := fun z => hc428 (Int32.lt_iff_toInt_lt.mpr z)
              have k23 := rng32 (own_iat (own_iv x1 (12 : Int32)) (own_iv x1 (16 : Int32)) (own_iv x1 (20 : Int32)) B)
              have k24 := rng32 (own_iat (own_iv x1 (12 : Int32)) (own_iv x1 (16 : Int32)) (own_iv x1 (20 : Int32)) A)
              have k25 : ¬ (own_iat (own_iv x1 (12 : Int32)) (own_iv x1 (16 : Int32)) (own_iv x1 (20 : Int32)) B).toInt < (own_iat (own_iv x1 (12 : Int32)) (own_iv x1 (16 : Int32)) (own_iv x1 (20 : Int32)) A).toInt := fun z => hc431 (Int32.lt_iff_toInt_lt.mpr z)
              have k26 : ¬ W.toInt < (3 : Int32).toInt := fun z => hc441 (Int32.lt_iff_toInt_lt.mpr z)
              refine inb_of S442 ⟨fun hq => ?_, Int32.lt_iff_toInt_lt.mpr ?_⟩
              · have hq' := Int32.lt_iff_toInt_lt.mp hq
                omega
              · omega
            have hat442 : cl442.slots[(A).toNatClampNeg]? = some (.int (own_iat (own_iv x1 (24 : Int32)) (own_iv x1 (28 : Int32)) (own_iv x1 (32 : Int32)) A)) := Has.at H442 hin442 (own_iat_eq (own_iv x1 (24 : Int32)) (own_iv x1 (28 : Int32)) (own_iv x1 (32 : Int32)) A)
            refine Goes.to (fun _ k => X391.iaload hx (j := A) (v := (.int (own_iat (own_iv x1 (24 : Int32)) (own_iv x1 (28 : Int32)) (own_iv x1 (32 : Int32)) A))) Ar442.1 (State.isArrayOf_alike hZ.alike Ar442.2.1) Ar442.2.2 hin442 hat442 (g := (mkF m 351 #[.val (.int x0), .val (.long x1), .second, .val (.int W), .val (.int A), .val (.int B), .val (.ref b1), .val (.ref b18), .val (.ref b43), .val (.ref b78), .val (.ref b118), .val (.ref b164), .val (.ref b349), .val (.int (0 : Int32)), .val (.int (0 : Int32)), .unset, .unset] [(.int A), (.ref b164)])) rfl rfl (hb hby at_351) _ k) ?_
            show Goes p.tables e below (T391.setTop (mkF m 352 #[.val (.int x0), .val (.long x1), .second, .val (.int W), .val (.int A), .val (.int B), .val (.ref b1), .val (.ref b18), .val (.ref b43), .val (.ref b78), .val (.ref b118), .val (.ref b164), .val (.ref b349), .val (.int (0 : Int32)), .val (.int (0 : Int32)), .unset, .unset] [(.int (own_iat (own_iv x1 (24 : Int32)) (own_iv x1 (28 : Int32)) (own_iv x1 (32 : Int32)) A))])) _
            refine Goes.to (fun _ k => XS.aload X391.here hx rfl (hb hby at_352) rfl rfl k) ?_
            exact own_pt_own_rm0_443 l Z a0 hw ws x0 x1 h0 n0 Z0  Bd hml0 hh hZ b1 k1 b18 k18 b43 k43 b78 k78 b118 k118 b164 k164 b349 k349 W A B T391 _  T391.heap X391 rfl N391 Z391  F392 F393 F394 F395 F396 F397 F398 F399 F400 V391 Pg377_10 Pn377_11 Pg377_12 Pn377_13 Pn377_14 Pg377_15 Pn377_16 Pn377_17 Pn377_18 Pg377_19 Pn377_20 Pn377_21 Pn377_22 Pn377_23 Pg377_24 Pn377_25 Pn377_26 Pn377_27 Pn377_28 Pn377_29 Pg377_30 Po377_31 Pn377_32 Pn377_33 Pn377_34 Pn377_35 Pn377_36 Pn377_37 Pg377_38 hA0 hA1 hB0 hB1 hnm_W Ph377_44 Ph377_45 Ph377_46 hc402 hc405 hc428 hc431 hc441
set_option maxRecDepth 65536 in
set_option maxHeartbeats 40000000 in
theorem own_pt_own_rm0_152 (l : Launch) (Z : State) (a0 : Array Value) (hw : ∀ d ∈ tables_1, d.before a0 Z = true) (ws : List Jvm.Cond) (x0 : Int32) (x1 : Int64)  (h0 : Heap) (n0 : Nat) (Z0 : n0 ≤ h0.size) 
    {p : Program} {e : Env} {s : State} {m : MethodId} {below : List Frame} {meth : Method} {c : Code} {s₁ : State} (Bd : BodyLoose p l x (head1 (Jvm.Cond.code x code maxLocals ret :: ws) room_1) code maxLocals ret e s m #[(.int x0), (.long x1)] below meth c s₁) (hml0 : c.maxLocals = maxLocals) (hh : s.heap = h0) (hZ : Z.Warmed39 s.vm)
    (b1 : Addr) (k1 : ClassId) (b18 : Addr) (k18 : ClassId) (b43 : Addr) (k43 : ClassId) (b78 : Addr) (k78 : ClassId) (b118 : Addr) (k118 : ClassId) (W : Int32) (A : Int32) (B : Int32)
    (Tpt : State) (lpt : List Loc)  (hpt : Heap)
    (Xpt : Stand p l e room_1 s m #[(.int x0), (.long x1)] below meth c Tpt lpt 5 15) (Ept : Tpt.heap = hpt) (Npt : Fr n0 lpt) (Zpt : n0 ≤ hpt.size) 
    (Pf152_0 : Exa Z hpt b1 "[D")
    (Pf152_1 : Arv Z hpt b1 k1 .double (3 : Int32) [(.double (own_dv x1 (0 : Int32))), (.double (own_dv x1 (4 : Int32))), (.double (own_dv x1 (8 : Int32)))] (.double (0 : UInt64)))
    (Pf152_2 : Exa Z hpt b18 "[D")
    (Pf152_3 : Arv Z hpt b18 k18 .double (3 : Int32) [(.double (own_dv x1 (12 : Int32))), (.double (own_dv x1 (16 : Int32))), (.double (own_dv x1 (20 : Int32)))] (.double (0 : UInt64)))
    (Pf152_4 : Exa Z hpt b43 "[D")
    (Pf152_5 : Arv Z hpt b43 k43 .double (3 : Int32) [(.double (own_dv x1 (24 : Int32))), (.double (own_dv x1 (28 : Int32))), (.double (own_dv x1 (32 : Int32)))] (.double (0 : UInt64)))
    (Pf152_6 : Arv Z hpt b78 k78 .int (3 : Int32) [(.int (own_iv x1 (0 : Int32))), (.int (own_iv x1 (4 : Int32))), (.int (own_iv x1 (8 : Int32)))] (.int (0 : Int32)))
    (Pf152_7 : Arv Z hpt b118 k118 .int (3 : Int32) [(.int (own_iv x1 (12 : Int32))), (.int (own_iv x1 (16 : Int32))), (.int (0 : Int32))] (.int (0 : Int32)))
    (Pg152_8 : n0 ≤ b1)
    (Pn152_9 : b1 ≠ b18)
    (Pg152_10 : n0 ≤ b18)
    (Pn152_11 : b1 ≠ b43)
    (Pn152_12 : b18 ≠ b43)
    (Pg152_13 : n0 ≤ b43)
    (Pn152_14 : b1 ≠ b78)
    (Pn152_15 : b18 ≠ b78)
    (Pn152_16 : b43 ≠ b78)
    (Pg152_17 : n0 ≤ b78)
    (Pn152_18 : b1 ≠ b118)
    (Pn152_19 : b18 ≠ b118)
    (Pn152_20 : b43 ≠ b118)
    (Pn152_21 : b78 ≠ b118)
    (Pg152_22 : n0 ≤ b118)
    (hA0 : ¬ (A < (0 : Int32)))
    (hA1 : A < (3 : Int32))
    (hB0 : ¬ (B < (0 : Int32)))
    (hB1 : B < (3 : Int32))
    (hnm_W : (x0 &&& (3 : Int32)) = W)
    : Goes p.tables e below (Tpt.setTop (mkF m 174 #[.val (.int x0), .val (.long x1), .second, .val (.int W), .val (.int A), .val (.int B), .val (.ref b1), .val (.ref b18), .val (.ref b43), .val (.ref b78), .unset, .unset, .unset, .unset, .unset, .unset, .unset] [(.int (2 : Int32)), (.ref b118), (.ref b118)])) (own_R below s (own_Q_own_rm0 Z x0 x1 h0 n0) 7 21) := by
  have hx := Bd.exec
  have hby := Bd.bytes
  have hml : c.maxLocals = 17 := hml0
  have hnm := (name_of_methodNamed Bd.named Bd.method).1
  have hown : s.vm.findClass "com/example/pareto4/pareto4/front/KeysNoHigherPinLaw" = some m.cls := findClass_of_methodNamed Bd.named
  show Goes p.tables e below (Tpt.setTop (mkF m 174 #[.val (.int x0), .val (.long x1), .second, .val (.int W), .val (.int A), .val (.int B), .val (.ref b1), .val (.ref b18), .val (.ref b43), .val (.ref b78), .unset, .unset, .unset, .unset, .unset, .unset, .unset] [(.int (2 : Int32)), (.ref b118), (.ref b118)])) _
  refine Goes.to (fun _ k => XS.lloadN Xpt.here hx rfl (hb hby at_174) rfl k) ?_
  show Goes p.tables e below (Tpt.setTop (mkF m 175 #[.val (.int x0), .val (.long x1), .second, .val (.int W), .val (.int A), .val (.int B), .val (.ref b1), .val (.ref b18), .val (.ref b43), .val (.ref b78), .unset, .unset, .unset, .unset, .unset, .unset, .unset] [(.long x1), (.int (2 : Int32)), (.ref b118), (.ref b118)])) _
  refine Goes.to (fun _ k => XS.bipush Xpt.here hx rfl (hb hby at_175) k) ?_
  show Goes p.tables e below (Tpt.setTop (mkF m 177 #[.val (.int x0), .val (.long x1), .second, .val (.int W), .val (.int A), .val (.int B), .val (.ref b1), .val (.ref b18), .val (.ref b43), .val (.ref b78), .unset, .unset, .unset, .unset, .unset, .unset, .unset] [(.int (20 : Int32)), (.long x1), (.int (2 : Int32)), (.ref b118), (.ref b118)])) _
  obtain ⟨_, _, ⟨T153, L153, k153, n153⟩, -, X153, ⟨Lc153, hQ153, l153, y153, z153⟩, st153⟩ := Jvm.LawKit.callS Xpt hx (y := (⟨"com/example/pareto4/pareto4/front/KeysNoHigherPinLaw", "iv", "(JI)I"⟩ : MethodName)) hown (mvT hZ (hw _ (List.mem_of_getElem? (i := 7) rfl))) (mvT hZ (hw _ (List.mem_of_getElem? (i := 8) rfl))) (mvT hZ (hw _ (List.mem_of_getElem? (i := 3) rfl))) (mvT hZ (hw _ (List.mem_of_getElem? (i := 9) rfl))) (by decide) (backOf (W := 3) (own_rm2 l Z a0 hw [] x1 (20 : Int32) hpt n0 Zpt ) hZ (hw _ (List.mem_of_getElem? (i := 9) rfl)) (hw _ (List.mem_of_getElem? (i := 3) rfl)) (by decide) (by decide)) (g := (mkF m 177 #[.val (.int x0), .val (.long x1), .second, .val (.int W), .val (.int A), .val (.int B), .val (.ref b1), .val (.ref b18), .val (.ref b43), .val (.ref b78), .unset, .unset, .unset, .unset, .unset, .unset, .unset] [(.int (20 : Int32)), (.long x1), (.int (2 : Int32)), (.ref b118), (.ref b118)])) rfl (by rw [hml]; rfl) (argsL := [(.long x1), (.int (20 : Int32))]) (rest := [(.int (2 : Int32)), (.ref b118), (.ref b118)]) (lenOf own_pd_pJIqI rfl) rfl (by show 2 * 0 + _ ≤ _; exact Nat.le_of_eq rfl) (hb hby at_177) (fun _ _ => ⟨rfl, Ept, (by decide : 5 + 0 ≤ _), (by decide : 15 + 0 ≤ _)⟩)
  dsimp only [Pt.U, Pt.locs, Pt.cells, Pt.slots] at X153 l153 y153 z153 st153 hQ153
  subst l153 y153 z153
  obtain ⟨hv153, Nq153, hp153_0⟩ := hQ153
  have N153 := Fr.app Npt Nq153
  subst hv153
  refine Goes.to st153 ?_
  show Goes p.tables e below (T153.setTop (mkF m 180 #[.val (.int x0), .val (.long x1), .second, .val (.int W), .val (.int A), .val (.int B), .val (.ref b1), .val (.ref b18), .val (.ref b43), .val (.ref b78), .unset, .unset, .unset, .unset, .unset, .unset, .unset] [(.int (own_iv x1 (20 : Int32))), (.int (2 : Int32)), (.ref b118), (.ref b118)])) _
  obtain ⟨cl154, Ar154, q154, S154, N154, H154, G154⟩ := id Pf152_7
  have hin154 : ¬ ((2 : Int32) < 0 ∨ cl154.slots.size ≤ ((2 : Int32)).toNatClampNeg) := inb_of S154 ⟨by decide, by decide⟩
  obtain ⟨T155, h155, X155, e155, W155, st155⟩ := stI X153 hx hZ hp153_0 Ar154 (j := (2 : Int32)) hin154 (g := (mkF m 180 #[.val (.int x0), .val (.long x1), .second, .val (.int W), .val (.int A), .val (.int B), .val (.ref b1), .val (.ref b18), .val (.ref b43), .val (.ref b78), .unset, .unset, .unset, .unset, .unset, .unset, .unset] [(.int (own_iv x1 (20 : Int32))), (.int (2 : Int32)), (.ref b118), (.ref b118)])) rfl rfl (hb hby at_180)
  subst e155
  have F156 := Pf152_0.wr W155
  have F157 := Pf152_1.other W155 Pn152_18
  have F158 := Pf152_2.wr W155
  have F159 := Pf152_3.other W155 Pn152_19
  have F160 := Pf152_4.wr W155
  have F161 := Pf152_5.other W155 Pn152_20
  have F162 := Pf152_6.other W155 Pn152_21
  have N155 := Fr.snoc X155 N153 Pg152_22
  have Z155 : n0 ≤ T155.heap.size := Nat.le_trans Zpt (Nat.le_of_eq W155.size.symm)
  have V155 : Arv Z T155.heap b118 k118 .int (3 : Int32) [(.int (own_iv x1 (12 : Int32))), (.int (own_iv x1 (16 : Int32))), (.int (own_iv x1 (20 : Int32)))] (.int (0 : Int32)) := Arv.set Ar154 q154 S154 N154 H154 G154 rfl W155 2 rfl (Nat.le_of_ble_eq_true rfl)
  refine Goes.to st155 ?_
  show Goes p.tables e below (T155.setTop (mkF m 181 #[.val (.int x0), .val (.long x1), .second, .val (.int W), .val (.int A), .val (.int B), .val (.ref b1), .val (.ref b18), .val (.ref b43), .val (.ref b78), .unset, .unset, .unset, .unset, .unset, .unset, .unset] [(.ref b118)])) _
  refine Goes.to (fun _ k => XS.astore X155.here hx rfl (hb hby at_181) rfl rfl (l' := #[.val (.int x0), .val (.long x1), .second, .val (.int W), .val (.int A), .val (.int B), .val (.ref b1), .val (.ref b18), .val (.ref b43), .val (.ref b78), .val (.ref b118), .unset, .unset, .unset, .unset, .unset, .unset]) rfl k) ?_
  show Goes p.tables e below (T155.setTop (mkF m 183 #[.val (.int x0), .val (.long x1), .second, .val (.int W), .val (.int A), .val (.int B), .val (.ref b1), .val (.ref b18), .val (.ref b43), .val (.ref b78), .val (.ref b118), .unset, .unset, .unset, .unset, .unset, .unset] [])) _
  refine Goes.to (fun _ k => XS.iconst X155.here hx rfl (hb hby at_183) k) ?_
  show Goes p.tables e below (T155.setTop (mkF m 184 #[.val (.int x0), .val (.long x1), .second, .val (.int W), .val (.int A), .val (.int B), .val (.ref b1), .val (.ref b18), .val (.ref b43), .val (.ref b78), .val (.ref b118), .unset, .unset, .unset, .unset, .unset, .unset] [(.int (3 : Int32))])) _
  obtain ⟨T164, h164, k164, X164, e164, E164, A164, st164⟩ := newP X155 hx hZ (hw _ (List.mem_of_getElem? (i := 6) rfl)) rfl (g := (mkF m 184 #[.val (.int x0), .val (.long x1), .second, .val (.int W), .val (.int A), .val (.int B), .val (.ref b1), .val (.ref b18), .val (.ref b43), .val (.ref b78), .val (.ref b118), .unset, .unset, .unset, .unset, .unset, .unset] [(.int (3 : Int32))])) rfl (hb hby at_184) rfl (by decide) (cap := 3) (by decide) (by decide) (by decide) (by decide)
  obtain ⟨b164, g164⟩ : ∃ z, z = T155.heap.size := ⟨_, rfl⟩
  rw [← g164] at A164 st164
  subst e164
  have ne165 : b1 ≠ b164 := Nat.ne_of_lt (Nat.lt_of_lt_of_le F156.lt (Nat.le_of_eq g164.symm))
  have ne166 : b18 ≠ b164 := Nat.ne_of_lt (Nat.lt_of_lt_of_le F158.lt (Nat.le_of_eq g164.symm))
  have ne167 : b43 ≠ b164 := Nat.ne_of_lt (Nat.lt_of_lt_of_le F160.lt (Nat.le_of_eq g164.symm))
  have ne168 : b78 ≠ b164 := Nat.ne_of_lt (Nat.lt_of_lt_of_le F162.lt (Nat.le_of_eq g164.symm))
  have ne169 : b118 ≠ b164 := Nat.ne_of_lt (Nat.lt_of_lt_of_le V155.lt (Nat.le_of_eq g164.symm))
  have F170 := F156.ext E164
  have F171 := F157.ext E164
  have F172 := F158.ext E164
  have F173 := F159.ext E164
  have F174 := F160.ext E164
  have F175 := F161.ext E164
  have F176 := F162.ext E164
  have F177 := V155.ext E164
  have g_b164 : n0 ≤ b164 := Nat.le_trans Z155 (Nat.le_of_eq g164.symm)
  have Z164 : n0 ≤ T164.heap.size := Nat.le_trans Z155 E164.1
  have V164 : Arv Z T164.heap b164 k164 .int (3 : Int32) [(.int (0 : Int32)), (.int (0 : Int32)), (.int (0 : Int32))] (.int (0 : Int32)) := (Arv.new A164 (by decide)).pad (pad_rep [] (.int (0 : Int32)) 3)
  refine Goes.to st164 ?_
  show Goes p.tables e below (T164.setTop (mkF m 186 #[.val (.int x0), .val (.long x1), .second, .val (.int W), .val (.int A), .val (.int B), .val (.ref b1), .val (.ref b18), .val (.ref b43), .val (.ref b78), .val (.ref b118), .unset, .unset, .unset, .unset, .unset, .unset] [(.ref b164)])) _
  refine Goes.to (fun _ k => XS.dup X164.here hx rfl (hb hby at_186) rfl rfl k) ?_
  show Goes p.tables e below (T164.setTop (mkF m 187 #[.val (.int x0), .val (.long x1), .second, .val (.int W), .val (.int A), .val (.int B), .val (.ref b1), .val (.ref b18), .val (.ref b43), .val (.ref b78), .val (.ref b118), .unset, .unset, .unset, .unset, .unset, .unset] [(.ref b164), (.ref b164)])) _
  refine Goes.to (fun _ k => XS.iconst X164.here hx rfl (hb hby at_187) k) ?_
  show Goes p.tables e below (T164.setTop (mkF m 188 #[.val (.int x0), .val (.long x1), .second, .val (.int W), .val (.int A), .val (.int B), .val (.ref b1), .val (.ref b18), .val (.ref b43), .val (.ref b78), .val (.ref b118), .unset, .unset, .unset, .unset, .unset, .unset] [(.int (0 : Int32)), (.ref b164), (.ref b164)])) _
  refine Goes.to (fun _ k => XS.lloadN X164.here hx rfl (hb hby at_188) rfl k) ?_
  show Goes p.tables e below (T164.setTop (mkF m 189 #[.val (.int x0), .val (.long x1), .second, .val (.int W), .val (.int A), .val (.int B), .val (.ref b1), .val (.ref b18), .val (.ref b43), .val (.ref b78), .val (.ref b118), .unset, .unset, .unset, .unset, .unset, .unset] [(.long x1), (.int (0 : Int32)), (.ref b164), (.ref b164)])) _
  refine Goes.to (fun _ k => XS.bipush X164.here hx rfl (hb hby at_189) k) ?_
  show Goes p.tables e below (T164.setTop (mkF m 191 #[.val (.int x0), .val (.long x1), .second, .val (.int W), .val (.int A), .val (.int B), .val (.ref b1), .val (.ref b18), .val (.ref b43), .val (.ref b78), .val (.ref b118), .unset, .unset, .unset, .unset, .unset, .unset] [(.int (24 : Int32)), (.long x1), (.int (0 : Int32)), (.ref b164), (.ref b164)])) _
  obtain ⟨_, _, ⟨T178, L178, k178, n178⟩, -, X178, ⟨Lc178, hQ178, l178, y178, z178⟩, st178⟩ := Jvm.LawKit.callS X164 hx (y := (⟨"com/example/pareto4/pareto4/front/KeysNoHigherPinLaw", "iv", "(JI)I"⟩ : MethodName)) hown (mvT hZ (hw _ (List.mem_of_getElem? (i := 7) rfl))) (mvT hZ (hw _ (List.mem_of_getElem? (i := 8) rfl))) (mvT hZ (hw _ (List.mem_of_getElem? (i := 3) rfl))) (mvT hZ (hw _ (List.mem_of_getElem? (i := 9) rfl))) (by decide) (backOf (W := 3) (own_rm2 l Z a0 hw [] x1 (24 : Int32) T164.heap n0 Z164 ) hZ (hw _ (List.mem_of_getElem? (i := 9) rfl)) (hw _ (List.mem_of_getElem? (i := 3) rfl)) (by decide) (by decide)) (g := (mkF m 191 #[.val (.int x0), .val (.long x1), .second, .val (.int W), .val (.int A), .val (.int B), .val (.ref b1), .val (.ref b18), .val (.ref b43), .val (.ref b78), .val (.ref b118), .unset, .unset, .unset, .unset, .unset, .unset] [(.int (24 : Int32)), (.long x1), (.int (0 : Int32)), (.ref b164), (.ref b164)])) rfl (by rw [hml]; rfl) (argsL := [(.long x1), (.int (24 : Int32))]) (rest := [(.int (0 : Int32)), (.ref b164), (.ref b164)]) (lenOf own_pd_pJIqI rfl) rfl (by show 2 * 0 + _ ≤ _; exact Nat.le_of_eq rfl) (hb hby at_191) (fun _ _ => ⟨rfl, rfl, (by decide : 6 + 0 ≤ _), (by decide : 18 + 0 ≤ _)⟩)
  dsimp only [Pt.U, Pt.locs, Pt.cells, Pt.slots] at X178 l178 y178 z178 st178 hQ178
  subst l178 y178 z178
  obtain ⟨hv178, Nq178, hp178_0⟩ := hQ178
  have N178 := Fr.app N155 Nq178
  subst hv178
  refine Goes.to st178 ?_
  show Goes p.tables e below (T178.setTop (mkF m 194 #[.val (.int x0), .val (.long x1), .second, .val (.int W), .val (.int A), .val (.int B), .val (.ref b1), .val (.ref b18), .val (.ref b43), .val (.ref b78), .val (.ref b118), .unset, .unset, .unset, .unset, .unset, .unset] [(.int (own_iv x1 (24 : Int32))), (.int (0 : Int32)), (.ref b164), (.ref b164)])) _
  obtain ⟨cl179, Ar179, q179, S179, N179, H179, G179⟩ := id V164
  have hin179 : ¬ ((0 : Int32) < 0 ∨ cl179.slots.size ≤ ((0 : Int32)).toNatClampNeg) := inb_of S179 ⟨by decide, by decide⟩
  obtain ⟨T180, h180, X180, e180, W180, st180⟩ := stI X178 hx hZ hp178_0 Ar179 (j := (0 : Int32)) hin179 (g := (mkF m 194 #[.val (.int x0), .val (.long x1), .second, .val (.int W), .val (.int A), .val (.int B), .val (.ref b1), .val (.ref b18), .val (.ref b43), .val (.ref b78), .val (.ref b118), .unset, .unset, .unset, .unset, .unset, .unset] [(.int (own_iv x1 (24 : Int32))), (.int (0 : Int32)), (.ref b164), (.ref b164)])) rfl rfl (hb hby at_194)
  subst e180
  have F181 := F170.wr W180
  have F182 := F171.other W180 ne165
  have F183 := F172.wr W180
  have F184 := F173.other W180 ne166
  have F185 := F174.wr W180
  have F186 := F175.other W180 ne167
  have F187 := F176.other W180 ne168
  have F188 := F177.other W180 ne169
  have N180 := Fr.snoc X180 N178 g_b164
  have Z180 : n0 ≤ T180.heap.size := Nat.le_trans Z164 (Nat.le_of_eq W180.size.symm)
  have V180 : Arv Z T180.heap b164 k164 .int (3 : Int32) [(.int (own_iv x1 (24 : Int32))), (.int (0 : Int32)), (.int (0 : Int32))] (.int (0 : Int32)) := Arv.set Ar179 q179 S179 N179 H179 G179 rfl W180 0 rfl (Nat.le_of_ble_eq_true rfl)
  refine Goes.to st180 ?_
  show Goes p.tables e below (T180.setTop (mkF m 195 #[.val (.int x0), .val (.long x1), .second, .val (.int W), .val (.int A), .val (.int B), .val (.ref b1), .val (.ref b18), .val (.ref b43), .val (.ref b78), .val (.ref b118), .unset, .unset, .unset, .unset, .unset, .unset] [(.ref b164)])) _
  refine Goes.to (fun _ k => XS.dup X180.here hx rfl (hb hby at_195) rfl rfl k) ?_
  show Goes p.tables e below (T180.setTop (mkF m 196 #[.val (.int x0), .val (.long x1), .second, .val (.int W), .val (.int A), .val (.int B), .val (.ref b1), .val (.ref b18), .val (.ref b43), .val (.ref b78), .val (.ref b118), .unset, .unset, .unset, .unset, .unset, .unset] [(.ref b164), (.ref b164)])) _
  refine Goes.to (fun _ k => XS.iconst X180.here hx rfl (hb hby at_196) k) ?_
  show Goes p.tables e below (T180.setTop (mkF m 197 #[.val (.int x0), .val (.long x1), .second, .val (.int W), .val (.int A), .val (.int B), .val (.ref b1), .val (.ref b18), .val (.ref b43), .val (.ref b78), .val (.ref b118), .unset, .unset, .unset, .unset, .unset, .unset] [(.int (1 : Int32)), (.ref b164), (.ref b164)])) _
  refine Goes.to (fun _ k => XS.lloadN X180.here hx rfl (hb hby at_197) rfl k) ?_
  show Goes p.tables e below (T180.setTop (mkF m 198 #[.val (.int x0), .val (.long x1), .second, .val (.int W), .val (.int A), .val (.int B), .val (.ref b1), .val (.ref b18), .val (.ref b43), .val (.ref b78), .val (.ref b118), .unset, .unset, .unset, .unset, .unset, .unset] [(.long x1), (.int (1 : Int32)), (.ref b164), (.ref b164)])) _
  refine Goes.to (fun _ k => XS.bipush X180.here hx rfl (hb hby at_198) k) ?_
  show Goes p.tables e below (T180.setTop (mkF m 200 #[.val (.int x0), .val (.long x1), .second, .val (.int W), .val (.int A), .val (.int B), .val (.ref b1), .val (.ref b18), .val (.ref b43), .val (.ref b78), .val (.ref b118), .unset, .unset, .unset, .unset, .unset, .unset] [(.int (28 : Int32)), (.long x1), (.int (1 : Int32)), (.ref b164), (.ref b164)])) _
  obtain ⟨_, _, ⟨T190, L190, k190, n190⟩, -, X190, ⟨Lc190, hQ190, l190, y190, z190⟩, st190⟩ := Jvm.LawKit.callS X180 hx (y := (⟨"com/example/pareto4/pareto4/front/KeysNoHigherPinLaw", "iv", "(JI)I"⟩ : MethodName)) hown (mvT hZ (hw _ (List.mem_of_getElem? (i := 7) rfl))) (mvT hZ (hw _ (List.mem_of_getElem? (i := 8) rfl))) (mvT hZ (hw _ (List.mem_of_getElem? (i := 3) rfl))) (mvT hZ (hw _ (List.mem_of_getElem? (i := 9) rfl))) (by decide) (backOf (W := 3) (own_rm2 l Z a0 hw [] x1 (28 : Int32) T180.heap n0 Z180 ) hZ (hw _ (List.mem_of_getElem? (i := 9) rfl)) (hw _ (List.mem_of_getElem? (i := 3) rfl)) (by decide) (by decide)) (g := (mkF m 200 #[.val (.int x0), .val (.long x1), .second, .val (.int W), .val (.int A), .val (.int B), .val (.ref b1), .val (.ref b18), .val (.ref b43), .val (.ref b78), .val (.ref b118), .unset, .unset, .unset, .unset, .unset, .unset] [(.int (28 : Int32)), (.long x1), (.int (1 : Int32)), (.ref b164), (.ref b164)])) rfl (by rw [hml]; rfl) (argsL := [(.long x1), (.int (28 : Int32))]) (rest := [(.int (1 : Int32)), (.ref b164), (.ref b164)]) (lenOf own_pd_pJIqI rfl) rfl (by show 2 * 0 + _ ≤ _; exact Nat.le_of_eq rfl) (hb hby at_200) (fun _ _ => ⟨rfl, rfl, (by decide : 6 + 0 ≤ _), (by decide : 18 + 0 ≤ _)⟩)
  dsimp only [Pt.U, Pt.locs, Pt.cells, Pt.slots] at X190 l190 y190 z190 st190 hQ190
  subst l190 y190 z190
  obtain ⟨hv190, Nq190, hp190_0⟩ := hQ190
  have N190 := Fr.app N180 Nq190
  subst hv190
  refine Goes.to st190 ?_
  show Goes p.tables e below (T190.setTop (mkF m 203 #[.val (.int x0), .val (.long x1), .second, .val (.int W), .val (.int A), .val (.int B), .val (.ref b1), .val (.ref b18), .val (.ref b43), .val (.ref b78), .val (.ref b118), .unset, .unset, .unset, .unset, .unset, .unset] [(.int (own_iv x1 (28 : Int32))), (.int (1 : Int32)), (.ref b164), (.ref b164)])) _
  obtain ⟨cl191, Ar191, q191, S191, N191, H191, G191⟩ := id V180
  have hin191 : ¬ ((1 : Int32) < 0 ∨ cl191.slots.size ≤ ((1 : Int32)).toNatClampNeg) := inb_of S191 ⟨by decide, by decide⟩
  obtain ⟨T192, h192, X192, e192, W192, st192⟩ := stI X190 hx hZ hp190_0 Ar191 (j := (1 : Int32)) hin191 (g := (mkF m 203 #[.val (.int x0), .val (.long x1), .second, .val (.int W), .val (.int A), .val (.int B), .val (.ref b1), .val (.ref b18), .val (.ref b43), .val (.ref b78), .val (.ref b118), .unset, .unset, .unset, .unset, .unset, .unset] [(.int (own_iv x1 (28 : Int32))), (.int (1 : Int32)), (.ref b164), (.ref b164)])) rfl rfl (hb hby at_203)
  subst e192
  have F193 := F181.wr W192
  have F194 := F182.other W192 ne165
  have F195 := F183.wr W192
  have F196 := F184.other W192 ne166
  have F197 := F185.wr W192
  have F198 := F186.other W192 ne167
  have F199 := F187.other W192 ne168
  have F200 := F188.other W192 ne169
  have N192 := Fr.snoc X192 N190 g_b164
  have Z192 : n0 ≤ T192.heap.size := Nat.le_trans Z180 (Nat.le_of_eq W192.size.symm)
  have V192 : Arv Z T192.heap b164 k164 .int (3 : Int32) [(.int (own_iv x1 (24 : Int32))), (.int (own_iv x1 (28 : Int32))), (.int (0 : Int32))] (.int (0 : Int32)) := Arv.set Ar191 q191 S191 N191 H191 G191 rfl W192 1 rfl (Nat.le_of_ble_eq_true rfl)
  refine Goes.to st192 ?_
  show Goes p.tables e below (T192.setTop (mkF m 204 #[.val (.int x0), .val (.long x1), .second, .val (.int W), .val (.int A), .val (.int B), .val (.ref b1), .val (.ref b18), .val (.ref b43), .val (.ref b78), .val (.ref b118), .unset, .unset, .unset, .unset, .unset, .unset] [(.ref b164)])) _
  refine Goes.to (fun _ k => XS.dup X192.here hx rfl (hb hby at_204) rfl rfl k) ?_
  show Goes p.tables e below (T192.setTop (mkF m 205 #[.val (.int x0), .val (.long x1), .second, .val (.int W), .val (.int A), .val (.int B), .val (.ref b1), .val (.ref b18), .val (.ref b43), .val (.ref b78), .val (.ref b118), .unset, .unset, .unset, .unset, .unset, .unset] [(.ref b164), (.ref b164)])) _
  refine Goes.to (fun _ k => XS.iconst X192.here hx rfl (hb hby at_205) k) ?_
  show Goes p.tables e below (T192.setTop (mkF m 206 #[.val (.int x0), .val (.long x1), .second, .val (.int W), .val (.int A), .val (.int B), .val (.ref b1), .val (.ref b18), .val (.ref b43), .val (.ref b78), .val (.ref b118), .unset, .unset, .unset, .unset, .unset, .unset] [(.int (2 : Int32)), (.ref b164), (.ref b164)])) _
  refine Goes.to (fun _ k => XS.lloadN X192.here hx rfl (hb hby at_206) rfl k) ?_
  show Goes p.tables e below (T192.setTop (mkF m 207 #[.val (.int x0), .val (.long x1), .second, .val (.int W), .val (.int A), .val (.int B), .val (.ref b1), .val (.ref b18), .val (.ref b43), .val (.ref b78), .val (.ref b118), .unset, .unset, .unset, .unset, .unset, .unset] [(.long x1), (.int (2 : Int32)), (.ref b164), (.ref b164)])) _
  refine Goes.to (fun _ k => XS.bipush X192.here hx rfl (hb hby at_207) k) ?_
  show Goes p.tables e below (T192.setTop (mkF m 209 #[.val (.int x0), .val (.long x1), .second, .val (.int W), .val (.int A), .val (.int B), .val (.ref b1), .val (.ref b18), .val (.ref b43), .val (.ref b78), .val (.ref b118), .unset, .unset, .unset, .unset, .unset, .unset] [(.int (32 : Int32)), (.long x1), (.int (2 : Int32)), (.ref b164), (.ref b164)])) _
  obtain ⟨_, _, ⟨T202, L202, k202, n202⟩, -, X202, ⟨Lc202, hQ202, l202, y202, z202⟩, st202⟩ := Jvm.LawKit.callS X192 hx (y := (⟨"com/example/pareto4/pareto4/front/KeysNoHigherPinLaw", "iv", "(JI)I"⟩ : MethodName)) hown (mvT hZ (hw _ (List.mem_of_getElem? (i := 7) rfl))) (mvT hZ (hw _ (List.mem_of_getElem? (i := 8) rfl))) (mvT hZ (hw _ (List.mem_of_getElem? (i := 3) rfl))) (mvT hZ (hw _ (List.mem_of_getElem? (i := 9) rfl))) (by decide) (backOf (W := 3) (own_rm2 l Z a0 hw [] x1 (32 : Int32) T192.heap n0 Z192 ) hZ (hw _ (List.mem_of_getElem? (i := 9) rfl)) (hw _ (List.mem_of_getElem? (i := 3) rfl)) (by decide) (by decide)) (g := (mkF m 209 #[.val (.int x0), .val (.long x1), .second, .val (.int W), .val (.int A), .val (.int B), .val (.ref b1), .val (.ref b18), .val (.ref b43), .val (.ref b78), .val (.ref b118), .unset, .unset, .unset, .unset, .unset, .unset] [(.int (32 : Int32)), (.long x1), (.int (2 : Int32)), (.ref b164), (.ref b164)])) rfl (by rw [hml]; rfl) (argsL := [(.long x1), (.int (32 : Int32))]) (rest := [(.int (2 : Int32)), (.ref b164), (.ref b164)]) (lenOf own_pd_pJIqI rfl) rfl (by show 2 * 0 + _ ≤ _; exact Nat.le_of_eq rfl) (hb hby at_209) (fun _ _ => ⟨rfl, rfl, (by decide : 6 + 0 ≤ _), (by decide : 18 + 0 ≤ _)⟩)
  dsimp only [Pt.U, Pt.locs, Pt.cells, Pt.slots] at X202 l202 y202 z202 st202 hQ202
  subst l202 y202 z202
  obtain ⟨hv202, Nq202, hp202_0⟩ := hQ202
  have N202 := Fr.app N192 Nq202
  subst hv202
  refine Goes.to st202 ?_
  show Goes p.tables e below (T202.setTop (mkF m 212 #[.val (.int x0), .val (.long x1), .second, .val (.int W), .val (.int A), .val (.int B), .val (.ref b1), .val (.ref b18), .val (.ref b43), .val (.ref b78), .val (.ref b118), .unset, .unset, .unset, .unset, .unset, .unset] [(.int (own_iv x1 (32 : Int32))), (.int (2 : Int32)), (.ref b164), (.ref b164)])) _
  obtain ⟨cl203, Ar203, q203, S203, N203, H203, G203⟩ := id V192
  have hin203 : ¬ ((2 : Int32) < 0 ∨ cl203.slots.size ≤ ((2 : Int32)).toNatClampNeg) := inb_of S203 ⟨by decide, by decide⟩
  obtain ⟨T204, h204, X204, e204, W204, st204⟩ := stI X202 hx hZ hp202_0 Ar203 (j := (2 : Int32)) hin203 (g := (mkF m 212 #[.val (.int x0), .val (.long x1), .second, .val (.int W), .val (.int A), .val (.int B), .val (.ref b1), .val (.ref b18), .val (.ref b43), .val (.ref b78), .val (.ref b118), .unset, .unset, .unset, .unset, .unset, .unset] [(.int (own_iv x1 (32 : Int32))), (.int (2 : Int32)), (.ref b164), (.ref b164)])) rfl rfl (hb hby at_212)
  subst e204
  have F205 := F193.wr W204
  have F206 := F194.other W204 ne165
  have F207 := F195.wr W204
  have F208 := F196.other W204 ne166
  have F209 := F197.wr W204
  have F210 := F198.other W204 ne167
  have F211 := F199.other W204 ne168
  have F212 := F200.other W204 ne169
  have N204 := Fr.snoc X204 N202 g_b164
  have Z204 : n0 ≤ T204.heap.size := Nat.le_trans Z192 (Nat.le_of_eq W204.size.symm)
  have V204 : Arv Z T204.heap b164 k164 .int (3 : Int32) [(.int (own_iv x1 (24 : Int32))), (.int (own_iv x1 (28 : Int32))), (.int (own_iv x1 (32 : Int32)))] (.int (0 : Int32)) := Arv.set Ar203 q203 S203 N203 H203 G203 rfl W204 2 rfl (Nat.le_of_ble_eq_true rfl)
  refine Goes.to st204 ?_
  show Goes p.tables e below (T204.setTop (mkF m 213 #[.val (.int x0), .val (.long x1), .second, .val (.int W), .val (.int A), .val (.int B), .val (.ref b1), .val (.ref b18), .val (.ref b43), .val (.ref b78), .val (.ref b118), .unset, .unset, .unset, .unset, .unset, .unset] [(.ref b164)])) _
  refine Goes.to (fun _ k => XS.astore X204.here hx rfl (hb hby at_213) rfl rfl (l' := #[.val (.int x0), .val (.long x1), .second, .val (.int W), .val (.int A), .val (.int B), .val (.ref b1), .val (.ref b18), .val (.ref b43), .val (.ref b78), .val (.ref b118), .val (.ref b164), .unset, .unset, .unset, .unset, .unset]) rfl k) ?_
  show Goes p.tables e below (T204.setTop (mkF m 215 #[.val (.int x0), .val (.long x1), .second, .val (.int W), .val (.int A), .val (.int B), .val (.ref b1), .val (.ref b18), .val (.ref b43), .val (.ref b78), .val (.ref b118), .val (.ref b164), .unset, .unset, .unset, .unset, .unset] [])) _
  refine Goes.to (fun _ k => XS.iloadN X204.here hx rfl (hb hby at_215) rfl k) ?_
  show Goes p.tables e below (T204.setTop (mkF m 216 #[.val (.int x0), .val (.long x1), .second, .val (.int W), .val (.int A), .val (.int B), .val (.ref b1), .val (.ref b18), .val (.ref b43), .val (.ref b78), .val (.ref b118), .val (.ref b164), .unset, .unset, .unset, .unset, .unset] [(.int W)])) _
  by_cases hc214 : W = (0 : Int32)
  · refine Goes.to (fun _ k => XS.ifNo X204.here hx rfl (hb hby at_216) rfl ((if0 _ _).trans (teq hc214).2) k) ?_
    show Goes p.tables e below (T204.setTop (mkF m 219 #[.val (.int x0), .val (.long x1), .second, .val (.int W), .val (.int A), .val (.int B), .val (.ref b1), .val (.ref b18), .val (.ref b43), .val (.ref b78), .val (.ref b118), .val (.ref b164), .unset, .unset, .unset, .unset, .unset] [])) _
    refine Goes.to (fun _ k => XS.iconst X204.here hx rfl (hb hby at_219) k) ?_
    show Goes p.tables e below (T204.setTop (mkF m 220 #[.val (.int x0), .val (.long x1), .second, .val (.int W), .val (.int A), .val (.int B), .val (.ref b1), .val (.ref b18), .val (.ref b43), .val (.ref b78), .val (.ref b118), .val (.ref b164), .unset, .unset, .unset, .unset, .unset] [(.int (0 : Int32))])) _
    obtain ⟨T215, h215, k215, X215, e215, E215, A215, Ex215, O215, st215⟩ := newRA X204 hx hZ hown (ty := .double) (C := "[D") (by decide) (hw _ (List.mem_of_getElem? (i := 10) rfl)) (hw _ (List.mem_of_getElem? (i := 11) rfl)) rfl (g := (mkF m 220 #[.val (.int x0), .val (.long x1), .second, .val (.int W), .val (.int A), .val (.int B), .val (.ref b1), .val (.ref b18), .val (.ref b43), .val (.ref b78), .val (.ref b118), .val (.ref b164), .unset, .unset, .unset, .unset, .unset] [(.int (0 : Int32))])) rfl (hb hby at_220) rfl (by decide) (cap := 0) (by decide) (by decide) (by decide) (by decide) (ad := "[[D") (by decide)
    obtain ⟨b215, g215⟩ : ∃ z, z = T204.heap.size := ⟨_, rfl⟩
    rw [← g215] at A215 Ex215 st215
    subst e215
    have ne216 : b1 ≠ b215 := Nat.ne_of_lt (Nat.lt_of_lt_of_le F205.lt (Nat.le_of_eq g215.symm))
    have ne217 : b18 ≠ b215 := Nat.ne_of_lt (Nat.lt_of_lt_of_le F207.lt (Nat.le_of_eq g215.symm))
    have ne218 : b43 ≠ b215 := Nat.ne_of_lt (Nat.lt_of_lt_of_le F209.lt (Nat.le_of_eq g215.symm))
    have ne219 : b78 ≠ b215 := Nat.ne_of_lt (Nat.lt_of_lt_of_le F211.lt (Nat.le_of_eq g215.symm))
    have ne220 : b118 ≠ b215 := Nat.ne_of_lt (Nat.lt_of_lt_of_le F212.lt (Nat.le_of_eq g215.symm))
    have ne221 : b164 ≠ b215 := Nat.ne_of_lt (Nat.lt_of_lt_of_le V204.lt (Nat.le_of_eq g215.symm))
    have F222 := F205.ext E215
    have F223 := F206.ext E215
    have F224 := F207.ext E215
    have F225 := F208.ext E215
    have F226 := F209.ext E215
    have F227 := F210.ext E215
    have F228 := F211.ext E215
    have F229 := F212.ext E215
    have F230 := V204.ext E215
    have g_b215 : n0 ≤ b215 := Nat.le_trans Z204 (Nat.le_of_eq g215.symm)
    have Z215 : n0 ≤ T215.heap.size := Nat.le_trans Z204 E215.1
    have V215 : Arv Z T215.heap b215 k215 (.array .double) (0 : Int32) [] .null := (Arv.new A215 (by decide)).pad (pad_rep [] .null 0)
    refine Goes.to st215 ?_
    show Goes p.tables e below (T215.setTop (mkF m 223 #[.val (.int x0), .val (.long x1), .second, .val (.int W), .val (.int A), .val (.int B), .val (.ref b1), .val (.ref b18), .val (.ref b43), .val (.ref b78), .val (.ref b118), .val (.ref b164), .unset, .unset, .unset, .unset, .unset] [(.ref b215)])) _
    refine Goes.to (fun _ k => XS.astore X215.here hx rfl (hb hby at_223) rfl rfl (l' := #[.val (.int x0), .val (.long x1), .second, .val (.int W), .val (.int A), .val (.int B), .val (.ref b1), .val (.ref b18), .val (.ref b43), .val (.ref b78), .val (.ref b118), .val (.ref b164), .val (.ref b215), .unset, .unset, .unset, .unset]) rfl k) ?_
    show Goes p.tables e below (T215.setTop (mkF m 225 #[.val (.int x0), .val (.long x1), .second, .val (.int W), .val (.int A), .val (.int B), .val (.ref b1), .val (.ref b18), .val (.ref b43), .val (.ref b78), .val (.ref b118), .val (.ref b164), .val (.ref b215), .unset, .unset, .unset, .unset] [])) _
    refine Goes.to (fun _ k => XS.goto X215.here hx rfl (pc0 := 225) (pc' := 292) rfl (hb hby at_225) (by decide) (by decide) k) ?_
    show Goes p.tables e below (T215.setTop (mkF m 292 #[.val (.int x0), .val (.long x1), .second, .val (.int W), .val (.int A), .val (.int B), .val (.ref b1), .val (.ref b18), .val (.ref b43), .val (.ref b78), .val (.ref b118), .val (.ref b164), .val (.ref b215), .unset, .unset, .unset, .unset] [])) _
    refine Goes.to (fun _ k => XS.iloadN X215.here hx rfl (hb hby at_292) rfl k) ?_
    show Goes p.tables e below (T215.setTop (mkF m 293 #[.val (.int x0), .val (.long x1), .second, .val (.int W), .val (.int A), .val (.int B), .val (.ref b1), .val (.ref b18), .val (.ref b43), .val (.ref b78), .val (.ref b118), .val (.ref b164), .val (.ref b215), .unset, .unset, .unset, .unset] [(.int W)])) _
    refine Goes.to (fun _ k => XS.iconst X215.here hx rfl (hb hby at_293) k) ?_
    show Goes p.tables e below (T215.setTop (mkF m 294 #[.val (.int x0), .val (.long x1), .second, .val (.int W), .val (.int A), .val (.int B), .val (.ref b1), .val (.ref b18), .val (.ref b43), .val (.ref b78), .val (.ref b118), .val (.ref b164), .val (.ref b215), .unset, .unset, .unset, .unset] [(.int (1 : Int32)), (.int W)])) _
    by_cases hc231 : W < (1 : Int32)
    · refine Goes.to (fun _ k => XS.icmpYes X215.here hx rfl (pc0 := 294) (pc' := 314) rfl (hb hby at_294) rfl (tlt hc231).1 (by decide) (by decide) k) ?_
      show Goes p.tables e below (T215.setTop (mkF m 314 #[.val (.int x0), .val (.long x1), .second, .val (.int W), .val (.int A), .val (.int B), .val (.ref b1), .val (.ref b18), .val (.ref b43), .val (.ref b78), .val (.ref b118), .val (.ref b164), .val (.ref b215), .unset, .unset, .unset, .unset] [])) _
      refine Goes.to (fun _ k => XS.iconst X215.here hx rfl (hb hby at_314) k) ?_
      show Goes p.tables e below (T215.setTop (mkF m 315 #[.val (.int x0), .val (.long x1), .second, .val (.int W), .val (.int A), .val (.int B), .val (.ref b1), .val (.ref b18), .val (.ref b43), .val (.ref b78), .val (.ref b118), .val (.ref b164), .val (.ref b215), .unset, .unset, .unset, .unset] [(.int (0 : Int32))])) _
      refine Goes.to (fun _ k => XS.istore X215.here hx rfl (hb hby at_315) rfl (l' := #[.val (.int x0), .val (.long x1), .second, .val (.int W), .val (.int A), .val (.int B), .val (.ref b1), .val (.ref b18), .val (.ref b43), .val (.ref b78), .val (.ref b118), .val (.ref b164), .val (.ref b215), .val (.int (0 : Int32)), .unset, .unset, .unset]) rfl k) ?_
      show Goes p.tables e below (T215.setTop (mkF m 317 #[.val (.int x0), .val (.long x1), .second, .val (.int W), .val (.int A), .val (.int B), .val (.ref b1), .val (.ref b18), .val (.ref b43), .val (.ref b78), .val (.ref b118), .val (.ref b164), .val (.ref b215), .val (.int (0 : Int32)), .unset, .unset, .unset] [])) _
      refine Goes.to (fun _ k => XS.iloadN X215.here hx rfl (hb hby at_317) rfl k) ?_
      show Goes p.tables e below (T215.setTop (mkF m 318 #[.val (.int x0), .val (.long x1), .second, .val (.int W), .val (.int A), .val (.int B), .val (.ref b1), .val (.ref b18), .val (.ref b43), .val (.ref b78), .val (.ref b118), .val (.ref b164), .val (.ref b215), .val (.int (0 : Int32)), .unset, .unset, .unset] [(.int W)])) _
      refine Goes.to (fun _ k => XS.iconst X215.here hx rfl (hb hby at_318) k) ?_
      show Goes p.tables e below (T215.setTop (mkF m 319 #[.val (.int x0), .val (.long x1), .second, .val (.int W), .val (.int A), .val (.int B), .val (.ref b1), .val (.ref b18), .val (.ref b43), .val (.ref b78), .val (.ref b118), .val (.ref b164), .val (.ref b215), .val (.int (0 : Int32)), .unset, .unset, .unset] [(.int (2 : Int32)), (.int W)])) _
      by_cases hc232 : W < (2 : Int32)
      · refine Goes.to (fun _ k => XS.icmpYes X215.here hx rfl (pc0 := 319) (pc' := 339) rfl (hb hby at_319) rfl (tlt hc232).1 (by decide) (by decide) k) ?_
        exact own_pt_own_rm0_233 l Z a0 hw ws x0 x1 h0 n0 Z0  Bd hml0 hh hZ b1 k1 b18 k18 b43 k43 b78 k78 b118 k118 b164 k164 b215 k215 W A B T215 _  T215.heap X215 rfl N204 Z215  F222 F223 F224 F225 F226 F227 F228 F229 F230 V215 Pg152_8 Pn152_9 Pg152_10 Pn152_11 Pn152_12 Pg152_13 Pn152_14 Pn152_15 Pn152_16 Pg152_17 Pn152_18 Pn152_19 Pn152_20 Pn152_21 Pg152_22 ne165 ne166 ne167 ne168 ne169 g_b164 O215 ne216 ne217 ne218 ne219 ne220 ne221 g_b215 hA0 hA1 hB0 hB1 hnm_W hc214 hc231 hc232
      · exfalso
        rw [hc214] at hc232
        exact hc232 (by decide)
    · exfalso
      rw [hc214] at hc231
      exact hc231 (by decide)
  · refine Goes.to (fun _ k => XS.ifYes X204.here hx rfl (pc0 := 216) (pc' := 228) rfl (hb hby at_216) rfl ((if0 _ _).trans (feq hc214).2) (by decide) (by decide) k) ?_
    show Goes p.tables e below (T204.setTop (mkF m 228 #[.val (.int x0), .val (.long x1), .second, .val (.int W), .val (.int A), .val (.int B), .val (.ref b1), .val (.ref b18), .val (.ref b43), .val (.ref b78), .val (.ref b118), .val (.ref b164), .unset, .unset, .unset, .unset, .unset] [])) _
    refine Goes.to (fun _ k => XS.iloadN X204.here hx rfl (hb hby at_228) rfl k) ?_
    show Goes p.tables e below (T204.setTop (mkF m 229 #[.val (.int x0), .val (.long x1), .second, .val (.int W), .val (.int A), .val (.int B), .val (.ref b1), .val (.ref b18), .val (.ref b43), .val (.ref b78), .val (.ref b118), .val (.ref b164), .unset, .unset, .unset, .unset, .unset] [(.int W)])) _
    refine Goes.to (fun _ k => XS.iconst X204.here hx rfl (hb hby at_229) k) ?_
    show Goes p.tables e below (T204.setTop (mkF m 230 #[.val (.int x0), .val (.long x1), .second, .val (.int W), .val (.int A), .val (.int B), .val (.ref b1), .val (.ref b18), .val (.ref b43), .val (.ref b78), .val (.ref b118), .val (.ref b164), .unset, .unset, .unset, .unset, .unset] [(.int (1 : Int32)), (.int W)])) _
    by_cases hc237 : W = (1 : Int32)
    · refine Goes.to (fun _ k => XS.icmpNo X204.here hx rfl (hb hby at_230) rfl (teq hc237).2 k) ?_
      show Goes p.tables e below (T204.setTop (mkF m 233 #[.val (.int x0), .val (.long x1), .second, .val (.int W), .val (.int A), .val (.int B), .val (.ref b1), .val (.ref b18), .val (.ref b43), .val (.ref b78), .val (.ref b118), .val (.ref b164), .unset, .unset, .unset, .unset, .unset] [])) _
      refine Goes.to (fun _ k => XS.iconst X204.here hx rfl (hb hby at_233) k) ?_
      show Goes p.tables e below (T204.setTop (mkF m 234 #[.val (.int x0), .val (.long x1), .second, .val (.int W), .val (.int A), .val (.int B), .val (.ref b1), .val (.ref b18), .val (.ref b43), .val (.ref b78), .val (.ref b118), .val (.ref b164), .unset, .unset, .unset, .unset, .unset] [(.int (1 : Int32))])) _
      obtain ⟨T238, h238, k238, X238, e238, E238, A238, Ex238, O238, st238⟩ := newRA X204 hx hZ hown (ty := .double) (C := "[D") (by decide) (hw _ (List.mem_of_getElem? (i := 10) rfl)) (hw _ (List.mem_of_getElem? (i := 11) rfl)) rfl (g := (mkF m 234 #[.val (.int x0), .val (.long x1), .second, .val (.int W), .val (.int A), .val (.int B), .val (.ref b1), .val (.ref b18), .val (.ref b43), .val (.ref b78), .val (.ref b118), .val (.ref b164), .unset, .unset, .unset, .unset, .unset] [(.int (1 : Int32))])) rfl (hb hby at_234) rfl (by decide) (cap := 1) (by decide) (by decide) (by decide) (by decide) (ad := "[[D") (by decide)
      obtain ⟨b238, g238⟩ : ∃ z, z = T204.heap.size := ⟨_, rfl⟩
      rw [← g238] at A238 Ex238 st238
      subst e238
      have ne239 : b1 ≠ b238 := Nat.ne_of_lt (Nat.lt_of_lt_of_le F205.lt (Nat.le_of_eq g238.symm))
      have ne240 : b18 ≠ b238 := Nat.ne_of_lt (Nat.lt_of_lt_of_le F207.lt (Nat.le_of_eq g238.symm))
      have ne241 : b43 ≠ b238 := Nat.ne_of_lt (Nat.lt_of_lt_of_le F209.lt (Nat.le_of_eq g238.symm))
      have ne242 : b78 ≠ b238 := Nat.ne_of_lt (Nat.lt_of_lt_of_le F211.lt (Nat.le_of_eq g238.symm))
      have ne243 : b118 ≠ b238 := Nat.ne_of_lt (Nat.lt_of_lt_of_le F212.lt (Nat.le_of_eq g238.symm))
      have ne244 : b164 ≠ b238 := Nat.ne_of_lt (Nat.lt_of_lt_of_le V204.lt (Nat.le_of_eq g238.symm))
      have F245 := F205.ext E238
      have F246 := F206.ext E238
      have F247 := F207.ext E238
      have F248 := F208.ext E238
      have F249 := F209.ext E238
      have F250 := F210.ext E238
      have F251 := F211.ext E238
      have F252 := F212.ext E238
      have F253 := V204.ext E238
      have g_b238 : n0 ≤ b238 := Nat.le_trans Z204 (Nat.le_of_eq g238.symm)
      have Z238 : n0 ≤ T238.heap.size := Nat.le_trans Z204 E238.1
      have V238 : Arv Z T238.heap b238 k238 (.array .double) (1 : Int32) [.null] .null := (Arv.new A238 (by decide)).pad (pad_rep [] .null 1)
      refine Goes.to st238 ?_
      show Goes p.tables e below (T238.setTop (mkF m 237 #[.val (.int x0), .val (.long x1), .second, .val (.int W), .val (.int A), .val (.int B), .val (.ref b1), .val (.ref b18), .val (.ref b43), .val (.ref b78), .val (.ref b118), .val (.ref b164), .unset, .unset, .unset, .unset, .unset] [(.ref b238)])) _
      refine Goes.to (fun _ k => XS.dup X238.here hx rfl (hb hby at_237) rfl rfl k) ?_
      show Goes p.tables e below (T238.setTop (mkF m 238 #[.val (.int x0), .val (.long x1), .second, .val (.int W), .val (.int A), .val (.int B), .val (.ref b1), .val (.ref b18), .val (.ref b43), .val (.ref b78), .val (.ref b118), .val (.ref b164), .unset, .unset, .unset, .unset, .unset] [(.ref b238), (.ref b238)])) _
      refine Goes.to (fun _ k => XS.iconst X238.here hx rfl (hb hby at_238) k) ?_
      show Goes p.tables e below (T238.setTop (mkF m 239 #[.val (.int x0), .val (.long x1), .second, .val (.int W), .val (.int A), .val (.int B), .val (.ref b1), .val (.ref b18), .val (.ref b43), .val (.ref b78), .val (.ref b118), .val (.ref b164), .unset, .unset, .unset, .unset, .unset] [(.int (0 : Int32)), (.ref b238), (.ref b238)])) _
      refine Goes.to (fun _ k => XS.aload X238.here hx rfl (hb hby at_239) rfl rfl k) ?_
      show Goes p.tables e below (T238.setTop (mkF m 241 #[.val (.int x0), .val (.long x1), .second, .val (.int W), .val (.int A), .val (.int B), .val (.ref b1), .val (.ref b18), .val (.ref b43), .val (.ref b78), .val (.ref b118), .val (.ref b164), .unset, .unset, .unset, .unset, .unset] [(.ref b1), (.int (0 : Int32)), (.ref b238), (.ref b238)])) _
      obtain ⟨cl254, Ar254, q254, S254, N254, H254, G254⟩ := id V238
      have hin254 : ¬ ((0 : Int32) < 0 ∨ cl254.slots.size ≤ ((0 : Int32)).toNatClampNeg) := inb_of S254 ⟨by decide, by decide⟩
      obtain ⟨T255, h255, X255, e255, W255, st255⟩ := stR X238 hx hZ rfl Ar254 (j := (0 : Int32)) hin254 rfl (Sto.ofVA Ar254 q254 O238 (Ins.self F245)) (g := (mkF m 241 #[.val (.int x0), .val (.long x1), .second, .val (.int W), .val (.int A), .val (.int B), .val (.ref b1), .val (.ref b18), .val (.ref b43), .val (.ref b78), .val (.ref b118), .val (.ref b164), .unset, .unset, .unset, .unset, .unset] [(.ref b1), (.int (0 : Int32)), (.ref b238), (.ref b238)])) rfl rfl (hb hby at_241)
      subst e255
      have F256 := F245.wr W255
      have F257 := F246.other W255 ne239
      have F258 := F247.wr W255
      have F259 := F248.other W255 ne240
      have F260 := F249.wr W255
      have F261 := F250.other W255 ne241
      have F262 := F251.other W255 ne242
      have F263 := F252.other W255 ne243
      have F264 := F253.other W255 ne244
      have N255 := Fr.snoc X255 N204 g_b238
      have Z255 : n0 ≤ T255.heap.size := Nat.le_trans Z238 (Nat.le_of_eq W255.size.symm)
      have V255 : Arv Z T255.heap b238 k238 (.array .double) (1 : Int32) [(.ref b1)] .null := Arv.set Ar254 q254 S254 N254 H254 G254 rfl W255 0 rfl (Nat.le_of_ble_eq_true rfl)
      refine Goes.to st255 ?_
      show Goes p.tables e below (T255.setTop (mkF m 242 #[.val (.int x0), .val (.long x1), .second, .val (.int W), .val (.int A), .val (.int B), .val (.ref b1), .val (.ref b18), .val (.ref b43), .val (.ref b78), .val (.ref b118), .val (.ref b164), .unset, .unset, .unset, .unset, .unset] [(.ref b238)])) _
      refine Goes.to (fun _ k => XS.astore X255.here hx rfl (hb hby at_242) rfl rfl (l' := #[.val (.int x0), .val (.long x1), .second, .val (.int W), .val (.int A), .val (.int B), .val (.ref b1), .val (.ref b18), .val (.ref b43), .val (.ref b78), .val (.ref b118), .val (.ref b164), .val (.ref b238), .unset, .unset, .unset, .unset]) rfl k) ?_
      show Goes p.tables e below (T255.setTop (mkF m 244 #[.val (.int x0), .val (.long x1), .second, .val (.int W), .val (.int A), .val (.int B), .val (.ref b1), .val (.ref b18), .val (.ref b43), .val (.ref b78), .val (.ref b118), .val (.ref b164), .val (.ref b238), .unset, .unset, .unset, .unset] [])) _
      refine Goes.to (fun _ k => XS.goto X255.here hx rfl (pc0 := 244) (pc' := 292) rfl (hb hby at_244) (by decide) (by decide) k) ?_
      show Goes p.tables e below (T255.setTop (mkF m 292 #[.val (.int x0), .val (.long x1), .second, .val (.int W), .val (.int A), .val (.int B), .val (.ref b1), .val (.ref b18), .val (.ref b43), .val (.ref b78), .val (.ref b118), .val (.ref b164), .val (.ref b238), .unset, .unset, .unset, .unset] [])) _
      refine Goes.to (fun _ k => XS.iloadN X255.here hx rfl (hb hby at_292) rfl k) ?_
      exact own_pt_own_rm0_266 l Z a0 hw ws x0 x1 h0 n0 Z0  Bd hml0 hh hZ b1 k1 b18 k18 b43 k43 b78 k78 b118 k118 b164 k164 b238 k238 W A B T255 _  T255.heap X255 rfl N255 Z255  F256 F257 F258 F259 F260 F261 F262 F263 F264 V255 Pg152_8 Pn152_9 Pg152_10 Pn152_11 Pn152_12 Pg152_13 Pn152_14 Pn152_15 Pn152_16 Pg152_17 Pn152_18 Pn152_19 Pn152_20 Pn152_21 Pg152_22 ne165 ne166 ne167 ne168 ne169 g_b164 O238 ne239 ne240 ne241 ne242 ne243 ne244 g_b238 hA0 hA1 hB0 hB1 hnm_W hc214 hc237
    · refine Goes.to (fun _ k => XS.icmpYes X204.here hx rfl (pc0 := 230) (pc' := 247) rfl (hb hby at_230) rfl (feq hc237).2 (by decide) (by decide) k) ?_
      show Goes p.tables e below (T204.setTop (mkF m 247 #[.val (.int x0), .val (.long x1), .second, .val (.int W), .val (.int A), .val (.int B), .val (.ref b1), .val (.ref b18), .val (.ref b43), .val (.ref b78), .val (.ref b118), .val (.ref b164), .unset, .unset, .unset, .unset, .unset] [])) _
      refine Goes.to (fun _ k => XS.iloadN X204.here hx rfl (hb hby at_247) rfl k) ?_
      show Goes p.tables e below (T204.setTop (mkF m 248 #[.val (.int x0), .val (.long x1), .second, .val (.int W), .val (.int A), .val (.int B), .val (.ref b1), .val (.ref b18), .val (.ref b43), .val (.ref b78), .val (.ref b118), .val (.ref b164), .unset, .unset, .unset, .unset, .unset] [(.int W)])) _
      refine Goes.to (fun _ k => XS.iconst X204.here hx rfl (hb hby at_248) k) ?_
      show Goes p.tables e below (T204.setTop (mkF m 249 #[.val (.int x0), .val (.long x1), .second, .val (.int W), .val (.int A), .val (.int B), .val (.ref b1), .val (.ref b18), .val (.ref b43), .val (.ref b78), .val (.ref b118), .val (.ref b164), .unset, .unset, .unset, .unset, .unset] [(.int (2 : Int32)), (.int W)])) _
      by_cases hc279 : W = (2 : Int32)
      · refine Goes.to (fun _ k => XS.icmpNo X204.here hx rfl (hb hby at_249) rfl (teq hc279).2 k) ?_
        show Goes p.tables e below (T204.setTop (mkF m 252 #[.val (.int x0), .val (.long x1), .second, .val (.int W), .val (.int A), .val (.int B), .val (.ref b1), .val (.ref b18), .val (.ref b43), .val (.ref b78), .val (.ref b118), .val (.ref b164), .unset, .unset, .unset, .unset, .unset] [])) _
        refine Goes.to (fun _ k => XS.iconst X204.here hx rfl (hb hby at_252) k) ?_
        show Goes p.tables e below (T204.setTop (mkF m 253 #[.val (.int x0), .val (.long x1), .second, .val (.int W), .val (.int A), .val (.int B), .val (.ref b1), .val (.ref b18), .val (.ref b43), .val (.ref b78), .val (.ref b118), .val (.ref b164), .unset, .unset, .unset, .unset, .unset] [(.int (2 : Int32))])) _
        obtain ⟨T280, h280, k280, X280, e280, E280, A280, Ex280, O280, st280⟩ := newRA X204 hx hZ hown (ty := .double) (C := "[D") (by decide) (hw _ (List.mem_of_getElem? (i := 10) rfl)) (hw _ (List.mem_of_getElem? (i := 11) rfl)) rfl (g := (mkF m 253 #[.val (.int x0), .val (.long x1), .second, .val (.int W), .val (.int A), .val (.int B), .val (.ref b1), .val (.ref b18), .val (.ref b43), .val (.ref b78), .val (.ref b118), .val (.ref b164), .unset, .unset, .unset, .unset, .unset] [(.int (2 : Int32))])) rfl (hb hby at_253) rfl (by decide) (cap := 2) (by decide) (by decide) (by decide) (by decide) (ad := "[[D") (by decide)
        obtain ⟨b280, g280⟩ : ∃ z, z = T204.heap.size := ⟨_, rfl⟩
        rw [← g280] at A280 Ex280 st280
        subst e280
        have ne281 : b1 ≠ b280 := Nat.ne_of_lt (Nat.lt_of_lt_of_le F205.lt (Nat.le_of_eq g280.symm))
        have ne282 : b18 ≠ b280 := Nat.ne_of_lt (Nat.lt_of_lt_of_le F207.lt (Nat.le_of_eq g280.symm))
        have ne283 : b43 ≠ b280 := Nat.ne_of_lt (Nat.lt_of_lt_of_le F209.lt (Nat.le_of_eq g280.symm))
        have ne284 : b78 ≠ b280 := Nat.ne_of_lt (Nat.lt_of_lt_of_le F211.lt (Nat.le_of_eq g280.symm))
        have ne285 : b118 ≠ b280 := Nat.ne_of_lt (Nat.lt_of_lt_of_le F212.lt (Nat.le_of_eq g280.symm))
        have ne286 : b164 ≠ b280 := Nat.ne_of_lt (Nat.lt_of_lt_of_le V204.lt (Nat.le_of_eq g280.symm))
        have F287 := F205.ext E280
        have F288 := F206.ext E280
        have F289 := F207.ext E280
        have F290 := F208.ext E280
        have F291 := F209.ext E280
        have F292 := F210.ext E280
        have F293 := F211.ext E280
        have F294 := F212.ext E280
        have F295 := V204.ext E280
        have g_b280 : n0 ≤ b280 := Nat.le_trans Z204 (Nat.le_of_eq g280.symm)
        have Z280 : n0 ≤ T280.heap.size := Nat.le_trans Z204 E280.1
        have V280 : Arv Z T280.heap b280 k280 (.array .double) (2 : Int32) [.null, .null] .null := (Arv.new A280 (by decide)).pad (pad_rep [] .null 2)
        refine Goes.to st280 ?_
        show Goes p.tables e below (T280.setTop (mkF m 256 #[.val (.int x0), .val (.long x1), .second, .val (.int W), .val (.int A), .val (.int B), .val (.ref b1), .val (.ref b18), .val (.ref b43), .val (.ref b78), .val (.ref b118), .val (.ref b164), .unset, .unset, .unset, .unset, .unset] [(.ref b280)])) _
        refine Goes.to (fun _ k => XS.dup X280.here hx rfl (hb hby at_256) rfl rfl k) ?_
        show Goes p.tables e below (T280.setTop (mkF m 257 #[.val (.int x0), .val (.long x1), .second, .val (.int W), .val (.int A), .val (.int B), .val (.ref b1), .val (.ref b18), .val (.ref b43), .val (.ref b78), .val (.ref b118), .val (.ref b164), .unset, .unset, .unset, .unset, .unset] [(.ref b280), (.ref b280)])) _
        refine Goes.to (fun _ k => XS.iconst X280.here hx rfl (hb hby at_257) k) ?_
        show Goes p.tables e below (T280.setTop (mkF m 258 #[.val (.int x0), .val (.long x1), .second, .val (.int W), .val (.int A), .val (.int B), .val (.ref b1), .val (.ref b18), .val (.ref b43), .val (.ref b78), .val (.ref b118), .val (.ref b164), .unset, .unset, .unset, .unset, .unset] [(.int (0 : Int32)), (.ref b280), (.ref b280)])) _
        refine Goes.to (fun _ k => XS.aload X280.here hx rfl (hb hby at_258) rfl rfl k) ?_
        show Goes p.tables e below (T280.setTop (mkF m 260 #[.val (.int x0), .val (.long x1), .second, .val (.int W), .val (.int A), .val (.int B), .val (.ref b1), .val (.ref b18), .val (.ref b43), .val (.ref b78), .val (.ref b118), .val (.ref b164), .unset, .unset, .unset, .unset, .unset] [(.ref b1), (.int (0 : Int32)), (.ref b280), (.ref b280)])) _
        obtain ⟨cl296, Ar296, q296, S296, N296, H296, G296⟩ := id V280
        have hin296 : ¬ ((0 : Int32) < 0 ∨ cl296.slots.size ≤ ((0 : Int32)).toNatClampNeg) := inb_of S296 ⟨by decide, by decide⟩
        obtain ⟨T297, h297, X297, e297, W297, st297⟩ := stR X280 hx hZ rfl Ar296 (j := (0 : Int32)) hin296 rfl (Sto.ofVA Ar296 q296 O280 (Ins.self F287)) (g := (mkF m 260 #[.val (.int x0), .val (.long x1), .second, .val (.int W), .val (.int A), .val (.int B), .val (.ref b1), .val (.ref b18), .val (.ref b43), .val (.ref b78), .val (.ref b118), .val (.ref b164), .unset, .unset, .unset, .unset, .unset] [(.ref b1), (.int (0 : Int32)), (.ref b280), (.ref b280)])) rfl rfl (hb hby at_260)
        subst e297
        have F298 := F287.wr W297
        have F299 := F288.other W297 ne281
        have F300 := F289.wr W297
        have F301 := F290.other W297 ne282
        have F302 := F291.wr W297
        have F303 := F292.other W297 ne283
        have F304 := F293.other W297 ne284
        have F305 := F294.other W297 ne285
        have F306 := F295.other W297 ne286
        have N297 := Fr.snoc X297 N204 g_b280
        have Z297 : n0 ≤ T297.heap.size := Nat.le_trans Z280 (Nat.le_of_eq W297.size.symm)
        have V297 : Arv Z T297.heap b280 k280 (.array .double) (2 : Int32) [(.ref b1), .null] .null := Arv.set Ar296 q296 S296 N296 H296 G296 rfl W297 0 rfl (Nat.le_of_ble_eq_true rfl)
        refine Goes.to st297 ?_
        exact own_pt_own_rm0_308 l Z a0 hw ws x0 x1 h0 n0 Z0  Bd hml0 hh hZ b1 k1 b18 k18 b43 k43 b78 k78 b118 k118 b164 k164 b280 k280 W A B T297 _  T297.heap X297 rfl N297 Z297  F298 F299 F300 F301 F302 F303 F304 F305 F306 V297 Pg152_8 Pn152_9 Pg152_10 Pn152_11 Pn152_12 Pg152_13 Pn152_14 Pn152_15 Pn152_16 Pg152_17 Pn152_18 Pn152_19 Pn152_20 Pn152_21 Pg152_22 ne165 ne166 ne167 ne168 ne169 g_b164 O280 ne281 ne282 ne283 ne284 ne285 ne286 g_b280 hA0 hA1 hB0 hB1 hnm_W hc214 hc237 hc279
      · refine Goes.to (fun _ k => XS.icmpYes X204.here hx rfl (pc0 := 249) (pc' := 271) rfl (hb hby at_249) rfl (feq hc279).2 (by decide) (by decide) k) ?_
        show Goes p.tables e below (T204.setTop (mkF m 271 #[.val (.int x0), .val (.long x1), .second, .val (.int W), .val (.int A), .val (.int B), .val (.ref b1), .val (.ref b18), .val (.ref b43), .val (.ref b78), .val (.ref b118), .val (.ref b164), .unset, .unset, .unset, .unset, .unset] [])) _
        refine Goes.to (fun _ k => XS.iconst X204.here hx rfl (hb hby at_271) k) ?_
        show Goes p.tables e below (T204.setTop (mkF m 272 #[.val (.int x0), .val (.long x1), .second, .val (.int W), .val (.int A), .val (.int B), .val (.ref b1), .val (.ref b18), .val (.ref b43), .val (.ref b78), .val (.ref b118), .val (.ref b164), .unset, .unset, .unset, .unset, .unset] [(.int (3 : Int32))])) _
        obtain ⟨T349, h349, k349, X349, e349, E349, A349, Ex349, O349, st349⟩ := newRA X204 hx hZ hown (ty := .double) (C := "[D") (by decide) (hw _ (List.mem_of_getElem? (i := 10) rfl)) (hw _ (List.mem_of_getElem? (i := 11) rfl)) rfl (g := (mkF m 272 #[.val (.int x0), .val (.long x1), .second, .val (.int W), .val (.int A), .val (.int B), .val (.ref b1), .val (.ref b18), .val (.ref b43), .val (.ref b78), .val (.ref b118), .val (.ref b164), .unset, .unset, .unset, .unset, .unset] [(.int (3 : Int32))])) rfl (hb hby at_272) rfl (by decide) (cap := 3) (by decide) (by decide) (by decide) (by decide) (ad := "[[D") (by decide)
        obtain ⟨b349, g349⟩ : ∃ z, z = T204.heap.size := ⟨_, rfl⟩
        rw [← g349] at A349 Ex349 st349
        subst e349
        have ne350 : b1 ≠ b349 := Nat.ne_of_lt (Nat.lt_of_lt_of_le F205.lt (Nat.le_of_eq g349.symm))
        have ne351 : b18 ≠ b349 := Nat.ne_of_lt (Nat.lt_of_lt_of_le F207.lt (Nat.le_of_eq g349.symm))
        have ne352 : b43 ≠ b349 := Nat.ne_of_lt (Nat.lt_of_lt_of_le F209.lt (Nat.le_of_eq g349.symm))
        have ne353 : b78 ≠ b349 := Nat.ne_of_lt (Nat.lt_of_lt_of_le F211.lt (Nat.le_of_eq g349.symm))
        have ne354 : b118 ≠ b349 := Nat.ne_of_lt (Nat.lt_of_lt_of_le F212.lt (Nat.le_of_eq g349.symm))
        have ne355 : b164 ≠ b349 := Nat.ne_of_lt (Nat.lt_of_lt_of_le V204.lt (Nat.le_of_eq g349.symm))
        have F356 := F205.ext E349
        have F357 := F206.ext E349
        have F358 := F207.ext E349
        have F359 := F208.ext E349
        have F360 := F209.ext E349
        have F361 := F210.ext E349
        have F362 := F211.ext E349
        have F363 := F212.ext E349
        have F364 := V204.ext E349
        have g_b349 : n0 ≤ b349 := Nat.le_trans Z204 (Nat.le_of_eq g349.symm)
        have Z349 : n0 ≤ T349.heap.size := Nat.le_trans Z204 E349.1
        have V349 : Arv Z T349.heap b349 k349 (.array .double) (3 : Int32) [.null, .null, .null] .null := (Arv.new A349 (by decide)).pad (pad_rep [] .null 3)
        refine Goes.to st349 ?_
        show Goes p.tables e below (T349.setTop (mkF m 275 #[.val (.int x0), .val (.long x1), .second, .val (.int W), .val (.int A), .val (.int B), .val (.ref b1), .val (.ref b18), .val (.ref b43), .val (.ref b78), .val (.ref b118), .val (.ref b164), .unset, .unset, .unset, .unset, .unset] [(.ref b349)])) _
        refine Goes.to (fun _ k => XS.dup X349.here hx rfl (hb hby at_275) rfl rfl k) ?_
        show Goes p.tables e below (T349.setTop (mkF m 276 #[.val (.int x0), .val (.long x1), .second, .val (.int W), .val (.int A), .val (.int B), .val (.ref b1), .val (.ref b18), .val (.ref b43), .val (.ref b78), .val (.ref b118), .val (.ref b164), .unset, .unset, .unset, .unset, .unset] [(.ref b349), (.ref b349)])) _
        refine Goes.to (fun _ k => XS.iconst X349.here hx rfl (hb hby at_276) k) ?_
        show Goes p.tables e below (T349.setTop (mkF m 277 #[.val (.int x0), .val (.long x1), .second, .val (.int W), .val (.int A), .val (.int B), .val (.ref b1), .val (.ref b18), .val (.ref b43), .val (.ref b78), .val (.ref b118), .val (.ref b164), .unset, .unset, .unset, .unset, .unset] [(.int (0 : Int32)), (.ref b349), (.ref b349)])) _
        refine Goes.to (fun _ k => XS.aload X349.here hx rfl (hb hby at_277) rfl rfl k) ?_
        show Goes p.tables e below (T349.setTop (mkF m 279 #[.val (.int x0), .val (.long x1), .second, .val (.int W), .val (.int A), .val (.int B), .val (.ref b1), .val (.ref b18), .val (.ref b43), .val (.ref b78), .val (.ref b118), .val (.ref b164), .unset, .unset, .unset, .unset, .unset] [(.ref b1), (.int (0 : Int32)), (.ref b349), (.ref b349)])) _
        obtain ⟨cl365, Ar365, q365, S365, N365, H365, G365⟩ := id V349
        have hin365 : ¬ ((0 : Int32) < 0 ∨ cl365.slots.size ≤ ((0 : Int32)).toNatClampNeg) := inb_of S365 ⟨by decide, by decide⟩
        obtain ⟨T366, h366, X366, e366, W366, st366⟩ := stR X349 hx hZ rfl Ar365 (j := (0 : Int32)) hin365 rfl (Sto.ofVA Ar365 q365 O349 (Ins.self F356)) (g := (mkF m 279 #[.val (.int x0), .val (.long x1), .second, .val (.int W), .val (.int A), .val (.int B), .val (.ref b1), .val (.ref b18), .val (.ref b43), .val (.ref b78), .val (.ref b118), .val (.ref b164), .unset, .unset, .unset, .unset, .unset] [(.ref b1), (.int (0 : Int32)), (.ref b349), (.ref b349)])) rfl rfl (hb hby at_279)
        subst e366
        have F367 := F356.wr W366
        have F368 := F357.other W366 ne350
        have F369 := F358.wr W366
        have F370 := F359.other W366 ne351
        have F371 := F360.wr W366
        have F372 := F361.other W366 ne352
        have F373 := F362.other W366 ne353
        have F374 := F363.other W366 ne354
        have F375 := F364.other W366 ne355
        have N366 := Fr.snoc X366 N204 g_b349
        have Z366 : n0 ≤ T366.heap.size := Nat.le_trans Z349 (Nat.le_of_eq W366.size.symm)
        have V366 : Arv Z T366.heap b349 k349 (.array .double) (3 : Int32) [(.ref b1), .null, .null] .null := Arv.set Ar365 q365 S365 N365 H365 G365 rfl W366 0 rfl (Nat.le_of_ble_eq_true rfl)
        refine Goes.to st366 ?_
        exact own_pt_own_rm0_377 l Z a0 hw ws x0 x1 h0 n0 Z0  Bd hml0 hh hZ b1 k1 b18 k18 b43 k43 b78 k78 b118 k118 b164 k164 b349 k349 W A B T366 _  T366.heap X366 rfl N366 Z366  F367 F368 F369 F370 F371 F372 F373 F374 F375 V366 Pg152_8 Pn152_9 Pg152_10 Pn152_11 Pn152_12 Pg152_13 Pn152_14 Pn152_15 Pn152_16 Pg152_17 Pn152_18 Pn152_19 Pn152_20 Pn152_21 Pg152_22 ne165 ne166 ne167 ne168 ne169 g_b164 O349 ne350 ne351 ne352 ne353 ne354 ne355 g_b349 hA0 hA1 hB0 hB1 hnm_W hc214 hc237 hc279
set_option maxRecDepth 65536 in
set_option maxHeartbeats 40000000 in
theorem own_pt_own_rm0_68 (l : Launch) (Z : State) (a0 : Array Value) (hw : ∀ d ∈ tables_1, d.before a0 Z = true) (ws : List Jvm.Cond) (x0 : Int32) (x1 : Int64)  (h0 : Heap) (n0 : Nat) (Z0 : n0 ≤ h0.size) 
    {p : Program} {e : Env} {s : State} {m : MethodId} {below : List Frame} {meth : Method} {c : Code} {s₁ : State} (Bd : BodyLoose p l x (head1 (Jvm.Cond.code x code maxLocals ret :: ws) room_1) code maxLocals ret e s m #[(.int x0), (.long x1)] below meth c s₁) (hml0 : c.maxLocals = maxLocals) (hh : s.heap = h0) (hZ : Z.Warmed39 s.vm)
    (b1 : Addr) (k1 : ClassId) (b18 : Addr) (k18 : ClassId) (b43 : Addr) (k43 : ClassId) (W : Int32) (A : Int32) (B : Int32)
    (Tpt : State) (lpt : List Loc)  (hpt : Heap)
    (Xpt : Stand p l e room_1 s m #[(.int x0), (.long x1)] below meth c Tpt lpt 3 9) (Ept : Tpt.heap = hpt) (Npt : Fr n0 lpt) (Zpt : n0 ≤ hpt.size) 
    (Pf68_0 : Exa Z hpt b1 "[D")
    (Pf68_1 : Arv Z hpt b1 k1 .double (3 : Int32) [(.double (own_dv x1 (0 : Int32))), (.double (own_dv x1 (4 : Int32))), (.double (own_dv x1 (8 : Int32)))] (.double (0 : UInt64)))
    (Pf68_2 : Exa Z hpt b18 "[D")
    (Pf68_3 : Arv Z hpt b18 k18 .double (3 : Int32) [(.double (own_dv x1 (12 : Int32))), (.double (own_dv x1 (16 : Int32))), (.double (own_dv x1 (20 : Int32)))] (.double (0 : UInt64)))
    (Pf68_4 : Exa Z hpt b43 "[D")
    (Pf68_5 : Arv Z hpt b43 k43 .double (3 : Int32) [(.double (own_dv x1 (24 : Int32))), (.double (own_dv x1 (28 : Int32))), (.double (0 : UInt64))] (.double (0 : UInt64)))
    (Pg68_6 : n0 ≤ b1)
    (Pn68_7 : b1 ≠ b18)
    (Pg68_8 : n0 ≤ b18)
    (Pn68_9 : b1 ≠ b43)
    (Pn68_10 : b18 ≠ b43)
    (Pg68_11 : n0 ≤ b43)
    (hA0 : ¬ (A < (0 : Int32)))
    (hA1 : A < (3 : Int32))
    (hB0 : ¬ (B < (0 : Int32)))
    (hB1 : B < (3 : Int32))
    (hnm_W : (x0 &&& (3 : Int32)) = W)
    : Goes p.tables e below (Tpt.setTop (mkF m 115 #[.val (.int x0), .val (.long x1), .second, .val (.int W), .val (.int A), .val (.int B), .val (.ref b1), .val (.ref b18), .unset, .unset, .unset, .unset, .unset, .unset, .unset, .unset, .unset] [(.int (32 : Int32)), (.long x1), (.int (2 : Int32)), (.ref b43), (.ref b43)])) (own_R below s (own_Q_own_rm0 Z x0 x1 h0 n0) 7 21) := by
  have hx := Bd.exec
  have hby := Bd.bytes
  have hml : c.maxLocals = 17 := hml0
  have hnm := (name_of_methodNamed Bd.named Bd.method).1
  have hown : s.vm.findClass "com/example/pareto4/pareto4/front/KeysNoHigherPinLaw" = some m.cls := findClass_of_methodNamed Bd.named
  show Goes p.tables e below (Tpt.setTop (mkF m 115 #[.val (.int x0), .val (.long x1), .second, .val (.int W), .val (.int A), .val (.int B), .val (.ref b1), .val (.ref b18), .unset, .unset, .unset, .unset, .unset, .unset, .unset, .unset, .unset] [(.int (32 : Int32)), (.long x1), (.int (2 : Int32)), (.ref b43), (.ref b43)])) _
  obtain ⟨_, _, ⟨T69, L69, k69, n69⟩, -, X69, ⟨Lc69, hQ69, l69, y69, z69⟩, st69⟩ := Jvm.LawKit.callS Xpt hx (y := (⟨"com/example/pareto4/pareto4/front/KeysNoHigherPinLaw", "dv", "(JI)D"⟩ : MethodName)) hown (mvT hZ (hw _ (List.mem_of_getElem? (i := 1) rfl))) (mvT hZ (hw _ (List.mem_of_getElem? (i := 2) rfl))) (mvT hZ (hw _ (List.mem_of_getElem? (i := 3) rfl))) (mvT hZ (hw _ (List.mem_of_getElem? (i := 4) rfl))) (by decide) (backOf (W := 3) (own_rm1 l Z a0 hw [] x1 (32 : Int32) hpt n0 Zpt ) hZ (hw _ (List.mem_of_getElem? (i := 4) rfl)) (hw _ (List.mem_of_getElem? (i := 3) rfl)) (by decide) (by decide)) (g := (mkF m 115 #[.val (.int x0), .val (.long x1), .second, .val (.int W), .val (.int A), .val (.int B), .val (.ref b1), .val (.ref b18), .unset, .unset, .unset, .unset, .unset, .unset, .unset, .unset, .unset] [(.int (32 : Int32)), (.long x1), (.int (2 : Int32)), (.ref b43), (.ref b43)])) rfl (by rw [hml]; rfl) (argsL := [(.long x1), (.int (32 : Int32))]) (rest := [(.int (2 : Int32)), (.ref b43), (.ref b43)]) (lenOf own_pd_pJIqD rfl) rfl (by show 2 * 0 + _ ≤ _; exact Nat.le_of_eq rfl) (hb hby at_115) (fun _ _ => ⟨rfl, Ept, (by decide : 3 + 0 ≤ _), (by decide : 9 + 0 ≤ _)⟩)
  dsimp only [Pt.U, Pt.locs, Pt.cells, Pt.slots] at X69 l69 y69 z69 st69 hQ69
  subst l69 y69 z69
  obtain ⟨hv69, Nq69, hp69_0⟩ := hQ69
  have N69 := Fr.app Npt Nq69
  subst hv69
  refine Goes.to st69 ?_
  show Goes p.tables e below (T69.setTop (mkF m 118 #[.val (.int x0), .val (.long x1), .second, .val (.int W), .val (.int A), .val (.int B), .val (.ref b1), .val (.ref b18), .unset, .unset, .unset, .unset, .unset, .unset, .unset, .unset, .unset] [(.double (own_dv x1 (32 : Int32))), (.int (2 : Int32)), (.ref b43), (.ref b43)])) _
  obtain ⟨cl70, Ar70, q70, S70, N70, H70, G70⟩ := id Pf68_5
  have hin70 : ¬ ((2 : Int32) < 0 ∨ cl70.slots.size ≤ ((2 : Int32)).toNatClampNeg) := inb_of S70 ⟨by decide, by decide⟩
  obtain ⟨T71, h71, X71, e71, W71, st71⟩ := stD X69 hx hZ hp69_0 Ar70 (j := (2 : Int32)) hin70 (g := (mkF m 118 #[.val (.int x0), .val (.long x1), .second, .val (.int W), .val (.int A), .val (.int B), .val (.ref b1), .val (.ref b18), .unset, .unset, .unset, .unset, .unset, .unset, .unset, .unset, .unset] [(.double (own_dv x1 (32 : Int32))), (.int (2 : Int32)), (.ref b43), (.ref b43)])) rfl rfl (hb hby at_118)
  subst e71
  have F72 := Pf68_0.wr W71
  have F73 := Pf68_1.other W71 Pn68_9
  have F74 := Pf68_2.wr W71
  have F75 := Pf68_3.other W71 Pn68_10
  have F76 := Pf68_4.wr W71
  have N71 := Fr.snoc X71 N69 Pg68_11
  have Z71 : n0 ≤ T71.heap.size := Nat.le_trans Zpt (Nat.le_of_eq W71.size.symm)
  have V71 : Arv Z T71.heap b43 k43 .double (3 : Int32) [(.double (own_dv x1 (24 : Int32))), (.double (own_dv x1 (28 : Int32))), (.double (own_dv x1 (32 : Int32)))] (.double (0 : UInt64)) := Arv.set Ar70 q70 S70 N70 H70 G70 rfl W71 2 rfl (Nat.le_of_ble_eq_true rfl)
  refine Goes.to st71 ?_
  show Goes p.tables e below (T71.setTop (mkF m 119 #[.val (.int x0), .val (.long x1), .second, .val (.int W), .val (.int A), .val (.int B), .val (.ref b1), .val (.ref b18), .unset, .unset, .unset, .unset, .unset, .unset, .unset, .unset, .unset] [(.ref b43)])) _
  refine Goes.to (fun _ k => XS.astore X71.here hx rfl (hb hby at_119) rfl rfl (l' := #[.val (.int x0), .val (.long x1), .second, .val (.int W), .val (.int A), .val (.int B), .val (.ref b1), .val (.ref b18), .val (.ref b43), .unset, .unset, .unset, .unset, .unset, .unset, .unset, .unset]) rfl k) ?_
  show Goes p.tables e below (T71.setTop (mkF m 121 #[.val (.int x0), .val (.long x1), .second, .val (.int W), .val (.int A), .val (.int B), .val (.ref b1), .val (.ref b18), .val (.ref b43), .unset, .unset, .unset, .unset, .unset, .unset, .unset, .unset] [])) _
  refine Goes.to (fun _ k => XS.iconst X71.here hx rfl (hb hby at_121) k) ?_
  show Goes p.tables e below (T71.setTop (mkF m 122 #[.val (.int x0), .val (.long x1), .second, .val (.int W), .val (.int A), .val (.int B), .val (.ref b1), .val (.ref b18), .val (.ref b43), .unset, .unset, .unset, .unset, .unset, .unset, .unset, .unset] [(.int (3 : Int32))])) _
  obtain ⟨T78, h78, k78, X78, e78, E78, A78, st78⟩ := newP X71 hx hZ (hw _ (List.mem_of_getElem? (i := 6) rfl)) rfl (g := (mkF m 122 #[.val (.int x0), .val (.long x1), .second, .val (.int W), .val (.int A), .val (.int B), .val (.ref b1), .val (.ref b18), .val (.ref b43), .unset, .unset, .unset, .unset, .unset, .unset, .unset, .unset] [(.int (3 : Int32))])) rfl (hb hby at_122) rfl (by decide) (cap := 3) (by decide) (by decide) (by decide) (by decide)
  obtain ⟨b78, g78⟩ : ∃ z, z = T71.heap.size := ⟨_, rfl⟩
  rw [← g78] at A78 st78
  subst e78
  have ne79 : b1 ≠ b78 := Nat.ne_of_lt (Nat.lt_of_lt_of_le F72.lt (Nat.le_of_eq g78.symm))
  have ne80 : b18 ≠ b78 := Nat.ne_of_lt (Nat.lt_of_lt_of_le F74.lt (Nat.le_of_eq g78.symm))
  have ne81 : b43 ≠ b78 := Nat.ne_of_lt (Nat.lt_of_lt_of_le F76.lt (Nat.le_of_eq g78.symm))
  have F82 := F72.ext E78
  have F83 := F73.ext E78
  have F84 := F74.ext E78
  have F85 := F75.ext E78
  have F86 := F76.ext E78
  have F87 := V71.ext E78
  have g_b78 : n0 ≤ b78 := Nat.le_trans Z71 (Nat.le_of_eq g78.symm)
  have Z78 : n0 ≤ T78.heap.size := Nat.le_trans Z71 E78.1
  have V78 : Arv Z T78.heap b78 k78 .int (3 : Int32) [(.int (0 : Int32)), (.int (0 : Int32)), (.int (0 : Int32))] (.int (0 : Int32)) := (Arv.new A78 (by decide)).pad (pad_rep [] (.int (0 : Int32)) 3)
  refine Goes.to st78 ?_
  show Goes p.tables e below (T78.setTop (mkF m 124 #[.val (.int x0), .val (.long x1), .second, .val (.int W), .val (.int A), .val (.int B), .val (.ref b1), .val (.ref b18), .val (.ref b43), .unset, .unset, .unset, .unset, .unset, .unset, .unset, .unset] [(.ref b78)])) _
  refine Goes.to (fun _ k => XS.dup X78.here hx rfl (hb hby at_124) rfl rfl k) ?_
  show Goes p.tables e below (T78.setTop (mkF m 125 #[.val (.int x0), .val (.long x1), .second, .val (.int W), .val (.int A), .val (.int B), .val (.ref b1), .val (.ref b18), .val (.ref b43), .unset, .unset, .unset, .unset, .unset, .unset, .unset, .unset] [(.ref b78), (.ref b78)])) _
  refine Goes.to (fun _ k => XS.iconst X78.here hx rfl (hb hby at_125) k) ?_
  show Goes p.tables e below (T78.setTop (mkF m 126 #[.val (.int x0), .val (.long x1), .second, .val (.int W), .val (.int A), .val (.int B), .val (.ref b1), .val (.ref b18), .val (.ref b43), .unset, .unset, .unset, .unset, .unset, .unset, .unset, .unset] [(.int (0 : Int32)), (.ref b78), (.ref b78)])) _
  refine Goes.to (fun _ k => XS.lloadN X78.here hx rfl (hb hby at_126) rfl k) ?_
  show Goes p.tables e below (T78.setTop (mkF m 127 #[.val (.int x0), .val (.long x1), .second, .val (.int W), .val (.int A), .val (.int B), .val (.ref b1), .val (.ref b18), .val (.ref b43), .unset, .unset, .unset, .unset, .unset, .unset, .unset, .unset] [(.long x1), (.int (0 : Int32)), (.ref b78), (.ref b78)])) _
  refine Goes.to (fun _ k => XS.iconst X78.here hx rfl (hb hby at_127) k) ?_
  show Goes p.tables e below (T78.setTop (mkF m 128 #[.val (.int x0), .val (.long x1), .second, .val (.int W), .val (.int A), .val (.int B), .val (.ref b1), .val (.ref b18), .val (.ref b43), .unset, .unset, .unset, .unset, .unset, .unset, .unset, .unset] [(.int (0 : Int32)), (.long x1), (.int (0 : Int32)), (.ref b78), (.ref b78)])) _
  obtain ⟨_, _, ⟨T88, L88, k88, n88⟩, -, X88, ⟨Lc88, hQ88, l88, y88, z88⟩, st88⟩ := Jvm.LawKit.callS X78 hx (y := (⟨"com/example/pareto4/pareto4/front/KeysNoHigherPinLaw", "iv", "(JI)I"⟩ : MethodName)) hown (mvT hZ (hw _ (List.mem_of_getElem? (i := 7) rfl))) (mvT hZ (hw _ (List.mem_of_getElem? (i := 8) rfl))) (mvT hZ (hw _ (List.mem_of_getElem? (i := 3) rfl))) (mvT hZ (hw _ (List.mem_of_getElem? (i := 9) rfl))) (by decide) (backOf (W := 3) (own_rm2 l Z a0 hw [] x1 (0 : Int32) T78.heap n0 Z78 ) hZ (hw _ (List.mem_of_getElem? (i := 9) rfl)) (hw _ (List.mem_of_getElem? (i := 3) rfl)) (by decide) (by decide)) (g := (mkF m 128 #[.val (.int x0), .val (.long x1), .second, .val (.int W), .val (.int A), .val (.int B), .val (.ref b1), .val (.ref b18), .val (.ref b43), .unset, .unset, .unset, .unset, .unset, .unset, .unset, .unset] [(.int (0 : Int32)), (.long x1), (.int (0 : Int32)), (.ref b78), (.ref b78)])) rfl (by rw [hml]; rfl) (argsL := [(.long x1), (.int (0 : Int32))]) (rest := [(.int (0 : Int32)), (.ref b78), (.ref b78)]) (lenOf own_pd_pJIqI rfl) rfl (by show 2 * 0 + _ ≤ _; exact Nat.le_of_eq rfl) (hb hby at_128) (fun _ _ => ⟨rfl, rfl, (by decide : 4 + 0 ≤ _), (by decide : 12 + 0 ≤ _)⟩)
  dsimp only [Pt.U, Pt.locs, Pt.cells, Pt.slots] at X88 l88 y88 z88 st88 hQ88
  subst l88 y88 z88
  obtain ⟨hv88, Nq88, hp88_0⟩ := hQ88
  have N88 := Fr.app N71 Nq88
  subst hv88
  refine Goes.to st88 ?_
  show Goes p.tables e below (T88.setTop (mkF m 131 #[.val (.int x0), .val (.long x1), .second, .val (.int W), .val (.int A), .val (.int B), .val (.ref b1), .val (.ref b18), .val (.ref b43), .unset, .unset, .unset, .unset, .unset, .unset, .unset, .unset] [(.int (own_iv x1 (0 : Int32))), (.int (0 : Int32)), (.ref b78), (.ref b78)])) _
  obtain ⟨cl89, Ar89, q89, S89, N89, H89, G89⟩ := id V78
  have hin89 : ¬ ((0 : Int32) < 0 ∨ cl89.slots.size ≤ ((0 : Int32)).toNatClampNeg) := inb_of S89 ⟨by decide, by decide⟩
  obtain ⟨T90, h90, X90, e90, W90, st90⟩ := stI X88 hx hZ hp88_0 Ar89 (j := (0 : Int32)) hin89 (g := (mkF m 131 #[.val (.int x0), .val (.long x1), .second, .val (.int W), .val (.int A), .val (.int B), .val (.ref b1), .val (.ref b18), .val (.ref b43), .unset, .unset, .unset, .unset, .unset, .unset, .unset, .unset] [(.int (own_iv x1 (0 : Int32))), (.int (0 : Int32)), (.ref b78), (.ref b78)])) rfl rfl (hb hby at_131)
  subst e90
  have F91 := F82.wr W90
  have F92 := F83.other W90 ne79
  have F93 := F84.wr W90
  have F94 := F85.other W90 ne80
  have F95 := F86.wr W90
  have F96 := F87.other W90 ne81
  have N90 := Fr.snoc X90 N88 g_b78
  have Z90 : n0 ≤ T90.heap.size := Nat.le_trans Z78 (Nat.le_of_eq W90.size.symm)
  have V90 : Arv Z T90.heap b78 k78 .int (3 : Int32) [(.int (own_iv x1 (0 : Int32))), (.int (0 : Int32)), (.int (0 : Int32))] (.int (0 : Int32)) := Arv.set Ar89 q89 S89 N89 H89 G89 rfl W90 0 rfl (Nat.le_of_ble_eq_true rfl)
  refine Goes.to st90 ?_
  show Goes p.tables e below (T90.setTop (mkF m 132 #[.val (.int x0), .val (.long x1), .second, .val (.int W), .val (.int A), .val (.int B), .val (.ref b1), .val (.ref b18), .val (.ref b43), .unset, .unset, .unset, .unset, .unset, .unset, .unset, .unset] [(.ref b78)])) _
  refine Goes.to (fun _ k => XS.dup X90.here hx rfl (hb hby at_132) rfl rfl k) ?_
  show Goes p.tables e below (T90.setTop (mkF m 133 #[.val (.int x0), .val (.long x1), .second, .val (.int W), .val (.int A), .val (.int B), .val (.ref b1), .val (.ref b18), .val (.ref b43), .unset, .unset, .unset, .unset, .unset, .unset, .unset, .unset] [(.ref b78), (.ref b78)])) _
  refine Goes.to (fun _ k => XS.iconst X90.here hx rfl (hb hby at_133) k) ?_
  show Goes p.tables e below (T90.setTop (mkF m 134 #[.val (.int x0), .val (.long x1), .second, .val (.int W), .val (.int A), .val (.int B), .val (.ref b1), .val (.ref b18), .val (.ref b43), .unset, .unset, .unset, .unset, .unset, .unset, .unset, .unset] [(.int (1 : Int32)), (.ref b78), (.ref b78)])) _
  refine Goes.to (fun _ k => XS.lloadN X90.here hx rfl (hb hby at_134) rfl k) ?_
  show Goes p.tables e below (T90.setTop (mkF m 135 #[.val (.int x0), .val (.long x1), .second, .val (.int W), .val (.int A), .val (.int B), .val (.ref b1), .val (.ref b18), .val (.ref b43), .unset, .unset, .unset, .unset, .unset, .unset, .unset, .unset] [(.long x1), (.int (1 : Int32)), (.ref b78), (.ref b78)])) _
  refine Goes.to (fun _ k => XS.iconst X90.here hx rfl (hb hby at_135) k) ?_
  show Goes p.tables e below (T90.setTop (mkF m 136 #[.val (.int x0), .val (.long x1), .second, .val (.int W), .val (.int A), .val (.int B), .val (.ref b1), .val (.ref b18), .val (.ref b43), .unset, .unset, .unset, .unset, .unset, .unset, .unset, .unset] [(.int (4 : Int32)), (.long x1), (.int (1 : Int32)), (.ref b78), (.ref b78)])) _
  obtain ⟨_, _, ⟨T98, L98, k98, n98⟩, -, X98, ⟨Lc98, hQ98, l98, y98, z98⟩, st98⟩ := Jvm.LawKit.callS X90 hx (y := (⟨"com/example/pareto4/pareto4/front/KeysNoHigherPinLaw", "iv", "(JI)I"⟩ : MethodName)) hown (mvT hZ (hw _ (List.mem_of_getElem? (i := 7) rfl))) (mvT hZ (hw _ (List.mem_of_getElem? (i := 8) rfl))) (mvT hZ (hw _ (List.mem_of_getElem? (i := 3) rfl))) (mvT hZ (hw _ (List.mem_of_getElem? (i := 9) rfl))) (by decide) (backOf (W := 3) (own_rm2 l Z a0 hw [] x1 (4 : Int32) T90.heap n0 Z90 ) hZ (hw _ (List.mem_of_getElem? (i := 9) rfl)) (hw _ (List.mem_of_getElem? (i := 3) rfl)) (by decide) (by decide)) (g := (mkF m 136 #[.val (.int x0), .val (.long x1), .second, .val (.int W), .val (.int A), .val (.int B), .val (.ref b1), .val (.ref b18), .val (.ref b43), .unset, .unset, .unset, .unset, .unset, .unset, .unset, .unset] [(.int (4 : Int32)), (.long x1), (.int (1 : Int32)), (.ref b78), (.ref b78)])) rfl (by rw [hml]; rfl) (argsL := [(.long x1), (.int (4 : Int32))]) (rest := [(.int (1 : Int32)), (.ref b78), (.ref b78)]) (lenOf own_pd_pJIqI rfl) rfl (by show 2 * 0 + _ ≤ _; exact Nat.le_of_eq rfl) (hb hby at_136) (fun _ _ => ⟨rfl, rfl, (by decide : 4 + 0 ≤ _), (by decide : 12 + 0 ≤ _)⟩)
  dsimp only [Pt.U, Pt.locs, Pt.cells, Pt.slots] at X98 l98 y98 z98 st98 hQ98
  subst l98 y98 z98
  obtain ⟨hv98, Nq98, hp98_0⟩ := hQ98
  have N98 := Fr.app N90 Nq98
  subst hv98
  refine Goes.to st98 ?_
  show Goes p.tables e below (T98.setTop (mkF m 139 #[.val (.int x0), .val (.long x1), .second, .val (.int W), .val (.int A), .val (.int B), .val (.ref b1), .val (.ref b18), .val (.ref b43), .unset, .unset, .unset, .unset, .unset, .unset, .unset, .unset] [(.int (own_iv x1 (4 : Int32))), (.int (1 : Int32)), (.ref b78), (.ref b78)])) _
  obtain ⟨cl99, Ar99, q99, S99, N99, H99, G99⟩ := id V90
  have hin99 : ¬ ((1 : Int32) < 0 ∨ cl99.slots.size ≤ ((1 : Int32)).toNatClampNeg) := inb_of S99 ⟨by decide, by decide⟩
  obtain ⟨T100, h100, X100, e100, W100, st100⟩ := stI X98 hx hZ hp98_0 Ar99 (j := (1 : Int32)) hin99 (g := (mkF m 139 #[.val (.int x0), .val (.long x1), .second, .val (.int W), .val (.int A), .val (.int B), .val (.ref b1), .val (.ref b18), .val (.ref b43), .unset, .unset, .unset, .unset, .unset, .unset, .unset, .unset] [(.int (own_iv x1 (4 : Int32))), (.int (1 : Int32)), (.ref b78), (.ref b78)])) rfl rfl (hb hby at_139)
  subst e100
  have F101 := F91.wr W100
  have F102 := F92.other W100 ne79
  have F103 := F93.wr W100
  have F104 := F94.other W100 ne80
  have F105 := F95.wr W100
  have F106 := F96.other W100 ne81
  have N100 := Fr.snoc X100 N98 g_b78
  have Z100 : n0 ≤ T100.heap.size := Nat.le_trans Z90 (Nat.le_of_eq W100.size.symm)
  have V100 : Arv Z T100.heap b78 k78 .int (3 : Int32) [(.int (own_iv x1 (0 : Int32))), (.int (own_iv x1 (4 : Int32))), (.int (0 : Int32))] (.int (0 : Int32)) := Arv.set Ar99 q99 S99 N99 H99 G99 rfl W100 1 rfl (Nat.le_of_ble_eq_true rfl)
  refine Goes.to st100 ?_
  show Goes p.tables e below (T100.setTop (mkF m 140 #[.val (.int x0), .val (.long x1), .second, .val (.int W), .val (.int A), .val (.int B), .val (.ref b1), .val (.ref b18), .val (.ref b43), .unset, .unset, .unset, .unset, .unset, .unset, .unset, .unset] [(.ref b78)])) _
  refine Goes.to (fun _ k => XS.dup X100.here hx rfl (hb hby at_140) rfl rfl k) ?_
  show Goes p.tables e below (T100.setTop (mkF m 141 #[.val (.int x0), .val (.long x1), .second, .val (.int W), .val (.int A), .val (.int B), .val (.ref b1), .val (.ref b18), .val (.ref b43), .unset, .unset, .unset, .unset, .unset, .unset, .unset, .unset] [(.ref b78), (.ref b78)])) _
  refine Goes.to (fun _ k => XS.iconst X100.here hx rfl (hb hby at_141) k) ?_
  show Goes p.tables e below (T100.setTop (mkF m 142 #[.val (.int x0), .val (.long x1), .second, .val (.int W), .val (.int A), .val (.int B), .val (.ref b1), .val (.ref b18), .val (.ref b43), .unset, .unset, .unset, .unset, .unset, .unset, .unset, .unset] [(.int (2 : Int32)), (.ref b78), (.ref b78)])) _
  refine Goes.to (fun _ k => XS.lloadN X100.here hx rfl (hb hby at_142) rfl k) ?_
  show Goes p.tables e below (T100.setTop (mkF m 143 #[.val (.int x0), .val (.long x1), .second, .val (.int W), .val (.int A), .val (.int B), .val (.ref b1), .val (.ref b18), .val (.ref b43), .unset, .unset, .unset, .unset, .unset, .unset, .unset, .unset] [(.long x1), (.int (2 : Int32)), (.ref b78), (.ref b78)])) _
  refine Goes.to (fun _ k => XS.bipush X100.here hx rfl (hb hby at_143) k) ?_
  show Goes p.tables e below (T100.setTop (mkF m 145 #[.val (.int x0), .val (.long x1), .second, .val (.int W), .val (.int A), .val (.int B), .val (.ref b1), .val (.ref b18), .val (.ref b43), .unset, .unset, .unset, .unset, .unset, .unset, .unset, .unset] [(.int (8 : Int32)), (.long x1), (.int (2 : Int32)), (.ref b78), (.ref b78)])) _
  obtain ⟨_, _, ⟨T108, L108, k108, n108⟩, -, X108, ⟨Lc108, hQ108, l108, y108, z108⟩, st108⟩ := Jvm.LawKit.callS X100 hx (y := (⟨"com/example/pareto4/pareto4/front/KeysNoHigherPinLaw", "iv", "(JI)I"⟩ : MethodName)) hown (mvT hZ (hw _ (List.mem_of_getElem? (i := 7) rfl))) (mvT hZ (hw _ (List.mem_of_getElem? (i := 8) rfl))) (mvT hZ (hw _ (List.mem_of_getElem? (i := 3) rfl))) (mvT hZ (hw _ (List.mem_of_getElem? (i := 9) rfl))) (by decide) (backOf (W := 3) (own_rm2 l Z a0 hw [] x1 (8 : Int32) T100.heap n0 Z100 ) hZ (hw _ (List.mem_of_getElem? (i := 9) rfl)) (hw _ (List.mem_of_getElem? (i := 3) rfl)) (by decide) (by decide)) (g := (mkF m 145 #[.val (.int x0), .val (.long x1), .second, .val (.int W), .val (.int A), .val (.int B), .val (.ref b1), .val (.ref b18), .val (.ref b43), .unset, .unset, .unset, .unset, .unset, .unset, .unset, .unset] [(.int (8 : Int32)), (.long x1), (.int (2 : Int32)), (.ref b78), (.ref b78)])) rfl (by rw [hml]; rfl) (argsL := [(.long x1), (.int (8 : Int32))]) (rest := [(.int (2 : Int32)), (.ref b78), (.ref b78)]) (lenOf own_pd_pJIqI rfl) rfl (by show 2 * 0 + _ ≤ _; exact Nat.le_of_eq rfl) (hb hby at_145) (fun _ _ => ⟨rfl, rfl, (by decide : 4 + 0 ≤ _), (by decide : 12 + 0 ≤ _)⟩)
  dsimp only [Pt.U, Pt.locs, Pt.cells, Pt.slots] at X108 l108 y108 z108 st108 hQ108
  subst l108 y108 z108
  obtain ⟨hv108, Nq108, hp108_0⟩ := hQ108
  have N108 := Fr.app N100 Nq108
  subst hv108
  refine Goes.to st108 ?_
  show Goes p.tables e below (T108.setTop (mkF m 148 #[.val (.int x0), .val (.long x1), .second, .val (.int W), .val (.int A), .val (.int B), .val (.ref b1), .val (.ref b18), .val (.ref b43), .unset, .unset, .unset, .unset, .unset, .unset, .unset, .unset] [(.int (own_iv x1 (8 : Int32))), (.int (2 : Int32)), (.ref b78), (.ref b78)])) _
  obtain ⟨cl109, Ar109, q109, S109, N109, H109, G109⟩ := id V100
  have hin109 : ¬ ((2 : Int32) < 0 ∨ cl109.slots.size ≤ ((2 : Int32)).toNatClampNeg) := inb_of S109 ⟨by decide, by decide⟩
  obtain ⟨T110, h110, X110, e110, W110, st110⟩ := stI X108 hx hZ hp108_0 Ar109 (j := (2 : Int32)) hin109 (g := (mkF m 148 #[.val (.int x0), .val (.long x1), .second, .val (.int W), .val (.int A), .val (.int B), .val (.ref b1), .val (.ref b18), .val (.ref b43), .unset, .unset, .unset, .unset, .unset, .unset, .unset, .unset] [(.int (own_iv x1 (8 : Int32))), (.int (2 : Int32)), (.ref b78), (.ref b78)])) rfl rfl (hb hby at_148)
  subst e110
  have F111 := F101.wr W110
  have F112 := F102.other W110 ne79
  have F113 := F103.wr W110
  have F114 := F104.other W110 ne80
  have F115 := F105.wr W110
  have F116 := F106.other W110 ne81
  have N110 := Fr.snoc X110 N108 g_b78
  have Z110 : n0 ≤ T110.heap.size := Nat.le_trans Z100 (Nat.le_of_eq W110.size.symm)
  have V110 : Arv Z T110.heap b78 k78 .int (3 : Int32) [(.int (own_iv x1 (0 : Int32))), (.int (own_iv x1 (4 : Int32))), (.int (own_iv x1 (8 : Int32)))] (.int (0 : Int32)) := Arv.set Ar109 q109 S109 N109 H109 G109 rfl W110 2 rfl (Nat.le_of_ble_eq_true rfl)
  refine Goes.to st110 ?_
  show Goes p.tables e below (T110.setTop (mkF m 149 #[.val (.int x0), .val (.long x1), .second, .val (.int W), .val (.int A), .val (.int B), .val (.ref b1), .val (.ref b18), .val (.ref b43), .unset, .unset, .unset, .unset, .unset, .unset, .unset, .unset] [(.ref b78)])) _
  refine Goes.to (fun _ k => XS.astore X110.here hx rfl (hb hby at_149) rfl rfl (l' := #[.val (.int x0), .val (.long x1), .second, .val (.int W), .val (.int A), .val (.int B), .val (.ref b1), .val (.ref b18), .val (.ref b43), .val (.ref b78), .unset, .unset, .unset, .unset, .unset, .unset, .unset]) rfl k) ?_
  show Goes p.tables e below (T110.setTop (mkF m 151 #[.val (.int x0), .val (.long x1), .second, .val (.int W), .val (.int A), .val (.int B), .val (.ref b1), .val (.ref b18), .val (.ref b43), .val (.ref b78), .unset, .unset, .unset, .unset, .unset, .unset, .unset] [])) _
  refine Goes.to (fun _ k => XS.iconst X110.here hx rfl (hb hby at_151) k) ?_
  show Goes p.tables e below (T110.setTop (mkF m 152 #[.val (.int x0), .val (.long x1), .second, .val (.int W), .val (.int A), .val (.int B), .val (.ref b1), .val (.ref b18), .val (.ref b43), .val (.ref b78), .unset, .unset, .unset, .unset, .unset, .unset, .unset] [(.int (3 : Int32))])) _
  obtain ⟨T118, h118, k118, X118, e118, E118, A118, st118⟩ := newP X110 hx hZ (hw _ (List.mem_of_getElem? (i := 6) rfl)) rfl (g := (mkF m 152 #[.val (.int x0), .val (.long x1), .second, .val (.int W), .val (.int A), .val (.int B), .val (.ref b1), .val (.ref b18), .val (.ref b43), .val (.ref b78), .unset, .unset, .unset, .unset, .unset, .unset, .unset] [(.int (3 : Int32))])) rfl (hb hby at_152) rfl (by decide) (cap := 3) (by decide) (by decide) (by decide) (by decide)
  obtain ⟨b118, g118⟩ : ∃ z, z = T110.heap.size := ⟨_, rfl⟩
  rw [← g118] at A118 st118
  subst e118
  have ne119 : b1 ≠ b118 := Nat.ne_of_lt (Nat.lt_of_lt_of_le F111.lt (Nat.le_of_eq g118.symm))
  have ne120 : b18 ≠ b118 := Nat.ne_of_lt (Nat.lt_of_lt_of_le F113.lt (Nat.le_of_eq g118.symm))
  have ne121 : b43 ≠ b118 := Nat.ne_of_lt (Nat.lt_of_lt_of_le F115.lt (Nat.le_of_eq g118.symm))
  have ne122 : b78 ≠ b118 := Nat.ne_of_lt (Nat.lt_of_lt_of_le V110.lt (Nat.le_of_eq g118.symm))
  have F123 := F111.ext E118
  have F124 := F112.ext E118
  have F125 := F113.ext E118
  have F126 := F114.ext E118
  have F127 := F115.ext E118
  have F128 := F116.ext E118
  have F129 := V110.ext E118
  have g_b118 : n0 ≤ b118 := Nat.le_trans Z110 (Nat.le_of_eq g118.symm)
  have Z118 : n0 ≤ T118.heap.size := Nat.le_trans Z110 E118.1
  have V118 : Arv Z T118.heap b118 k118 .int (3 : Int32) [(.int (0 : Int32)), (.int (0 : Int32)), (.int (0 : Int32))] (.int (0 : Int32)) := (Arv.new A118 (by decide)).pad (pad_rep [] (.int (0 : Int32)) 3)
  refine Goes.to st118 ?_
  show Goes p.tables e below (T118.setTop (mkF m 154 #[.val (.int x0), .val (.long x1), .second, .val (.int W), .val (.int A), .val (.int B), .val (.ref b1), .val (.ref b18), .val (.ref b43), .val (.ref b78), .unset, .unset, .unset, .unset, .unset, .unset, .unset] [(.ref b118)])) _
  refine Goes.to (fun _ k => XS.dup X118.here hx rfl (hb hby at_154) rfl rfl k) ?_
  show Goes p.tables e below (T118.setTop (mkF m 155 #[.val (.int x0), .val (.long x1), .second, .val (.int W), .val (.int A), .val (.int B), .val (.ref b1), .val (.ref b18), .val (.ref b43), .val (.ref b78), .unset, .unset, .unset, .unset, .unset, .unset, .unset] [(.ref b118), (.ref b118)])) _
  refine Goes.to (fun _ k => XS.iconst X118.here hx rfl (hb hby at_155) k) ?_
  show Goes p.tables e below (T118.setTop (mkF m 156 #[.val (.int x0), .val (.long x1), .second, .val (.int W), .val (.int A), .val (.int B), .val (.ref b1), .val (.ref b18), .val (.ref b43), .val (.ref b78), .unset, .unset, .unset, .unset, .unset, .unset, .unset] [(.int (0 : Int32)), (.ref b118), (.ref b118)])) _
  refine Goes.to (fun _ k => XS.lloadN X118.here hx rfl (hb hby at_156) rfl k) ?_
  show Goes p.tables e below (T118.setTop (mkF m 157 #[.val (.int x0), .val (.long x1), .second, .val (.int W), .val (.int A), .val (.int B), .val (.ref b1), .val (.ref b18), .val (.ref b43), .val (.ref b78), .unset, .unset, .unset, .unset, .unset, .unset, .unset] [(.long x1), (.int (0 : Int32)), (.ref b118), (.ref b118)])) _
  refine Goes.to (fun _ k => XS.bipush X118.here hx rfl (hb hby at_157) k) ?_
  show Goes p.tables e below (T118.setTop (mkF m 159 #[.val (.int x0), .val (.long x1), .second, .val (.int W), .val (.int A), .val (.int B), .val (.ref b1), .val (.ref b18), .val (.ref b43), .val (.ref b78), .unset, .unset, .unset, .unset, .unset, .unset, .unset] [(.int (12 : Int32)), (.long x1), (.int (0 : Int32)), (.ref b118), (.ref b118)])) _
  obtain ⟨_, _, ⟨T130, L130, k130, n130⟩, -, X130, ⟨Lc130, hQ130, l130, y130, z130⟩, st130⟩ := Jvm.LawKit.callS X118 hx (y := (⟨"com/example/pareto4/pareto4/front/KeysNoHigherPinLaw", "iv", "(JI)I"⟩ : MethodName)) hown (mvT hZ (hw _ (List.mem_of_getElem? (i := 7) rfl))) (mvT hZ (hw _ (List.mem_of_getElem? (i := 8) rfl))) (mvT hZ (hw _ (List.mem_of_getElem? (i := 3) rfl))) (mvT hZ (hw _ (List.mem_of_getElem? (i := 9) rfl))) (by decide) (backOf (W := 3) (own_rm2 l Z a0 hw [] x1 (12 : Int32) T118.heap n0 Z118 ) hZ (hw _ (List.mem_of_getElem? (i := 9) rfl)) (hw _ (List.mem_of_getElem? (i := 3) rfl)) (by decide) (by decide)) (g := (mkF m 159 #[.val (.int x0), .val (.long x1), .second, .val (.int W), .val (.int A), .val (.int B), .val (.ref b1), .val (.ref b18), .val (.ref b43), .val (.ref b78), .unset, .unset, .unset, .unset, .unset, .unset, .unset] [(.int (12 : Int32)), (.long x1), (.int (0 : Int32)), (.ref b118), (.ref b118)])) rfl (by rw [hml]; rfl) (argsL := [(.long x1), (.int (12 : Int32))]) (rest := [(.int (0 : Int32)), (.ref b118), (.ref b118)]) (lenOf own_pd_pJIqI rfl) rfl (by show 2 * 0 + _ ≤ _; exact Nat.le_of_eq rfl) (hb hby at_159) (fun _ _ => ⟨rfl, rfl, (by decide : 5 + 0 ≤ _), (by decide : 15 + 0 ≤ _)⟩)
  dsimp only [Pt.U, Pt.locs, Pt.cells, Pt.slots] at X130 l130 y130 z130 st130 hQ130
  subst l130 y130 z130
  obtain ⟨hv130, Nq130, hp130_0⟩ := hQ130
  have N130 := Fr.app N110 Nq130
  subst hv130
  refine Goes.to st130 ?_
  show Goes p.tables e below (T130.setTop (mkF m 162 #[.val (.int x0), .val (.long x1), .second, .val (.int W), .val (.int A), .val (.int B), .val (.ref b1), .val (.ref b18), .val (.ref b43), .val (.ref b78), .unset, .unset, .unset, .unset, .unset, .unset, .unset] [(.int (own_iv x1 (12 : Int32))), (.int (0 : Int32)), (.ref b118), (.ref b118)])) _
  obtain ⟨cl131, Ar131, q131, S131, N131, H131, G131⟩ := id V118
  have hin131 : ¬ ((0 : Int32) < 0 ∨ cl131.slots.size ≤ ((0 : Int32)).toNatClampNeg) := inb_of S131 ⟨by decide, by decide⟩
  obtain ⟨T132, h132, X132, e132, W132, st132⟩ := stI X130 hx hZ hp130_0 Ar131 (j := (0 : Int32)) hin131 (g := (mkF m 162 #[.val (.int x0), .val (.long x1), .second, .val (.int W), .val (.int A), .val (.int B), .val (.ref b1), .val (.ref b18), .val (.ref b43), .val (.ref b78), .unset, .unset, .unset, .unset, .unset, .unset, .unset] [(.int (own_iv x1 (12 : Int32))), (.int (0 : Int32)), (.ref b118), (.ref b118)])) rfl rfl (hb hby at_162)
  subst e132
  have F133 := F123.wr W132
  have F134 := F124.other W132 ne119
  have F135 := F125.wr W132
  have F136 := F126.other W132 ne120
  have F137 := F127.wr W132
  have F138 := F128.other W132 ne121
  have F139 := F129.other W132 ne122
  have N132 := Fr.snoc X132 N130 g_b118
  have Z132 : n0 ≤ T132.heap.size := Nat.le_trans Z118 (Nat.le_of_eq W132.size.symm)
  have V132 : Arv Z T132.heap b118 k118 .int (3 : Int32) [(.int (own_iv x1 (12 : Int32))), (.int (0 : Int32)), (.int (0 : Int32))] (.int (0 : Int32)) := Arv.set Ar131 q131 S131 N131 H131 G131 rfl W132 0 rfl (Nat.le_of_ble_eq_true rfl)
  refine Goes.to st132 ?_
  show Goes p.tables e below (T132.setTop (mkF m 163 #[.val (.int x0), .val (.long x1), .second, .val (.int W), .val (.int A), .val (.int B), .val (.ref b1), .val (.ref b18), .val (.ref b43), .val (.ref b78), .unset, .unset, .unset, .unset, .unset, .unset, .unset] [(.ref b118)])) _
  refine Goes.to (fun _ k => XS.dup X132.here hx rfl (hb hby at_163) rfl rfl k) ?_
  show Goes p.tables e below (T132.setTop (mkF m 164 #[.val (.int x0), .val (.long x1), .second, .val (.int W), .val (.int A), .val (.int B), .val (.ref b1), .val (.ref b18), .val (.ref b43), .val (.ref b78), .unset, .unset, .unset, .unset, .unset, .unset, .unset] [(.ref b118), (.ref b118)])) _
  refine Goes.to (fun _ k => XS.iconst X132.here hx rfl (hb hby at_164) k) ?_
  show Goes p.tables e below (T132.setTop (mkF m 165 #[.val (.int x0), .val (.long x1), .second, .val (.int W), .val (.int A), .val (.int B), .val (.ref b1), .val (.ref b18), .val (.ref b43), .val (.ref b78), .unset, .unset, .unset, .unset, .unset, .unset, .unset] [(.int (1 : Int32)), (.ref b118), (.ref b118)])) _
  refine Goes.to (fun _ k => XS.lloadN X132.here hx rfl (hb hby at_165) rfl k) ?_
  show Goes p.tables e below (T132.setTop (mkF m 166 #[.val (.int x0), .val (.long x1), .second, .val (.int W), .val (.int A), .val (.int B), .val (.ref b1), .val (.ref b18), .val (.ref b43), .val (.ref b78), .unset, .unset, .unset, .unset, .unset, .unset, .unset] [(.long x1), (.int (1 : Int32)), (.ref b118), (.ref b118)])) _
  refine Goes.to (fun _ k => XS.bipush X132.here hx rfl (hb hby at_166) k) ?_
  show Goes p.tables e below (T132.setTop (mkF m 168 #[.val (.int x0), .val (.long x1), .second, .val (.int W), .val (.int A), .val (.int B), .val (.ref b1), .val (.ref b18), .val (.ref b43), .val (.ref b78), .unset, .unset, .unset, .unset, .unset, .unset, .unset] [(.int (16 : Int32)), (.long x1), (.int (1 : Int32)), (.ref b118), (.ref b118)])) _
  obtain ⟨_, _, ⟨T141, L141, k141, n141⟩, -, X141, ⟨Lc141, hQ141, l141, y141, z141⟩, st141⟩ := Jvm.LawKit.callS X132 hx (y := (⟨"com/example/pareto4/pareto4/front/KeysNoHigherPinLaw", "iv", "(JI)I"⟩ : MethodName)) hown (mvT hZ (hw _ (List.mem_of_getElem? (i := 7) rfl))) (mvT hZ (hw _ (List.mem_of_getElem? (i := 8) rfl))) (mvT hZ (hw _ (List.mem_of_getElem? (i := 3) rfl))) (mvT hZ (hw _ (List.mem_of_getElem? (i := 9) rfl))) (by decide) (backOf (W := 3) (own_rm2 l Z a0 hw [] x1 (16 : Int32) T132.heap n0 Z132 ) hZ (hw _ (List.mem_of_getElem? (i := 9) rfl)) (hw _ (List.mem_of_getElem? (i := 3) rfl)) (by decide) (by decide)) (g := (mkF m 168 #[.val (.int x0), .val (.long x1), .second, .val (.int W), .val (.int A), .val (.int B), .val (.ref b1), .val (.ref b18), .val (.ref b43), .val (.ref b78), .unset, .unset, .unset, .unset, .unset, .unset, .unset] [(.int (16 : Int32)), (.long x1), (.int (1 : Int32)), (.ref b118), (.ref b118)])) rfl (by rw [hml]; rfl) (argsL := [(.long x1), (.int (16 : Int32))]) (rest := [(.int (1 : Int32)), (.ref b118), (.ref b118)]) (lenOf own_pd_pJIqI rfl) rfl (by show 2 * 0 + _ ≤ _; exact Nat.le_of_eq rfl) (hb hby at_168) (fun _ _ => ⟨rfl, rfl, (by decide : 5 + 0 ≤ _), (by decide : 15 + 0 ≤ _)⟩)
  dsimp only [Pt.U, Pt.locs, Pt.cells, Pt.slots] at X141 l141 y141 z141 st141 hQ141
  subst l141 y141 z141
  obtain ⟨hv141, Nq141, hp141_0⟩ := hQ141
  have N141 := Fr.app N132 Nq141
  subst hv141
  refine Goes.to st141 ?_
  show Goes p.tables e below (T141.setTop (mkF m 171 #[.val (.int x0), .val (.long x1), .second, .val (.int W), .val (.int A), .val (.int B), .val (.ref b1), .val (.ref b18), .val (.ref b43), .val (.ref b78), .unset, .unset, .unset, .unset, .unset, .unset, .unset] [(.int (own_iv x1 (16 : Int32))), (.int (1 : Int32)), (.ref b118), (.ref b118)])) _
  obtain ⟨cl142, Ar142, q142, S142, N142, H142, G142⟩ := id V132
  have hin142 : ¬ ((1 : Int32) < 0 ∨ cl142.slots.size ≤ ((1 : Int32)).toNatClampNeg) := inb_of S142 ⟨by decide, by decide⟩
  obtain ⟨T143, h143, X143, e143, W143, st143⟩ := stI X141 hx hZ hp141_0 Ar142 (j := (1 : Int32)) hin142 (g := (mkF m 171 #[.val (.int x0), .val (.long x1), .second, .val (.int W), .val (.int A), .val (.int B), .val (.ref b1), .val (.ref b18), .val (.ref b43), .val (.ref b78), .unset, .unset, .unset, .unset, .unset, .unset, .unset] [(.int (own_iv x1 (16 : Int32))), (.int (1 : Int32)), (.ref b118), (.ref b118)])) rfl rfl (hb hby at_171)
  subst e143
  have F144 := F133.wr W143
  have F145 := F134.other W143 ne119
  have F146 := F135.wr W143
  have F147 := F136.other W143 ne120
  have F148 := F137.wr W143
  have F149 := F138.other W143 ne121
  have F150 := F139.other W143 ne122
  have N143 := Fr.snoc X143 N141 g_b118
  have Z143 : n0 ≤ T143.heap.size := Nat.le_trans Z132 (Nat.le_of_eq W143.size.symm)
  have V143 : Arv Z T143.heap b118 k118 .int (3 : Int32) [(.int (own_iv x1 (12 : Int32))), (.int (own_iv x1 (16 : Int32))), (.int (0 : Int32))] (.int (0 : Int32)) := Arv.set Ar142 q142 S142 N142 H142 G142 rfl W143 1 rfl (Nat.le_of_ble_eq_true rfl)
  refine Goes.to st143 ?_
  show Goes p.tables e below (T143.setTop (mkF m 172 #[.val (.int x0), .val (.long x1), .second, .val (.int W), .val (.int A), .val (.int B), .val (.ref b1), .val (.ref b18), .val (.ref b43), .val (.ref b78), .unset, .unset, .unset, .unset, .unset, .unset, .unset] [(.ref b118)])) _
  refine Goes.to (fun _ k => XS.dup X143.here hx rfl (hb hby at_172) rfl rfl k) ?_
  show Goes p.tables e below (T143.setTop (mkF m 173 #[.val (.int x0), .val (.long x1), .second, .val (.int W), .val (.int A), .val (.int B), .val (.ref b1), .val (.ref b18), .val (.ref b43), .val (.ref b78), .unset, .unset, .unset, .unset, .unset, .unset, .unset] [(.ref b118), (.ref b118)])) _
  refine Goes.to (fun _ k => XS.iconst X143.here hx rfl (hb hby at_173) k) ?_
  exact own_pt_own_rm0_152 l Z a0 hw ws x0 x1 h0 n0 Z0  Bd hml0 hh hZ b1 k1 b18 k18 b43 k43 b78 k78 b118 k118 W A B T143 _  T143.heap X143 rfl N143 Z143  F144 F145 F146 F147 F148 F149 F150 V143 Pg68_6 Pn68_7 Pg68_8 Pn68_9 Pn68_10 Pg68_11 ne79 ne80 ne81 g_b78 ne119 ne120 ne121 ne122 g_b118 hA0 hA1 hB0 hB1 hnm_W
set_option maxRecDepth 65536 in
set_option maxHeartbeats 40000000 in
theorem own_pt_own_rm0_17 (l : Launch) (Z : State) (a0 : Array Value) (hw : ∀ d ∈ tables_1, d.before a0 Z = true) (ws : List Jvm.Cond) (x0 : Int32) (x1 : Int64)  (h0 : Heap) (n0 : Nat) (Z0 : n0 ≤ h0.size) 
    {p : Program} {e : Env} {s : State} {m : MethodId} {below : List Frame} {meth : Method} {c : Code} {s₁ : State} (Bd : BodyLoose p l x (head1 (Jvm.Cond.code x code maxLocals ret :: ws) room_1) code maxLocals ret e s m #[(.int x0), (.long x1)] below meth c s₁) (hml0 : c.maxLocals = maxLocals) (hh : s.heap = h0) (hZ : Z.Warmed39 s.vm)
    (b1 : Addr) (k1 : ClassId) (W : Int32) (A : Int32) (B : Int32)
    (Tpt : State) (lpt : List Loc)  (hpt : Heap)
    (Xpt : Stand p l e room_1 s m #[(.int x0), (.long x1)] below meth c Tpt lpt 1 3) (Ept : Tpt.heap = hpt) (Npt : Fr n0 lpt) (Zpt : n0 ≤ hpt.size) 
    (Pf17_0 : Exa Z hpt b1 "[D")
    (Pf17_1 : Arv Z hpt b1 k1 .double (3 : Int32) [(.double (own_dv x1 (0 : Int32))), (.double (own_dv x1 (4 : Int32))), (.double (own_dv x1 (8 : Int32)))] (.double (0 : UInt64)))
    (Pg17_2 : n0 ≤ b1)
    (hA0 : ¬ (A < (0 : Int32)))
    (hA1 : A < (3 : Int32))
    (hB0 : ¬ (B < (0 : Int32)))
    (hB1 : B < (3 : Int32))
    (hnm_W : (x0 &&& (3 : Int32)) = W)
    : Goes p.tables e below (Tpt.setTop (mkF m 55 #[.val (.int x0), .val (.long x1), .second, .val (.int W), .val (.int A), .val (.int B), .unset, .unset, .unset, .unset, .unset, .unset, .unset, .unset, .unset, .unset, .unset] [(.ref b1)])) (own_R below s (own_Q_own_rm0 Z x0 x1 h0 n0) 7 21) := by
  have hx := Bd.exec
  have hby := Bd.bytes
  have hml : c.maxLocals = 17 := hml0
  have hnm := (name_of_methodNamed Bd.named Bd.method).1
  have hown : s.vm.findClass "com/example/pareto4/pareto4/front/KeysNoHigherPinLaw" = some m.cls := findClass_of_methodNamed Bd.named
  show Goes p.tables e below (Tpt.setTop (mkF m 55 #[.val (.int x0), .val (.long x1), .second, .val (.int W), .val (.int A), .val (.int B), .unset, .unset, .unset, .unset, .unset, .unset, .unset, .unset, .unset, .unset, .unset] [(.ref b1)])) _
  refine Goes.to (fun _ k => XS.astore Xpt.here hx rfl (hb hby at_55) rfl rfl (l' := #[.val (.int x0), .val (.long x1), .second, .val (.int W), .val (.int A), .val (.int B), .val (.ref b1), .unset, .unset, .unset, .unset, .unset, .unset, .unset, .unset, .unset, .unset]) rfl k) ?_
  show Goes p.tables e below (Tpt.setTop (mkF m 57 #[.val (.int x0), .val (.long x1), .second, .val (.int W), .val (.int A), .val (.int B), .val (.ref b1), .unset, .unset, .unset, .unset, .unset, .unset, .unset, .unset, .unset, .unset] [])) _
  refine Goes.to (fun _ k => XS.iconst Xpt.here hx rfl (hb hby at_57) k) ?_
  show Goes p.tables e below (Tpt.setTop (mkF m 58 #[.val (.int x0), .val (.long x1), .second, .val (.int W), .val (.int A), .val (.int B), .val (.ref b1), .unset, .unset, .unset, .unset, .unset, .unset, .unset, .unset, .unset, .unset] [(.int (3 : Int32))])) _
  obtain ⟨T18, h18, k18, X18, e18, E18, A18, Ex18, st18⟩ := newPE Xpt hx hZ (hw _ (List.mem_of_getElem? (i := 0) rfl)) Ept (g := (mkF m 58 #[.val (.int x0), .val (.long x1), .second, .val (.int W), .val (.int A), .val (.int B), .val (.ref b1), .unset, .unset, .unset, .unset, .unset, .unset, .unset, .unset, .unset, .unset] [(.int (3 : Int32))])) rfl (hb hby at_58) rfl (by decide) (cap := 3) (by decide) (by decide) (by decide) (by decide) (ad := "[D") (by decide)
  obtain ⟨b18, g18⟩ : ∃ z, z = hpt.size := ⟨_, rfl⟩
  rw [← g18] at A18 Ex18 st18
  subst e18
  have ne19 : b1 ≠ b18 := Nat.ne_of_lt (Nat.lt_of_lt_of_le Pf17_0.lt (Nat.le_of_eq g18.symm))
  have F20 := Pf17_0.ext E18
  have F21 := Pf17_1.ext E18
  have g_b18 : n0 ≤ b18 := Nat.le_trans Zpt (Nat.le_of_eq g18.symm)
  have Z18 : n0 ≤ T18.heap.size := Nat.le_trans Zpt E18.1
  have V18 : Arv Z T18.heap b18 k18 .double (3 : Int32) [(.double (0 : UInt64)), (.double (0 : UInt64)), (.double (0 : UInt64))] (.double (0 : UInt64)) := (Arv.new A18 (by decide)).pad (pad_rep [] (.double (0 : UInt64)) 3)
  refine Goes.to st18 ?_
  show Goes p.tables e below (T18.setTop (mkF m 60 #[.val (.int x0), .val (.long x1), .second, .val (.int W), .val (.int A), .val (.int B), .val (.ref b1), .unset, .unset, .unset, .unset, .unset, .unset, .unset, .unset, .unset, .unset] [(.ref b18)])) _
  refine Goes.to (fun _ k => XS.dup X18.here hx rfl (hb hby at_60) rfl rfl k) ?_
  show Goes p.tables e below (T18.setTop (mkF m 61 #[.val (.int x0), .val (.long x1), .second, .val (.int W), .val (.int A), .val (.int B), .val (.ref b1), .unset, .unset, .unset, .unset, .unset, .unset, .unset, .unset, .unset, .unset] [(.ref b18), (.ref b18)])) _
  refine Goes.to (fun _ k => XS.iconst X18.here hx rfl (hb hby at_61) k) ?_
  show Goes p.tables e below (T18.setTop (mkF m 62 #[.val (.int x0), .val (.long x1), .second, .val (.int W), .val (.int A), .val (.int B), .val (.ref b1), .unset, .unset, .unset, .unset, .unset, .unset, .unset, .unset, .unset, .unset] [(.int (0 : Int32)), (.ref b18), (.ref b18)])) _
  refine Goes.to (fun _ k => XS.lloadN X18.here hx rfl (hb hby at_62) rfl k) ?_
  show Goes p.tables e below (T18.setTop (mkF m 63 #[.val (.int x0), .val (.long x1), .second, .val (.int W), .val (.int A), .val (.int B), .val (.ref b1), .unset, .unset, .unset, .unset, .unset, .unset, .unset, .unset, .unset, .unset] [(.long x1), (.int (0 : Int32)), (.ref b18), (.ref b18)])) _
  refine Goes.to (fun _ k => XS.bipush X18.here hx rfl (hb hby at_63) k) ?_
  show Goes p.tables e below (T18.setTop (mkF m 65 #[.val (.int x0), .val (.long x1), .second, .val (.int W), .val (.int A), .val (.int B), .val (.ref b1), .unset, .unset, .unset, .unset, .unset, .unset, .unset, .unset, .unset, .unset] [(.int (12 : Int32)), (.long x1), (.int (0 : Int32)), (.ref b18), (.ref b18)])) _
  obtain ⟨_, _, ⟨T22, L22, k22, n22⟩, -, X22, ⟨Lc22, hQ22, l22, y22, z22⟩, st22⟩ := Jvm.LawKit.callS X18 hx (y := (⟨"com/example/pareto4/pareto4/front/KeysNoHigherPinLaw", "dv", "(JI)D"⟩ : MethodName)) hown (mvT hZ (hw _ (List.mem_of_getElem? (i := 1) rfl))) (mvT hZ (hw _ (List.mem_of_getElem? (i := 2) rfl))) (mvT hZ (hw _ (List.mem_of_getElem? (i := 3) rfl))) (mvT hZ (hw _ (List.mem_of_getElem? (i := 4) rfl))) (by decide) (backOf (W := 3) (own_rm1 l Z a0 hw [] x1 (12 : Int32) T18.heap n0 Z18 ) hZ (hw _ (List.mem_of_getElem? (i := 4) rfl)) (hw _ (List.mem_of_getElem? (i := 3) rfl)) (by decide) (by decide)) (g := (mkF m 65 #[.val (.int x0), .val (.long x1), .second, .val (.int W), .val (.int A), .val (.int B), .val (.ref b1), .unset, .unset, .unset, .unset, .unset, .unset, .unset, .unset, .unset, .unset] [(.int (12 : Int32)), (.long x1), (.int (0 : Int32)), (.ref b18), (.ref b18)])) rfl (by rw [hml]; rfl) (argsL := [(.long x1), (.int (12 : Int32))]) (rest := [(.int (0 : Int32)), (.ref b18), (.ref b18)]) (lenOf own_pd_pJIqD rfl) rfl (by show 2 * 0 + _ ≤ _; exact Nat.le_of_eq rfl) (hb hby at_65) (fun _ _ => ⟨rfl, rfl, (by decide : 2 + 0 ≤ _), (by decide : 6 + 0 ≤ _)⟩)
  dsimp only [Pt.U, Pt.locs, Pt.cells, Pt.slots] at X22 l22 y22 z22 st22 hQ22
  subst l22 y22 z22
  obtain ⟨hv22, Nq22, hp22_0⟩ := hQ22
  have N22 := Fr.app Npt Nq22
  subst hv22
  refine Goes.to st22 ?_
  show Goes p.tables e below (T22.setTop (mkF m 68 #[.val (.int x0), .val (.long x1), .second, .val (.int W), .val (.int A), .val (.int B), .val (.ref b1), .unset, .unset, .unset, .unset, .unset, .unset, .unset, .unset, .unset, .unset] [(.double (own_dv x1 (12 : Int32))), (.int (0 : Int32)), (.ref b18), (.ref b18)])) _
  obtain ⟨cl23, Ar23, q23, S23, N23, H23, G23⟩ := id V18
  have hin23 : ¬ ((0 : Int32) < 0 ∨ cl23.slots.size ≤ ((0 : Int32)).toNatClampNeg) := inb_of S23 ⟨by decide, by decide⟩
  obtain ⟨T24, h24, X24, e24, W24, st24⟩ := stD X22 hx hZ hp22_0 Ar23 (j := (0 : Int32)) hin23 (g := (mkF m 68 #[.val (.int x0), .val (.long x1), .second, .val (.int W), .val (.int A), .val (.int B), .val (.ref b1), .unset, .unset, .unset, .unset, .unset, .unset, .unset, .unset, .unset, .unset] [(.double (own_dv x1 (12 : Int32))), (.int (0 : Int32)), (.ref b18), (.ref b18)])) rfl rfl (hb hby at_68)
  subst e24
  have F25 := F20.wr W24
  have F26 := F21.other W24 ne19
  have F27 := Ex18.wr W24
  have N24 := Fr.snoc X24 N22 g_b18
  have Z24 : n0 ≤ T24.heap.size := Nat.le_trans Z18 (Nat.le_of_eq W24.size.symm)
  have V24 : Arv Z T24.heap b18 k18 .double (3 : Int32) [(.double (own_dv x1 (12 : Int32))), (.double (0 : UInt64)), (.double (0 : UInt64))] (.double (0 : UInt64)) := Arv.set Ar23 q23 S23 N23 H23 G23 rfl W24 0 rfl (Nat.le_of_ble_eq_true rfl)
  refine Goes.to st24 ?_
  show Goes p.tables e below (T24.setTop (mkF m 69 #[.val (.int x0), .val (.long x1), .second, .val (.int W), .val (.int A), .val (.int B), .val (.ref b1), .unset, .unset, .unset, .unset, .unset, .unset, .unset, .unset, .unset, .unset] [(.ref b18)])) _
  refine Goes.to (fun _ k => XS.dup X24.here hx rfl (hb hby at_69) rfl rfl k) ?_
  show Goes p.tables e below (T24.setTop (mkF m 70 #[.val (.int x0), .val (.long x1), .second, .val (.int W), .val (.int A), .val (.int B), .val (.ref b1), .unset, .unset, .unset, .unset, .unset, .unset, .unset, .unset, .unset, .unset] [(.ref b18), (.ref b18)])) _
  refine Goes.to (fun _ k => XS.iconst X24.here hx rfl (hb hby at_70) k) ?_
  show Goes p.tables e below (T24.setTop (mkF m 71 #[.val (.int x0), .val (.long x1), .second, .val (.int W), .val (.int A), .val (.int B), .val (.ref b1), .unset, .unset, .unset, .unset, .unset, .unset, .unset, .unset, .unset, .unset] [(.int (1 : Int32)), (.ref b18), (.ref b18)])) _
  refine Goes.to (fun _ k => XS.lloadN X24.here hx rfl (hb hby at_71) rfl k) ?_
  show Goes p.tables e below (T24.setTop (mkF m 72 #[.val (.int x0), .val (.long x1), .second, .val (.int W), .val (.int A), .val (.int B), .val (.ref b1), .unset, .unset, .unset, .unset, .unset, .unset, .unset, .unset, .unset, .unset] [(.long x1), (.int (1 : Int32)), (.ref b18), (.ref b18)])) _
  refine Goes.to (fun _ k => XS.bipush X24.here hx rfl (hb hby at_72) k) ?_
  show Goes p.tables e below (T24.setTop (mkF m 74 #[.val (.int x0), .val (.long x1), .second, .val (.int W), .val (.int A), .val (.int B), .val (.ref b1), .unset, .unset, .unset, .unset, .unset, .unset, .unset, .unset, .unset, .unset] [(.int (16 : Int32)), (.long x1), (.int (1 : Int32)), (.ref b18), (.ref b18)])) _
  obtain ⟨_, _, ⟨T29, L29, k29, n29⟩, -, X29, ⟨Lc29, hQ29, l29, y29, z29⟩, st29⟩ := Jvm.LawKit.callS X24 hx (y := (⟨"com/example/pareto4/pareto4/front/KeysNoHigherPinLaw", "dv", "(JI)D"⟩ : MethodName)) hown (mvT hZ (hw _ (List.mem_of_getElem? (i := 1) rfl))) (mvT hZ (hw _ (List.mem_of_getElem? (i := 2) rfl))) (mvT hZ (hw _ (List.mem_of_getElem? (i := 3) rfl))) (mvT hZ (hw _ (List.mem_of_getElem? (i := 4) rfl))) (by decide) (backOf (W := 3) (own_rm1 l Z a0 hw [] x1 (16 : Int32) T24.heap n0 Z24 ) hZ (hw _ (List.mem_of_getElem? (i := 4) rfl)) (hw _ (List.mem_of_getElem? (i := 3) rfl)) (by decide) (by decide)) (g := (mkF m 74 #[.val (.int x0), .val (.long x1), .second, .val (.int W), .val (.int A), .val (.int B), .val (.ref b1), .unset, .unset, .unset, .unset, .unset, .unset, .unset, .unset, .unset, .unset] [(.int (16 : Int32)), (.long x1), (.int (1 : Int32)), (.ref b18), (.ref b18)])) rfl (by rw [hml]; rfl) (argsL := [(.long x1), (.int (16 : Int32))]) (rest := [(.int (1 : Int32)), (.ref b18), (.ref b18)]) (lenOf own_pd_pJIqD rfl) rfl (by show 2 * 0 + _ ≤ _; exact Nat.le_of_eq rfl) (hb hby at_74) (fun _ _ => ⟨rfl, rfl, (by decide : 2 + 0 ≤ _), (by decide : 6 + 0 ≤ _)⟩)
  dsimp only [Pt.U, Pt.locs, Pt.cells, Pt.slots] at X29 l29 y29 z29 st29 hQ29
  subst l29 y29 z29
  obtain ⟨hv29, Nq29, hp29_0⟩ := hQ29
  have N29 := Fr.app N24 Nq29
  subst hv29
  refine Goes.to st29 ?_
  show Goes p.tables e below (T29.setTop (mkF m 77 #[.val (.int x0), .val (.long x1), .second, .val (.int W), .val (.int A), .val (.int B), .val (.ref b1), .unset, .unset, .unset, .unset, .unset, .unset, .unset, .unset, .unset, .unset] [(.double (own_dv x1 (16 : Int32))), (.int (1 : Int32)), (.ref b18), (.ref b18)])) _
  obtain ⟨cl30, Ar30, q30, S30, N30, H30, G30⟩ := id V24
  have hin30 : ¬ ((1 : Int32) < 0 ∨ cl30.slots.size ≤ ((1 : Int32)).toNatClampNeg) := inb_of S30 ⟨by decide, by decide⟩
  obtain ⟨T31, h31, X31, e31, W31, st31⟩ := stD X29 hx hZ hp29_0 Ar30 (j := (1 : Int32)) hin30 (g := (mkF m 77 #[.val (.int x0), .val (.long x1), .second, .val (.int W), .val (.int A), .val (.int B), .val (.ref b1), .unset, .unset, .unset, .unset, .unset, .unset, .unset, .unset, .unset, .unset] [(.double (own_dv x1 (16 : Int32))), (.int (1 : Int32)), (.ref b18), (.ref b18)])) rfl rfl (hb hby at_77)
  subst e31
  have F32 := F25.wr W31
  have F33 := F26.other W31 ne19
  have F34 := F27.wr W31
  have N31 := Fr.snoc X31 N29 g_b18
  have Z31 : n0 ≤ T31.heap.size := Nat.le_trans Z24 (Nat.le_of_eq W31.size.symm)
  have V31 : Arv Z T31.heap b18 k18 .double (3 : Int32) [(.double (own_dv x1 (12 : Int32))), (.double (own_dv x1 (16 : Int32))), (.double (0 : UInt64))] (.double (0 : UInt64)) := Arv.set Ar30 q30 S30 N30 H30 G30 rfl W31 1 rfl (Nat.le_of_ble_eq_true rfl)
  refine Goes.to st31 ?_
  show Goes p.tables e below (T31.setTop (mkF m 78 #[.val (.int x0), .val (.long x1), .second, .val (.int W), .val (.int A), .val (.int B), .val (.ref b1), .unset, .unset, .unset, .unset, .unset, .unset, .unset, .unset, .unset, .unset] [(.ref b18)])) _
  refine Goes.to (fun _ k => XS.dup X31.here hx rfl (hb hby at_78) rfl rfl k) ?_
  show Goes p.tables e below (T31.setTop (mkF m 79 #[.val (.int x0), .val (.long x1), .second, .val (.int W), .val (.int A), .val (.int B), .val (.ref b1), .unset, .unset, .unset, .unset, .unset, .unset, .unset, .unset, .unset, .unset] [(.ref b18), (.ref b18)])) _
  refine Goes.to (fun _ k => XS.iconst X31.here hx rfl (hb hby at_79) k) ?_
  show Goes p.tables e below (T31.setTop (mkF m 80 #[.val (.int x0), .val (.long x1), .second, .val (.int W), .val (.int A), .val (.int B), .val (.ref b1), .unset, .unset, .unset, .unset, .unset, .unset, .unset, .unset, .unset, .unset] [(.int (2 : Int32)), (.ref b18), (.ref b18)])) _
  refine Goes.to (fun _ k => XS.lloadN X31.here hx rfl (hb hby at_80) rfl k) ?_
  show Goes p.tables e below (T31.setTop (mkF m 81 #[.val (.int x0), .val (.long x1), .second, .val (.int W), .val (.int A), .val (.int B), .val (.ref b1), .unset, .unset, .unset, .unset, .unset, .unset, .unset, .unset, .unset, .unset] [(.long x1), (.int (2 : Int32)), (.ref b18), (.ref b18)])) _
  refine Goes.to (fun _ k => XS.bipush X31.here hx rfl (hb hby at_81) k) ?_
  show Goes p.tables e below (T31.setTop (mkF m 83 #[.val (.int x0), .val (.long x1), .second, .val (.int W), .val (.int A), .val (.int B), .val (.ref b1), .unset, .unset, .unset, .unset, .unset, .unset, .unset, .unset, .unset, .unset] [(.int (20 : Int32)), (.long x1), (.int (2 : Int32)), (.ref b18), (.ref b18)])) _
  obtain ⟨_, _, ⟨T36, L36, k36, n36⟩, -, X36, ⟨Lc36, hQ36, l36, y36, z36⟩, st36⟩ := Jvm.LawKit.callS X31 hx (y := (⟨"com/example/pareto4/pareto4/front/KeysNoHigherPinLaw", "dv", "(JI)D"⟩ : MethodName)) hown (mvT hZ (hw _ (List.mem_of_getElem? (i := 1) rfl))) (mvT hZ (hw _ (List.mem_of_getElem? (i := 2) rfl))) (mvT hZ (hw _ (List.mem_of_getElem? (i := 3) rfl))) (mvT hZ (hw _ (List.mem_of_getElem? (i := 4) rfl))) (by decide) (backOf (W := 3) (own_rm1 l Z a0 hw [] x1 (20 : Int32) T31.heap n0 Z31 ) hZ (hw _ (List.mem_of_getElem? (i := 4) rfl)) (hw _ (List.mem_of_getElem? (i := 3) rfl)) (by decide) (by decide)) (g := (mkF m 83 #[.val (.int x0), .val (.long x1), .second, .val (.int W), .val (.int A), .val (.int B), .val (.ref b1), .unset, .unset, .unset, .unset, .unset, .unset, .unset, .unset, .unset, .unset] [(.int (20 : Int32)), (.long x1), (.int (2 : Int32)), (.ref b18), (.ref b18)])) rfl (by rw [hml]; rfl) (argsL := [(.long x1), (.int (20 : Int32))]) (rest := [(.int (2 : Int32)), (.ref b18), (.ref b18)]) (lenOf own_pd_pJIqD rfl) rfl (by show 2 * 0 + _ ≤ _; exact Nat.le_of_eq rfl) (hb hby at_83) (fun _ _ => ⟨rfl, rfl, (by decide : 2 + 0 ≤ _), (by decide : 6 + 0 ≤ _)⟩)
  dsimp only [Pt.U, Pt.locs, Pt.cells, Pt.slots] at X36 l36 y36 z36 st36 hQ36
  subst l36 y36 z36
  obtain ⟨hv36, Nq36, hp36_0⟩ := hQ36
  have N36 := Fr.app N31 Nq36
  subst hv36
  refine Goes.to st36 ?_
  show Goes p.tables e below (T36.setTop (mkF m 86 #[.val (.int x0), .val (.long x1), .second, .val (.int W), .val (.int A), .val (.int B), .val (.ref b1), .unset, .unset, .unset, .unset, .unset, .unset, .unset, .unset, .unset, .unset] [(.double (own_dv x1 (20 : Int32))), (.int (2 : Int32)), (.ref b18), (.ref b18)])) _
  obtain ⟨cl37, Ar37, q37, S37, N37, H37, G37⟩ := id V31
  have hin37 : ¬ ((2 : Int32) < 0 ∨ cl37.slots.size ≤ ((2 : Int32)).toNatClampNeg) := inb_of S37 ⟨by decide, by decide⟩
  obtain ⟨T38, h38, X38, e38, W38, st38⟩ := stD X36 hx hZ hp36_0 Ar37 (j := (2 : Int32)) hin37 (g := (mkF m 86 #[.val (.int x0), .val (.long x1), .second, .val (.int W), .val (.int A), .val (.int B), .val (.ref b1), .unset, .unset, .unset, .unset, .unset, .unset, .unset, .unset, .unset, .unset] [(.double (own_dv x1 (20 : Int32))), (.int (2 : Int32)), (.ref b18), (.ref b18)])) rfl rfl (hb hby at_86)
  subst e38
  have F39 := F32.wr W38
  have F40 := F33.other W38 ne19
  have F41 := F34.wr W38
  have N38 := Fr.snoc X38 N36 g_b18
  have Z38 : n0 ≤ T38.heap.size := Nat.le_trans Z31 (Nat.le_of_eq W38.size.symm)
  have V38 : Arv Z T38.heap b18 k18 .double (3 : Int32) [(.double (own_dv x1 (12 : Int32))), (.double (own_dv x1 (16 : Int32))), (.double (own_dv x1 (20 : Int32)))] (.double (0 : UInt64)) := Arv.set Ar37 q37 S37 N37 H37 G37 rfl W38 2 rfl (Nat.le_of_ble_eq_true rfl)
  refine Goes.to st38 ?_
  show Goes p.tables e below (T38.setTop (mkF m 87 #[.val (.int x0), .val (.long x1), .second, .val (.int W), .val (.int A), .val (.int B), .val (.ref b1), .unset, .unset, .unset, .unset, .unset, .unset, .unset, .unset, .unset, .unset] [(.ref b18)])) _
  refine Goes.to (fun _ k => XS.astore X38.here hx rfl (hb hby at_87) rfl rfl (l' := #[.val (.int x0), .val (.long x1), .second, .val (.int W), .val (.int A), .val (.int B), .val (.ref b1), .val (.ref b18), .unset, .unset, .unset, .unset, .unset, .unset, .unset, .unset, .unset]) rfl k) ?_
  show Goes p.tables e below (T38.setTop (mkF m 89 #[.val (.int x0), .val (.long x1), .second, .val (.int W), .val (.int A), .val (.int B), .val (.ref b1), .val (.ref b18), .unset, .unset, .unset, .unset, .unset, .unset, .unset, .unset, .unset] [])) _
  refine Goes.to (fun _ k => XS.iconst X38.here hx rfl (hb hby at_89) k) ?_
  show Goes p.tables e below (T38.setTop (mkF m 90 #[.val (.int x0), .val (.long x1), .second, .val (.int W), .val (.int A), .val (.int B), .val (.ref b1), .val (.ref b18), .unset, .unset, .unset, .unset, .unset, .unset, .unset, .unset, .unset] [(.int (3 : Int32))])) _
  obtain ⟨T43, h43, k43, X43, e43, E43, A43, Ex43, st43⟩ := newPE X38 hx hZ (hw _ (List.mem_of_getElem? (i := 0) rfl)) rfl (g := (mkF m 90 #[.val (.int x0), .val (.long x1), .second, .val (.int W), .val (.int A), .val (.int B), .val (.ref b1), .val (.ref b18), .unset, .unset, .unset, .unset, .unset, .unset, .unset, .unset, .unset] [(.int (3 : Int32))])) rfl (hb hby at_90) rfl (by decide) (cap := 3) (by decide) (by decide) (by decide) (by decide) (ad := "[D") (by decide)
  obtain ⟨b43, g43⟩ : ∃ z, z = T38.heap.size := ⟨_, rfl⟩
  rw [← g43] at A43 Ex43 st43
  subst e43
  have ne44 : b1 ≠ b43 := Nat.ne_of_lt (Nat.lt_of_lt_of_le F39.lt (Nat.le_of_eq g43.symm))
  have ne45 : b18 ≠ b43 := Nat.ne_of_lt (Nat.lt_of_lt_of_le F41.lt (Nat.le_of_eq g43.symm))
  have F46 := F39.ext E43
  have F47 := F40.ext E43
  have F48 := F41.ext E43
  have F49 := V38.ext E43
  have g_b43 : n0 ≤ b43 := Nat.le_trans Z38 (Nat.le_of_eq g43.symm)
  have Z43 : n0 ≤ T43.heap.size := Nat.le_trans Z38 E43.1
  have V43 : Arv Z T43.heap b43 k43 .double (3 : Int32) [(.double (0 : UInt64)), (.double (0 : UInt64)), (.double (0 : UInt64))] (.double (0 : UInt64)) := (Arv.new A43 (by decide)).pad (pad_rep [] (.double (0 : UInt64)) 3)
  refine Goes.to st43 ?_
  show Goes p.tables e below (T43.setTop (mkF m 92 #[.val (.int x0), .val (.long x1), .second, .val (.int W), .val (.int A), .val (.int B), .val (.ref b1), .val (.ref b18), .unset, .unset, .unset, .unset, .unset, .unset, .unset, .unset, .unset] [(.ref b43)])) _
  refine Goes.to (fun _ k => XS.dup X43.here hx rfl (hb hby at_92) rfl rfl k) ?_
  show Goes p.tables e below (T43.setTop (mkF m 93 #[.val (.int x0), .val (.long x1), .second, .val (.int W), .val (.int A), .val (.int B), .val (.ref b1), .val (.ref b18), .unset, .unset, .unset, .unset, .unset, .unset, .unset, .unset, .unset] [(.ref b43), (.ref b43)])) _
  refine Goes.to (fun _ k => XS.iconst X43.here hx rfl (hb hby at_93) k) ?_
  show Goes p.tables e below (T43.setTop (mkF m 94 #[.val (.int x0), .val (.long x1), .second, .val (.int W), .val (.int A), .val (.int B), .val (.ref b1), .val (.ref b18), .unset, .unset, .unset, .unset, .unset, .unset, .unset, .unset, .unset] [(.int (0 : Int32)), (.ref b43), (.ref b43)])) _
  refine Goes.to (fun _ k => XS.lloadN X43.here hx rfl (hb hby at_94) rfl k) ?_
  show Goes p.tables e below (T43.setTop (mkF m 95 #[.val (.int x0), .val (.long x1), .second, .val (.int W), .val (.int A), .val (.int B), .val (.ref b1), .val (.ref b18), .unset, .unset, .unset, .unset, .unset, .unset, .unset, .unset, .unset] [(.long x1), (.int (0 : Int32)), (.ref b43), (.ref b43)])) _
  refine Goes.to (fun _ k => XS.bipush X43.here hx rfl (hb hby at_95) k) ?_
  show Goes p.tables e below (T43.setTop (mkF m 97 #[.val (.int x0), .val (.long x1), .second, .val (.int W), .val (.int A), .val (.int B), .val (.ref b1), .val (.ref b18), .unset, .unset, .unset, .unset, .unset, .unset, .unset, .unset, .unset] [(.int (24 : Int32)), (.long x1), (.int (0 : Int32)), (.ref b43), (.ref b43)])) _
  obtain ⟨_, _, ⟨T50, L50, k50, n50⟩, -, X50, ⟨Lc50, hQ50, l50, y50, z50⟩, st50⟩ := Jvm.LawKit.callS X43 hx (y := (⟨"com/example/pareto4/pareto4/front/KeysNoHigherPinLaw", "dv", "(JI)D"⟩ : MethodName)) hown (mvT hZ (hw _ (List.mem_of_getElem? (i := 1) rfl))) (mvT hZ (hw _ (List.mem_of_getElem? (i := 2) rfl))) (mvT hZ (hw _ (List.mem_of_getElem? (i := 3) rfl))) (mvT hZ (hw _ (List.mem_of_getElem? (i := 4) rfl))) (by decide) (backOf (W := 3) (own_rm1 l Z a0 hw [] x1 (24 : Int32) T43.heap n0 Z43 ) hZ (hw _ (List.mem_of_getElem? (i := 4) rfl)) (hw _ (List.mem_of_getElem? (i := 3) rfl)) (by decide) (by decide)) (g := (mkF m 97 #[.val (.int x0), .val (.long x1), .second, .val (.int W), .val (.int A), .val (.int B), .val (.ref b1), .val (.ref b18), .unset, .unset, .unset, .unset, .unset, .unset, .unset, .unset, .unset] [(.int (24 : Int32)), (.long x1), (.int (0 : Int32)), (.ref b43), (.ref b43)])) rfl (by rw [hml]; rfl) (argsL := [(.long x1), (.int (24 : Int32))]) (rest := [(.int (0 : Int32)), (.ref b43), (.ref b43)]) (lenOf own_pd_pJIqD rfl) rfl (by show 2 * 0 + _ ≤ _; exact Nat.le_of_eq rfl) (hb hby at_97) (fun _ _ => ⟨rfl, rfl, (by decide : 3 + 0 ≤ _), (by decide : 9 + 0 ≤ _)⟩)
  dsimp only [Pt.U, Pt.locs, Pt.cells, Pt.slots] at X50 l50 y50 z50 st50 hQ50
  subst l50 y50 z50
  obtain ⟨hv50, Nq50, hp50_0⟩ := hQ50
  have N50 := Fr.app N38 Nq50
  subst hv50
  refine Goes.to st50 ?_
  show Goes p.tables e below (T50.setTop (mkF m 100 #[.val (.int x0), .val (.long x1), .second, .val (.int W), .val (.int A), .val (.int B), .val (.ref b1), .val (.ref b18), .unset, .unset, .unset, .unset, .unset, .unset, .unset, .unset, .unset] [(.double (own_dv x1 (24 : Int32))), (.int (0 : Int32)), (.ref b43), (.ref b43)])) _
  obtain ⟨cl51, Ar51, q51, S51, N51, H51, G51⟩ := id V43
  have hin51 : ¬ ((0 : Int32) < 0 ∨ cl51.slots.size ≤ ((0 : Int32)).toNatClampNeg) := inb_of S51 ⟨by decide, by decide⟩
  obtain ⟨T52, h52, X52, e52, W52, st52⟩ := stD X50 hx hZ hp50_0 Ar51 (j := (0 : Int32)) hin51 (g := (mkF m 100 #[.val (.int x0), .val (.long x1), .second, .val (.int W), .val (.int A), .val (.int B), .val (.ref b1), .val (.ref b18), .unset, .unset, .unset, .unset, .unset, .unset, .unset, .unset, .unset] [(.double (own_dv x1 (24 : Int32))), (.int (0 : Int32)), (.ref b43), (.ref b43)])) rfl rfl (hb hby at_100)
  subst e52
  have F53 := F46.wr W52
  have F54 := F47.other W52 ne44
  have F55 := F48.wr W52
  have F56 := F49.other W52 ne45
  have F57 := Ex43.wr W52
  have N52 := Fr.snoc X52 N50 g_b43
  have Z52 : n0 ≤ T52.heap.size := Nat.le_trans Z43 (Nat.le_of_eq W52.size.symm)
  have V52 : Arv Z T52.heap b43 k43 .double (3 : Int32) [(.double (own_dv x1 (24 : Int32))), (.double (0 : UInt64)), (.double (0 : UInt64))] (.double (0 : UInt64)) := Arv.set Ar51 q51 S51 N51 H51 G51 rfl W52 0 rfl (Nat.le_of_ble_eq_true rfl)
  refine Goes.to st52 ?_
  show Goes p.tables e below (T52.setTop (mkF m 101 #[.val (.int x0), .val (.long x1), .second, .val (.int W), .val (.int A), .val (.int B), .val (.ref b1), .val (.ref b18), .unset, .unset, .unset, .unset, .unset, .unset, .unset, .unset, .unset] [(.ref b43)])) _
  refine Goes.to (fun _ k => XS.dup X52.here hx rfl (hb hby at_101) rfl rfl k) ?_
  show Goes p.tables e below (T52.setTop (mkF m 102 #[.val (.int x0), .val (.long x1), .second, .val (.int W), .val (.int A), .val (.int B), .val (.ref b1), .val (.ref b18), .unset, .unset, .unset, .unset, .unset, .unset, .unset, .unset, .unset] [(.ref b43), (.ref b43)])) _
  refine Goes.to (fun _ k => XS.iconst X52.here hx rfl (hb hby at_102) k) ?_
  show Goes p.tables e below (T52.setTop (mkF m 103 #[.val (.int x0), .val (.long x1), .second, .val (.int W), .val (.int A), .val (.int B), .val (.ref b1), .val (.ref b18), .unset, .unset, .unset, .unset, .unset, .unset, .unset, .unset, .unset] [(.int (1 : Int32)), (.ref b43), (.ref b43)])) _
  refine Goes.to (fun _ k => XS.lloadN X52.here hx rfl (hb hby at_103) rfl k) ?_
  show Goes p.tables e below (T52.setTop (mkF m 104 #[.val (.int x0), .val (.long x1), .second, .val (.int W), .val (.int A), .val (.int B), .val (.ref b1), .val (.ref b18), .unset, .unset, .unset, .unset, .unset, .unset, .unset, .unset, .unset] [(.long x1), (.int (1 : Int32)), (.ref b43), (.ref b43)])) _
  refine Goes.to (fun _ k => XS.bipush X52.here hx rfl (hb hby at_104) k) ?_
  show Goes p.tables e below (T52.setTop (mkF m 106 #[.val (.int x0), .val (.long x1), .second, .val (.int W), .val (.int A), .val (.int B), .val (.ref b1), .val (.ref b18), .unset, .unset, .unset, .unset, .unset, .unset, .unset, .unset, .unset] [(.int (28 : Int32)), (.long x1), (.int (1 : Int32)), (.ref b43), (.ref b43)])) _
  obtain ⟨_, _, ⟨T59, L59, k59, n59⟩, -, X59, ⟨Lc59, hQ59, l59, y59, z59⟩, st59⟩ := Jvm.LawKit.callS X52 hx (y := (⟨"com/example/pareto4/pareto4/front/KeysNoHigherPinLaw", "dv", "(JI)D"⟩ : MethodName)) hown (mvT hZ (hw _ (List.mem_of_getElem? (i := 1) rfl))) (mvT hZ (hw _ (List.mem_of_getElem? (i := 2) rfl))) (mvT hZ (hw _ (List.mem_of_getElem? (i := 3) rfl))) (mvT hZ (hw _ (List.mem_of_getElem? (i := 4) rfl))) (by decide) (backOf (W := 3) (own_rm1 l Z a0 hw [] x1 (28 : Int32) T52.heap n0 Z52 ) hZ (hw _ (List.mem_of_getElem? (i := 4) rfl)) (hw _ (List.mem_of_getElem? (i := 3) rfl)) (by decide) (by decide)) (g := (mkF m 106 #[.val (.int x0), .val (.long x1), .second, .val (.int W), .val (.int A), .val (.int B), .val (.ref b1), .val (.ref b18), .unset, .unset, .unset, .unset, .unset, .unset, .unset, .unset, .unset] [(.int (28 : Int32)), (.long x1), (.int (1 : Int32)), (.ref b43), (.ref b43)])) rfl (by rw [hml]; rfl) (argsL := [(.long x1), (.int (28 : Int32))]) (rest := [(.int (1 : Int32)), (.ref b43), (.ref b43)]) (lenOf own_pd_pJIqD rfl) rfl (by show 2 * 0 + _ ≤ _; exact Nat.le_of_eq rfl) (hb hby at_106) (fun _ _ => ⟨rfl, rfl, (by decide : 3 + 0 ≤ _), (by decide : 9 + 0 ≤ _)⟩)
  dsimp only [Pt.U, Pt.locs, Pt.cells, Pt.slots] at X59 l59 y59 z59 st59 hQ59
  subst l59 y59 z59
  obtain ⟨hv59, Nq59, hp59_0⟩ := hQ59
  have N59 := Fr.app N52 Nq59
  subst hv59
  refine Goes.to st59 ?_
  show Goes p.tables e below (T59.setTop (mkF m 109 #[.val (.int x0), .val (.long x1), .second, .val (.int W), .val (.int A), .val (.int B), .val (.ref b1), .val (.ref b18), .unset, .unset, .unset, .unset, .unset, .unset, .unset, .unset, .unset] [(.double (own_dv x1 (28 : Int32))), (.int (1 : Int32)), (.ref b43), (.ref b43)])) _
  obtain ⟨cl60, Ar60, q60, S60, N60, H60, G60⟩ := id V52
  have hin60 : ¬ ((1 : Int32) < 0 ∨ cl60.slots.size ≤ ((1 : Int32)).toNatClampNeg) := inb_of S60 ⟨by decide, by decide⟩
  obtain ⟨T61, h61, X61, e61, W61, st61⟩ := stD X59 hx hZ hp59_0 Ar60 (j := (1 : Int32)) hin60 (g := (mkF m 109 #[.val (.int x0), .val (.long x1), .second, .val (.int W), .val (.int A), .val (.int B), .val (.ref b1), .val (.ref b18), .unset, .unset, .unset, .unset, .unset, .unset, .unset, .unset, .unset] [(.double (own_dv x1 (28 : Int32))), (.int (1 : Int32)), (.ref b43), (.ref b43)])) rfl rfl (hb hby at_109)
  subst e61
  have F62 := F53.wr W61
  have F63 := F54.other W61 ne44
  have F64 := F55.wr W61
  have F65 := F56.other W61 ne45
  have F66 := F57.wr W61
  have N61 := Fr.snoc X61 N59 g_b43
  have Z61 : n0 ≤ T61.heap.size := Nat.le_trans Z52 (Nat.le_of_eq W61.size.symm)
  have V61 : Arv Z T61.heap b43 k43 .double (3 : Int32) [(.double (own_dv x1 (24 : Int32))), (.double (own_dv x1 (28 : Int32))), (.double (0 : UInt64))] (.double (0 : UInt64)) := Arv.set Ar60 q60 S60 N60 H60 G60 rfl W61 1 rfl (Nat.le_of_ble_eq_true rfl)
  refine Goes.to st61 ?_
  show Goes p.tables e below (T61.setTop (mkF m 110 #[.val (.int x0), .val (.long x1), .second, .val (.int W), .val (.int A), .val (.int B), .val (.ref b1), .val (.ref b18), .unset, .unset, .unset, .unset, .unset, .unset, .unset, .unset, .unset] [(.ref b43)])) _
  refine Goes.to (fun _ k => XS.dup X61.here hx rfl (hb hby at_110) rfl rfl k) ?_
  show Goes p.tables e below (T61.setTop (mkF m 111 #[.val (.int x0), .val (.long x1), .second, .val (.int W), .val (.int A), .val (.int B), .val (.ref b1), .val (.ref b18), .unset, .unset, .unset, .unset, .unset, .unset, .unset, .unset, .unset] [(.ref b43), (.ref b43)])) _
  refine Goes.to (fun _ k => XS.iconst X61.here hx rfl (hb hby at_111) k) ?_
  show Goes p.tables e below (T61.setTop (mkF m 112 #[.val (.int x0), .val (.long x1), .second, .val (.int W), .val (.int A), .val (.int B), .val (.ref b1), .val (.ref b18), .unset, .unset, .unset, .unset, .unset, .unset, .unset, .unset, .unset] [(.int (2 : Int32)), (.ref b43), (.ref b43)])) _
  refine Goes.to (fun _ k => XS.lloadN X61.here hx rfl (hb hby at_112) rfl k) ?_
  show Goes p.tables e below (T61.setTop (mkF m 113 #[.val (.int x0), .val (.long x1), .second, .val (.int W), .val (.int A), .val (.int B), .val (.ref b1), .val (.ref b18), .unset, .unset, .unset, .unset, .unset, .unset, .unset, .unset, .unset] [(.long x1), (.int (2 : Int32)), (.ref b43), (.ref b43)])) _
  refine Goes.to (fun _ k => XS.bipush X61.here hx rfl (hb hby at_113) k) ?_
  exact own_pt_own_rm0_68 l Z a0 hw ws x0 x1 h0 n0 Z0  Bd hml0 hh hZ b1 k1 b18 k18 b43 k43 W A B T61 _  T61.heap X61 rfl N61 Z61  F62 F63 F64 F65 F66 V61 Pg17_2 ne19 g_b18 ne44 ne45 g_b43 hA0 hA1 hB0 hB1 hnm_W
set_option maxRecDepth 65536 in
set_option maxHeartbeats 40000000 in
theorem own_rm0 (l : Launch) (Z : State) (a0 : Array Value) (hw : ∀ d ∈ tables_1, d.before a0 Z = true) (ws : List Jvm.Cond) (x0 : Int32) (x1 : Int64)  (h0 : Heap) (n0 : Nat) (Z0 : n0 ≤ h0.size)  :
    MetFree l x (head1 (Jvm.Cond.code x code maxLocals ret :: ws) room_1) (fun a U => a = #[(.int x0), (.long x1)] ∧ Z.Warmed39 U.vm ∧ U.heap = h0) (fun _ _ _ _ _ => True) (fun _ U o U' => ∃ v L, o = .returned v ∧ own_Q_own_rm0 Z x0 x1 h0 n0 v U'.heap L ∧ FrameEnd U o U' L 7 21) := by
  refine MetFree.of_bodySF (plainFor_of_name own_pn_0) hisR ?_
  intro p e s m args below meth c s₁ Bd hml0 hP hK
  obtain ⟨rfl, hZ, hh⟩ := hP
  have hx := Bd.exec
  have hby := Bd.bytes
  have hml : c.maxLocals = 17 := hml0
  have hown : s.vm.findClass "com/example/pareto4/pareto4/front/KeysNoHigherPinLaw" = some m.cls := findClass_of_methodNamed Bd.named
  have hnm := (name_of_methodNamed Bd.named Bd.method).1
  have X0 : Stand p l e room_1 s m #[(.int x0), (.long x1)] below meth c s₁ [] 0 0 := Stand.of_body Bd
  have e0 : s₁.heap = h0 := by rw [← hh, Bd.state]; rfl
  have N0 := Fr.nil n0
  show Goes p.tables e below _ (own_R below s (own_Q_own_rm0 Z x0 x1 h0 n0) 7 21)
  refine Goes.to (fun t k => castTop (own_ef_own_rm0 m x0 x1) k) ?_
  show Goes p.tables e below (s₁.setTop (mkF m 0 #[.val (.int x0), .val (.long x1), .second, .unset, .unset, .unset, .unset, .unset, .unset, .unset, .unset, .unset, .unset, .unset, .unset, .unset, .unset] [])) _
  refine Goes.to (fun _ k => XS.iloadN X0.here hx rfl (hb hby at_0) rfl k) ?_
  show Goes p.tables e below (s₁.setTop (mkF m 1 #[.val (.int x0), .val (.long x1), .second, .unset, .unset, .unset, .unset, .unset, .unset, .unset, .unset, .unset, .unset, .unset, .unset, .unset, .unset] [(.int x0)])) _
  refine Goes.to (fun _ k => XS.iconst X0.here hx rfl (hb hby at_1) k) ?_
  show Goes p.tables e below (s₁.setTop (mkF m 2 #[.val (.int x0), .val (.long x1), .second, .unset, .unset, .unset, .unset, .unset, .unset, .unset, .unset, .unset, .unset, .unset, .unset, .unset, .unset] [(.int (3 : Int32)), (.int x0)])) _
  refine Goes.to (fun _ k => XS.iand X0.here hx rfl (hb hby at_2) rfl k) ?_
  show Goes p.tables e below (s₁.setTop (mkF m 3 #[.val (.int x0), .val (.long x1), .second, .unset, .unset, .unset, .unset, .unset, .unset, .unset, .unset, .unset, .unset, .unset, .unset, .unset, .unset] [(.int (x0 &&& (3 : Int32)))])) _
  generalize hnm_W : (x0 &&& (3 : Int32)) = W
  show Goes p.tables e below (s₁.setTop (mkF m 3 #[.val (.int x0), .val (.long x1), .second, .unset, .unset, .unset, .unset, .unset, .unset, .unset, .unset, .unset, .unset, .unset, .unset, .unset, .unset] [(.int W)])) _
  refine Goes.to (fun _ k => XS.istoreN X0.here hx rfl (hb hby at_3) rfl (l' := #[.val (.int x0), .val (.long x1), .second, .val (.int W), .unset, .unset, .unset, .unset, .unset, .unset, .unset, .unset, .unset, .unset, .unset, .unset, .unset]) rfl k) ?_
  show Goes p.tables e below (s₁.setTop (mkF m 4 #[.val (.int x0), .val (.long x1), .second, .val (.int W), .unset, .unset, .unset, .unset, .unset, .unset, .unset, .unset, .unset, .unset, .unset, .unset, .unset] [])) _
  refine Goes.to (fun _ k => XS.iloadN X0.here hx rfl (hb hby at_4) rfl k) ?_
  show Goes p.tables e below (s₁.setTop (mkF m 5 #[.val (.int x0), .val (.long x1), .second, .val (.int W), .unset, .unset, .unset, .unset, .unset, .unset, .unset, .unset, .unset, .unset, .unset, .unset, .unset] [(.int x0)])) _
  refine Goes.to (fun _ k => XS.iconst X0.here hx rfl (hb hby at_5) k) ?_
  show Goes p.tables e below (s₁.setTop (mkF m 6 #[.val (.int x0), .val (.long x1), .second, .val (.int W), .unset, .unset, .unset, .unset, .unset, .unset, .unset, .unset, .unset, .unset, .unset, .unset, .unset] [(.int (2 : Int32)), (.int x0)])) _
  refine Goes.to (fun _ k => XS.iushr X0.here hx rfl (hb hby at_6) rfl k) ?_
  show Goes p.tables e below (s₁.setTop (mkF m 7 #[.val (.int x0), .val (.long x1), .second, .val (.int W), .unset, .unset, .unset, .unset, .unset, .unset, .unset, .unset, .unset, .unset, .unset, .unset, .unset] [(.int ((x0.toUInt32 >>> ((2 : Int32) &&& 31).toUInt32).toInt32))])) _
  refine Goes.to (fun _ k => XS.sipush X0.here hx rfl (hb hby at_7) k) ?_
  show Goes p.tables e below (s₁.setTop (mkF m 10 #[.val (.int x0), .val (.long x1), .second, .val (.int W), .unset, .unset, .unset, .unset, .unset, .unset, .unset, .unset, .unset, .unset, .unset, .unset, .unset] [(.int (255 : Int32)), (.int ((x0.toUInt32 >>> ((2 : Int32) &&& 31).toUInt32).toInt32))])) _
  refine Goes.to (fun _ k => XS.iand X0.here hx rfl (hb hby at_10) rfl k) ?_
  show Goes p.tables e below (s₁.setTop (mkF m 11 #[.val (.int x0), .val (.long x1), .second, .val (.int W), .unset, .unset, .unset, .unset, .unset, .unset, .unset, .unset, .unset, .unset, .unset, .unset, .unset] [(.int (((x0.toUInt32 >>> ((2 : Int32) &&& 31).toUInt32).toInt32) &&& (255 : Int32)))])) _
  refine Goes.to (fun _ k => XS.iconst X0.here hx rfl (hb hby at_11) k) ?_
  show Goes p.tables e below (s₁.setTop (mkF m 12 #[.val (.int x0), .val (.long x1), .second, .val (.int W), .unset, .unset, .unset, .unset, .unset, .unset, .unset, .unset, .unset, .unset, .unset, .unset, .unset] [(.int (3 : Int32)), (.int (((x0.toUInt32 >>> ((2 : Int32) &&& 31).toUInt32).toInt32) &&& (255 : Int32)))])) _
  refine Goes.to (fun _ k => Jvm.RoadKit.iremM X0 hx rfl (hb hby at_12) rfl (by decide) k) ?_
  show Goes p.tables e below (s₁.setTop (mkF m 13 #[.val (.int x0), .val (.long x1), .second, .val (.int W), .unset, .unset, .unset, .unset, .unset, .unset, .unset, .unset, .unset, .unset, .unset, .unset, .unset] [(.int ((((x0.toUInt32 >>> ((2 : Int32) &&& 31).toUInt32).toInt32) &&& (255 : Int32)) % (3 : Int32)))])) _
  generalize hnm_A : ((((x0.toUInt32 >>> ((2 : Int32) &&& 31).toUInt32).toInt32) &&& (255 : Int32)) % (3 : Int32)) = A
  show Goes p.tables e below (s₁.setTop (mkF m 13 #[.val (.int x0), .val (.long x1), .second, .val (.int W), .unset, .unset, .unset, .unset, .unset, .unset, .unset, .unset, .unset, .unset, .unset, .unset, .unset] [(.int A)])) _
  refine Goes.to (fun _ k => XS.istore X0.here hx rfl (hb hby at_13) rfl (l' := #[.val (.int x0), .val (.long x1), .second, .val (.int W), .val (.int A), .unset, .unset, .unset, .unset, .unset, .unset, .unset, .unset, .unset, .unset, .unset, .unset]) rfl k) ?_
  show Goes p.tables e below (s₁.setTop (mkF m 15 #[.val (.int x0), .val (.long x1), .second, .val (.int W), .val (.int A), .unset, .unset, .unset, .unset, .unset, .unset, .unset, .unset, .unset, .unset, .unset, .unset] [])) _
  refine Goes.to (fun _ k => XS.iloadN X0.here hx rfl (hb hby at_15) rfl k) ?_
  show Goes p.tables e below (s₁.setTop (mkF m 16 #[.val (.int x0), .val (.long x1), .second, .val (.int W), .val (.int A), .unset, .unset, .unset, .unset, .unset, .unset, .unset, .unset, .unset, .unset, .unset, .unset] [(.int x0)])) _
  refine Goes.to (fun _ k => XS.bipush X0.here hx rfl (hb hby at_16) k) ?_
  show Goes p.tables e below (s₁.setTop (mkF m 18 #[.val (.int x0), .val (.long x1), .second, .val (.int W), .val (.int A), .unset, .unset, .unset, .unset, .unset, .unset, .unset, .unset, .unset, .unset, .unset, .unset] [(.int (10 : Int32)), (.int x0)])) _
  refine Goes.to (fun _ k => XS.iushr X0.here hx rfl (hb hby at_18) rfl k) ?_
  show Goes p.tables e below (s₁.setTop (mkF m 19 #[.val (.int x0), .val (.long x1), .second, .val (.int W), .val (.int A), .unset, .unset, .unset, .unset, .unset, .unset, .unset, .unset, .unset, .unset, .unset, .unset] [(.int ((x0.toUInt32 >>> ((10 : Int32) &&& 31).toUInt32).toInt32))])) _
  refine Goes.to (fun _ k => XS.sipush X0.here hx rfl (hb hby at_19) k) ?_
  show Goes p.tables e below (s₁.setTop (mkF m 22 #[.val (.int x0), .val (.long x1), .second, .val (.int W), .val (.int A), .unset, .unset, .unset, .unset, .unset, .unset, .unset, .unset, .unset, .unset, .unset, .unset] [(.int (255 : Int32)), (.int ((x0.toUInt32 >>> ((10 : Int32) &&& 31).toUInt32).toInt32))])) _
  refine Goes.to (fun _ k => XS.iand X0.here hx rfl (hb hby at_22) rfl k) ?_
  show Goes p.tables e below (s₁.setTop (mkF m 23 #[.val (.int x0), .val (.long x1), .second, .val (.int W), .val (.int A), .unset, .unset, .unset, .unset, .unset, .unset, .unset, .unset, .unset, .unset, .unset, .unset] [(.int (((x0.toUInt32 >>> ((10 : Int32) &&& 31).toUInt32).toInt32) &&& (255 : Int32)))])) _
  refine Goes.to (fun _ k => XS.iconst X0.here hx rfl (hb hby at_23) k) ?_
  show Goes p.tables e below (s₁.setTop (mkF m 24 #[.val (.int x0), .val (.long x1), .second, .val (.int W), .val (.int A), .unset, .unset, .unset, .unset, .unset, .unset, .unset, .unset, .unset, .unset, .unset, .unset] [(.int (3 : Int32)), (.int (((x0.toUInt32 >>> ((10 : Int32) &&& 31).toUInt32).toInt32) &&& (255 : Int32)))])) _
  refine Goes.to (fun _ k => Jvm.RoadKit.iremM X0 hx rfl (hb hby at_24) rfl (by decide) k) ?_
  show Goes p.tables e below (s₁.setTop (mkF m 25 #[.val (.int x0), .val (.long x1), .second, .val (.int W), .val (.int A), .unset, .unset, .unset, .unset, .unset, .unset, .unset, .unset, .unset, .unset, .unset, .unset] [(.int ((((x0.toUInt32 >>> ((10 : Int32) &&& 31).toUInt32).toInt32) &&& (255 : Int32)) % (3 : Int32)))])) _
  generalize hnm_B : ((((x0.toUInt32 >>> ((10 : Int32) &&& 31).toUInt32).toInt32) &&& (255 : Int32)) % (3 : Int32)) = B
  show Goes p.tables e below (s₁.setTop (mkF m 25 #[.val (.int x0), .val (.long x1), .second, .val (.int W), .val (.int A), .unset, .unset, .unset, .unset, .unset, .unset, .unset, .unset, .unset, .unset, .unset, .unset] [(.int B)])) _
  refine Goes.to (fun _ k => XS.istore X0.here hx rfl (hb hby at_25) rfl (l' := #[.val (.int x0), .val (.long x1), .second, .val (.int W), .val (.int A), .val (.int B), .unset, .unset, .unset, .unset, .unset, .unset, .unset, .unset, .unset, .unset, .unset]) rfl k) ?_
  have hAB : 0 ≤ A.toInt ∧ A.toInt < 3 ∧ 0 ≤ B.toInt ∧ B.toInt < 3 := by
    have k1 := rng32 x0
    have k2 : (x0 &&& (3 : Int32)).toInt = x0.toInt % 4 := c_mask x0 (3 : Int32) 2 (by decide) (by decide)
    have k3 := rng32 W
    have k4 : (x0 &&& (3 : Int32)).toInt = W.toInt := congrArg Int32.toInt hnm_W
    have k5 : ((x0.toUInt32 >>> ((2 : Int32) &&& 31).toUInt32).toInt32).toInt = (x0.toInt % 4294967296) / 4 := c_iushr x0 (2 : Int32) 2 (by decide) (by decide)
    have k6 := rng32 ((x0.toUInt32 >>> ((2 : Int32) &&& 31).toUInt32).toInt32)
    have k7 : (((x0.toUInt32 >>> ((2 : Int32) &&& 31).toUInt32).toInt32) &&& (255 : Int32)).toInt = ((x0.toUInt32 >>> ((2 : Int32) &&& 31).toUInt32).toInt32).toInt % 256 := c_mask ((x0.toUInt32 >>> ((2 : Int32) &&& 31).toUInt32).toInt32) (255 : Int32) 8 (by decide) (by decide)
    have k8 := c_irem (((x0.toUInt32 >>> ((2 : Int32) &&& 31).toUInt32).toInt32) &&& (255 : Int32)) (3 : Int32) 3 rfl
    have k9 := rng32 ((((x0.toUInt32 >>> ((2 : Int32) &&& 31).toUInt32).toInt32) &&& (255 : Int32)) % (3 : Int32))
    have k10 := rng32 A
    have k11 : ((((x0.toUInt32 >>> ((2 : Int32) &&& 31).toUInt32).toInt32) &&& (255 : Int32)) % (3 : Int32)).toInt = A.toInt := congrArg Int32.toInt hnm_A
    have k12 : ((x0.toUInt32 >>> ((10 : Int32) &&& 31).toUInt32).toInt32).toInt = (x0.toInt % 4294967296) / 1024 := c_iushr x0 (10 : Int32) 10 (by decide) (by decide)
    have k13 := rng32 ((x0.toUInt32 >>> ((10 : Int32) &&& 31).toUInt32).toInt32)
    have k14 : (((x0.toUInt32 >>> ((10 : Int32) &&& 31).toUInt32).toInt32) &&& (255 : Int32)).toInt = ((x0.toUInt32 >>> ((10 : Int32) &&& 31).toUInt32).toInt32).toInt % 256 := c_mask ((x0.toUInt32 >>> ((10 : Int32) &&& 31).toUInt32).toInt32) (255 : Int32) 8 (by decide) (by decide)
    have k15 := c_irem (((x0.toUInt32 >>> ((10 : Int32) &&& 31).toUInt32).toInt32) &&& (255 : Int32)) (3 : Int32) 3 rfl
    have k16 := rng32 ((((x0.toUInt32 >>> ((10 : Int32) &&& 31).toUInt32).toInt32) &&& (255 : Int32)) % (3 : Int32))
    have k17 := rng32 B
    have k18 : ((((x0.toUInt32 >>> ((10 : Int32) &&& 31).toUInt32).toInt32) &&& (255 : Int32)) % (3 : Int32)).toInt = B.toInt := congrArg Int32.toInt hnm_B
    omega
  have z0 : (0 : Int32).toInt = 0 := rfl
  have z3 : (3 : Int32).toInt = 3 := rfl
  have hA0 : ¬ (A < (0 : Int32)) := fun q => by have := Int32.lt_iff_toInt_lt.mp q; omega
  have hA1 : A < (3 : Int32) := Int32.lt_iff_toInt_lt.mpr (by omega)
  have hB0 : ¬ (B < (0 : Int32)) := fun q => by have := Int32.lt_iff_toInt_lt.mp q; omega
  have hB1 : B < (3 : Int32) := Int32.lt_iff_toInt_lt.mpr (by omega)
  show Goes p.tables e below (s₁.setTop (mkF m 27 #[.val (.int x0), .val (.long x1), .second, .val (.int W), .val (.int A), .val (.int B), .unset, .unset, .unset, .unset, .unset, .unset, .unset, .unset, .unset, .unset, .unset] [])) _
  refine Goes.to (fun _ k => XS.iconst X0.here hx rfl (hb hby at_27) k) ?_
  show Goes p.tables e below (s₁.setTop (mkF m 28 #[.val (.int x0), .val (.long x1), .second, .val (.int W), .val (.int A), .val (.int B), .unset, .unset, .unset, .unset, .unset, .unset, .unset, .unset, .unset, .unset, .unset] [(.int (3 : Int32))])) _
  obtain ⟨T1, h1, k1, X1, e1, E1, A1, Ex1, st1⟩ := newPE X0 hx hZ (hw _ (List.mem_of_getElem? (i := 0) rfl)) e0 (g := (mkF m 28 #[.val (.int x0), .val (.long x1), .second, .val (.int W), .val (.int A), .val (.int B), .unset, .unset, .unset, .unset, .unset, .unset, .unset, .unset, .unset, .unset, .unset] [(.int (3 : Int32))])) rfl (hb hby at_28) rfl (by decide) (cap := 3) (by decide) (by decide) (by decide) (by decide) (ad := "[D") (by decide)
  obtain ⟨b1, g1⟩ : ∃ z, z = h0.size := ⟨_, rfl⟩
  rw [← g1] at A1 Ex1 st1
  subst e1
  have g_b1 : n0 ≤ b1 := Nat.le_trans Z0 (Nat.le_of_eq g1.symm)
  have Z1 : n0 ≤ T1.heap.size := Nat.le_trans Z0 E1.1
  have V1 : Arv Z T1.heap b1 k1 .double (3 : Int32) [(.double (0 : UInt64)), (.double (0 : UInt64)), (.double (0 : UInt64))] (.double (0 : UInt64)) := (Arv.new A1 (by decide)).pad (pad_rep [] (.double (0 : UInt64)) 3)
  refine Goes.to st1 ?_
  show Goes p.tables e below (T1.setTop (mkF m 30 #[.val (.int x0), .val (.long x1), .second, .val (.int W), .val (.int A), .val (.int B), .unset, .unset, .unset, .unset, .unset, .unset, .unset, .unset, .unset, .unset, .unset] [(.ref b1)])) _
  refine Goes.to (fun _ k => XS.dup X1.here hx rfl (hb hby at_30) rfl rfl k) ?_
  show Goes p.tables e below (T1.setTop (mkF m 31 #[.val (.int x0), .val (.long x1), .second, .val (.int W), .val (.int A), .val (.int B), .unset, .unset, .unset, .unset, .unset, .unset, .unset, .unset, .unset, .unset, .unset] [(.ref b1), (.ref b1)])) _
  refine Goes.to (fun _ k => XS.iconst X1.here hx rfl (hb hby at_31) k) ?_
  show Goes p.tables e below (T1.setTop (mkF m 32 #[.val (.int x0), .val (.long x1), .second, .val (.int W), .val (.int A), .val (.int B), .unset, .unset, .unset, .unset, .unset, .unset, .unset, .unset, .unset, .unset, .unset] [(.int (0 : Int32)), (.ref b1), (.ref b1)])) _
  refine Goes.to (fun _ k => XS.lloadN X1.here hx rfl (hb hby at_32) rfl k) ?_
  show Goes p.tables e below (T1.setTop (mkF m 33 #[.val (.int x0), .val (.long x1), .second, .val (.int W), .val (.int A), .val (.int B), .unset, .unset, .unset, .unset, .unset, .unset, .unset, .unset, .unset, .unset, .unset] [(.long x1), (.int (0 : Int32)), (.ref b1), (.ref b1)])) _
  refine Goes.to (fun _ k => XS.iconst X1.here hx rfl (hb hby at_33) k) ?_
  show Goes p.tables e below (T1.setTop (mkF m 34 #[.val (.int x0), .val (.long x1), .second, .val (.int W), .val (.int A), .val (.int B), .unset, .unset, .unset, .unset, .unset, .unset, .unset, .unset, .unset, .unset, .unset] [(.int (0 : Int32)), (.long x1), (.int (0 : Int32)), (.ref b1), (.ref b1)])) _
  obtain ⟨_, _, ⟨T2, L2, k2, n2⟩, -, X2, ⟨Lc2, hQ2, l2, y2, z2⟩, st2⟩ := Jvm.LawKit.callS X1 hx (y := (⟨"com/example/pareto4/pareto4/front/KeysNoHigherPinLaw", "dv", "(JI)D"⟩ : MethodName)) hown (mvT hZ (hw _ (List.mem_of_getElem? (i := 1) rfl))) (mvT hZ (hw _ (List.mem_of_getElem? (i := 2) rfl))) (mvT hZ (hw _ (List.mem_of_getElem? (i := 3) rfl))) (mvT hZ (hw _ (List.mem_of_getElem? (i := 4) rfl))) (by decide) (backOf (W := 3) (own_rm1 l Z a0 hw [] x1 (0 : Int32) T1.heap n0 Z1 ) hZ (hw _ (List.mem_of_getElem? (i := 4) rfl)) (hw _ (List.mem_of_getElem? (i := 3) rfl)) (by decide) (by decide)) (g := (mkF m 34 #[.val (.int x0), .val (.long x1), .second, .val (.int W), .val (.int A), .val (.int B), .unset, .unset, .unset, .unset, .unset, .unset, .unset, .unset, .unset, .unset, .unset] [(.int (0 : Int32)), (.long x1), (.int (0 : Int32)), (.ref b1), (.ref b1)])) rfl (by rw [hml]; rfl) (argsL := [(.long x1), (.int (0 : Int32))]) (rest := [(.int (0 : Int32)), (.ref b1), (.ref b1)]) (lenOf own_pd_pJIqD rfl) rfl (by show 2 * 0 + _ ≤ _; exact Nat.le_of_eq rfl) (hb hby at_34) (fun _ _ => ⟨rfl, rfl, (by decide : 1 + 0 ≤ _), (by decide : 3 + 0 ≤ _)⟩)
  dsimp only [Pt.U, Pt.locs, Pt.cells, Pt.slots] at X2 l2 y2 z2 st2 hQ2
  subst l2 y2 z2
  obtain ⟨hv2, Nq2, hp2_0⟩ := hQ2
  have N2 := Fr.app N0 Nq2
  subst hv2
  refine Goes.to st2 ?_
  show Goes p.tables e below (T2.setTop (mkF m 37 #[.val (.int x0), .val (.long x1), .second, .val (.int W), .val (.int A), .val (.int B), .unset, .unset, .unset, .unset, .unset, .unset, .unset, .unset, .unset, .unset, .unset] [(.double (own_dv x1 (0 : Int32))), (.int (0 : Int32)), (.ref b1), (.ref b1)])) _
  obtain ⟨cl3, Ar3, q3, S3, N3, H3, G3⟩ := id V1
  have hin3 : ¬ ((0 : Int32) < 0 ∨ cl3.slots.size ≤ ((0 : Int32)).toNatClampNeg) := inb_of S3 ⟨by decide, by decide⟩
  obtain ⟨T4, h4, X4, e4, W4, st4⟩ := stD X2 hx hZ hp2_0 Ar3 (j := (0 : Int32)) hin3 (g := (mkF m 37 #[.val (.int x0), .val (.long x1), .second, .val (.int W), .val (.int A), .val (.int B), .unset, .unset, .unset, .unset, .unset, .unset, .unset, .unset, .unset, .unset, .unset] [(.double (own_dv x1 (0 : Int32))), (.int (0 : Int32)), (.ref b1), (.ref b1)])) rfl rfl (hb hby at_37)
  subst e4
  have F5 := Ex1.wr W4
  have N4 := Fr.snoc X4 N2 g_b1
  have Z4 : n0 ≤ T4.heap.size := Nat.le_trans Z1 (Nat.le_of_eq W4.size.symm)
  have V4 : Arv Z T4.heap b1 k1 .double (3 : Int32) [(.double (own_dv x1 (0 : Int32))), (.double (0 : UInt64)), (.double (0 : UInt64))] (.double (0 : UInt64)) := Arv.set Ar3 q3 S3 N3 H3 G3 rfl W4 0 rfl (Nat.le_of_ble_eq_true rfl)
  refine Goes.to st4 ?_
  show Goes p.tables e below (T4.setTop (mkF m 38 #[.val (.int x0), .val (.long x1), .second, .val (.int W), .val (.int A), .val (.int B), .unset, .unset, .unset, .unset, .unset, .unset, .unset, .unset, .unset, .unset, .unset] [(.ref b1)])) _
  refine Goes.to (fun _ k => XS.dup X4.here hx rfl (hb hby at_38) rfl rfl k) ?_
  show Goes p.tables e below (T4.setTop (mkF m 39 #[.val (.int x0), .val (.long x1), .second, .val (.int W), .val (.int A), .val (.int B), .unset, .unset, .unset, .unset, .unset, .unset, .unset, .unset, .unset, .unset, .unset] [(.ref b1), (.ref b1)])) _
  refine Goes.to (fun _ k => XS.iconst X4.here hx rfl (hb hby at_39) k) ?_
  show Goes p.tables e below (T4.setTop (mkF m 40 #[.val (.int x0), .val (.long x1), .second, .val (.int W), .val (.int A), .val (.int B), .unset, .unset, .unset, .unset, .unset, .unset, .unset, .unset, .unset, .unset, .unset] [(.int (1 : Int32)), (.ref b1), (.ref b1)])) _
  refine Goes.to (fun _ k => XS.lloadN X4.here hx rfl (hb hby at_40) rfl k) ?_
  show Goes p.tables e below (T4.setTop (mkF m 41 #[.val (.int x0), .val (.long x1), .second, .val (.int W), .val (.int A), .val (.int B), .unset, .unset, .unset, .unset, .unset, .unset, .unset, .unset, .unset, .unset, .unset] [(.long x1), (.int (1 : Int32)), (.ref b1), (.ref b1)])) _
  refine Goes.to (fun _ k => XS.iconst X4.here hx rfl (hb hby at_41) k) ?_
  show Goes p.tables e below (T4.setTop (mkF m 42 #[.val (.int x0), .val (.long x1), .second, .val (.int W), .val (.int A), .val (.int B), .unset, .unset, .unset, .unset, .unset, .unset, .unset, .unset, .unset, .unset, .unset] [(.int (4 : Int32)), (.long x1), (.int (1 : Int32)), (.ref b1), (.ref b1)])) _
  obtain ⟨_, _, ⟨T7, L7, k7, n7⟩, -, X7, ⟨Lc7, hQ7, l7, y7, z7⟩, st7⟩ := Jvm.LawKit.callS X4 hx (y := (⟨"com/example/pareto4/pareto4/front/KeysNoHigherPinLaw", "dv", "(JI)D"⟩ : MethodName)) hown (mvT hZ (hw _ (List.mem_of_getElem? (i := 1) rfl))) (mvT hZ (hw _ (List.mem_of_getElem? (i := 2) rfl))) (mvT hZ (hw _ (List.mem_of_getElem? (i := 3) rfl))) (mvT hZ (hw _ (List.mem_of_getElem? (i := 4) rfl))) (by decide) (backOf (W := 3) (own_rm1 l Z a0 hw [] x1 (4 : Int32) T4.heap n0 Z4 ) hZ (hw _ (List.mem_of_getElem? (i := 4) rfl)) (hw _ (List.mem_of_getElem? (i := 3) rfl)) (by decide) (by decide)) (g := (mkF m 42 #[.val (.int x0), .val (.long x1), .second, .val (.int W), .val (.int A), .val (.int B), .unset, .unset, .unset, .unset, .unset, .unset, .unset, .unset, .unset, .unset, .unset] [(.int (4 : Int32)), (.long x1), (.int (1 : Int32)), (.ref b1), (.ref b1)])) rfl (by rw [hml]; rfl) (argsL := [(.long x1), (.int (4 : Int32))]) (rest := [(.int (1 : Int32)), (.ref b1), (.ref b1)]) (lenOf own_pd_pJIqD rfl) rfl (by show 2 * 0 + _ ≤ _; exact Nat.le_of_eq rfl) (hb hby at_42) (fun _ _ => ⟨rfl, rfl, (by decide : 1 + 0 ≤ _), (by decide : 3 + 0 ≤ _)⟩)
  dsimp only [Pt.U, Pt.locs, Pt.cells, Pt.slots] at X7 l7 y7 z7 st7 hQ7
  subst l7 y7 z7
  obtain ⟨hv7, Nq7, hp7_0⟩ := hQ7
  have N7 := Fr.app N4 Nq7
  subst hv7
  refine Goes.to st7 ?_
  show Goes p.tables e below (T7.setTop (mkF m 45 #[.val (.int x0), .val (.long x1), .second, .val (.int W), .val (.int A), .val (.int B), .unset, .unset, .unset, .unset, .unset, .unset, .unset, .unset, .unset, .unset, .unset] [(.double (own_dv x1 (4 : Int32))), (.int (1 : Int32)), (.ref b1), (.ref b1)])) _
  obtain ⟨cl8, Ar8, q8, S8, N8, H8, G8⟩ := id V4
  have hin8 : ¬ ((1 : Int32) < 0 ∨ cl8.slots.size ≤ ((1 : Int32)).toNatClampNeg) := inb_of S8 ⟨by decide, by decide⟩
  obtain ⟨T9, h9, X9, e9, W9, st9⟩ := stD X7 hx hZ hp7_0 Ar8 (j := (1 : Int32)) hin8 (g := (mkF m 45 #[.val (.int x0), .val (.long x1), .second, .val (.int W), .val (.int A), .val (.int B), .unset, .unset, .unset, .unset, .unset, .unset, .unset, .unset, .unset, .unset, .unset] [(.double (own_dv x1 (4 : Int32))), (.int (1 : Int32)), (.ref b1), (.ref b1)])) rfl rfl (hb hby at_45)
  subst e9
  have F10 := F5.wr W9
  have N9 := Fr.snoc X9 N7 g_b1
  have Z9 : n0 ≤ T9.heap.size := Nat.le_trans Z4 (Nat.le_of_eq W9.size.symm)
  have V9 : Arv Z T9.heap b1 k1 .double (3 : Int32) [(.double (own_dv x1 (0 : Int32))), (.double (own_dv x1 (4 : Int32))), (.double (0 : UInt64))] (.double (0 : UInt64)) := Arv.set Ar8 q8 S8 N8 H8 G8 rfl W9 1 rfl (Nat.le_of_ble_eq_true rfl)
  refine Goes.to st9 ?_
  show Goes p.tables e below (T9.setTop (mkF m 46 #[.val (.int x0), .val (.long x1), .second, .val (.int W), .val (.int A), .val (.int B), .unset, .unset, .unset, .unset, .unset, .unset, .unset, .unset, .unset, .unset, .unset] [(.ref b1)])) _
  refine Goes.to (fun _ k => XS.dup X9.here hx rfl (hb hby at_46) rfl rfl k) ?_
  show Goes p.tables e below (T9.setTop (mkF m 47 #[.val (.int x0), .val (.long x1), .second, .val (.int W), .val (.int A), .val (.int B), .unset, .unset, .unset, .unset, .unset, .unset, .unset, .unset, .unset, .unset, .unset] [(.ref b1), (.ref b1)])) _
  refine Goes.to (fun _ k => XS.iconst X9.here hx rfl (hb hby at_47) k) ?_
  show Goes p.tables e below (T9.setTop (mkF m 48 #[.val (.int x0), .val (.long x1), .second, .val (.int W), .val (.int A), .val (.int B), .unset, .unset, .unset, .unset, .unset, .unset, .unset, .unset, .unset, .unset, .unset] [(.int (2 : Int32)), (.ref b1), (.ref b1)])) _
  refine Goes.to (fun _ k => XS.lloadN X9.here hx rfl (hb hby at_48) rfl k) ?_
  show Goes p.tables e below (T9.setTop (mkF m 49 #[.val (.int x0), .val (.long x1), .second, .val (.int W), .val (.int A), .val (.int B), .unset, .unset, .unset, .unset, .unset, .unset, .unset, .unset, .unset, .unset, .unset] [(.long x1), (.int (2 : Int32)), (.ref b1), (.ref b1)])) _
  refine Goes.to (fun _ k => XS.bipush X9.here hx rfl (hb hby at_49) k) ?_
  show Goes p.tables e below (T9.setTop (mkF m 51 #[.val (.int x0), .val (.long x1), .second, .val (.int W), .val (.int A), .val (.int B), .unset, .unset, .unset, .unset, .unset, .unset, .unset, .unset, .unset, .unset, .unset] [(.int (8 : Int32)), (.long x1), (.int (2 : Int32)), (.ref b1), (.ref b1)])) _
  obtain ⟨_, _, ⟨T12, L12, k12, n12⟩, -, X12, ⟨Lc12, hQ12, l12, y12, z12⟩, st12⟩ := Jvm.LawKit.callS X9 hx (y := (⟨"com/example/pareto4/pareto4/front/KeysNoHigherPinLaw", "dv", "(JI)D"⟩ : MethodName)) hown (mvT hZ (hw _ (List.mem_of_getElem? (i := 1) rfl))) (mvT hZ (hw _ (List.mem_of_getElem? (i := 2) rfl))) (mvT hZ (hw _ (List.mem_of_getElem? (i := 3) rfl))) (mvT hZ (hw _ (List.mem_of_getElem? (i := 4) rfl))) (by decide) (backOf (W := 3) (own_rm1 l Z a0 hw [] x1 (8 : Int32) T9.heap n0 Z9 ) hZ (hw _ (List.mem_of_getElem? (i := 4) rfl)) (hw _ (List.mem_of_getElem? (i := 3) rfl)) (by decide) (by decide)) (g := (mkF m 51 #[.val (.int x0), .val (.long x1), .second, .val (.int W), .val (.int A), .val (.int B), .unset, .unset, .unset, .unset, .unset, .unset, .unset, .unset, .unset, .unset, .unset] [(.int (8 : Int32)), (.long x1), (.int (2 : Int32)), (.ref b1), (.ref b1)])) rfl (by rw [hml]; rfl) (argsL := [(.long x1), (.int (8 : Int32))]) (rest := [(.int (2 : Int32)), (.ref b1), (.ref b1)]) (lenOf own_pd_pJIqD rfl) rfl (by show 2 * 0 + _ ≤ _; exact Nat.le_of_eq rfl) (hb hby at_51) (fun _ _ => ⟨rfl, rfl, (by decide : 1 + 0 ≤ _), (by decide : 3 + 0 ≤ _)⟩)
  dsimp only [Pt.U, Pt.locs, Pt.cells, Pt.slots] at X12 l12 y12 z12 st12 hQ12
  subst l12 y12 z12
  obtain ⟨hv12, Nq12, hp12_0⟩ := hQ12
  have N12 := Fr.app N9 Nq12
  subst hv12
  refine Goes.to st12 ?_
  show Goes p.tables e below (T12.setTop (mkF m 54 #[.val (.int x0), .val (.long x1), .second, .val (.int W), .val (.int A), .val (.int B), .unset, .unset, .unset, .unset, .unset, .unset, .unset, .unset, .unset, .unset, .unset] [(.double (own_dv x1 (8 : Int32))), (.int (2 : Int32)), (.ref b1), (.ref b1)])) _
  obtain ⟨cl13, Ar13, q13, S13, N13, H13, G13⟩ := id V9
  have hin13 : ¬ ((2 : Int32) < 0 ∨ cl13.slots.size ≤ ((2 : Int32)).toNatClampNeg) := inb_of S13 ⟨by decide, by decide⟩
  obtain ⟨T14, h14, X14, e14, W14, st14⟩ := stD X12 hx hZ hp12_0 Ar13 (j := (2 : Int32)) hin13 (g := (mkF m 54 #[.val (.int x0), .val (.long x1), .second, .val (.int W), .val (.int A), .val (.int B), .unset, .unset, .unset, .unset, .unset, .unset, .unset, .unset, .unset, .unset, .unset] [(.double (own_dv x1 (8 : Int32))), (.int (2 : Int32)), (.ref b1), (.ref b1)])) rfl rfl (hb hby at_54)
  subst e14
  have F15 := F10.wr W14
  have N14 := Fr.snoc X14 N12 g_b1
  have Z14 : n0 ≤ T14.heap.size := Nat.le_trans Z9 (Nat.le_of_eq W14.size.symm)
  have V14 : Arv Z T14.heap b1 k1 .double (3 : Int32) [(.double (own_dv x1 (0 : Int32))), (.double (own_dv x1 (4 : Int32))), (.double (own_dv x1 (8 : Int32)))] (.double (0 : UInt64)) := Arv.set Ar13 q13 S13 N13 H13 G13 rfl W14 2 rfl (Nat.le_of_ble_eq_true rfl)
  refine Goes.to st14 ?_
  exact own_pt_own_rm0_17 l Z a0 hw ws x0 x1 h0 n0 Z0  Bd hml0 hh hZ b1 k1 W A B T14 _  T14.heap X14 rfl N14 Z14  F15 V14 g_b1 hA0 hA1 hB0 hB1 hnm_W

set_option maxRecDepth 65536 in
set_option maxHeartbeats 40000000 in
theorem comes_1 {Post : Tables → Env → Array Value → State → Outcome → State → Prop} (hpost : ∀ tb e args s v u, (limb_1_1.after args s (.returned v) u = true ∧ limb_1_2.after args s (.returned v) u = true ∧ True) → FrameEnd s (.returned v) u (Jvm.fieldLocs frame_1_writes args s ++ Jvm.arrayLocs frame_1_arrays args s ++ Jvm.staticLocs frame_1_statics s) 24 128 → Post tb e args s (.returned v) u) :
    ArmFor flags0 classFile x code maxLocals ret World_1 tables_1 room_1 Calls_1 rest_1 Pre_1 Post := by
  intro l hfl _ _ p e ha hc hk s m args below hf hA hF happ hP
  obtain ⟨hcalls, hrest, hpre⟩ := hP
  obtain ⟨-, -, -, hnamed, -, -, -, hat⟩ := (Spec.applies_iff hf).mp happ
  obtain ⟨hg, hn⟩ := and_e (Cond.before_iff.mp (show (Jvm.Cond.and given_1 narrow_1).before args s = true from hpre))
  obtain ⟨hg0, hgr0⟩ := and_e hg
  obtain ⟨hg1, hgr1⟩ := and_e hgr0
  obtain ⟨w0, w1, rfl⟩ : ∃ w0 w1 : Value, args = #[w0, w1] := by
    have hs : args.size = 2 := by simpa [Cond.value, given_1] using hg0
    obtain ⟨L⟩ := args
    match L, hs with
    | [w0, w1], _ => exact ⟨w0, w1, rfl⟩
  have hw := fun d (hd : d ∈ tables_1) => atoms_spec (ws := Jvm.Cond.code x code maxLocals ret :: tables_1) hat d (List.mem_cons_of_mem _ hd)
  have hfit : Fit s := fun {y c} hc i hi => by
    obtain ⟨ha, rfl⟩ := Array.getElem?_eq_some_iff.mp hc
    have q := List.all_eq_true.mp ((Array.all_eq_true_iff_forall_mem.mp hF) _ (Array.getElem_mem ha)) i (List.mem_range.mpr hi)
    simpa [Array.getElem?_eq_getElem hi] using q
  obtain ⟨i0, ei0⟩ := is_v hg1
  obtain rfl : w0 = (.int i0) := Option.some.inj ei0
  obtain ⟨i1, ei1⟩ := isL_v hgr1
  obtain rfl : w1 = (.long i1) := Option.some.inj ei1
  obtain ⟨n, o, h1, h2, h3, _, L, rfl, ⟨rfl, N⟩, hq⟩ := own_rm0 l s _ hw tables_1 i0 i1  s.heap s.heap.size (Nat.le_refl _)  p e ha hc hk s m _ below hf ((Spec.applies_iff_loose hf).mp happ).1 ⟨rfl, State.Warmed39.refl s, rfl⟩ trivial
  refine ⟨n, _, h1, h2, h3, hpost _ _ _ _ _ _ ⟨Cond.after_iff.mpr rfl, Cond.after_iff.mpr (eq_i res_at (Term.int_eval (1)) rfl), trivial⟩ ⟨hq.1, hq.2.1, (hq.2.2.sift fun y hy => Or.inr (N y hy)).mono (by decide) (by decide)⟩⟩
theorem main_1_1 : Claimed_1_1 := comes_1 fun _ _ _ _ _ _ h hF => ⟨h.1, hF⟩
theorem main_1_2 : Claimed_1_2 := comes_1 fun _ _ _ _ _ _ h hF => ⟨h.2.1, hF⟩
end Jvm.Pilot.@@N@@
namespace Jvm.Pilot.@@N@@
open Jvm Jvm.ClassFile Sem Op Lib Jvm.Free Jvm.Stand Jvm.Pilot.@@N@@.Jvm.D
/-! MADE BY PROGRAM (witnessworld.py) out of the Statement's table words and the real class files: 9 classes; the members and pool entries that the words name. The judged class is class 1, her method 3. -/
namespace start1
open Jvm.ClassFile
def u (s : String) : CpInfo := .utf8 (stringToUtf16 s)
/-- a pool by its gaps: so many unusable entries, then the entry; so many at the end -/
def gap : Nat → List CpInfo → List CpInfo
  | 0, r => r
  | n + 1, r => .unusable :: gap n r
def poolList (es : List (Nat × CpInfo)) (last : Nat) : List CpInfo := es.foldr (fun e r => gap e.1 (e.2 :: r)) (gap last [])
def pool (es : List (Nat × CpInfo)) (last : Nat) : Array CpInfo := ⟨poolList es last⟩
def fileOf (pool : Array CpInfo) (this : Nat) (attrs : Array Attribute := #[]) (ms : Array MethodInfo := #[]) (fl : Nat := 33) (sup : Nat := 0) (ifs : Array Nat := #[]) (fds : Array FieldInfo := #[]) : ClassFile where
  minorVersion := 0
  majorVersion := 65
  constantPool := pool
  accessFlags := fl
  thisClass := this
  superClass := sup
  interfaces := ifs
  fields := fds
  methods := ms
  attributes := attrs
def plain (name : String) (sup : Option ClassId) : Class where
  name := name
  kind := .ordinary
  loader := none
  accessFlags := 33
  super := sup
  interfaces := #[]
  cf := none
  fields := #[]
  methods := #[]
  instanceTypes := #[]
  staticTypes := #[]
  resolved := #[]
  callSites := []
  init := .initialized
  statics := none
  mirror := none

def pool0 : Array CpInfo := pool [(5, u "<init>"), (0, u "()V"), (1, .class_ 10), (1, u "java/lang/Object")] 113

def k0m0 : Method := { name := "<init>", desc := "()V", sig := { parameters := [], returnType := none }, accessFlags := 1, code := none }
/-- java/lang/Object -/
def k0 : Class := { plain "java/lang/Object" none with
  accessFlags := 33
  interfaces := #[]
  cf := some (fileOf pool0 8 #[] #[{ accessFlags := 1, nameIndex := 5, descriptorIndex := 6, attributes := #[] }] 33 0 #[] #[])
  fields := #[]
  methods := #[k0m0]
  instanceTypes := #[]
  staticTypes := #[]
  resolved := Array.replicate 124 none
  statics := none }

def pool1 : Array CpInfo := pool [(2, .class_ 4), (1, u "java/lang/Object"), (0, u "<init>"), (0, u "()V"), (0, .long 7), (1, .methodref 10 11), (0, .class_ 12), (0, .nameAndType 13 14), (0, u "com/example/pareto4/pareto4/front/KeysNoHigherPinLaw"), (0, u "dv"), (0, u "(JI)D"), (0, .methodref 10 16), (0, .nameAndType 17 18), (0, u "iv"), (0, u "(JI)I"), (0, .class_ 20), (0, u "[D"), (0, .methodref 22 23), (0, .class_ 24), (0, .nameAndType 25 26), (0, u "com/example/pareto4/pareto4/front/Keys"), (0, u "noHigher"), (0, u "([[DII)Z"), (3, u "law"), (0, u "(IJ)Z")] 6

def k1m0 : Method := { name := "<init>", desc := "()V", sig := { parameters := [], returnType := none }, accessFlags := 2, code := none }
def k1c1 : Code := { maxStack := 4, maxLocals := 4, code := method_2_code, exceptionTable := #[], attributes := #[] }
def k1m1 : Method := { name := "iv", desc := "(JI)I", sig := { parameters := [.long, .int], returnType := some .int }, accessFlags := 10, code := some k1c1 }
def k1c2 : Code := { maxStack := 4, maxLocals := 6, code := method_3_code, exceptionTable := #[], attributes := #[] }
def k1m2 : Method := { name := "dv", desc := "(JI)D", sig := { parameters := [.long, .int], returnType := some .double }, accessFlags := 10, code := some k1c2 }
def k1c3 : Code := { maxStack := 6, maxLocals := 17, code := code, exceptionTable := #[], attributes := #[] }
def k1m3 : Method := { name := "law", desc := "(IJ)Z", sig := { parameters := [.int, .long], returnType := some .boolean }, accessFlags := 9, code := some k1c3 }
/-- com/example/pareto4/pareto4/front/KeysNoHigherPinLaw -/
def k1 : Class := { plain "com/example/pareto4/pareto4/front/KeysNoHigherPinLaw" (some 0) with
  accessFlags := 49
  interfaces := #[]
  cf := some (fileOf pool1 10 #[] #[{ accessFlags := 2, nameIndex := 5, descriptorIndex := 6, attributes := #[] }, { accessFlags := 10, nameIndex := 17, descriptorIndex := 18, attributes := #[] }, { accessFlags := 10, nameIndex := 13, descriptorIndex := 14, attributes := #[] }, { accessFlags := 9, nameIndex := 30, descriptorIndex := 31, attributes := #[] }] 49 2 #[] #[])
  fields := #[]
  methods := #[k1m0, k1m1, k1m2, k1m3]
  instanceTypes := #[]
  staticTypes := #[]
  resolved := Array.replicate 38 none
  statics := none }

def pool2 : Array CpInfo := pool [(2, .class_ 4), (1, u "java/lang/Object"), (0, u "<init>"), (0, u "()V"), (36, .class_ 45), (1, u "com/example/pareto4/pareto4/front/Keys"), (16, u "RUN"), (0, u "I"), (14, u "noHigher"), (0, u "([[DII)Z")] 18

def k2m0 : Method := { name := "<init>", desc := "()V", sig := { parameters := [], returnType := none }, accessFlags := 2, code := none }
def k2c1 : Code := { maxStack := 4, maxLocals := 7, code := prog_15_method_6_code, exceptionTable := #[], attributes := #[] }
def k2m1 : Method := { name := "noHigher", desc := "([[DII)Z", sig := { parameters := [(.array (.array .double)), .int, .int], returnType := some .boolean }, accessFlags := 8, code := some k2c1 }
/-- com/example/pareto4/pareto4/front/Keys -/
def k2 : Class := { plain "com/example/pareto4/pareto4/front/Keys" (some 0) with
  accessFlags := 48
  interfaces := #[]
  cf := some (fileOf pool2 43 #[] #[{ accessFlags := 2, nameIndex := 5, descriptorIndex := 6, attributes := #[] }, { accessFlags := 8, nameIndex := 78, descriptorIndex := 79, attributes := #[] }] 48 2 #[] #[{ accessFlags := 26, nameIndex := 62, descriptorIndex := 63, attributes := #[] }])
  fields := #[{ name := "RUN", type := .int, accessFlags := 26, slot := 0, constantValue := 0 }]
  methods := #[k2m0, k2m1]
  instanceTypes := #[]
  staticTypes := #[.int]
  resolved := Array.replicate 98 none
  statics := none }

def pool3 : Array CpInfo := pool [(1, u "java/lang/Cloneable"), (0, .class_ 1), (0, u "java/lang/Object"), (0, .class_ 3)] 3

/-- java/lang/Cloneable -/
def k3 : Class := { plain "java/lang/Cloneable" (some 0) with
  accessFlags := 1537
  interfaces := #[]
  cf := some (fileOf pool3 2 #[] #[] 1537 4 #[] #[])
  fields := #[]
  methods := #[]
  instanceTypes := #[]
  staticTypes := #[]
  resolved := Array.replicate 8 none
  statics := none }

def pool4 : Array CpInfo := pool [(1, u "java/io/Serializable"), (0, .class_ 1), (0, u "java/lang/Object"), (0, .class_ 3)] 3

/-- java/io/Serializable -/
def k4 : Class := { plain "java/io/Serializable" (some 0) with
  accessFlags := 1537
  interfaces := #[]
  cf := some (fileOf pool4 2 #[] #[] 1537 4 #[] #[])
  fields := #[]
  methods := #[]
  instanceTypes := #[]
  staticTypes := #[]
  resolved := Array.replicate 8 none
  statics := none }

/-- the primitive byte -/
def k5 : Class := { plain "byte" none with kind := .primitive 'B', accessFlags := 0x411 }
/-- [B -/
def k6 : Class := { plain "[B" (some 0) with kind := .array 5 .byte, interfaces := #[3, 4], accessFlags := 1041 }

/-- the primitive int -/
def k7 : Class := { plain "int" none with kind := .primitive 'I', accessFlags := 0x411 }
/-- [I -/
def k8 : Class := { plain "[I" (some 0) with kind := .array 7 .int, interfaces := #[3, 4], accessFlags := 1041 }

/-- the primitive double -/
def k9 : Class := { plain "double" none with kind := .primitive 'D', accessFlags := 0x411 }
/-- [D -/
def k10 : Class := { plain "[D" (some 0) with kind := .array 9 .double, interfaces := #[3, 4], accessFlags := 1041 }
/-- [[D -/
def k11 : Class := { plain "[[D" (some 0) with kind := .array 10 (.array .double), interfaces := #[3, 4], accessFlags := 1041 }

def heap : Heap := #[]
def classes : Array Class := #[k0, k1, k2, k3, k4, k5, k6, k7, k8, k9, k10, k11]
def interned : List (Array UInt16 × Addr) := []
def slotsUsed : Nat := 0
def theMethod : MethodId := ⟨1, 3⟩
def args0 : Array Value := #[.int 7, .long 77]
def aboutOver (below : List Frame) : State where
  vm := { classes := classes, interned := interned.toArray }
  heap := heap
  slotsUsed := slotsUsed
  threads := #[{ frames := .invoking theMethod args0 :: below }]
def below0 : List Frame := [.native { method := ⟨0, 0⟩, args := #[] }]
def about1 : State := aboutOver below0
def p0 : Program := .bare "" "" ""
def e0 : Env := launch0.env 0 0 0
theorem w_frames : about1.frames = Frame.invoking theMethod args0 :: below0 := rfl
set_option maxRecDepth 65536 in
theorem w_args : argsFit about1.vm theMethod args0 = true := by decide +kernel
set_option maxRecDepth 65536 in
theorem w_heap : heapFits about1 = true := by decide +kernel
set_option maxRecDepth 65536 in
theorem w_runnable : about1.curStatus? = some .runnable := by decide +kernel
set_option maxRecDepth 65536 in
theorem w_alone : about1.alone = true := by decide +kernel
set_option maxRecDepth 65536 in
theorem w_named : about1.methodNamed? x = some theMethod := by decide +kernel
set_option maxRecDepth 65536 in
theorem w_hears : about1.hears theMethod below0 = true := by decide +kernel
set_option maxRecDepth 65536 in
theorem w_ripe : about1.ripe theMethod args0 below0 = true := by decide +kernel
theorem w_running : about1.status = .running := rfl
set_option maxRecDepth 65536 in
theorem w_room : about1.hasRoom e0.platform room_1 = true :=
  launch0.hasRoom_least _ room_1 (by decide +kernel) (by decide +kernel) (by decide +kernel) (by decide +kernel) (by decide +kernel) (by decide +kernel)
theorem allAtoms_all (ts : List Jvm.Cond) (a : Array Jvm.Value) (st : Jvm.State) : (allAtoms ts).before a st = ts.all (fun c => c.before a st) := by
  induction ts with
  | nil => rfl
  | cons c t ih =>
    show (Jvm.Cond.and c (allAtoms t)).before a st = _
    rw [Jvm.Cond.before_and, ih, List.all_cons]
def words1 : List Jvm.Cond := Jvm.Cond.code x code maxLocals ret :: tables_1
/-- a 'code' word, met by the world's own term for the bytes: nothing is compared byte by byte -/
theorem code_word {y : MethodName} {bytes : ByteArray} {mx : Nat} {rt : Option FieldType} {a : Array Value} {s : State} {m : MethodId} {meth : Method} {c : Code} (h1 : s.methodNamed? y = some m) (h2 : s.vm.method? m = some meth) (h3 : meth.code = some c) (h4 : c.code = bytes)
    (h5 : (c.maxLocals == mx && c.exceptionTable.isEmpty && decide (c.maxStack ≤ mostOperands) && decide (meth.sig.returnType = rt) && !meth.locks && decide (parseMethodDescriptor y.desc = some meth.sig)) = true) : (Jvm.Cond.code y bytes mx rt).before a s = true := by
  simp only [Bool.and_eq_true, beq_iff_eq, Bool.not_eq_true', decide_eq_true_eq] at h5
  obtain ⟨⟨⟨⟨⟨g1, g2⟩, g3⟩, g4⟩, g5⟩, g6⟩ := h5
  simp [Cond.before, Cond.holds, Cond.value, h1, h2, h3, h4, g1, g2, g3, g4, g5, g6]
def isCode : Jvm.Cond → Bool
  | .code _ _ _ _ => true
  | _ => false
theorem all_split {L : List Jvm.Cond} {P : Jvm.Cond → Bool} (h1 : L.all (fun c => isCode c || P c) = true) (h2 : ∀ c ∈ L.filter isCode, P c = true) : L.all P = true := by
  refine List.all_eq_true.mpr fun c hc => ?_
  have h := List.all_eq_true.mp h1 c hc
  rcases Bool.eq_false_or_eq_true (isCode c) with hi | hi
  · exact h2 c (List.mem_filter.mpr ⟨hc, hi⟩)
  · simpa [hi] using h
set_option maxRecDepth 65536 in
theorem w_c0 : (Jvm.Cond.code x code maxLocals ret).before args0 about1 = true := code_word (m := ⟨1, 3⟩) (meth := k1m3) (c := k1c3) (by decide +kernel) rfl rfl rfl (by decide +kernel)
set_option maxRecDepth 65536 in
theorem w_c1 : (Jvm.Cond.code ({ cls := "com/example/pareto4/pareto4/front/KeysNoHigherPinLaw", name := "dv", desc := "(JI)D" } : Jvm.MethodName) method_3_code (6 : Nat) (Option.some Jvm.ClassFile.FieldType.double)).before args0 about1 = true := code_word (m := ⟨1, 2⟩) (meth := k1m2) (c := k1c2) (by decide +kernel) rfl rfl rfl (by decide +kernel)
set_option maxRecDepth 65536 in
theorem w_c2 : (Jvm.Cond.code ({ cls := "com/example/pareto4/pareto4/front/KeysNoHigherPinLaw", name := "iv", desc := "(JI)I" } : Jvm.MethodName) method_2_code (4 : Nat) (Option.some Jvm.ClassFile.FieldType.int)).before args0 about1 = true := code_word (m := ⟨1, 1⟩) (meth := k1m1) (c := k1c1) (by decide +kernel) rfl rfl rfl (by decide +kernel)
set_option maxRecDepth 65536 in
theorem w_c3 : (Jvm.Cond.code ({ cls := "com/example/pareto4/pareto4/front/Keys", name := "noHigher", desc := "([[DII)Z" } : Jvm.MethodName) prog_15_method_6_code (7 : Nat) (Option.some Jvm.ClassFile.FieldType.boolean)).before args0 about1 = true := code_word (m := ⟨2, 1⟩) (meth := k2m1) (c := k2c1) (by decide +kernel) rfl rfl rfl (by decide +kernel)
def codes1 : List Jvm.Cond := [Jvm.Cond.code x code maxLocals ret, Jvm.Cond.code ({ cls := "com/example/pareto4/pareto4/front/KeysNoHigherPinLaw", name := "dv", desc := "(JI)D" } : Jvm.MethodName) method_3_code (6 : Nat) (Option.some Jvm.ClassFile.FieldType.double), Jvm.Cond.code ({ cls := "com/example/pareto4/pareto4/front/KeysNoHigherPinLaw", name := "iv", desc := "(JI)I" } : Jvm.MethodName) method_2_code (4 : Nat) (Option.some Jvm.ClassFile.FieldType.int), Jvm.Cond.code ({ cls := "com/example/pareto4/pareto4/front/Keys", name := "noHigher", desc := "([[DII)Z" } : Jvm.MethodName) prog_15_method_6_code (7 : Nat) (Option.some Jvm.ClassFile.FieldType.boolean)]
set_option maxRecDepth 65536 in
theorem codes_eq : words1.filter isCode = codes1 := rfl
theorem w_codes : ∀ c ∈ words1.filter isCode, c.before args0 about1 = true := by
  rw [codes_eq]
  intro c hc
  simp only [codes1, List.mem_cons, List.not_mem_nil, or_false] at hc
  rcases hc with rfl | rfl | rfl | rfl
  · exact w_c0
  · exact w_c1
  · exact w_c2
  · exact w_c3
set_option maxRecDepth 65536 in
theorem w_t1 : words1.all (fun c => isCode c || c.before args0 about1) = true := by decide +kernel
theorem w_tables : (allAtoms (Jvm.Cond.code x code maxLocals ret :: tables_1)).before args0 about1 = true := by
  rw [allAtoms_all]
  show words1.all (fun c => c.before args0 about1) = true
  refine all_split ?_ w_codes
  rw [w_t1]
set_option maxRecDepth 65536 in
theorem w_case : (Jvm.Cond.and given_1 narrow_1).before args0 about1 = true := by decide +kernel
theorem w_applies : (headSpec (Jvm.Cond.code x code maxLocals ret :: tables_1) room_1).applies x e0.platform about1 = true :=
  (Spec.applies_iff w_frames).mpr ⟨w_running, w_runnable, w_alone, w_named, w_hears, w_ripe, w_room, w_tables⟩
theorem atStart : AtStart classFile x code maxLocals ret World_1 tables_1 room_1 Calls_1 rest_1 Pre_1 launch0 p0 e0 about1 theMethod args0 below0 :=
  ⟨lists_1, trivial, launch0.admits_env _ _ _, launch0.least_env, fairChoices_fair.cas, fairChoices_fair.clock, w_frames, w_args, w_heap, w_applies, trivial, trivial, w_case⟩
end start1
theorem witness_1 : WitnessClaimed_1 := ⟨start1.p0, start1.e0, start1.about1, start1.theMethod, start1.args0, start1.below0, start1.atStart⟩
end Jvm.Pilot.@@N@@
