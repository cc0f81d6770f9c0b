import JvmDerived
import JvmDerived.Pilot.@@N@@Statement
import JvmDerived.Pilot.@@N@@Code
set_option linter.unusedVariables false
set_option linter.unusedSimpArgs false
namespace Jvm.RoadKit
open Sem ClassFile Op Lib Jvm.Stand Jvm.Free Jvm.LawKit
section New
variable {p : Program} {l : Launch} {e : Env} {R : Room} {s : State} {m : MethodId} {args : Array Value} {below : List Frame} {meth : Method} {c : Code} {T : State} {locs : List Loc} {cells slots : Nat}
theorem retI (X : Stand p l e R s m args below meth c T locs cells slots) (hx : p.tables.exec = Jvm.exec) {pc : Nat} {Ls : Array Slot} {z : Int32} {rest : List Value} (hret : meth.sig.returnType = some .int) (hd : decode c.code pc = .ok (.ireturn, 1)) {fs : List Frame}
    (hl : ∀ (f : JFrame) (acts : List Action), f.method = m → f.locked = none → f.entered = [] → (doReturn e (T.setTop f) acts (some (.int z))).1 = T.setFrames fs) : Steps p.tables e below (T.setTop (mkF m pc Ls (.int z :: rest))) (T.setFrames fs) := by
  have hm' : T.vm.method? m = some meth := X.method'
  have hn : narrow .int (.int z) = .int z := rfl
  show Steps p.tables e below (T.setTop { method := m, pc := pc, locals := Ls, stack := _ :: rest, locked := none }) _
  jvm_step X.here [X.here.top, hx, hd, hm', hret, hn]
  first | (intro acts; rw [hl _ acts rfl rfl rfl]) | rw [hl _ _ rfl rfl rfl]
  exact Steps.refl _
end New
end Jvm.RoadKit
namespace Jvm.Pilot.@@N@@
open Jvm Jvm.ClassFile Sem Op Lib Jvm.Free Jvm.Stand Jvm.LawKit Jvm.RoadKit Bundle Jvm.Pilot.@@N@@.Jvm.D
/-- the run comes from A to some end of which R holds -/
def Goes (tb : Tables) (e : Env) (below : List Frame) (A : State) (R : State → Outcome → Prop) : Prop := ∃ t o, Steps tb e below A t ∧ R t o
theorem Goes.to {tb : Tables} {e : Env} {below : List Frame} {A B : State} {R : State → Outcome → Prop} (k : ∀ t, Steps tb e below A t → Steps tb e below B t) (h : Goes tb e below A R) : Goes tb e below B R := by
  obtain ⟨t, o, h1, h2⟩ := h
  exact ⟨t, o, k t h1, h2⟩
/-- how a body ends: it has returned, of value and heap Q holds, and no more than that many cells and slots are new -/
theorem own_wk {p : Program} {l : Launch} {e : Env} {R : Room} {s : State} {m : MethodId} {args : Array Value} {below : List Frame} {meth : Method} {c : Code} {T : State} {locs : List Loc} {c1 n1 c2 n2 : Nat} (X : Stand p l e R s m args below meth c T locs c1 n1) (hc : c1 ≤ c2) (hn : n1 ≤ n2) : Stand p l e R s m args below meth c T locs c2 n2 := { X with same := X.same.mono hc hn }
def own_R (below : List Frame) (s : State) (Q : Option Value → Heap → List Loc → Prop) (k n : Nat) : State → Outcome → Prop := fun s₂ o => s₂.status = .running ∧ Ended s₂ below o ∧ ∃ v L, o = .returned v ∧ Q v s₂.heap L ∧ FrameEnd s o s₂ L k n
theorem Goes.tr {tb : Tables} {e : Env} {below : List Frame} {A B : State} {R : State → Outcome → Prop} (k : Steps tb e below B A) (h : Goes tb e below A R) : Goes tb e below B R := Goes.to (fun _ z => k.trans z) h


theorem own_hw {a0 : Array Value} {Z : State} (hw : ∀ d ∈ tables_1, d.before a0 Z = true) {d : Jvm.Cond} (i : Nat) (h : tables_1[i]? = some d) : d.before a0 Z = true := hw d (List.mem_of_getElem? h)
theorem gx {tb : Tables} {e : Env} {below : List Frame} {A B : State} {R : State → Outcome → Prop} (k : ∀ {t : State}, Steps tb e below A t → Steps tb e below B t) (h : Goes tb e below A R) : Goes tb e below B R := Goes.to (fun _ => k) h
theorem own_W {a b W : Nat} (ha : a = 0) (hb : b = W) : 2 * a + b ≤ W := by omega
abbrev own_n0 : MethodName := ⟨"java/lang/Math", "max", "(II)I"⟩
abbrev own_n1 : MethodName := ⟨"java/lang/Math", "min", "(II)I"⟩
abbrev own_n2 : MethodName := ⟨"java/util/Objects", "requireNonNull", "(Ljava/lang/Object;)Ljava/lang/Object;"⟩
abbrev own_n3 : MethodName := ⟨"java/util/AbstractCollection", "<init>", "()V"⟩
abbrev own_n4 : MethodName := ⟨"java/lang/Record", "<init>", "()V"⟩
abbrev own_n5 : MethodName := ⟨"java/util/ImmutableCollections$AbstractImmutableCollection", "<init>", "()V"⟩
abbrev own_n6 : MethodName := ⟨"java/util/ImmutableCollections$AbstractImmutableList", "<init>", "()V"⟩
abbrev own_n7 : MethodName := ⟨"java/util/AbstractList", "<init>", "()V"⟩
abbrev own_n8 : MethodName := ⟨"java/util/ArrayList", "<init>", "()V"⟩
abbrev own_n9 : MethodName := ⟨"java/util/ArrayList", "grow", "(I)[Ljava/lang/Object;"⟩
abbrev own_n10 : MethodName := ⟨"java/util/ArrayList", "grow", "()[Ljava/lang/Object;"⟩
abbrev own_n11 : MethodName := ⟨"java/util/ArrayList", "add", "(Ljava/lang/Object;[Ljava/lang/Object;I)V"⟩
abbrev own_n12 : MethodName := ⟨"java/util/ArrayList", "add", "(Ljava/lang/Object;)Z"⟩
abbrev own_n13 : MethodName := ⟨"java/util/ArrayList", "isEmpty", "()Z"⟩
abbrev own_n14 : MethodName := ⟨"com/example/wee_table/weetable/model/GcRule$MaxVersions", "<init>", "(I)V"⟩
abbrev own_n15 : MethodName := ⟨"com/example/wee_table/weetable/model/IntersectionExpiresPinLaw", "rule", "(ZI)Lcom/example/wee_table/weetable/model/GcRule;"⟩
abbrev own_n16 : MethodName := ⟨"com/example/wee_table/weetable/model/GcRule$MaxVersions", "expires", "(IJJ)Z"⟩
abbrev own_n17 : MethodName := ⟨"com/example/wee_table/weetable/model/GcRule$None", "expires", "(IJJ)Z"⟩
abbrev own_n18 : MethodName := ⟨"com/example/wee_table/weetable/model/IntersectionExpiresPinLaw", "ref", "(ZII)Z"⟩
abbrev own_n19 : MethodName := ⟨"java/util/Arrays", "copyOf", "([Ljava/lang/Object;ILjava/lang/Class;)[Ljava/lang/Object;"⟩
abbrev own_n20 : MethodName := ⟨"java/util/Arrays", "copyOf", "([Ljava/lang/Object;I)[Ljava/lang/Object;"⟩
abbrev own_n21 : MethodName := ⟨"java/util/ArrayList", "toArray", "()[Ljava/lang/Object;"⟩
abbrev own_n22 : MethodName := ⟨"java/util/ImmutableCollections$List12", "<init>", "(Ljava/lang/Object;)V"⟩
abbrev own_n23 : MethodName := ⟨"java/util/ImmutableCollections$List12", "<init>", "(Ljava/lang/Object;Ljava/lang/Object;)V"⟩
abbrev own_n24 : MethodName := ⟨"java/util/ImmutableCollections$ListN", "<init>", "([Ljava/lang/Object;Z)V"⟩
abbrev own_n25 : MethodName := ⟨"java/util/ImmutableCollections", "listFromArray", "([Ljava/lang/Object;)Ljava/util/List;"⟩
abbrev own_n26 : MethodName := ⟨"java/util/List", "of", "([Ljava/lang/Object;)Ljava/util/List;"⟩
abbrev own_n27 : MethodName := ⟨"java/util/Collection", "isEmpty", "()Z"⟩
abbrev own_n28 : MethodName := ⟨"java/util/Collection", "toArray", "()[Ljava/lang/Object;"⟩
abbrev own_n29 : MethodName := ⟨"java/util/ImmutableCollections", "listCopy", "(Ljava/util/Collection;)Ljava/util/List;"⟩
abbrev own_n30 : MethodName := ⟨"java/util/List", "copyOf", "(Ljava/util/Collection;)Ljava/util/List;"⟩
abbrev own_n31 : MethodName := ⟨"java/util/List", "isEmpty", "()Z"⟩
abbrev own_n32 : MethodName := ⟨"com/example/wee_table/weetable/model/GcRule", "nonEmptyCopy", "(Ljava/util/List;Ljava/lang/String;)Ljava/util/List;"⟩
abbrev own_n33 : MethodName := ⟨"com/example/wee_table/weetable/model/GcRule$Intersection", "<init>", "(Ljava/util/List;)V"⟩
abbrev own_n34 : MethodName := ⟨"java/util/ImmutableCollections$ListItr", "<init>", "(Ljava/util/List;I)V"⟩
abbrev own_n35 : MethodName := ⟨"java/util/ImmutableCollections$ListItr", "hasNext", "()Z"⟩
abbrev own_n36 : MethodName := ⟨"java/util/ImmutableCollections$List12", "size", "()I"⟩
abbrev own_n37 : MethodName := ⟨"java/util/ImmutableCollections$ListN", "size", "()I"⟩
abbrev own_n38 : MethodName := ⟨"java/util/ImmutableCollections$List12", "get", "(I)Ljava/lang/Object;"⟩
abbrev own_n39 : MethodName := ⟨"java/util/ImmutableCollections$ListN", "get", "(I)Ljava/lang/Object;"⟩
abbrev own_n40 : MethodName := ⟨"java/util/ImmutableCollections$AbstractImmutableList", "size", "()I"⟩
abbrev own_n41 : MethodName := ⟨"java/util/ImmutableCollections$AbstractImmutableList", "iterator", "()Ljava/util/Iterator;"⟩
abbrev own_n42 : MethodName := ⟨"java/util/List", "get", "(I)Ljava/lang/Object;"⟩
abbrev own_n43 : MethodName := ⟨"java/util/ImmutableCollections$ListItr", "next", "()Ljava/lang/Object;"⟩
abbrev own_n44 : MethodName := ⟨"java/util/List", "iterator", "()Ljava/util/Iterator;"⟩
abbrev own_n45 : MethodName := ⟨"java/util/Iterator", "hasNext", "()Z"⟩
abbrev own_n46 : MethodName := ⟨"java/util/Iterator", "next", "()Ljava/lang/Object;"⟩
abbrev own_n47 : MethodName := ⟨"com/example/wee_table/weetable/model/GcRule", "expires", "(IJJ)Z"⟩
abbrev own_n48 : MethodName := ⟨"com/example/wee_table/weetable/model/GcRule$Intersection", "expires", "(IJJ)Z"⟩


/-- how a law ends that loads literals -/
def own_RW (below : List Frame) (s : State) (Q : Option Value → Heap → List Loc → Prop) (k n : Nat) : State → Outcome → Prop := fun s₂ o => s₂.status = .running ∧ Ended s₂ below o ∧ ∃ v L, o = .returned v ∧ Q v s₂.heap L ∧ ReturnedEndW s o s₂ L k n
theorem own_txt (text : String) (vs : List Value) (h : (text.toList.all fun c => decide (c.toNat < 256)) = true) (e : text.toList.map (fun c => Value.int (Jvm.Lit.byteI c.toNat.toUInt16)) = vs) : (∀ c ∈ text.toList, c.toNat < 256) ∧ text.toList.map (fun c => Value.int (Jvm.Lit.byteI c.toNat.toUInt16)) = vs :=
  ⟨fun c hc => of_decide_eq_true (List.all_eq_true.mp h c hc), e⟩
theorem own_wS {a0 : Array Value} {Z : State} (hw : ∀ d ∈ tables_1, d.before a0 Z = true) : ∀ a ∈ Bundle.stringAtoms, a.before a0 Z = true := by
  intro d hd
  simp only [Bundle.stringAtoms, Bundle.sN, List.mem_cons, List.not_mem_nil, or_false] at hd
  rcases hd with rfl | rfl | rfl | rfl | rfl | rfl | rfl
  · exact (own_hw hw 85 rfl)
  · exact (own_hw hw 86 rfl)
  · exact (own_hw hw 87 rfl)
  · exact (own_hw hw 88 rfl)
  · exact (own_hw hw 89 rfl)
  · exact (own_hw hw 90 rfl)
  · exact (own_hw hw 91 rfl)
def own_EL : List (String × Nat) := []
theorem own_EW {a0 : Array Value} {Z : State} (hw : ∀ d ∈ tables_1, d.before a0 Z = true) : EW Z a0 own_EL := EW.nil

/-- how a body ends that may load literals: the invariant on the booked ones goes on -/
def own_RH (Z : State) (below : List Frame) (s : State) (Q : Option Value → Heap → List Loc → Prop) (k n : Nat) : State → Outcome → Prop := fun s₂ o => s₂.status = .running ∧ Ended s₂ below o ∧ ∃ v L, o = .returned v ∧ Q v s₂.heap L ∧ CHr Z own_EL s.vm s.heap s₂.vm s₂.heap ∧ ReturnedEndW s o s₂ L k n


theorem own_eqv {args : Array Value} {first s : State} {o : Option Outcome} {idx : List Nat} {t : Term} {k : Int32} (h : (Jvm.Cond.eq t (.int k)).value args first o s idx = some true) : t.eval args first o idx s = some (.int k) := by
  obtain ⟨x, y, h1, h2, k1, k2⟩ := cmp_v (Or.inl h)
  cases (Option.some.inj (h2.symm.trans (Term.int_eval k)))
  obtain ⟨z, rfl⟩ := k2
  have e : z = k := by
    have q := h
    simp [Jvm.Cond.value, h1, h2] at q
    exact q
  rw [h1, e]


def own_max (x y : Int32) : Int32 := if x < y then y else x
theorem own_max_toInt (x y : Int32) : (x.toInt < y.toInt → (own_max x y).toInt = y.toInt) ∧ (¬ x.toInt < y.toInt → (own_max x y).toInt = x.toInt) := by
  unfold own_max
  rw [← Int32.lt_iff_toInt_lt]
  constructor
  · intro h; rw [if_pos h]
  · intro h; rw [if_neg h]


theorem own_sf0 {Z : State} {vm : Vm} {h : Heap} {x : Addr} : Safe Z own_EL vm h x := fun B => by
  obtain ⟨p, hp, -⟩ := B
  simp [own_EL] at hp
theorem own_staK {Z : State} {h h' : Heap} {x : Addr} {K0 C n d : String} {w : Value} (K : Keep h h' [x]) (E : Exa Z h x K0) (F : Sta Z h C n d w) : Sta Z h' C n d w := by
  obtain ⟨cf, i, k, f, st, cell, h1, h2, h3, h4, h5, h6, h7⟩ := F
  obtain ⟨cx, kx, e1, e2, e3, e4, e5⟩ := E
  have ne : st ≠ x := fun e => by
    subst e
    cases h5.symm.trans e1
    simp_all
  exact ⟨cf, i, k, f, st, cell, h1, h2, h3, h4, K.2.1 _ _ h5 (ninS ne nin0), h6, h7⟩
theorem own_sta0 {Z : State} {h h' : Heap} {C n d : String} {w : Value} (K : Keep h h' []) (F : Sta Z h C n d w) : Sta Z h' C n d w := by
  obtain ⟨cf, i, k, f, st, cell, h1, h2, h3, h4, h5, h6, h7⟩ := F
  exact ⟨cf, i, k, f, st, cell, h1, h2, h3, h4, K.2.1 _ _ h5 nin0, h6, h7⟩
theorem own_mvM {Z s : State} {a0 args : Array Value} {own host : String} {index : Nat} {y : MethodName} (hZ : Z.Warmed39 s.vm) (w : (Cond.methodLinkNest own index y host).before a0 Z = true) : (Cond.methodLinkNest own index y host).before args s = true := (Cond.methodLinkNest_wide hZ w :)
theorem own_mir {Z s : State} {args : Array Value} {C : String} {mr : Addr} (hZ : Z.Warmed39 s.vm) (Mr : (Term.mirror C).eval #[] Z none [] Z = some (.ref mr)) : (Term.mirror C).eval args s none [] s = some (.ref mr) := Jvm.Free.ALB.Dup.mirror_any hZ.alike Mr
section Mirrors
variable {p : Program} {l : Launch} {e : Env} {R : Room} {s : State} {m : MethodId} {args : Array Value} {below : List Frame} {meth : Method} {c : Code} {T : State} {locs : List Loc} {cells slots : Nat} {Z : State} {h : Heap}
theorem own_ldcM (X : Stand p l e R s m args below meth c T locs cells slots) (hx : p.tables.exec = Jvm.exec) (hZ : Z.Warmed39 s.vm) {a0 : Array Value} {own C : String} {index : Nat} {mr : Addr} (hown : s.vm.findClass own = some m.cls) (w : (Cond.classLink own index C).before a0 Z = true) (eT : T.heap = h) (Mr : (Term.mirror C).eval #[] Z none [] Z = some (.ref mr))
    {g : JFrame} (hg : g.method = m) (hd : decode c.code g.pc = .ok (.ldc index, 2)) : ∃ T', Stand p l e R s m args below meth c T' locs cells slots ∧ T'.heap = h ∧ ∀ target, Steps p.tables e below (T'.setTop { g with pc := g.pc + 2, stack := .ref mr :: g.stack }) target → Steps p.tables e below (T.setTop g) target := by
  obtain ⟨vm', X', st⟩ := X.ldcMirror hx hown (mv hZ w) (own_mir hZ Mr) hg hd
  exact ⟨_, X', eT, st⟩
theorem own_gcls (X : Stand p l e R s m args below meth c T locs cells slots) (hx : p.tables.exec = Jvm.exec) (hZ : Z.Warmed39 s.vm) {a0 : Array Value} {own C : String} {index : Nat} {a mr : Addr} (hown : s.vm.findClass own = some m.cls)
    (w1 : (Cond.methodLink own index Jvm.Stand.gcN).before a0 Z = true) (w2 : (Cond.declares Jvm.Stand.gcN).before a0 Z = true) (w3 : (Cond.noSuperclass "java/lang/Object").before a0 Z = true) (w4 : (Cond.selects C Jvm.Stand.gcN Jvm.Stand.gcN).before a0 Z = true) (w5 : (Cond.instanceMethod Jvm.Stand.gcN).before a0 Z = true) (w6 : (Cond.native Jvm.Stand.gcN).before a0 Z = true)
    (eT : T.heap = h) (E : Exa Z h a C) (Mr : (Term.mirror C).eval #[] Z none [] Z = some (.ref mr)) {g : JFrame} (hg : g.method = m) (hsize : g.locals.size = c.maxLocals) {rest : List Value} (hs : g.stack = .ref a :: rest) (hd : decode c.code g.pc = .ok (.invokevirtual index, 3)) (hf : 1 ≤ R.frames) {W : Nat}
    (hW : 2 * g.monitorRoom + (rest.map fun v => v.category).sum ≤ W) (hl : W + (nativeFrameWords "java/lang/Object" "getClass" 1 + 11) ≤ R.locals) :
    ∃ T', Stand p l e R s m args below meth c T' locs cells slots ∧ T'.heap = h ∧ ∀ target, Steps p.tables e below (T'.setTop { g with pc := g.pc + 3, stack := .ref mr :: rest }) target → Steps p.tables e below (T.setTop g) target := by
  obtain ⟨cB, kB, i1, i2, i3⟩ := isOf hZ eT E
  obtain ⟨cc, kc, a', m1, m2, m3, ha⟩ := Term.mirror_spec (own_mir (args := #[]) hZ Mr)
  cases ha
  cases i1.symm.trans m1
  obtain ⟨vm', X', st⟩ := X.getClassOf hx hown (mvT hZ w1) (mvT hZ w2) (nf_top (args := #[]) (mvT hZ w3)) (mvT hZ w4) (mvT hZ w5) (mvT hZ w6) m1 i3 m2 m3 hg hsize hs hd hf (by omega)
  exact ⟨_, X', eT, st⟩
end Mirrors
theorem own_no {Z : State} {a0 : Array Value} (hw : ∀ d ∈ tables_1, d.before a0 Z = true) {K : String} {n : Nat} (wk : (Cond.instantiable K n).before a0 Z = true) (h1 : "java/util/ArrayList" ≠ K) (h2 : "java/util/AbstractList" ≠ K) (h3 : "java/util/AbstractCollection" ≠ K) (h4 : "java/lang/Object" ≠ K) :
    ∃ c t, Z.vm.findClass "java/util/ArrayList" = some c ∧ Z.vm.findClass K = some t ∧ Z.vm.assignable c t = false := by
  obtain ⟨t, kt, g1, g2, g3, g4, -, -⟩ := Cond.instantiable_spec wk
  have g5 : kt.isInterface = false := by
    have := g4
    simp only [Bool.or_eq_false_iff] at this
    exact this.1
  obtain ⟨c0, k0, r1, r2, r3, -, -⟩ := Cond.noSuperclass_spec (own_hw hw 117 rfl)
  have nr : NS Z "java/lang/Object" K := ⟨c0, t, r1, g1, fun fuel => by
    cases fuel with
    | zero => rfl
    | succ f => simp [Vm.isSubclassAux, ids_ne r1 g1 h4, r2, r3]⟩
  obtain ⟨c, t', q1, q2, q3⟩ := NS.step (own_hw hw 114 rfl) (NS.step (own_hw hw 115 rfl) (NS.step (own_hw hw 116 rfl) nr h3) h2) h1
  cases q2.symm.trans g1
  obtain ⟨p, k, kp, s1, s2, s3, s4, s5, -, -⟩ := Cond.superclass_spec q1 (own_hw hw 114 rfl)
  refine ⟨c, t, q1, g1, ?_⟩
  show Z.vm.assignableAux (255 + 1) c t = false
  simp [Vm.assignableAux, ids_ne q1 g1 h1, s2, g2, s5, g3, g5, Vm.isSubclass, q3]
def own_min (x y : Int32) : Int32 := if y < x then y else x
theorem own_max1 (y : Int32) : ¬ (own_max (1 : Int32) y < (1 : Int32)) := by
  have k := own_max_toInt (1 : Int32) y
  have e : (1 : Int32).toInt = 1 := rfl
  rw [Int32.lt_iff_toInt_lt]
  by_cases h : (1 : Int32).toInt < y.toInt
  · rw [k.1 h]; omega
  · rw [k.2 h]; omega
def own_exp : List (Option Int32) → Int32 → Int32
  | [], _ => 1
  | none :: _, _ => 0
  | some c :: r, n => if n < c then 0 else own_exp r n
def own_ru (Z : State) (h : Heap) (r : Addr) (o : Option Int32) : Prop := (o = none ∧ Exa Z h r "com/example/wee_table/weetable/model/GcRule$None") ∨ ∃ c : Int32, o = some c ∧ Exa Z h r "com/example/wee_table/weetable/model/GcRule$MaxVersions" ∧ Fld Z h r "com/example/wee_table/weetable/model/GcRule$MaxVersions" "count" "I" (.int c)
def own_sp (k c : Int32) : Option Int32 := if k = (0 : Int32) then some c else none
theorem own_sp0 (c : Int32) : own_sp (0 : Int32) c = some c := rfl
theorem own_sp1 (c : Int32) : own_sp (1 : Int32) c = none := rfl
def own_got (n k1 k2 k3 c1 c2 c3 x : Int32) : Int32 := if n < (2 : Int32) then own_exp [own_sp k1 c1] x else if n < (3 : Int32) then own_exp [own_sp k1 c1, own_sp k2 c2] x else own_exp [own_sp k1 c1, own_sp k2 c2, own_sp k3 c3] x
theorem own_lt23 {n : Int32} (h : n < (2 : Int32)) (k : ¬ (n < (3 : Int32))) : False := by
  have e2 : (2 : Int32).toInt = 2 := rfl
  have e3 : (3 : Int32).toInt = 3 := rfl
  rw [Int32.lt_iff_toInt_lt] at h k
  omega

theorem d1_0 : decode jdk_29_method_65_code 0 = .ok (.iload_n 0, 1) := by decide +kernel
theorem d1_1 : decode jdk_29_method_65_code 1 = .ok (.iload_n 1, 1) := by decide +kernel
theorem d1_2 : decode jdk_29_method_65_code 2 = .ok (.if_icmp .lt 7, 3) := by decide +kernel
theorem d1_5 : decode jdk_29_method_65_code 5 = .ok (.iload_n 0, 1) := by decide +kernel
theorem d1_6 : decode jdk_29_method_65_code 6 = .ok (.goto 4, 3) := by decide +kernel
theorem d1_9 : decode jdk_29_method_65_code 9 = .ok (.iload_n 1, 1) := by decide +kernel
theorem d1_10 : decode jdk_29_method_65_code 10 = .ok (.ireturn, 1) := by decide +kernel
theorem own_ef_own_rm1 (m : MethodId) (x0 : Int32) (x1 : Int32) : entryFrame m #[(.int x0), (.int x1)] 2 = mkF m 0 #[.val (.int x0), .val (.int x1)] [] := by first | (simp [entryFrame, mkF, argsToLocals, Value.category]; done) | rfl
def own_Q_own_rm1 (Z : State) (x0 : Int32) (x1 : Int32)  (h0 : Heap) (n0 : Nat) (v : Option Value) (h : Heap) (L : List Loc) : Prop := v = some (.int (own_max x0 x1)) ∧ Fr n0 L ∧ h = h0
abbrev own_r_own_rm1 : Room := ({ frames := 0, cells := 0, slots := 0, locals := 0 } : Room)

set_option maxRecDepth 65536 in
set_option maxHeartbeats 40000000 in
theorem own_rm1 (l : Launch) (Z : State) (a0 : Array Value) (hw : ∀ d ∈ tables_1, d.before a0 Z = true) (ws : List Jvm.Cond) (x0 : Int32) (x1 : Int32)  (h0 : Heap) (n0 : Nat) (Z0 : n0 ≤ h0.size)  :
    MetFree l own_n0 (head1 (Jvm.Cond.code own_n0 jdk_29_method_65_code 2 (some .int) :: ws) own_r_own_rm1) (fun a U => a = #[(.int x0), (.int x1)] ∧ Z.Warmed39 U.vm ∧ U.heap = h0) (fun _ _ _ _ _ => True) (fun _ U o U' => ∃ v L, o = .returned v ∧ own_Q_own_rm1 Z x0 x1 h0 n0 v U'.heap L ∧ FrameEnd U o U' L own_r_own_rm1.cells own_r_own_rm1.slots) := by
  refine MetFree.of_bodySF (Jvm.Free.JP.mathPlain rfl (by decide +kernel)) hisR ?_
  intro p e s m args below meth c s₁ Bd hml0 hP hK
  obtain ⟨rfl, hZ, hh⟩ := hP
  have hx := Bd.exec
  have hby := Bd.bytes
  have hml : c.maxLocals = 2 := hml0
  have hown : s.vm.findClass "java/lang/Math" = some m.cls := findClass_of_methodNamed Bd.named
  have hnm := (name_of_methodNamed Bd.named Bd.method).1
  have X0 : Stand p l e own_r_own_rm1 s m #[(.int x0), (.int x1)] below meth c s₁ [] 0 0 := Stand.of_body Bd
  have e0 : s₁.heap = h0 := by rw [← hh, Bd.state]; rfl
  have N0 := Fr.nil n0
  show Goes p.tables e below _ (own_R below s (own_Q_own_rm1 Z x0 x1 h0 n0) own_r_own_rm1.cells own_r_own_rm1.slots)
  refine Goes.to (fun t k => castTop (own_ef_own_rm1 m x0 x1) k) ?_
  refine gx (XS.iloadN X0.here hx rfl (hb hby d1_0) rfl) ?_
  refine gx (XS.iloadN X0.here hx rfl (hb hby d1_1) rfl) ?_
  by_cases hc1 : x0 < x1
  · refine gx (XS.icmpYes X0.here hx rfl (pc0 := 2) (pc' := 9) rfl (hb hby d1_2) rfl (tlt hc1).1 (by decide) (by decide)) ?_
    refine gx (XS.iloadN X0.here hx rfl (hb hby d1_9) rfl) ?_
    show Goes p.tables e below (s₁.setTop (mkF m 10 #[.val (.int x0), .val (.int x1)] [(.int x1)])) _
    obtain ⟨fs, hr, hrun, hended, hW, hsame⟩ := X0.leave (v := some (.int x1)) (fun h => by rw [Bd.returns] at h; cases h)
    have hv : (some (.int x1) : Option Value) = some (.int (own_max x0 x1)) := by
      rw [own_max, if_pos hc1]
    exact ⟨_, _, retI X0 hx Bd.returns (hb hby d1_10) hr, hrun, hended, _, _, rfl, ⟨hv, N0, e0⟩, ⟨_, rfl⟩, hW, hsame.mono (by decide) (by decide)⟩
  · refine gx (XS.icmpNo X0.here hx rfl (hb hby d1_2) rfl (flt hc1).1) ?_
    refine gx (XS.iloadN X0.here hx rfl (hb hby d1_5) rfl) ?_
    refine gx (XS.goto X0.here hx rfl (pc0 := 6) (pc' := 10) rfl (hb hby d1_6) (by decide) (by decide)) ?_
    show Goes p.tables e below (s₁.setTop (mkF m 10 #[.val (.int x0), .val (.int x1)] [(.int x0)])) _
    obtain ⟨fs, hr, hrun, hended, hW, hsame⟩ := X0.leave (v := some (.int x0)) (fun h => by rw [Bd.returns] at h; cases h)
    have hv : (some (.int x0) : Option Value) = some (.int (own_max x0 x1)) := by
      rw [own_max, if_neg hc1]
    exact ⟨_, _, retI X0 hx Bd.returns (hb hby d1_10) hr, hrun, hended, _, _, rfl, ⟨hv, N0, e0⟩, ⟨_, rfl⟩, hW, hsame.mono (by decide) (by decide)⟩

theorem d21_0 : decode jdk_29_method_69_code 0 = .ok (.iload_n 0, 1) := by decide +kernel
theorem d21_1 : decode jdk_29_method_69_code 1 = .ok (.iload_n 1, 1) := by decide +kernel
theorem d21_2 : decode jdk_29_method_69_code 2 = .ok (.if_icmp .gt 7, 3) := by decide +kernel
theorem d21_5 : decode jdk_29_method_69_code 5 = .ok (.iload_n 0, 1) := by decide +kernel
theorem d21_6 : decode jdk_29_method_69_code 6 = .ok (.goto 4, 3) := by decide +kernel
theorem d21_9 : decode jdk_29_method_69_code 9 = .ok (.iload_n 1, 1) := by decide +kernel
theorem d21_10 : decode jdk_29_method_69_code 10 = .ok (.ireturn, 1) := by decide +kernel
theorem own_ef_own_rm21 (m : MethodId) (x0 : Int32) (x1 : Int32) : entryFrame m #[(.int x0), (.int x1)] 2 = mkF m 0 #[.val (.int x0), .val (.int x1)] [] := by first | (simp [entryFrame, mkF, argsToLocals, Value.category]; done) | rfl
def own_Q_own_rm21 (Z : State) (x0 : Int32) (x1 : Int32)  (h0 : Heap) (n0 : Nat) (v : Option Value) (h : Heap) (L : List Loc) : Prop := v = some (.int (own_min x0 x1)) ∧ Fr n0 L ∧ h = h0
abbrev own_r_own_rm21 : Room := ({ frames := 0, cells := 0, slots := 0, locals := 0 } : Room)

set_option maxRecDepth 65536 in
set_option maxHeartbeats 40000000 in
theorem own_rm21 (l : Launch) (Z : State) (a0 : Array Value) (hw : ∀ d ∈ tables_1, d.before a0 Z = true) (ws : List Jvm.Cond) (x0 : Int32) (x1 : Int32)  (h0 : Heap) (n0 : Nat) (Z0 : n0 ≤ h0.size)  :
    MetFree l own_n1 (head1 (Jvm.Cond.code own_n1 jdk_29_method_69_code 2 (some .int) :: ws) own_r_own_rm21) (fun a U => a = #[(.int x0), (.int x1)] ∧ Z.Warmed39 U.vm ∧ U.heap = h0) (fun _ _ _ _ _ => True) (fun _ U o U' => ∃ v L, o = .returned v ∧ own_Q_own_rm21 Z x0 x1 h0 n0 v U'.heap L ∧ FrameEnd U o U' L own_r_own_rm21.cells own_r_own_rm21.slots) := by
  refine MetFree.of_bodySF (Jvm.Free.JP.mathPlain rfl (by decide +kernel)) hisR ?_
  intro p e s m args below meth c s₁ Bd hml0 hP hK
  obtain ⟨rfl, hZ, hh⟩ := hP
  have hx := Bd.exec
  have hby := Bd.bytes
  have hml : c.maxLocals = 2 := hml0
  have hown : s.vm.findClass "java/lang/Math" = some m.cls := findClass_of_methodNamed Bd.named
  have hnm := (name_of_methodNamed Bd.named Bd.method).1
  have X0 : Stand p l e own_r_own_rm21 s m #[(.int x0), (.int x1)] below meth c s₁ [] 0 0 := Stand.of_body Bd
  have e0 : s₁.heap = h0 := by rw [← hh, Bd.state]; rfl
  have N0 := Fr.nil n0
  show Goes p.tables e below _ (own_R below s (own_Q_own_rm21 Z x0 x1 h0 n0) own_r_own_rm21.cells own_r_own_rm21.slots)
  refine Goes.to (fun t k => castTop (own_ef_own_rm21 m x0 x1) k) ?_
  refine gx (XS.iloadN X0.here hx rfl (hb hby d21_0) rfl) ?_
  refine gx (XS.iloadN X0.here hx rfl (hb hby d21_1) rfl) ?_
  by_cases hc1 : x1 < x0
  · refine gx (XS.icmpYes X0.here hx rfl (pc0 := 2) (pc' := 9) rfl (hb hby d21_2) rfl (tlt hc1).2.2.1 (by decide) (by decide)) ?_
    refine gx (XS.iloadN X0.here hx rfl (hb hby d21_9) rfl) ?_
    show Goes p.tables e below (s₁.setTop (mkF m 10 #[.val (.int x0), .val (.int x1)] [(.int x1)])) _
    obtain ⟨fs, hr, hrun, hended, hW, hsame⟩ := X0.leave (v := some (.int x1)) (fun h => by rw [Bd.returns] at h; cases h)
    have hv : (some (.int x1) : Option Value) = some (.int (own_min x0 x1)) := by
      rw [own_min, if_pos hc1]
    exact ⟨_, _, retI X0 hx Bd.returns (hb hby d21_10) hr, hrun, hended, _, _, rfl, ⟨hv, N0, e0⟩, ⟨_, rfl⟩, hW, hsame.mono (by decide) (by decide)⟩
  · refine gx (XS.icmpNo X0.here hx rfl (hb hby d21_2) rfl (flt hc1).2.2.1) ?_
    refine gx (XS.iloadN X0.here hx rfl (hb hby d21_5) rfl) ?_
    refine gx (XS.goto X0.here hx rfl (pc0 := 6) (pc' := 10) rfl (hb hby d21_6) (by decide) (by decide)) ?_
    show Goes p.tables e below (s₁.setTop (mkF m 10 #[.val (.int x0), .val (.int x1)] [(.int x0)])) _
    obtain ⟨fs, hr, hrun, hended, hW, hsame⟩ := X0.leave (v := some (.int x0)) (fun h => by rw [Bd.returns] at h; cases h)
    have hv : (some (.int x0) : Option Value) = some (.int (own_min x0 x1)) := by
      rw [own_min, if_neg hc1]
    exact ⟨_, _, retI X0 hx Bd.returns (hb hby d21_10) hr, hrun, hended, _, _, rfl, ⟨hv, N0, e0⟩, ⟨_, rfl⟩, hW, hsame.mono (by decide) (by decide)⟩

theorem d26_0 : decode jdk_31_method_10_code 0 = .ok (.aload_n 0, 1) := by decide +kernel
theorem d26_1 : decode jdk_31_method_10_code 1 = .ok (.ifnonnull 11, 3) := by decide +kernel
theorem d26_12 : decode jdk_31_method_10_code 12 = .ok (.aload_n 0, 1) := by decide +kernel
theorem d26_13 : decode jdk_31_method_10_code 13 = .ok (.areturn, 1) := by decide +kernel
theorem own_pn_26 : plainName "java/util/Objects" = true := by first | (simp [plainName, overriddenIn]; done) | decide +kernel
theorem own_ef_own_rm26 (m : MethodId) (x0 : Addr) : entryFrame m #[(.ref x0)] 1 = mkF m 0 #[.val (.ref x0)] [] := by first | (simp [entryFrame, mkF, argsToLocals, Value.category]; done) | rfl
def own_Q_own_rm26 (Z : State) (x0 : Addr)  (h0 : Heap) (n0 : Nat) (v : Option Value) (h : Heap) (L : List Loc) : Prop := v = some (.ref x0) ∧ Fr n0 L ∧ h = h0
abbrev own_r_own_rm26 : Room := ({ frames := 0, cells := 0, slots := 0, locals := 0 } : Room)

set_option maxRecDepth 65536 in
set_option maxHeartbeats 40000000 in
theorem own_rm26 (l : Launch) (Z : State) (a0 : Array Value) (hw : ∀ d ∈ tables_1, d.before a0 Z = true) (ws : List Jvm.Cond) (x0 : Addr)  (h0 : Heap) (n0 : Nat) (Z0 : n0 ≤ h0.size)  :
    MetFree l own_n2 (head1 (Jvm.Cond.code own_n2 jdk_31_method_10_code 1 (some (.object "java/lang/Object")) :: ws) own_r_own_rm26) (fun a U => a = #[(.ref x0)] ∧ Z.Warmed39 U.vm ∧ U.heap = h0) (fun _ _ _ _ _ => True) (fun _ U o U' => ∃ v L, o = .returned v ∧ own_Q_own_rm26 Z x0 h0 n0 v U'.heap L ∧ FrameEnd U o U' L own_r_own_rm26.cells own_r_own_rm26.slots) := by
  refine MetFree.of_bodySF (plainFor_of_name own_pn_26) hisR ?_
  intro p e s m args below meth c s₁ Bd hml0 hP hK
  obtain ⟨rfl, hZ, hh⟩ := hP
  have hx := Bd.exec
  have hby := Bd.bytes
  have hml : c.maxLocals = 1 := hml0
  have hown : s.vm.findClass "java/util/Objects" = some m.cls := findClass_of_methodNamed Bd.named
  have hnm := (name_of_methodNamed Bd.named Bd.method).1
  have X0 : Stand p l e own_r_own_rm26 s m #[(.ref x0)] below meth c s₁ [] 0 0 := Stand.of_body Bd
  have e0 : s₁.heap = h0 := by rw [← hh, Bd.state]; rfl
  have N0 := Fr.nil n0
  show Goes p.tables e below _ (own_R below s (own_Q_own_rm26 Z x0 h0 n0) own_r_own_rm26.cells own_r_own_rm26.slots)
  refine Goes.to (fun t k => castTop (own_ef_own_rm26 m x0) k) ?_
  refine gx (XS.aloadN X0.here hx rfl (hb hby d26_0) rfl rfl) ?_
  refine gx (XS.ifnonnullYes X0.here hx rfl (pc0 := 1) (pc' := 12) rfl (hb hby d26_1) rfl (by decide) (by decide)) ?_
  refine gx (XS.aloadN X0.here hx rfl (hb hby d26_12) rfl rfl) ?_
  show Goes p.tables e below (s₁.setTop (mkF m 13 #[.val (.ref x0)] [(.ref x0)])) _
  obtain ⟨fs, hr, hrun, hended, hW, hsame⟩ := X0.leave (v := some (.ref x0)) (fun h => by rw [Bd.returns] at h; cases h)
  have hv : (some (.ref x0) : Option Value) = some (.ref x0) := by
    rfl
  exact ⟨_, _, retOut X0 hx Bd.returns rfl (Or.inr (Or.inr (Or.inr (Or.inr ⟨rfl, rfl, rfl⟩)))) (hb hby d26_13) hr, hrun, hended, _, _, rfl, ⟨hv, N0, e0⟩, ⟨_, rfl⟩, hW, hsame.mono (by decide) (by decide)⟩

theorem d4_0 : decode jdk_22_method_1_code 0 = .ok (.aload_n 0, 1) := by decide +kernel
theorem d4_1 : decode jdk_22_method_1_code 1 = .ok (.invokespecial 1, 3) := by decide +kernel
theorem d4_4 : decode jdk_22_method_1_code 4 = .ok (.return_, 1) := by decide +kernel
theorem own_pn_4 : plainName "java/util/AbstractCollection" = true := by first | (simp [plainName, overriddenIn]; done) | decide +kernel
theorem own_ef_own_rm4 (m : MethodId) (x0 : Addr) : entryFrame m #[(.ref x0)] 1 = mkF m 0 #[.val (.ref x0)] [] := by first | (simp [entryFrame, mkF, argsToLocals, Value.category]; done) | rfl
def own_Q_own_rm4 (Z : State) (x0 : Addr)  (h0 : Heap) (n0 : Nat) (v : Option Value) (h : Heap) (L : List Loc) : Prop := v = none ∧ Fr n0 L ∧ h = h0
abbrev own_r_own_rm4 : Room := ({ frames := 1, cells := 0, slots := 0, locals := 12 } : Room)

set_option maxRecDepth 65536 in
set_option maxHeartbeats 40000000 in
theorem own_rm4 (l : Launch) (Z : State) (a0 : Array Value) (hw : ∀ d ∈ tables_1, d.before a0 Z = true) (ws : List Jvm.Cond) (x0 : Addr)  (h0 : Heap) (n0 : Nat) (Z0 : n0 ≤ h0.size)  :
    MetFree l own_n3 (head1 (Jvm.Cond.code own_n3 jdk_22_method_1_code 1 none :: ws) own_r_own_rm4) (fun a U => a = #[(.ref x0)] ∧ Z.Warmed39 U.vm ∧ U.heap = h0) (fun _ _ _ _ _ => True) (fun _ U o U' => ∃ v L, o = .returned v ∧ own_Q_own_rm4 Z x0 h0 n0 v U'.heap L ∧ FrameEnd U o U' L own_r_own_rm4.cells own_r_own_rm4.slots) := by
  refine MetFree.of_bodySF (plainFor_of_name own_pn_4) hisR ?_
  intro p e s m args below meth c s₁ Bd hml0 hP hK
  obtain ⟨rfl, hZ, hh⟩ := hP
  have hx := Bd.exec
  have hby := Bd.bytes
  have hml : c.maxLocals = 1 := hml0
  have hown : s.vm.findClass "java/util/AbstractCollection" = some m.cls := findClass_of_methodNamed Bd.named
  have hnm := (name_of_methodNamed Bd.named Bd.method).1
  have X0 : Stand p l e own_r_own_rm4 s m #[(.ref x0)] below meth c s₁ [] 0 0 := Stand.of_body Bd
  have e0 : s₁.heap = h0 := by rw [← hh, Bd.state]; rfl
  have N0 := Fr.nil n0
  show Goes p.tables e below _ (own_R below s (own_Q_own_rm4 Z x0 h0 n0) own_r_own_rm4.cells own_r_own_rm4.slots)
  refine Goes.to (fun t k => castTop (own_ef_own_rm4 m x0) k) ?_
  refine gx (XS.aloadN X0.here hx rfl (hb hby d4_0) rfl rfl) ?_
  obtain ⟨T1, X1, e1, st1⟩ := initO X0 hx hZ hown (own_hw hw 23 rfl) (own_hw hw 24 rfl) (own_hw hw 25 rfl) e0 (g := (mkF m 1 #[.val (.ref x0)] [(.ref x0)])) rfl (by rw [hml]; rfl) rfl (hb hby d4_1) (by decide) (W := 0) (own_W rfl rfl) (by decide)
  refine Goes.to st1 ?_
  show Goes p.tables e below (T1.setTop (mkF m 4 #[.val (.ref x0)] [])) _
  obtain ⟨fs, hr, hrun, hended, hW, hsame⟩ := X1.leave (v := none) (fun _ => rfl)
  have hv : (none : Option Value) = none := by
    rfl
  exact ⟨_, _, X1.returnOut hx Bd.returns (hb hby d4_4) hr, hrun, hended, _, _, rfl, ⟨hv, N0, e1⟩, ⟨_, rfl⟩, hW, hsame.mono (by decide) (by decide)⟩

theorem d8_0 : decode jdk_30_method_1_code 0 = .ok (.aload_n 0, 1) := by decide +kernel
theorem d8_1 : decode jdk_30_method_1_code 1 = .ok (.invokespecial 1, 3) := by decide +kernel
theorem d8_4 : decode jdk_30_method_1_code 4 = .ok (.return_, 1) := by decide +kernel
theorem own_pn_8 : plainName "java/lang/Record" = true := by first | (simp [plainName, overriddenIn]; done) | decide +kernel
theorem own_ef_own_rm8 (m : MethodId) (x0 : Addr) : entryFrame m #[(.ref x0)] 1 = mkF m 0 #[.val (.ref x0)] [] := by first | (simp [entryFrame, mkF, argsToLocals, Value.category]; done) | rfl
def own_Q_own_rm8 (Z : State) (x0 : Addr)  (h0 : Heap) (n0 : Nat) (v : Option Value) (h : Heap) (L : List Loc) : Prop := v = none ∧ Fr n0 L ∧ h = h0
abbrev own_r_own_rm8 : Room := ({ frames := 1, cells := 0, slots := 0, locals := 12 } : Room)

set_option maxRecDepth 65536 in
set_option maxHeartbeats 40000000 in
theorem own_rm8 (l : Launch) (Z : State) (a0 : Array Value) (hw : ∀ d ∈ tables_1, d.before a0 Z = true) (ws : List Jvm.Cond) (x0 : Addr)  (h0 : Heap) (n0 : Nat) (Z0 : n0 ≤ h0.size)  :
    MetFree l own_n4 (head1 (Jvm.Cond.code own_n4 jdk_30_method_1_code 1 none :: ws) own_r_own_rm8) (fun a U => a = #[(.ref x0)] ∧ Z.Warmed39 U.vm ∧ U.heap = h0) (fun _ _ _ _ _ => True) (fun _ U o U' => ∃ v L, o = .returned v ∧ own_Q_own_rm8 Z x0 h0 n0 v U'.heap L ∧ FrameEnd U o U' L own_r_own_rm8.cells own_r_own_rm8.slots) := by
  refine MetFree.of_bodySF (plainFor_of_name own_pn_8) hisR ?_
  intro p e s m args below meth c s₁ Bd hml0 hP hK
  obtain ⟨rfl, hZ, hh⟩ := hP
  have hx := Bd.exec
  have hby := Bd.bytes
  have hml : c.maxLocals = 1 := hml0
  have hown : s.vm.findClass "java/lang/Record" = some m.cls := findClass_of_methodNamed Bd.named
  have hnm := (name_of_methodNamed Bd.named Bd.method).1
  have X0 : Stand p l e own_r_own_rm8 s m #[(.ref x0)] below meth c s₁ [] 0 0 := Stand.of_body Bd
  have e0 : s₁.heap = h0 := by rw [← hh, Bd.state]; rfl
  have N0 := Fr.nil n0
  show Goes p.tables e below _ (own_R below s (own_Q_own_rm8 Z x0 h0 n0) own_r_own_rm8.cells own_r_own_rm8.slots)
  refine Goes.to (fun t k => castTop (own_ef_own_rm8 m x0) k) ?_
  refine gx (XS.aloadN X0.here hx rfl (hb hby d8_0) rfl rfl) ?_
  obtain ⟨T1, X1, e1, st1⟩ := initO X0 hx hZ hown (own_hw hw 46 rfl) (own_hw hw 24 rfl) (own_hw hw 25 rfl) e0 (g := (mkF m 1 #[.val (.ref x0)] [(.ref x0)])) rfl (by rw [hml]; rfl) rfl (hb hby d8_1) (by decide) (W := 0) (own_W rfl rfl) (by decide)
  refine Goes.to st1 ?_
  show Goes p.tables e below (T1.setTop (mkF m 4 #[.val (.ref x0)] [])) _
  obtain ⟨fs, hr, hrun, hended, hW, hsame⟩ := X1.leave (v := none) (fun _ => rfl)
  have hv : (none : Option Value) = none := by
    rfl
  exact ⟨_, _, X1.returnOut hx Bd.returns (hb hby d8_4) hr, hrun, hended, _, _, rfl, ⟨hv, N0, e1⟩, ⟨_, rfl⟩, hW, hsame.mono (by decide) (by decide)⟩

theorem d25_0 : decode jdk_47_method_1_code 0 = .ok (.aload_n 0, 1) := by decide +kernel
theorem d25_1 : decode jdk_47_method_1_code 1 = .ok (.invokespecial 1, 3) := by decide +kernel
theorem d25_4 : decode jdk_47_method_1_code 4 = .ok (.return_, 1) := by decide +kernel
theorem own_pd_pqV : parseMethodDescriptor "()V" = some ⟨[], none⟩ := by decide +kernel
theorem own_pn_25 : plainName "java/util/ImmutableCollections$AbstractImmutableCollection" = true := by first | (simp [plainName, overriddenIn]; done) | decide +kernel
theorem own_ef_own_rm25 (m : MethodId) (x0 : Addr) : entryFrame m #[(.ref x0)] 1 = mkF m 0 #[.val (.ref x0)] [] := by first | (simp [entryFrame, mkF, argsToLocals, Value.category]; done) | rfl
def own_Q_own_rm25 (Z : State) (x0 : Addr)  (h0 : Heap) (n0 : Nat) (v : Option Value) (h : Heap) (L : List Loc) : Prop := v = none ∧ Fr n0 L ∧ h = h0
abbrev own_r_own_rm25 : Room := ({ frames := 2, cells := 0, slots := 0, locals := 24 } : Room)

set_option maxRecDepth 65536 in
set_option maxHeartbeats 40000000 in
theorem own_rm25 (l : Launch) (Z : State) (a0 : Array Value) (hw : ∀ d ∈ tables_1, d.before a0 Z = true) (ws : List Jvm.Cond) (x0 : Addr)  (h0 : Heap) (n0 : Nat) (Z0 : n0 ≤ h0.size)  :
    MetFree l own_n5 (head1 (Jvm.Cond.code own_n5 jdk_47_method_1_code 1 none :: ws) own_r_own_rm25) (fun a U => a = #[(.ref x0)] ∧ Z.Warmed39 U.vm ∧ U.heap = h0) (fun _ _ _ _ _ => True) (fun _ U o U' => ∃ v L, o = .returned v ∧ own_Q_own_rm25 Z x0 h0 n0 v U'.heap L ∧ FrameEnd U o U' L own_r_own_rm25.cells own_r_own_rm25.slots) := by
  refine MetFree.of_bodySF (plainFor_of_name own_pn_25) hisR ?_
  intro p e s m args below meth c s₁ Bd hml0 hP hK
  obtain ⟨rfl, hZ, hh⟩ := hP
  have hx := Bd.exec
  have hby := Bd.bytes
  have hml : c.maxLocals = 1 := hml0
  have hown : s.vm.findClass "java/util/ImmutableCollections$AbstractImmutableCollection" = some m.cls := findClass_of_methodNamed Bd.named
  have hnm := (name_of_methodNamed Bd.named Bd.method).1
  have X0 : Stand p l e own_r_own_rm25 s m #[(.ref x0)] below meth c s₁ [] 0 0 := Stand.of_body Bd
  have e0 : s₁.heap = h0 := by rw [← hh, Bd.state]; rfl
  have N0 := Fr.nil n0
  show Goes p.tables e below _ (own_R below s (own_Q_own_rm25 Z x0 h0 n0) own_r_own_rm25.cells own_r_own_rm25.slots)
  refine Goes.to (fun t k => castTop (own_ef_own_rm25 m x0) k) ?_
  refine gx (XS.aloadN X0.here hx rfl (hb hby d25_0) rfl rfl) ?_
  obtain ⟨_, _, ⟨T1, L1, k1, n1⟩, -, X1, ⟨Lc1, hQ1, l1, y1, z1⟩, st1⟩ := X0.specialBack hx (y := own_n3) rfl hown (mvT hZ (own_hw hw 176 rfl)) (mvT hZ (own_hw hw 18 rfl)) (mvT hZ (own_hw hw 22 rfl)) (by decide) (backOf (W := 0) (own_rm4 l Z a0 hw [] x0 h0 n0 Z0 ) hZ (own_hw hw 22 rfl) (own_hw hw 21 rfl) (by decide) (by decide)) (g := (mkF m 1 #[.val (.ref x0)] [(.ref x0)])) rfl (by rw [hml]; rfl) (Steps.refl _) (a := x0) (argsL := []) (rest := []) (lenOf own_pd_pqV rfl) rfl (own_W rfl rfl) (hb hby d25_1) (fun _ _ => ⟨rfl, e0, (by decide : 0 + 0 ≤ _), (by decide : 0 + 0 ≤ _)⟩)
  dsimp only [Pt.U, Pt.locs, Pt.cells, Pt.slots] at X1 l1 y1 z1 st1 hQ1
  subst l1 y1 z1
  obtain ⟨hv1, Nq1, hp1_0⟩ := hQ1
  have N1 := Fr.app N0 Nq1
  subst hv1
  refine Goes.tr st1 ?_
  show Goes p.tables e below (T1.setTop (mkF m 4 #[.val (.ref x0)] [])) _
  obtain ⟨fs, hr, hrun, hended, hW, hsame⟩ := X1.leave (v := none) (fun _ => rfl)
  have hv : (none : Option Value) = none := by
    rfl
  exact ⟨_, _, X1.returnOut hx Bd.returns (hb hby d25_4) hr, hrun, hended, _, _, rfl, ⟨hv, N1, hp1_0⟩, ⟨_, rfl⟩, hW, hsame.mono (by decide) (by decide)⟩

theorem d24_0 : decode jdk_46_method_1_code 0 = .ok (.aload_n 0, 1) := by decide +kernel
theorem d24_1 : decode jdk_46_method_1_code 1 = .ok (.invokespecial 1, 3) := by decide +kernel
theorem d24_4 : decode jdk_46_method_1_code 4 = .ok (.return_, 1) := by decide +kernel
theorem own_pn_24 : plainName "java/util/ImmutableCollections$AbstractImmutableList" = true := by first | (simp [plainName, overriddenIn]; done) | decide +kernel
theorem own_ef_own_rm24 (m : MethodId) (x0 : Addr) : entryFrame m #[(.ref x0)] 1 = mkF m 0 #[.val (.ref x0)] [] := by first | (simp [entryFrame, mkF, argsToLocals, Value.category]; done) | rfl
def own_Q_own_rm24 (Z : State) (x0 : Addr)  (h0 : Heap) (n0 : Nat) (v : Option Value) (h : Heap) (L : List Loc) : Prop := v = none ∧ Fr n0 L ∧ h = h0
abbrev own_r_own_rm24 : Room := ({ frames := 3, cells := 0, slots := 0, locals := 36 } : Room)

set_option maxRecDepth 65536 in
set_option maxHeartbeats 40000000 in
theorem own_rm24 (l : Launch) (Z : State) (a0 : Array Value) (hw : ∀ d ∈ tables_1, d.before a0 Z = true) (ws : List Jvm.Cond) (x0 : Addr)  (h0 : Heap) (n0 : Nat) (Z0 : n0 ≤ h0.size)  :
    MetFree l own_n6 (head1 (Jvm.Cond.code own_n6 jdk_46_method_1_code 1 none :: ws) own_r_own_rm24) (fun a U => a = #[(.ref x0)] ∧ Z.Warmed39 U.vm ∧ U.heap = h0) (fun _ _ _ _ _ => True) (fun _ U o U' => ∃ v L, o = .returned v ∧ own_Q_own_rm24 Z x0 h0 n0 v U'.heap L ∧ FrameEnd U o U' L own_r_own_rm24.cells own_r_own_rm24.slots) := by
  refine MetFree.of_bodySF (plainFor_of_name own_pn_24) hisR ?_
  intro p e s m args below meth c s₁ Bd hml0 hP hK
  obtain ⟨rfl, hZ, hh⟩ := hP
  have hx := Bd.exec
  have hby := Bd.bytes
  have hml : c.maxLocals = 1 := hml0
  have hown : s.vm.findClass "java/util/ImmutableCollections$AbstractImmutableList" = some m.cls := findClass_of_methodNamed Bd.named
  have hnm := (name_of_methodNamed Bd.named Bd.method).1
  have X0 : Stand p l e own_r_own_rm24 s m #[(.ref x0)] below meth c s₁ [] 0 0 := Stand.of_body Bd
  have e0 : s₁.heap = h0 := by rw [← hh, Bd.state]; rfl
  have N0 := Fr.nil n0
  show Goes p.tables e below _ (own_R below s (own_Q_own_rm24 Z x0 h0 n0) own_r_own_rm24.cells own_r_own_rm24.slots)
  refine Goes.to (fun t k => castTop (own_ef_own_rm24 m x0) k) ?_
  refine gx (XS.aloadN X0.here hx rfl (hb hby d24_0) rfl rfl) ?_
  obtain ⟨_, _, ⟨T1, L1, k1, n1⟩, -, X1, ⟨Lc1, hQ1, l1, y1, z1⟩, st1⟩ := X0.specialBack hx (y := own_n5) rfl hown (mvT hZ (own_hw hw 170 rfl)) (mvT hZ (own_hw hw 171 rfl)) (mvT hZ (own_hw hw 175 rfl)) (by decide) (backOf (W := 0) (own_rm25 l Z a0 hw [] x0 h0 n0 Z0 ) hZ (own_hw hw 175 rfl) (own_hw hw 174 rfl) (by decide) (by decide)) (g := (mkF m 1 #[.val (.ref x0)] [(.ref x0)])) rfl (by rw [hml]; rfl) (Steps.refl _) (a := x0) (argsL := []) (rest := []) (lenOf own_pd_pqV rfl) rfl (own_W rfl rfl) (hb hby d24_1) (fun _ _ => ⟨rfl, e0, (by decide : 0 + 0 ≤ _), (by decide : 0 + 0 ≤ _)⟩)
  dsimp only [Pt.U, Pt.locs, Pt.cells, Pt.slots] at X1 l1 y1 z1 st1 hQ1
  subst l1 y1 z1
  obtain ⟨hv1, Nq1, hp1_0⟩ := hQ1
  have N1 := Fr.app N0 Nq1
  subst hv1
  refine Goes.tr st1 ?_
  show Goes p.tables e below (T1.setTop (mkF m 4 #[.val (.ref x0)] [])) _
  obtain ⟨fs, hr, hrun, hended, hW, hsame⟩ := X1.leave (v := none) (fun _ => rfl)
  have hv : (none : Option Value) = none := by
    rfl
  exact ⟨_, _, X1.returnOut hx Bd.returns (hb hby d24_4) hr, hrun, hended, _, _, rfl, ⟨hv, N1, hp1_0⟩, ⟨_, rfl⟩, hW, hsame.mono (by decide) (by decide)⟩

theorem d3_0 : decode jdk_39_method_1_code 0 = .ok (.aload_n 0, 1) := by decide +kernel
theorem d3_1 : decode jdk_39_method_1_code 1 = .ok (.invokespecial 1, 3) := by decide +kernel
theorem d3_4 : decode jdk_39_method_1_code 4 = .ok (.aload_n 0, 1) := by decide +kernel
theorem d3_5 : decode jdk_39_method_1_code 5 = .ok (.iconst 0, 1) := by decide +kernel
theorem d3_6 : decode jdk_39_method_1_code 6 = .ok (.putfield 7, 3) := by decide +kernel
theorem d3_9 : decode jdk_39_method_1_code 9 = .ok (.return_, 1) := by decide +kernel
theorem own_pn_3 : plainName "java/util/AbstractList" = true := by first | (simp [plainName, overriddenIn]; done) | decide +kernel
theorem own_ef_own_rm3 (m : MethodId) (x0 : Addr) : entryFrame m #[(.ref x0)] 1 = mkF m 0 #[.val (.ref x0)] [] := by first | (simp [entryFrame, mkF, argsToLocals, Value.category]; done) | rfl
def own_Q_own_rm3 (Z : State) (x0 : Addr)  (h0 : Heap) (n0 : Nat) (v : Option Value) (h : Heap) (L : List Loc) : Prop := v = none ∧ Fr n0 L ∧ Keep h0 h [x0] ∧ Exa Z h x0 "java/util/ArrayList" ∧ Fld Z h x0 "java/util/AbstractList" "modCount" "I" (.int (0 : Int32)) ∧ Fld Z h x0 "java/util/ArrayList" "size" "I" (.int (0 : Int32)) ∧ Fld Z h x0 "java/util/ArrayList" "elementData" "[Ljava/lang/Object;" .null
abbrev own_r_own_rm3 : Room := ({ frames := 2, cells := 0, slots := 0, locals := 24 } : Room)

set_option maxRecDepth 65536 in
set_option maxHeartbeats 40000000 in
theorem own_rm3 (l : Launch) (Z : State) (a0 : Array Value) (hw : ∀ d ∈ tables_1, d.before a0 Z = true) (ws : List Jvm.Cond) (x0 : Addr)  (h0 : Heap) (n0 : Nat) (Z0 : n0 ≤ h0.size) (Pi0 : n0 ≤ x0) (Pi1 : Exa Z h0 x0 "java/util/ArrayList") (Pi2 : Fld Z h0 x0 "java/util/AbstractList" "modCount" "I" (.int (0 : Int32))) (Pi3 : Fld Z h0 x0 "java/util/ArrayList" "size" "I" (.int (0 : Int32))) (Pi4 : Fld Z h0 x0 "java/util/ArrayList" "elementData" "[Ljava/lang/Object;" .null) :
    MetFree l own_n7 (head1 (Jvm.Cond.code own_n7 jdk_39_method_1_code 1 none :: ws) own_r_own_rm3) (fun a U => a = #[(.ref x0)] ∧ Z.Warmed39 U.vm ∧ U.heap = h0) (fun _ _ _ _ _ => True) (fun _ U o U' => ∃ v L, o = .returned v ∧ own_Q_own_rm3 Z x0 h0 n0 v U'.heap L ∧ FrameEnd U o U' L own_r_own_rm3.cells own_r_own_rm3.slots) := by
  refine MetFree.of_bodySF (plainFor_of_name own_pn_3) hisR ?_
  intro p e s m args below meth c s₁ Bd hml0 hP hK
  obtain ⟨rfl, hZ, hh⟩ := hP
  have hx := Bd.exec
  have hby := Bd.bytes
  have hml : c.maxLocals = 1 := hml0
  have hown : s.vm.findClass "java/util/AbstractList" = some m.cls := findClass_of_methodNamed Bd.named
  have hnm := (name_of_methodNamed Bd.named Bd.method).1
  have X0 : Stand p l e own_r_own_rm3 s m #[(.ref x0)] below meth c s₁ [] 0 0 := Stand.of_body Bd
  have e0 : s₁.heap = h0 := by rw [← hh, Bd.state]; rfl
  have N0 := Fr.nil n0
  show Goes p.tables e below _ (own_R below s (own_Q_own_rm3 Z x0 h0 n0) own_r_own_rm3.cells own_r_own_rm3.slots)
  refine Goes.to (fun t k => castTop (own_ef_own_rm3 m x0) k) ?_
  refine gx (XS.aloadN X0.here hx rfl (hb hby d3_0) rfl rfl) ?_
  obtain ⟨_, _, ⟨T1, L1, k1, n1⟩, -, X1, ⟨Lc1, hQ1, l1, y1, z1⟩, st1⟩ := X0.specialBack hx (y := own_n3) rfl hown (mvT hZ (own_hw hw 17 rfl)) (mvT hZ (own_hw hw 18 rfl)) (mvT hZ (own_hw hw 22 rfl)) (by decide) (backOf (W := 0) (own_rm4 l Z a0 hw [] x0 h0 n0 Z0 ) hZ (own_hw hw 22 rfl) (own_hw hw 21 rfl) (by decide) (by decide)) (g := (mkF m 1 #[.val (.ref x0)] [(.ref x0)])) rfl (by rw [hml]; rfl) (Steps.refl _) (a := x0) (argsL := []) (rest := []) (lenOf own_pd_pqV rfl) rfl (own_W rfl rfl) (hb hby d3_1) (fun _ _ => ⟨rfl, e0, (by decide : 0 + 0 ≤ _), (by decide : 0 + 0 ≤ _)⟩)
  dsimp only [Pt.U, Pt.locs, Pt.cells, Pt.slots] at X1 l1 y1 z1 st1 hQ1
  subst l1 y1 z1
  obtain ⟨hv1, Nq1, hp1_0⟩ := hQ1
  have N1 := Fr.app N0 Nq1
  subst hv1
  refine Goes.tr st1 ?_
  refine gx (XS.aloadN X1.here hx rfl (hb hby d3_4) rfl rfl) ?_
  refine gx (XS.iconst X1.here hx rfl (hb hby d3_5)) ?_
  obtain ⟨T2, h2, X2, e2, W2, st2⟩ := putF X1 hx hZ hown (host := "") (Or.inl (own_hw hw 26 rfl)) Via.refl hp1_0 Pi2 Pi1 (Or.inl (own_hw hw 27 rfl)) (own_hw hw 6 rfl) (ty := .int) (by decide) rfl rfl (g := (mkF m 6 #[.val (.ref x0)] [(.int (0 : Int32)), (.ref x0)])) rfl rfl (hb hby d3_6)
  subst e2
  have F3 := Pi1.wr W2
  have F5 := Pi3.other W2 (Or.inr (slot_ne (Or.inl (own_hw hw 57 rfl)) (Or.inl (own_hw hw 27 rfl)) (by decide) (t := .int) (t' := .int) (by decide) (by decide)))
  have F6 := Pi4.other W2 (Or.inr (slot_ne (Or.inl (own_hw hw 30 rfl)) (Or.inl (own_hw hw 27 rfl)) (by decide) (t := (.array (.object "java/lang/Object"))) (t' := .int) (by decide) (by decide)))
  have N2 := Fr.snoc X2 N1 Pi0
  have K2 : Keep h0 T2.heap [x0] := (Keep.refl h0 [x0]).wr W2 (Or.inl (List.mem_of_getElem? (i := 0) rfl))
  have F7 : Fld Z T2.heap x0 "java/util/AbstractList" "modCount" "I" (.int (0 : Int32)) := Pi2.same W2
  refine Goes.to st2 ?_
  show Goes p.tables e below (T2.setTop (mkF m 9 #[.val (.ref x0)] [])) _
  obtain ⟨fs, hr, hrun, hended, hW, hsame⟩ := X2.leave (v := none) (fun _ => rfl)
  exact ⟨_, _, X2.returnOut hx Bd.returns (hb hby d3_9) hr, hrun, hended, _, _, rfl, ⟨rfl, N2, (by show Keep h0 T2.heap [x0]; exact K2), (by show Exa Z T2.heap x0 "java/util/ArrayList"; exact F3), (by show Fld Z T2.heap x0 "java/util/AbstractList" "modCount" "I" (.int (0 : Int32)); exact F7), (by show Fld Z T2.heap x0 "java/util/ArrayList" "size" "I" (.int (0 : Int32)); exact F5), (by show Fld Z T2.heap x0 "java/util/ArrayList" "elementData" "[Ljava/lang/Object;" .null; exact F6)⟩, ⟨_, rfl⟩, hW, hsame.mono (by decide) (by decide)⟩

theorem d2_0 : decode jdk_38_method_2_code 0 = .ok (.aload_n 0, 1) := by decide +kernel
theorem d2_1 : decode jdk_38_method_2_code 1 = .ok (.invokespecial 1, 3) := by decide +kernel
theorem d2_4 : decode jdk_38_method_2_code 4 = .ok (.aload_n 0, 1) := by decide +kernel
theorem d2_5 : decode jdk_38_method_2_code 5 = .ok (.getstatic 39, 3) := by decide +kernel
theorem d2_8 : decode jdk_38_method_2_code 8 = .ok (.putfield 9, 3) := by decide +kernel
theorem d2_11 : decode jdk_38_method_2_code 11 = .ok (.return_, 1) := by decide +kernel
theorem own_pn_2 : plainName "java/util/ArrayList" = true := by first | (simp [plainName, overriddenIn]; done) | decide +kernel
theorem own_ef_own_rm2 (m : MethodId) (x0 : Addr) : entryFrame m #[(.ref x0)] 1 = mkF m 0 #[.val (.ref x0)] [] := by first | (simp [entryFrame, mkF, argsToLocals, Value.category]; done) | rfl
def own_Q_own_rm2 (Z : State) (x0 : Addr) (aD : Addr) (h0 : Heap) (n0 : Nat) (v : Option Value) (h : Heap) (L : List Loc) : Prop := v = none ∧ Fr n0 L ∧ Keep h0 h [x0] ∧ Exa Z h x0 "java/util/ArrayList" ∧ Fld Z h x0 "java/util/AbstractList" "modCount" "I" (.int (0 : Int32)) ∧ Fld Z h x0 "java/util/ArrayList" "size" "I" (.int (0 : Int32)) ∧ Fld Z h x0 "java/util/ArrayList" "elementData" "[Ljava/lang/Object;" (.ref aD)
abbrev own_r_own_rm2 : Room := ({ frames := 3, cells := 0, slots := 0, locals := 36 } : Room)

set_option maxRecDepth 65536 in
set_option maxHeartbeats 40000000 in
theorem own_rm2 (l : Launch) (Z : State) (a0 : Array Value) (hw : ∀ d ∈ tables_1, d.before a0 Z = true) (ws : List Jvm.Cond) (x0 : Addr) (aD : Addr) (h0 : Heap) (n0 : Nat) (Z0 : n0 ≤ h0.size) (Pi0 : n0 ≤ x0) (Pi1 : Sta Z h0 "java/util/ArrayList" "DEFAULTCAPACITY_EMPTY_ELEMENTDATA" "[Ljava/lang/Object;" (.ref aD)) (Pi2 : Exa Z h0 x0 "java/util/ArrayList") (Pi3 : Fld Z h0 x0 "java/util/AbstractList" "modCount" "I" (.int (0 : Int32))) (Pi4 : Fld Z h0 x0 "java/util/ArrayList" "size" "I" (.int (0 : Int32))) (Pi5 : Fld Z h0 x0 "java/util/ArrayList" "elementData" "[Ljava/lang/Object;" .null) :
    MetFree l own_n8 (head1 (Jvm.Cond.code own_n8 jdk_38_method_2_code 1 none :: ws) own_r_own_rm2) (fun a U => a = #[(.ref x0)] ∧ Z.Warmed39 U.vm ∧ U.heap = h0) (fun _ _ _ _ _ => True) (fun _ U o U' => ∃ v L, o = .returned v ∧ own_Q_own_rm2 Z x0 aD h0 n0 v U'.heap L ∧ FrameEnd U o U' L own_r_own_rm2.cells own_r_own_rm2.slots) := by
  refine MetFree.of_bodySF (plainFor_of_name own_pn_2) hisR ?_
  intro p e s m args below meth c s₁ Bd hml0 hP hK
  obtain ⟨rfl, hZ, hh⟩ := hP
  have hx := Bd.exec
  have hby := Bd.bytes
  have hml : c.maxLocals = 1 := hml0
  have hown : s.vm.findClass "java/util/ArrayList" = some m.cls := findClass_of_methodNamed Bd.named
  have hnm := (name_of_methodNamed Bd.named Bd.method).1
  have X0 : Stand p l e own_r_own_rm2 s m #[(.ref x0)] below meth c s₁ [] 0 0 := Stand.of_body Bd
  have e0 : s₁.heap = h0 := by rw [← hh, Bd.state]; rfl
  have N0 := Fr.nil n0
  show Goes p.tables e below _ (own_R below s (own_Q_own_rm2 Z x0 aD h0 n0) own_r_own_rm2.cells own_r_own_rm2.slots)
  refine Goes.to (fun t k => castTop (own_ef_own_rm2 m x0) k) ?_
  refine gx (XS.aloadN X0.here hx rfl (hb hby d2_0) rfl rfl) ?_
  obtain ⟨_, _, ⟨T1, L1, k1, n1⟩, -, X1, ⟨Lc1, hQ1, l1, y1, z1⟩, st1⟩ := X0.specialBack hx (y := own_n7) rfl hown (mvT hZ (own_hw hw 11 rfl)) (mvT hZ (own_hw hw 12 rfl)) (mvT hZ (own_hw hw 16 rfl)) (by decide) (backOf (W := 0) (own_rm3 l Z a0 hw [] x0 h0 n0 Z0 Pi0 Pi2 Pi3 Pi4 Pi5) hZ (own_hw hw 16 rfl) (own_hw hw 15 rfl) (by decide) (by decide)) (g := (mkF m 1 #[.val (.ref x0)] [(.ref x0)])) rfl (by rw [hml]; rfl) (Steps.refl _) (a := x0) (argsL := []) (rest := []) (lenOf own_pd_pqV rfl) rfl (own_W rfl rfl) (hb hby d2_1) (fun _ _ => ⟨rfl, e0, (by decide : 0 + 0 ≤ _), (by decide : 0 + 0 ≤ _)⟩)
  dsimp only [Pt.U, Pt.locs, Pt.cells, Pt.slots] at X1 l1 y1 z1 st1 hQ1
  subst l1 y1 z1
  obtain ⟨hv1, Nq1, Kq1, Qf1_0, Qf1_1, Qf1_2, Qf1_3⟩ := hQ1
  have N1 := Fr.app N0 Nq1
  have F2 := own_staK Kq1 Pi2 Pi1
  have Kc1 : Keep h0 T1.heap [x0] := (Keep.refl h0 [x0]).trans Kq1 (allS (Or.inl (List.mem_of_getElem? (i := 0) rfl)) all0)
  subst hv1
  refine Goes.tr st1 ?_
  refine gx (XS.aloadN X1.here hx rfl (hb hby d2_4) rfl rfl) ?_
  obtain ⟨T7, X7, e7, st7⟩ := getS2 X1 hx hZ hown (host := "") (Or.inl (own_hw hw 28 rfl)) Via.refl rfl F2 (g := (mkF m 5 #[.val (.ref x0)] [(.ref x0)])) rfl (hb hby d2_5)
  refine Goes.to st7 ?_
  obtain ⟨T8, h8, X8, e8, W8, st8⟩ := putF X7 hx hZ hown (host := "") (Or.inl (own_hw hw 29 rfl)) Via.refl e7 Qf1_3 Qf1_0 (Or.inl (own_hw hw 30 rfl)) (own_hw hw 6 rfl) (ty := (.array (.object "java/lang/Object"))) (by decide) rfl rfl (g := (mkF m 8 #[.val (.ref x0)] [(.ref aD), (.ref x0)])) rfl rfl (hb hby d2_8)
  subst e8
  have F10 := Qf1_0.wr W8
  have F11 := Qf1_1.other W8 (Or.inr (slot_ne (Or.inl (own_hw hw 27 rfl)) (Or.inl (own_hw hw 30 rfl)) (by decide) (t := .int) (t' := (.array (.object "java/lang/Object"))) (by decide) (by decide)))
  have F12 := Qf1_2.other W8 (Or.inr (slot_ne (Or.inl (own_hw hw 57 rfl)) (Or.inl (own_hw hw 30 rfl)) (by decide) (t := .int) (t' := (.array (.object "java/lang/Object"))) (by decide) (by decide)))
  have N8 := Fr.snoc X8 N1 Pi0
  have K8 : Keep h0 T8.heap [x0] := Kc1.wr W8 (Or.inl (List.mem_of_getElem? (i := 0) rfl))
  have F14 : Fld Z T8.heap x0 "java/util/ArrayList" "elementData" "[Ljava/lang/Object;" (.ref aD) := Qf1_3.same W8
  refine Goes.to st8 ?_
  show Goes p.tables e below (T8.setTop (mkF m 11 #[.val (.ref x0)] [])) _
  obtain ⟨fs, hr, hrun, hended, hW, hsame⟩ := X8.leave (v := none) (fun _ => rfl)
  exact ⟨_, _, X8.returnOut hx Bd.returns (hb hby d2_11) hr, hrun, hended, _, _, rfl, ⟨rfl, N8, (by show Keep h0 T8.heap [x0]; exact K8), (by show Exa Z T8.heap x0 "java/util/ArrayList"; exact F10), (by show Fld Z T8.heap x0 "java/util/AbstractList" "modCount" "I" (.int (0 : Int32)); exact F11), (by show Fld Z T8.heap x0 "java/util/ArrayList" "size" "I" (.int (0 : Int32)); exact F12), (by show Fld Z T8.heap x0 "java/util/ArrayList" "elementData" "[Ljava/lang/Object;" (.ref aD); exact F14)⟩, ⟨_, rfl⟩, hW, hsame.mono (by decide) (by decide)⟩

theorem d12_0 : decode jdk_38_method_6_code 0 = .ok (.aload_n 0, 1) := by decide +kernel
theorem d12_1 : decode jdk_38_method_6_code 1 = .ok (.getfield 9, 3) := by decide +kernel
theorem d12_4 : decode jdk_38_method_6_code 4 = .ok (.arraylength, 1) := by decide +kernel
theorem d12_5 : decode jdk_38_method_6_code 5 = .ok (.istore_n 2, 1) := by decide +kernel
theorem d12_6 : decode jdk_38_method_6_code 6 = .ok (.iload_n 2, 1) := by decide +kernel
theorem d12_7 : decode jdk_38_method_6_code 7 = .ok (.ifCond .gt 13, 3) := by decide +kernel
theorem d12_10 : decode jdk_38_method_6_code 10 = .ok (.aload_n 0, 1) := by decide +kernel
theorem d12_11 : decode jdk_38_method_6_code 11 = .ok (.getfield 9, 3) := by decide +kernel
theorem d12_14 : decode jdk_38_method_6_code 14 = .ok (.getstatic 39, 3) := by decide +kernel
theorem d12_17 : decode jdk_38_method_6_code 17 = .ok (.if_acmp .eq 28, 3) := by decide +kernel
theorem d12_45 : decode jdk_38_method_6_code 45 = .ok (.aload_n 0, 1) := by decide +kernel
theorem d12_46 : decode jdk_38_method_6_code 46 = .ok (.bipush 10, 2) := by decide +kernel
theorem d12_48 : decode jdk_38_method_6_code 48 = .ok (.iload_n 1, 1) := by decide +kernel
theorem d12_49 : decode jdk_38_method_6_code 49 = .ok (.invokestatic 79, 3) := by decide +kernel
theorem d12_52 : decode jdk_38_method_6_code 52 = .ok (.anewarray 7, 3) := by decide +kernel
theorem d12_55 : decode jdk_38_method_6_code 55 = .ok (.dup_x1, 1) := by decide +kernel
theorem d12_56 : decode jdk_38_method_6_code 56 = .ok (.putfield 9, 3) := by decide +kernel
theorem d12_59 : decode jdk_38_method_6_code 59 = .ok (.areturn, 1) := by decide +kernel
theorem own_pd_pIIqI : parseMethodDescriptor "(II)I" = some ⟨[.int, .int], some .int⟩ := by decide +kernel
theorem own_pn_12 : plainName "java/util/ArrayList" = true := by first | (simp [plainName, overriddenIn]; done) | decide +kernel
theorem own_ef_own_rm12 (m : MethodId) (x0 : Addr) : entryFrame m #[(.ref x0), (.int (1 : Int32))] 4 = mkF m 0 #[.val (.ref x0), .val (.int (1 : Int32)), .unset, .unset] [] := by first | (simp [entryFrame, mkF, argsToLocals, Value.category]; done) | rfl
def own_Q_own_rm12 (Z : State) (x0 : Addr) (aD : Addr) (kD : ClassId) (h0 : Heap) (n0 : Nat) (v : Option Value) (h : Heap) (L : List Loc) : Prop := ∃ (ea : Addr) (kE : ClassId), v = some (.ref ea) ∧ Fr n0 L ∧ h0.size ≤ ea ∧ Keep h0 h [x0] ∧ Exa Z h x0 "java/util/ArrayList" ∧ Fld Z h x0 "java/util/AbstractList" "modCount" "I" (.int (1 : Int32)) ∧ Fld Z h x0 "java/util/ArrayList" "size" "I" (.int (0 : Int32)) ∧ Fld Z h x0 "java/util/ArrayList" "elementData" "[Ljava/lang/Object;" (.ref ea) ∧ Exa Z h ea "[Ljava/lang/Object;" ∧ Arv Z h ea kE (.object "java/lang/Object") (10 : Int32) [.null, .null, .null, .null, .null, .null, .null, .null, .null, .null] .null ∧ Ovr Z kE "java/lang/Object"
abbrev own_r_own_rm12 : Room := ({ frames := 1, cells := 1, slots := 10, locals := 14 } : Room)

set_option maxRecDepth 65536 in
set_option maxHeartbeats 40000000 in
theorem own_rm12 (l : Launch) (Z : State) (a0 : Array Value) (hw : ∀ d ∈ tables_1, d.before a0 Z = true) (ws : List Jvm.Cond) (x0 : Addr) (aD : Addr) (kD : ClassId) (h0 : Heap) (n0 : Nat) (Z0 : n0 ≤ h0.size) (Pi0 : n0 ≤ x0) (Pi1 : Exa Z h0 x0 "java/util/ArrayList") (Pi2 : Fld Z h0 x0 "java/util/AbstractList" "modCount" "I" (.int (1 : Int32))) (Pi3 : Fld Z h0 x0 "java/util/ArrayList" "size" "I" (.int (0 : Int32))) (Pi4 : Fld Z h0 x0 "java/util/ArrayList" "elementData" "[Ljava/lang/Object;" (.ref aD)) (Pi5 : Sta Z h0 "java/util/ArrayList" "DEFAULTCAPACITY_EMPTY_ELEMENTDATA" "[Ljava/lang/Object;" (.ref aD)) (Pi6 : Arv Z h0 aD kD (.object "java/lang/Object") (0 : Int32) [] .null) (Pi7 : Exa Z h0 aD "[Ljava/lang/Object;") :
    MetFree l own_n9 (head1 (Jvm.Cond.code own_n9 jdk_38_method_6_code 4 (some (.array (.object "java/lang/Object"))) :: ws) own_r_own_rm12) (fun a U => a = #[(.ref x0), (.int (1 : Int32))] ∧ Z.Warmed39 U.vm ∧ U.heap = h0) (fun _ _ _ _ _ => True) (fun _ U o U' => ∃ v L, o = .returned v ∧ own_Q_own_rm12 Z x0 aD kD h0 n0 v U'.heap L ∧ FrameEnd U o U' L own_r_own_rm12.cells own_r_own_rm12.slots) := by
  refine MetFree.of_bodySF (plainFor_of_name own_pn_12) hisR ?_
  intro p e s m args below meth c s₁ Bd hml0 hP hK
  obtain ⟨rfl, hZ, hh⟩ := hP
  have hx := Bd.exec
  have hby := Bd.bytes
  have hml : c.maxLocals = 4 := hml0
  have hown : s.vm.findClass "java/util/ArrayList" = some m.cls := findClass_of_methodNamed Bd.named
  have hnm := (name_of_methodNamed Bd.named Bd.method).1
  have X0 : Stand p l e own_r_own_rm12 s m #[(.ref x0), (.int (1 : Int32))] below meth c s₁ [] 0 0 := Stand.of_body Bd
  have e0 : s₁.heap = h0 := by rw [← hh, Bd.state]; rfl
  have N0 := Fr.nil n0
  show Goes p.tables e below _ (own_R below s (own_Q_own_rm12 Z x0 aD kD h0 n0) own_r_own_rm12.cells own_r_own_rm12.slots)
  refine Goes.to (fun t k => castTop (own_ef_own_rm12 m x0) k) ?_
  refine gx (XS.aloadN X0.here hx rfl (hb hby d12_0) rfl rfl) ?_
  obtain ⟨T1, X1, e1, st1⟩ := getF X0 hx hZ hown (host := "") (Or.inl (own_hw hw 29 rfl)) Via.refl e0 Pi4 (g := (mkF m 1 #[.val (.ref x0), .val (.int (1 : Int32)), .unset, .unset] [(.ref x0)])) rfl rfl (hb hby d12_1)
  refine Goes.to st1 ?_
  obtain ⟨cl2, Ar2, -, S2, N2, -, -⟩ := id Pi6
  refine Goes.to (fun _ k => X1.arraylength hx (by rw [e1]; exact Ar2.1) (State.isArrayOf_alike hZ.alike Ar2.2.1) (g := (mkF m 4 #[.val (.ref x0), .val (.int (1 : Int32)), .unset, .unset] [(.ref aD)])) rfl rfl (hb hby d12_4) _ k) ?_
  rw [len_of S2 N2]
  refine gx (XS.istoreN X1.here hx rfl (hb hby d12_5) rfl (l' := #[.val (.ref x0), .val (.int (1 : Int32)), .val (.int (0 : Int32)), .unset]) rfl) ?_
  refine gx (XS.iloadN X1.here hx rfl (hb hby d12_6) rfl) ?_
  refine gx (XS.ifNo X1.here hx rfl (hb hby d12_7) rfl ((if0 _ _).trans (flt (by decide : ¬ ((0 : Int32) < (0 : Int32)))).2.2.1)) ?_
  refine gx (XS.aloadN X1.here hx rfl (hb hby d12_10) rfl rfl) ?_
  obtain ⟨T3, X3, e3, st3⟩ := getF X1 hx hZ hown (host := "") (Or.inl (own_hw hw 29 rfl)) Via.refl e1 Pi4 (g := (mkF m 11 #[.val (.ref x0), .val (.int (1 : Int32)), .val (.int (0 : Int32)), .unset] [(.ref x0)])) rfl rfl (hb hby d12_11)
  refine Goes.to st3 ?_
  obtain ⟨T4, X4, e4, st4⟩ := getS2 X3 hx hZ hown (host := "") (Or.inl (own_hw hw 28 rfl)) Via.refl e3 Pi5 (g := (mkF m 14 #[.val (.ref x0), .val (.int (1 : Int32)), .val (.int (0 : Int32)), .unset] [(.ref aD)])) rfl (hb hby d12_14)
  refine Goes.to st4 ?_
  refine gx (Jvm.RoadKit.acmp (g := (mkF m 17 #[.val (.ref x0), .val (.int (1 : Int32)), .val (.int (0 : Int32)), .unset] [(.ref aD), (.ref aD)])) X4 hx rfl rfl rfl (pc0 := 17) (pc' := 45) (same := true) rfl (hb hby d12_17) rfl (decide_eq_true rfl) (by decide) (by decide)) ?_
  refine gx (XS.aloadN X4.here hx rfl (hb hby d12_45) rfl rfl) ?_
  refine gx (XS.bipush X4.here hx rfl (hb hby d12_46)) ?_
  refine gx (XS.iloadN X4.here hx rfl (hb hby d12_48) rfl) ?_
  obtain ⟨_, _, ⟨T5, L5, k5, n5⟩, -, X5, ⟨Lc5, hQ5, l5, y5, z5⟩, st5⟩ := Jvm.LawKit.callS X4 hx (y := own_n0) hown (mvT hZ (own_hw hw 73 rfl)) (mvT hZ (own_hw hw 2 rfl)) (mvT hZ (own_hw hw 3 rfl)) (mvT hZ (own_hw hw 4 rfl)) (by decide) (backOf (W := 1) (own_rm1 l Z a0 hw [] (10 : Int32) (1 : Int32) h0 n0 Z0 ) hZ (own_hw hw 4 rfl) (own_hw hw 3 rfl) (by decide) (by decide)) (g := (mkF m 49 #[.val (.ref x0), .val (.int (1 : Int32)), .val (.int (0 : Int32)), .unset] [(.int (1 : Int32)), (.int (10 : Int32)), (.ref x0)])) rfl (by rw [hml]; rfl) (argsL := [(.int (10 : Int32)), (.int (1 : Int32))]) (rest := [(.ref x0)]) (lenOf own_pd_pIIqI rfl) rfl (own_W rfl rfl) (hb hby d12_49) (fun _ _ => ⟨rfl, e4, (by decide : 0 + 0 ≤ _), (by decide : 0 + 0 ≤ _)⟩)
  dsimp only [Pt.U, Pt.locs, Pt.cells, Pt.slots] at X5 l5 y5 z5 st5 hQ5
  subst l5 y5 z5
  obtain ⟨hv5, Nq5, hp5_0⟩ := hQ5
  have N5 := Fr.app N0 Nq5
  rw [show own_max (10 : Int32) (1 : Int32) = (10 : Int32) from by decide] at hv5
  subst hv5
  refine Goes.to st5 ?_
  obtain ⟨T6, h6, k6, X6, e6, E6, A6, Ex6, O6, st6⟩ := newRE X5 hx hZ hown (own_hw hw 74 rfl) (own_hw hw 75 rfl) hp5_0 (g := (mkF m 52 #[.val (.ref x0), .val (.int (1 : Int32)), .val (.int (0 : Int32)), .unset] [(.int (10 : Int32)), (.ref x0)])) rfl (hb hby d12_52) rfl (by decide) (cap := 10) (by decide) (by decide) (by decide) (by decide) (ad := "[Ljava/lang/Object;") (by decide)
  obtain ⟨b6, g6⟩ : ∃ z, z = h0.size := ⟨_, rfl⟩
  rw [← g6] at A6 Ex6 st6
  subst e6
  have ne7 : x0 ≠ b6 := Nat.ne_of_lt (Nat.lt_of_lt_of_le Pi1.lt (Nat.le_of_eq g6.symm))
  have F9 := Pi1.ext E6
  have F10 := Pi2.ext E6
  have F11 := Pi3.ext E6
  have F12 := Pi4.ext E6
  have sz_b6 : h0.size ≤ b6 := Nat.le_trans (Keep.refl h0 [x0]).1 (Nat.le_of_eq g6.symm)
  have K6 : Keep h0 T6.heap [x0] := (Keep.refl h0 [x0]).ext E6
  have V6 : Arv Z T6.heap b6 k6 (.object "java/lang/Object") (10 : Int32) [.null, .null, .null, .null, .null, .null, .null, .null, .null, .null] .null := (Arv.new A6 (by decide)).pad (pad_rep [] .null 10)
  refine Goes.to st6 ?_
  refine gx (XS.dupX1 X6.here hx rfl (hb hby d12_55) rfl rfl rfl) ?_
  obtain ⟨T16, h16, X16, e16, W16, st16⟩ := putF X6 hx hZ hown (host := "") (Or.inl (own_hw hw 29 rfl)) Via.refl rfl F12 F9 (Or.inl (own_hw hw 30 rfl)) (own_hw hw 6 rfl) (ty := (.array (.object "java/lang/Object"))) (by decide) rfl rfl (g := (mkF m 56 #[.val (.ref x0), .val (.int (1 : Int32)), .val (.int (0 : Int32)), .unset] [(.ref b6), (.ref x0), (.ref b6)])) rfl rfl (hb hby d12_56)
  subst e16
  have F17 := F9.wr W16
  have F18 := F10.other W16 (Or.inr (slot_ne (Or.inl (own_hw hw 27 rfl)) (Or.inl (own_hw hw 30 rfl)) (by decide) (t := .int) (t' := (.array (.object "java/lang/Object"))) (by decide) (by decide)))
  have F19 := F11.other W16 (Or.inr (slot_ne (Or.inl (own_hw hw 57 rfl)) (Or.inl (own_hw hw 30 rfl)) (by decide) (t := .int) (t' := (.array (.object "java/lang/Object"))) (by decide) (by decide)))
  have F24 := Ex6.wr W16
  have F25 := V6.other W16 (Ne.symm ne7)
  have N16 := Fr.snoc X16 N5 Pi0
  have K16 : Keep h0 T16.heap [x0] := K6.wr W16 (Or.inl (List.mem_of_getElem? (i := 0) rfl))
  have F26 : Fld Z T16.heap x0 "java/util/ArrayList" "elementData" "[Ljava/lang/Object;" (.ref b6) := F12.same W16
  refine Goes.to st16 ?_
  show Goes p.tables e below (T16.setTop (mkF m 59 #[.val (.ref x0), .val (.int (1 : Int32)), .val (.int (0 : Int32)), .unset] [(.ref b6)])) _
  obtain ⟨fs, hr, hrun, hended, hW, hsame⟩ := X16.leave (v := some (.ref b6)) (fun h => by rw [Bd.returns] at h; cases h)
  exact ⟨_, _, retOut X16 hx Bd.returns rfl (Or.inr (Or.inr (Or.inr (Or.inr ⟨rfl, rfl, rfl⟩)))) (hb hby d12_59) hr, hrun, hended, _, _, rfl, ⟨b6, k6, rfl, N16, sz_b6, (by show Keep h0 T16.heap [x0]; exact K16), (by show Exa Z T16.heap x0 "java/util/ArrayList"; exact F17), (by show Fld Z T16.heap x0 "java/util/AbstractList" "modCount" "I" (.int (1 : Int32)); exact F18), (by show Fld Z T16.heap x0 "java/util/ArrayList" "size" "I" (.int (0 : Int32)); exact F19), (by show Fld Z T16.heap x0 "java/util/ArrayList" "elementData" "[Ljava/lang/Object;" (.ref b6); exact F26), (by show Exa Z T16.heap b6 "[Ljava/lang/Object;"; exact F24), (by show Arv Z T16.heap b6 k6 (.object "java/lang/Object") (10 : Int32) [.null, .null, .null, .null, .null, .null, .null, .null, .null, .null] .null; exact F25), O6⟩, ⟨_, rfl⟩, hW, hsame.mono (by decide) (by decide)⟩

theorem d11_0 : decode jdk_38_method_7_code 0 = .ok (.aload_n 0, 1) := by decide +kernel
theorem d11_1 : decode jdk_38_method_7_code 1 = .ok (.aload_n 0, 1) := by decide +kernel
theorem d11_2 : decode jdk_38_method_7_code 2 = .ok (.getfield 48, 3) := by decide +kernel
theorem d11_5 : decode jdk_38_method_7_code 5 = .ok (.iconst 1, 1) := by decide +kernel
theorem d11_6 : decode jdk_38_method_7_code 6 = .ok (.iadd, 1) := by decide +kernel
theorem d11_7 : decode jdk_38_method_7_code 7 = .ok (.invokevirtual 69, 3) := by decide +kernel
theorem d11_10 : decode jdk_38_method_7_code 10 = .ok (.areturn, 1) := by decide +kernel
theorem own_pd_pIqaLjavallanglObjects : parseMethodDescriptor "(I)[Ljava/lang/Object;" = some ⟨[.int], some (.array (.object "java/lang/Object"))⟩ := by decide +kernel
theorem own_pn_11 : plainName "java/util/ArrayList" = true := by first | (simp [plainName, overriddenIn]; done) | decide +kernel
theorem own_ef_own_rm11 (m : MethodId) (x0 : Addr) : entryFrame m #[(.ref x0)] 1 = mkF m 0 #[.val (.ref x0)] [] := by first | (simp [entryFrame, mkF, argsToLocals, Value.category]; done) | rfl
def own_Q_own_rm11 (Z : State) (x0 : Addr) (aD : Addr) (kD : ClassId) (h0 : Heap) (n0 : Nat) (v : Option Value) (h : Heap) (L : List Loc) : Prop := ∃ (ea : Addr) (kE : ClassId), v = some (.ref ea) ∧ Fr n0 L ∧ h0.size ≤ ea ∧ Keep h0 h [x0] ∧ Exa Z h x0 "java/util/ArrayList" ∧ Fld Z h x0 "java/util/AbstractList" "modCount" "I" (.int (1 : Int32)) ∧ Fld Z h x0 "java/util/ArrayList" "size" "I" (.int (0 : Int32)) ∧ Fld Z h x0 "java/util/ArrayList" "elementData" "[Ljava/lang/Object;" (.ref ea) ∧ Exa Z h ea "[Ljava/lang/Object;" ∧ Arv Z h ea kE (.object "java/lang/Object") (10 : Int32) [.null, .null, .null, .null, .null, .null, .null, .null, .null, .null] .null ∧ Ovr Z kE "java/lang/Object"
abbrev own_r_own_rm11 : Room := ({ frames := 2, cells := 1, slots := 10, locals := 29 } : Room)

set_option maxRecDepth 65536 in
set_option maxHeartbeats 40000000 in
theorem own_rm11 (l : Launch) (Z : State) (a0 : Array Value) (hw : ∀ d ∈ tables_1, d.before a0 Z = true) (ws : List Jvm.Cond) (x0 : Addr) (aD : Addr) (kD : ClassId) (h0 : Heap) (n0 : Nat) (Z0 : n0 ≤ h0.size) (Pi0 : n0 ≤ x0) (Pi1 : Exa Z h0 x0 "java/util/ArrayList") (Pi2 : Fld Z h0 x0 "java/util/AbstractList" "modCount" "I" (.int (1 : Int32))) (Pi3 : Fld Z h0 x0 "java/util/ArrayList" "size" "I" (.int (0 : Int32))) (Pi4 : Fld Z h0 x0 "java/util/ArrayList" "elementData" "[Ljava/lang/Object;" (.ref aD)) (Pi5 : Sta Z h0 "java/util/ArrayList" "DEFAULTCAPACITY_EMPTY_ELEMENTDATA" "[Ljava/lang/Object;" (.ref aD)) (Pi6 : Arv Z h0 aD kD (.object "java/lang/Object") (0 : Int32) [] .null) (Pi7 : Exa Z h0 aD "[Ljava/lang/Object;") :
    MetFree l own_n10 (head1 (Jvm.Cond.code own_n10 jdk_38_method_7_code 1 (some (.array (.object "java/lang/Object"))) :: ws) own_r_own_rm11) (fun a U => a = #[(.ref x0)] ∧ Z.Warmed39 U.vm ∧ U.heap = h0) (fun _ _ _ _ _ => True) (fun _ U o U' => ∃ v L, o = .returned v ∧ own_Q_own_rm11 Z x0 aD kD h0 n0 v U'.heap L ∧ FrameEnd U o U' L own_r_own_rm11.cells own_r_own_rm11.slots) := by
  refine MetFree.of_bodySF (plainFor_of_name own_pn_11) hisR ?_
  intro p e s m args below meth c s₁ Bd hml0 hP hK
  obtain ⟨rfl, hZ, hh⟩ := hP
  have hx := Bd.exec
  have hby := Bd.bytes
  have hml : c.maxLocals = 1 := hml0
  have hown : s.vm.findClass "java/util/ArrayList" = some m.cls := findClass_of_methodNamed Bd.named
  have hnm := (name_of_methodNamed Bd.named Bd.method).1
  have X0 : Stand p l e own_r_own_rm11 s m #[(.ref x0)] below meth c s₁ [] 0 0 := Stand.of_body Bd
  have e0 : s₁.heap = h0 := by rw [← hh, Bd.state]; rfl
  have N0 := Fr.nil n0
  show Goes p.tables e below _ (own_R below s (own_Q_own_rm11 Z x0 aD kD h0 n0) own_r_own_rm11.cells own_r_own_rm11.slots)
  refine Goes.to (fun t k => castTop (own_ef_own_rm11 m x0) k) ?_
  refine gx (XS.aloadN X0.here hx rfl (hb hby d11_0) rfl rfl) ?_
  refine gx (XS.aloadN X0.here hx rfl (hb hby d11_1) rfl rfl) ?_
  obtain ⟨T1, X1, e1, st1⟩ := getF X0 hx hZ hown (host := "") (Or.inl (own_hw hw 56 rfl)) Via.refl e0 Pi3 (g := (mkF m 2 #[.val (.ref x0)] [(.ref x0), (.ref x0)])) rfl rfl (hb hby d11_2)
  refine Goes.to st1 ?_
  refine gx (XS.iconst X1.here hx rfl (hb hby d11_5)) ?_
  refine gx (XS.iadd X1.here hx rfl (hb hby d11_6) rfl) ?_
  obtain ⟨cq2, q2a, q2b⟩ := Pi1.cell
  obtain ⟨_, _, ⟨T2, L2, k2, n2⟩, -, X2, ⟨Lc2, hQ2, l2, y2, z2⟩, st2⟩ := X1.privateBack hx (y := own_n9) hown (mvT hZ (own_hw hw 68 rfl)) (mvT hZ (own_hw hw 69 rfl)) (mvT hZ (own_hw hw 71 rfl)) (Cond.privateMethod_at (mvP (args := #[]) hZ (own_hw hw 70 rfl))) (mvT hZ (own_hw hw 72 rfl)) (by decide) (backOf (W := 0) (own_rm12 l Z a0 hw [] x0 aD kD h0 n0 Z0 Pi0 Pi1 Pi2 Pi3 Pi4 Pi5 Pi6 Pi7) hZ (own_hw hw 72 rfl) (own_hw hw 7 rfl) (by decide) (by decide)) (g := (mkF m 7 #[.val (.ref x0)] [(.int (1 : Int32)), (.ref x0)])) rfl (by rw [hml]; rfl) (Steps.refl _) (a := x0) (by rw [e1]; exact q2a) q2b (argsL := [(.int (1 : Int32))]) (rest := []) (lenOf own_pd_pIqaLjavallanglObjects rfl) rfl (own_W rfl rfl) (hb hby d11_7) (fun _ _ => ⟨rfl, e1, (by decide : 0 + 1 ≤ _), (by decide : 0 + 10 ≤ _)⟩)
  dsimp only [Pt.U, Pt.locs, Pt.cells, Pt.slots] at X2 l2 y2 z2 st2 hQ2
  subst l2 y2 z2
  obtain ⟨ea_2, kE_2, hv2, Nq2, sq2_0, Kq2, Qf2_0, Qf2_1, Qf2_2, Qf2_3, Qf2_4, Qf2_5, Qf2_6⟩ := hQ2
  have N2 := Fr.app N0 Nq2
  have sz_ea_2 : h0.size ≤ ea_2 := Nat.le_trans (Keep.refl h0 [x0]).1 sq2_0
  have Kc2 : Keep h0 T2.heap [x0] := (Keep.refl h0 [x0]).trans Kq2 (allS (Or.inl (List.mem_of_getElem? (i := 0) rfl)) all0)
  subst hv2
  refine Goes.tr st2 ?_
  show Goes p.tables e below (T2.setTop (mkF m 10 #[.val (.ref x0)] [(.ref ea_2)])) _
  obtain ⟨fs, hr, hrun, hended, hW, hsame⟩ := X2.leave (v := some (.ref ea_2)) (fun h => by rw [Bd.returns] at h; cases h)
  exact ⟨_, _, retOut X2 hx Bd.returns rfl (Or.inr (Or.inr (Or.inr (Or.inr ⟨rfl, rfl, rfl⟩)))) (hb hby d11_10) hr, hrun, hended, _, _, rfl, ⟨ea_2, kE_2, rfl, N2, sz_ea_2, (by show Keep h0 T2.heap [x0]; exact Kc2), (by show Exa Z T2.heap x0 "java/util/ArrayList"; exact Qf2_0), (by show Fld Z T2.heap x0 "java/util/AbstractList" "modCount" "I" (.int (1 : Int32)); exact Qf2_1), (by show Fld Z T2.heap x0 "java/util/ArrayList" "size" "I" (.int (0 : Int32)); exact Qf2_2), (by show Fld Z T2.heap x0 "java/util/ArrayList" "elementData" "[Ljava/lang/Object;" (.ref ea_2); exact Qf2_3), (by show Exa Z T2.heap ea_2 "[Ljava/lang/Object;"; exact Qf2_4), (by show Arv Z T2.heap ea_2 kE_2 (.object "java/lang/Object") (10 : Int32) [.null, .null, .null, .null, .null, .null, .null, .null, .null, .null] .null; exact Qf2_5), Qf2_6⟩, ⟨_, rfl⟩, hW, hsame.mono (by decide) (by decide)⟩

theorem d10_0 : decode jdk_38_method_24_code 0 = .ok (.iload_n 3, 1) := by decide +kernel
theorem d10_1 : decode jdk_38_method_24_code 1 = .ok (.aload_n 2, 1) := by decide +kernel
theorem d10_2 : decode jdk_38_method_24_code 2 = .ok (.arraylength, 1) := by decide +kernel
theorem d10_3 : decode jdk_38_method_24_code 3 = .ok (.if_icmp .ne 8, 3) := by decide +kernel
theorem d10_6 : decode jdk_38_method_24_code 6 = .ok (.aload_n 0, 1) := by decide +kernel
theorem d10_7 : decode jdk_38_method_24_code 7 = .ok (.invokevirtual 129, 3) := by decide +kernel
theorem d10_10 : decode jdk_38_method_24_code 10 = .ok (.astore_n 2, 1) := by decide +kernel
theorem d10_11 : decode jdk_38_method_24_code 11 = .ok (.aload_n 2, 1) := by decide +kernel
theorem d10_12 : decode jdk_38_method_24_code 12 = .ok (.iload_n 3, 1) := by decide +kernel
theorem d10_13 : decode jdk_38_method_24_code 13 = .ok (.aload_n 1, 1) := by decide +kernel
theorem d10_14 : decode jdk_38_method_24_code 14 = .ok (.aastore, 1) := by decide +kernel
theorem d10_15 : decode jdk_38_method_24_code 15 = .ok (.aload_n 0, 1) := by decide +kernel
theorem d10_16 : decode jdk_38_method_24_code 16 = .ok (.iload_n 3, 1) := by decide +kernel
theorem d10_17 : decode jdk_38_method_24_code 17 = .ok (.iconst 1, 1) := by decide +kernel
theorem d10_18 : decode jdk_38_method_24_code 18 = .ok (.iadd, 1) := by decide +kernel
theorem d10_19 : decode jdk_38_method_24_code 19 = .ok (.putfield 48, 3) := by decide +kernel
theorem d10_22 : decode jdk_38_method_24_code 22 = .ok (.return_, 1) := by decide +kernel
theorem own_pd_pqaLjavallanglObjects : parseMethodDescriptor "()[Ljava/lang/Object;" = some ⟨[], some (.array (.object "java/lang/Object"))⟩ := by decide +kernel
theorem own_pn_10 : plainName "java/util/ArrayList" = true := by first | (simp [plainName, overriddenIn]; done) | decide +kernel
theorem own_ef_own_rmAH0 (m : MethodId) (x0 : Addr) (x1 : Addr) (aD : Addr) : entryFrame m #[(.ref x0), (.ref x1), (.ref aD), (.int (0 : Int32))] 4 = mkF m 0 #[.val (.ref x0), .val (.ref x1), .val (.ref aD), .val (.int (0 : Int32))] [] := by first | (simp [entryFrame, mkF, argsToLocals, Value.category]; done) | rfl
def own_Q_own_rmAH0 (Z : State) (x0 : Addr) (x1 : Addr) (aD : Addr) (kD : ClassId) (kk : String) (h0 : Heap) (n0 : Nat) (v : Option Value) (h : Heap) (L : List Loc) : Prop := ∃ (ea : Addr) (kE : ClassId), v = none ∧ Fr n0 L ∧ h0.size ≤ ea ∧ Keep h0 h [x0] ∧ Exa Z h x0 "java/util/ArrayList" ∧ Fld Z h x0 "java/util/AbstractList" "modCount" "I" (.int (1 : Int32)) ∧ Fld Z h x0 "java/util/ArrayList" "size" "I" (.int (1 : Int32)) ∧ Fld Z h x0 "java/util/ArrayList" "elementData" "[Ljava/lang/Object;" (.ref ea) ∧ Exa Z h ea "[Ljava/lang/Object;" ∧ Arv Z h ea kE (.object "java/lang/Object") (10 : Int32) [(.ref x1), .null, .null, .null, .null, .null, .null, .null, .null, .null] .null ∧ Ovr Z kE "java/lang/Object"
abbrev own_r_own_rmAH0 : Room := ({ frames := 3, cells := 1, slots := 10, locals := 41 } : Room)

set_option maxRecDepth 65536 in
set_option maxHeartbeats 40000000 in
theorem own_rmAH0 (l : Launch) (Z : State) (a0 : Array Value) (hw : ∀ d ∈ tables_1, d.before a0 Z = true) (ws : List Jvm.Cond) (x0 : Addr) (x1 : Addr) (aD : Addr) (kD : ClassId) (kk : String) (h0 : Heap) (n0 : Nat) (Z0 : n0 ≤ h0.size) (Pi0 : n0 ≤ x0) (Pi1 : Exa Z h0 x1 kk) (hco : (Cond.castable kk "java/lang/Object").before a0 Z = true) (Pi3 : Exa Z h0 x0 "java/util/ArrayList") (Pi4 : Fld Z h0 x0 "java/util/AbstractList" "modCount" "I" (.int (1 : Int32))) (Pi5 : Fld Z h0 x0 "java/util/ArrayList" "size" "I" (.int (0 : Int32))) (Pi6 : Fld Z h0 x0 "java/util/ArrayList" "elementData" "[Ljava/lang/Object;" (.ref aD)) (Pi7 : Sta Z h0 "java/util/ArrayList" "DEFAULTCAPACITY_EMPTY_ELEMENTDATA" "[Ljava/lang/Object;" (.ref aD)) (Pi8 : Arv Z h0 aD kD (.object "java/lang/Object") (0 : Int32) [] .null) (Pi9 : Exa Z h0 aD "[Ljava/lang/Object;") :
    MetFree l own_n11 (head1 (Jvm.Cond.code own_n11 jdk_38_method_24_code 4 none :: ws) own_r_own_rmAH0) (fun a U => a = #[(.ref x0), (.ref x1), (.ref aD), (.int (0 : Int32))] ∧ Z.Warmed39 U.vm ∧ U.heap = h0) (fun _ _ _ _ _ => True) (fun _ U o U' => ∃ v L, o = .returned v ∧ own_Q_own_rmAH0 Z x0 x1 aD kD kk h0 n0 v U'.heap L ∧ FrameEnd U o U' L own_r_own_rmAH0.cells own_r_own_rmAH0.slots) := by
  refine MetFree.of_bodySF (plainFor_of_name own_pn_10) hisR ?_
  intro p e s m args below meth c s₁ Bd hml0 hP hK
  obtain ⟨rfl, hZ, hh⟩ := hP
  have hx := Bd.exec
  have hby := Bd.bytes
  have hml : c.maxLocals = 4 := hml0
  have hown : s.vm.findClass "java/util/ArrayList" = some m.cls := findClass_of_methodNamed Bd.named
  have hnm := (name_of_methodNamed Bd.named Bd.method).1
  have X0 : Stand p l e own_r_own_rmAH0 s m #[(.ref x0), (.ref x1), (.ref aD), (.int (0 : Int32))] below meth c s₁ [] 0 0 := Stand.of_body Bd
  have e0 : s₁.heap = h0 := by rw [← hh, Bd.state]; rfl
  have N0 := Fr.nil n0
  show Goes p.tables e below _ (own_R below s (own_Q_own_rmAH0 Z x0 x1 aD kD kk h0 n0) own_r_own_rmAH0.cells own_r_own_rmAH0.slots)
  refine Goes.to (fun t k => castTop (own_ef_own_rmAH0 m x0 x1 aD) k) ?_
  refine gx (XS.iloadN X0.here hx rfl (hb hby d10_0) rfl) ?_
  refine gx (XS.aloadN X0.here hx rfl (hb hby d10_1) rfl rfl) ?_
  obtain ⟨cl1, Ar1, -, S1, N1, -, -⟩ := id Pi8
  refine Goes.to (fun _ k => X0.arraylength hx (by rw [e0]; exact Ar1.1) (State.isArrayOf_alike hZ.alike Ar1.2.1) (g := (mkF m 2 #[.val (.ref x0), .val (.ref x1), .val (.ref aD), .val (.int (0 : Int32))] [(.ref aD), (.int (0 : Int32))])) rfl rfl (hb hby d10_2) _ k) ?_
  rw [len_of S1 N1]
  refine gx (XS.icmpNo X0.here hx rfl (hb hby d10_3) rfl (teq (by decide : (0 : Int32) = (0 : Int32))).2) ?_
  refine gx (XS.aloadN X0.here hx rfl (hb hby d10_6) rfl rfl) ?_
  obtain ⟨cq2, q2a, q2b⟩ := Pi3.cell
  obtain ⟨_, _, ⟨T2, L2, k2, n2⟩, -, X2, ⟨Lc2, hQ2, l2, y2, z2⟩, st2⟩ := X0.privateBack hx (y := own_n10) hown (mvT hZ (own_hw hw 63 rfl)) (mvT hZ (own_hw hw 64 rfl)) (mvT hZ (own_hw hw 66 rfl)) (Cond.privateMethod_at (mvP (args := #[]) hZ (own_hw hw 65 rfl))) (mvT hZ (own_hw hw 67 rfl)) (by decide) (backOf (W := 0) (own_rm11 l Z a0 hw [] x0 aD kD h0 n0 Z0 Pi0 Pi3 Pi4 Pi5 Pi6 Pi7 Pi8 Pi9) hZ (own_hw hw 67 rfl) (own_hw hw 7 rfl) (by decide) (by decide)) (g := (mkF m 7 #[.val (.ref x0), .val (.ref x1), .val (.ref aD), .val (.int (0 : Int32))] [(.ref x0)])) rfl (by rw [hml]; rfl) (Steps.refl _) (a := x0) (by rw [e0]; exact q2a) q2b (argsL := []) (rest := []) (lenOf own_pd_pqaLjavallanglObjects rfl) rfl (own_W rfl rfl) (hb hby d10_7) (fun _ _ => ⟨rfl, e0, (by decide : 0 + 1 ≤ _), (by decide : 0 + 10 ≤ _)⟩)
  dsimp only [Pt.U, Pt.locs, Pt.cells, Pt.slots] at X2 l2 y2 z2 st2 hQ2
  subst l2 y2 z2
  obtain ⟨ea_2, kE_2, hv2, Nq2, sq2_0, Kq2, Qf2_0, Qf2_1, Qf2_2, Qf2_3, Qf2_4, Qf2_5, Qf2_6⟩ := hQ2
  have N2 := Fr.app N0 Nq2
  have g_ea_2 : n0 ≤ ea_2 := Nat.le_trans Z0 sq2_0
  have sz_ea_2 : h0.size ≤ ea_2 := Nat.le_trans (Keep.refl h0 [x0]).1 sq2_0
  have ne4 : x0 ≠ ea_2 := Nat.ne_of_lt (Nat.lt_of_lt_of_le Pi3.lt sq2_0)
  have F6 := Pi1.keep Kq2
  have Kc2 : Keep h0 T2.heap [x0] := (Keep.refl h0 [x0]).trans Kq2 (allS (Or.inl (List.mem_of_getElem? (i := 0) rfl)) all0)
  subst hv2
  refine Goes.tr st2 ?_
  refine gx (XS.astoreN X2.here hx rfl (hb hby d10_10) rfl rfl (l' := #[.val (.ref x0), .val (.ref x1), .val (.ref ea_2), .val (.int (0 : Int32))]) rfl) ?_
  refine gx (XS.aloadN X2.here hx rfl (hb hby d10_11) rfl rfl) ?_
  refine gx (XS.iloadN X2.here hx rfl (hb hby d10_12) rfl) ?_
  refine gx (XS.aloadN X2.here hx rfl (hb hby d10_13) rfl rfl) ?_
  obtain ⟨cl14, Ar14, q14, S14, N14, H14, G14⟩ := id Qf2_5
  have hin14 : ¬ ((0 : Int32) < 0 ∨ cl14.slots.size ≤ ((0 : Int32)).toNatClampNeg) := inb_of S14 ⟨by decide, by decide⟩
  obtain ⟨T15, h15, X15, e15, W15, st15⟩ := stR X2 hx hZ rfl Ar14 (j := (0 : Int32)) hin14 rfl (Sto.ofV Ar14 q14 Qf2_6 (Ins.of_exa F6 hco)) (g := (mkF m 14 #[.val (.ref x0), .val (.ref x1), .val (.ref ea_2), .val (.int (0 : Int32))] [(.ref x1), (.int (0 : Int32)), (.ref ea_2)])) rfl rfl (hb hby d10_14)
  subst e15
  have F17 := Qf2_0.wr W15
  have F21 := Qf2_1.other W15 (Or.inl ne4)
  have F22 := Qf2_2.other W15 (Or.inl ne4)
  have F23 := Qf2_3.other W15 (Or.inl ne4)
  have F24 := Qf2_4.wr W15
  have N15 := Fr.snoc X15 N2 g_ea_2
  have K15 : Keep h0 T15.heap [x0] := Kc2.wr W15 (Or.inr sz_ea_2)
  have V15 : Arv Z T15.heap ea_2 kE_2 (.object "java/lang/Object") (10 : Int32) [(.ref x1), .null, .null, .null, .null, .null, .null, .null, .null, .null] .null := Arv.set Ar14 q14 S14 N14 H14 G14 rfl W15 0 rfl (Nat.le_of_ble_eq_true rfl)
  refine Goes.to st15 ?_
  refine gx (XS.aloadN X15.here hx rfl (hb hby d10_15) rfl rfl) ?_
  refine gx (XS.iloadN X15.here hx rfl (hb hby d10_16) rfl) ?_
  refine gx (XS.iconst X15.here hx rfl (hb hby d10_17)) ?_
  refine gx (XS.iadd X15.here hx rfl (hb hby d10_18) rfl) ?_
  obtain ⟨T26, h26, X26, e26, W26, st26⟩ := putF X15 hx hZ hown (host := "") (Or.inl (own_hw hw 56 rfl)) Via.refl rfl F22 F17 (Or.inl (own_hw hw 57 rfl)) (own_hw hw 6 rfl) (ty := .int) (by decide) rfl rfl (g := (mkF m 19 #[.val (.ref x0), .val (.ref x1), .val (.ref ea_2), .val (.int (0 : Int32))] [(.int (1 : Int32)), (.ref x0)])) rfl rfl (hb hby d10_19)
  subst e26
  have F28 := F17.wr W26
  have F32 := F21.other W26 (Or.inr (slot_ne (Or.inl (own_hw hw 27 rfl)) (Or.inl (own_hw hw 57 rfl)) (by decide) (t := .int) (t' := .int) (by decide) (by decide)))
  have F34 := F23.other W26 (Or.inr (slot_ne (Or.inl (own_hw hw 30 rfl)) (Or.inl (own_hw hw 57 rfl)) (by decide) (t := (.array (.object "java/lang/Object"))) (t' := .int) (by decide) (by decide)))
  have F35 := F24.wr W26
  have F36 := V15.other W26 (Ne.symm ne4)
  have N26 := Fr.snoc X26 N15 Pi0
  have K26 : Keep h0 T26.heap [x0] := K15.wr W26 (Or.inl (List.mem_of_getElem? (i := 0) rfl))
  have F37 : Fld Z T26.heap x0 "java/util/ArrayList" "size" "I" (.int (1 : Int32)) := F22.same W26
  refine Goes.to st26 ?_
  show Goes p.tables e below (T26.setTop (mkF m 22 #[.val (.ref x0), .val (.ref x1), .val (.ref ea_2), .val (.int (0 : Int32))] [])) _
  obtain ⟨fs, hr, hrun, hended, hW, hsame⟩ := X26.leave (v := none) (fun _ => rfl)
  exact ⟨_, _, X26.returnOut hx Bd.returns (hb hby d10_22) hr, hrun, hended, _, _, rfl, ⟨ea_2, kE_2, rfl, N26, sz_ea_2, (by show Keep h0 T26.heap [x0]; exact K26), (by show Exa Z T26.heap x0 "java/util/ArrayList"; exact F28), (by show Fld Z T26.heap x0 "java/util/AbstractList" "modCount" "I" (.int (1 : Int32)); exact F32), (by show Fld Z T26.heap x0 "java/util/ArrayList" "size" "I" (.int (1 : Int32)); exact F37), (by show Fld Z T26.heap x0 "java/util/ArrayList" "elementData" "[Ljava/lang/Object;" (.ref ea_2); exact F34), (by show Exa Z T26.heap ea_2 "[Ljava/lang/Object;"; exact F35), (by show Arv Z T26.heap ea_2 kE_2 (.object "java/lang/Object") (10 : Int32) [(.ref x1), .null, .null, .null, .null, .null, .null, .null, .null, .null] .null; exact F36), Qf2_6⟩, ⟨_, rfl⟩, hW, hsame.mono (by decide) (by decide)⟩

theorem own_ef_own_rmAH1 (m : MethodId) (x0 : Addr) (x1 : Addr) (x2 : Addr) : entryFrame m #[(.ref x0), (.ref x1), (.ref x2), (.int (1 : Int32))] 4 = mkF m 0 #[.val (.ref x0), .val (.ref x1), .val (.ref x2), .val (.int (1 : Int32))] [] := by first | (simp [entryFrame, mkF, argsToLocals, Value.category]; done) | rfl
def own_Q_own_rmAH1 (Z : State) (x0 : Addr) (x1 : Addr) (x2 : Addr) (kE : ClassId) (kk : String) (r1 : Addr) (h0 : Heap) (n0 : Nat) (v : Option Value) (h : Heap) (L : List Loc) : Prop := v = none ∧ Fr n0 L ∧ Keep h0 h [x0, x2] ∧ Exa Z h x0 "java/util/ArrayList" ∧ Fld Z h x0 "java/util/AbstractList" "modCount" "I" (.int (2 : Int32)) ∧ Fld Z h x0 "java/util/ArrayList" "size" "I" (.int (2 : Int32)) ∧ Fld Z h x0 "java/util/ArrayList" "elementData" "[Ljava/lang/Object;" (.ref x2) ∧ Exa Z h x2 "[Ljava/lang/Object;" ∧ Arv Z h x2 kE (.object "java/lang/Object") (10 : Int32) [(.ref r1), (.ref x1), .null, .null, .null, .null, .null, .null, .null, .null] .null ∧ Ovr Z kE "java/lang/Object"
abbrev own_r_own_rmAH1 : Room := ({ frames := 0, cells := 0, slots := 0, locals := 0 } : Room)

set_option maxRecDepth 65536 in
set_option maxHeartbeats 40000000 in
theorem own_rmAH1 (l : Launch) (Z : State) (a0 : Array Value) (hw : ∀ d ∈ tables_1, d.before a0 Z = true) (ws : List Jvm.Cond) (x0 : Addr) (x1 : Addr) (x2 : Addr) (kE : ClassId) (kk : String) (r1 : Addr) (h0 : Heap) (n0 : Nat) (Z0 : n0 ≤ h0.size) (Pi0 : n0 ≤ x0) (Pi1 : Exa Z h0 x1 kk) (hco : (Cond.castable kk "java/lang/Object").before a0 Z = true) (Pi3 : Exa Z h0 x0 "java/util/ArrayList") (Pi4 : Fld Z h0 x0 "java/util/AbstractList" "modCount" "I" (.int (2 : Int32))) (Pi5 : Fld Z h0 x0 "java/util/ArrayList" "size" "I" (.int (1 : Int32))) (Pi6 : Fld Z h0 x0 "java/util/ArrayList" "elementData" "[Ljava/lang/Object;" (.ref x2)) (Pi7 : n0 ≤ x2) (Pi8 : Exa Z h0 x2 "[Ljava/lang/Object;") (Pi9 : Arv Z h0 x2 kE (.object "java/lang/Object") (10 : Int32) [(.ref r1), .null, .null, .null, .null, .null, .null, .null, .null, .null] .null) (Pi10 : Ovr Z kE "java/lang/Object") :
    MetFree l own_n11 (head1 (Jvm.Cond.code own_n11 jdk_38_method_24_code 4 none :: ws) own_r_own_rmAH1) (fun a U => a = #[(.ref x0), (.ref x1), (.ref x2), (.int (1 : Int32))] ∧ Z.Warmed39 U.vm ∧ U.heap = h0) (fun _ _ _ _ _ => True) (fun _ U o U' => ∃ v L, o = .returned v ∧ own_Q_own_rmAH1 Z x0 x1 x2 kE kk r1 h0 n0 v U'.heap L ∧ FrameEnd U o U' L own_r_own_rmAH1.cells own_r_own_rmAH1.slots) := by
  refine MetFree.of_bodySF (plainFor_of_name own_pn_10) hisR ?_
  intro p e s m args below meth c s₁ Bd hml0 hP hK
  obtain ⟨rfl, hZ, hh⟩ := hP
  have hx := Bd.exec
  have hby := Bd.bytes
  have hml : c.maxLocals = 4 := hml0
  have hown : s.vm.findClass "java/util/ArrayList" = some m.cls := findClass_of_methodNamed Bd.named
  have hnm := (name_of_methodNamed Bd.named Bd.method).1
  have X0 : Stand p l e own_r_own_rmAH1 s m #[(.ref x0), (.ref x1), (.ref x2), (.int (1 : Int32))] below meth c s₁ [] 0 0 := Stand.of_body Bd
  have e0 : s₁.heap = h0 := by rw [← hh, Bd.state]; rfl
  have N0 := Fr.nil n0
  show Goes p.tables e below _ (own_R below s (own_Q_own_rmAH1 Z x0 x1 x2 kE kk r1 h0 n0) own_r_own_rmAH1.cells own_r_own_rmAH1.slots)
  refine Goes.to (fun t k => castTop (own_ef_own_rmAH1 m x0 x1 x2) k) ?_
  refine gx (XS.iloadN X0.here hx rfl (hb hby d10_0) rfl) ?_
  refine gx (XS.aloadN X0.here hx rfl (hb hby d10_1) rfl rfl) ?_
  obtain ⟨cl1, Ar1, -, S1, N1, -, -⟩ := id Pi9
  refine Goes.to (fun _ k => X0.arraylength hx (by rw [e0]; exact Ar1.1) (State.isArrayOf_alike hZ.alike Ar1.2.1) (g := (mkF m 2 #[.val (.ref x0), .val (.ref x1), .val (.ref x2), .val (.int (1 : Int32))] [(.ref x2), (.int (1 : Int32))])) rfl rfl (hb hby d10_2) _ k) ?_
  rw [len_of S1 N1]
  refine gx (XS.icmpYes X0.here hx rfl (pc0 := 3) (pc' := 11) rfl (hb hby d10_3) rfl (feq (by decide : ¬ ((1 : Int32) = (10 : Int32)))).2 (by decide) (by decide)) ?_
  refine gx (XS.aloadN X0.here hx rfl (hb hby d10_11) rfl rfl) ?_
  refine gx (XS.iloadN X0.here hx rfl (hb hby d10_12) rfl) ?_
  refine gx (XS.aloadN X0.here hx rfl (hb hby d10_13) rfl rfl) ?_
  obtain ⟨cl2, Ar2, q2, S2, N2, H2, G2⟩ := id Pi9
  have hin2 : ¬ ((1 : Int32) < 0 ∨ cl2.slots.size ≤ ((1 : Int32)).toNatClampNeg) := inb_of S2 ⟨by decide, by decide⟩
  obtain ⟨T3, h3, X3, e3, W3, st3⟩ := stR X0 hx hZ e0 Ar2 (j := (1 : Int32)) hin2 rfl (Sto.ofV Ar2 q2 Pi10 (Ins.of_exa Pi1 hco)) (g := (mkF m 14 #[.val (.ref x0), .val (.ref x1), .val (.ref x2), .val (.int (1 : Int32))] [(.ref x1), (.int (1 : Int32)), (.ref x2)])) rfl rfl (hb hby d10_14)
  subst e3
  have F5 := Pi3.wr W3
  have F6 := Pi4.other W3 (Or.inl (ne_exa Pi3 Pi8 (by decide)))
  have F7 := Pi5.other W3 (Or.inl (ne_exa Pi3 Pi8 (by decide)))
  have F8 := Pi6.other W3 (Or.inl (ne_exa Pi3 Pi8 (by decide)))
  have F9 := Pi8.wr W3
  have N3 := Fr.snoc X3 N0 Pi7
  have K3 : Keep h0 T3.heap [x0, x2] := (Keep.refl h0 [x0, x2]).wr W3 (Or.inl (List.mem_of_getElem? (i := 1) rfl))
  have V3 : Arv Z T3.heap x2 kE (.object "java/lang/Object") (10 : Int32) [(.ref r1), (.ref x1), .null, .null, .null, .null, .null, .null, .null, .null] .null := Arv.set Ar2 q2 S2 N2 H2 G2 rfl W3 1 rfl (Nat.le_of_ble_eq_true rfl)
  refine Goes.to st3 ?_
  refine gx (XS.aloadN X3.here hx rfl (hb hby d10_15) rfl rfl) ?_
  refine gx (XS.iloadN X3.here hx rfl (hb hby d10_16) rfl) ?_
  refine gx (XS.iconst X3.here hx rfl (hb hby d10_17)) ?_
  refine gx (XS.iadd X3.here hx rfl (hb hby d10_18) rfl) ?_
  obtain ⟨T11, h11, X11, e11, W11, st11⟩ := putF X3 hx hZ hown (host := "") (Or.inl (own_hw hw 56 rfl)) Via.refl rfl F7 F5 (Or.inl (own_hw hw 57 rfl)) (own_hw hw 6 rfl) (ty := .int) (by decide) rfl rfl (g := (mkF m 19 #[.val (.ref x0), .val (.ref x1), .val (.ref x2), .val (.int (1 : Int32))] [(.int (2 : Int32)), (.ref x0)])) rfl rfl (hb hby d10_19)
  subst e11
  have F13 := F5.wr W11
  have F14 := F6.other W11 (Or.inr (slot_ne (Or.inl (own_hw hw 27 rfl)) (Or.inl (own_hw hw 57 rfl)) (by decide) (t := .int) (t' := .int) (by decide) (by decide)))
  have F16 := F8.other W11 (Or.inr (slot_ne (Or.inl (own_hw hw 30 rfl)) (Or.inl (own_hw hw 57 rfl)) (by decide) (t := (.array (.object "java/lang/Object"))) (t' := .int) (by decide) (by decide)))
  have F17 := F9.wr W11
  have F18 := V3.other W11 (ne_exa F9 F5 (by decide))
  have N11 := Fr.snoc X11 N3 Pi0
  have K11 : Keep h0 T11.heap [x0, x2] := K3.wr W11 (Or.inl (List.mem_of_getElem? (i := 0) rfl))
  have F19 : Fld Z T11.heap x0 "java/util/ArrayList" "size" "I" (.int (2 : Int32)) := F7.same W11
  refine Goes.to st11 ?_
  show Goes p.tables e below (T11.setTop (mkF m 22 #[.val (.ref x0), .val (.ref x1), .val (.ref x2), .val (.int (1 : Int32))] [])) _
  obtain ⟨fs, hr, hrun, hended, hW, hsame⟩ := X11.leave (v := none) (fun _ => rfl)
  exact ⟨_, _, X11.returnOut hx Bd.returns (hb hby d10_22) hr, hrun, hended, _, _, rfl, ⟨rfl, N11, (by show Keep h0 T11.heap [x0, x2]; exact K11), (by show Exa Z T11.heap x0 "java/util/ArrayList"; exact F13), (by show Fld Z T11.heap x0 "java/util/AbstractList" "modCount" "I" (.int (2 : Int32)); exact F14), (by show Fld Z T11.heap x0 "java/util/ArrayList" "size" "I" (.int (2 : Int32)); exact F19), (by show Fld Z T11.heap x0 "java/util/ArrayList" "elementData" "[Ljava/lang/Object;" (.ref x2); exact F16), (by show Exa Z T11.heap x2 "[Ljava/lang/Object;"; exact F17), (by show Arv Z T11.heap x2 kE (.object "java/lang/Object") (10 : Int32) [(.ref r1), (.ref x1), .null, .null, .null, .null, .null, .null, .null, .null] .null; exact F18), Pi10⟩, ⟨_, rfl⟩, hW, hsame.mono (by decide) (by decide)⟩

theorem own_ef_own_rmAH2 (m : MethodId) (x0 : Addr) (x1 : Addr) (x2 : Addr) : entryFrame m #[(.ref x0), (.ref x1), (.ref x2), (.int (2 : Int32))] 4 = mkF m 0 #[.val (.ref x0), .val (.ref x1), .val (.ref x2), .val (.int (2 : Int32))] [] := by first | (simp [entryFrame, mkF, argsToLocals, Value.category]; done) | rfl
def own_Q_own_rmAH2 (Z : State) (x0 : Addr) (x1 : Addr) (x2 : Addr) (kE : ClassId) (kk : String) (r1 : Addr) (r2 : Addr) (h0 : Heap) (n0 : Nat) (v : Option Value) (h : Heap) (L : List Loc) : Prop := v = none ∧ Fr n0 L ∧ Keep h0 h [x0, x2] ∧ Exa Z h x0 "java/util/ArrayList" ∧ Fld Z h x0 "java/util/AbstractList" "modCount" "I" (.int (3 : Int32)) ∧ Fld Z h x0 "java/util/ArrayList" "size" "I" (.int (3 : Int32)) ∧ Fld Z h x0 "java/util/ArrayList" "elementData" "[Ljava/lang/Object;" (.ref x2) ∧ Exa Z h x2 "[Ljava/lang/Object;" ∧ Arv Z h x2 kE (.object "java/lang/Object") (10 : Int32) [(.ref r1), (.ref r2), (.ref x1), .null, .null, .null, .null, .null, .null, .null] .null ∧ Ovr Z kE "java/lang/Object"
abbrev own_r_own_rmAH2 : Room := ({ frames := 0, cells := 0, slots := 0, locals := 0 } : Room)

set_option maxRecDepth 65536 in
set_option maxHeartbeats 40000000 in
theorem own_rmAH2 (l : Launch) (Z : State) (a0 : Array Value) (hw : ∀ d ∈ tables_1, d.before a0 Z = true) (ws : List Jvm.Cond) (x0 : Addr) (x1 : Addr) (x2 : Addr) (kE : ClassId) (kk : String) (r1 : Addr) (r2 : Addr) (h0 : Heap) (n0 : Nat) (Z0 : n0 ≤ h0.size) (Pi0 : n0 ≤ x0) (Pi1 : Exa Z h0 x1 kk) (hco : (Cond.castable kk "java/lang/Object").before a0 Z = true) (Pi3 : Exa Z h0 x0 "java/util/ArrayList") (Pi4 : Fld Z h0 x0 "java/util/AbstractList" "modCount" "I" (.int (3 : Int32))) (Pi5 : Fld Z h0 x0 "java/util/ArrayList" "size" "I" (.int (2 : Int32))) (Pi6 : Fld Z h0 x0 "java/util/ArrayList" "elementData" "[Ljava/lang/Object;" (.ref x2)) (Pi7 : n0 ≤ x2) (Pi8 : Exa Z h0 x2 "[Ljava/lang/Object;") (Pi9 : Arv Z h0 x2 kE (.object "java/lang/Object") (10 : Int32) [(.ref r1), (.ref r2), .null, .null, .null, .null, .null, .null, .null, .null] .null) (Pi10 : Ovr Z kE "java/lang/Object") :
    MetFree l own_n11 (head1 (Jvm.Cond.code own_n11 jdk_38_method_24_code 4 none :: ws) own_r_own_rmAH2) (fun a U => a = #[(.ref x0), (.ref x1), (.ref x2), (.int (2 : Int32))] ∧ Z.Warmed39 U.vm ∧ U.heap = h0) (fun _ _ _ _ _ => True) (fun _ U o U' => ∃ v L, o = .returned v ∧ own_Q_own_rmAH2 Z x0 x1 x2 kE kk r1 r2 h0 n0 v U'.heap L ∧ FrameEnd U o U' L own_r_own_rmAH2.cells own_r_own_rmAH2.slots) := by
  refine MetFree.of_bodySF (plainFor_of_name own_pn_10) hisR ?_
  intro p e s m args below meth c s₁ Bd hml0 hP hK
  obtain ⟨rfl, hZ, hh⟩ := hP
  have hx := Bd.exec
  have hby := Bd.bytes
  have hml : c.maxLocals = 4 := hml0
  have hown : s.vm.findClass "java/util/ArrayList" = some m.cls := findClass_of_methodNamed Bd.named
  have hnm := (name_of_methodNamed Bd.named Bd.method).1
  have X0 : Stand p l e own_r_own_rmAH2 s m #[(.ref x0), (.ref x1), (.ref x2), (.int (2 : Int32))] below meth c s₁ [] 0 0 := Stand.of_body Bd
  have e0 : s₁.heap = h0 := by rw [← hh, Bd.state]; rfl
  have N0 := Fr.nil n0
  show Goes p.tables e below _ (own_R below s (own_Q_own_rmAH2 Z x0 x1 x2 kE kk r1 r2 h0 n0) own_r_own_rmAH2.cells own_r_own_rmAH2.slots)
  refine Goes.to (fun t k => castTop (own_ef_own_rmAH2 m x0 x1 x2) k) ?_
  refine gx (XS.iloadN X0.here hx rfl (hb hby d10_0) rfl) ?_
  refine gx (XS.aloadN X0.here hx rfl (hb hby d10_1) rfl rfl) ?_
  obtain ⟨cl1, Ar1, -, S1, N1, -, -⟩ := id Pi9
  refine Goes.to (fun _ k => X0.arraylength hx (by rw [e0]; exact Ar1.1) (State.isArrayOf_alike hZ.alike Ar1.2.1) (g := (mkF m 2 #[.val (.ref x0), .val (.ref x1), .val (.ref x2), .val (.int (2 : Int32))] [(.ref x2), (.int (2 : Int32))])) rfl rfl (hb hby d10_2) _ k) ?_
  rw [len_of S1 N1]
  refine gx (XS.icmpYes X0.here hx rfl (pc0 := 3) (pc' := 11) rfl (hb hby d10_3) rfl (feq (by decide : ¬ ((2 : Int32) = (10 : Int32)))).2 (by decide) (by decide)) ?_
  refine gx (XS.aloadN X0.here hx rfl (hb hby d10_11) rfl rfl) ?_
  refine gx (XS.iloadN X0.here hx rfl (hb hby d10_12) rfl) ?_
  refine gx (XS.aloadN X0.here hx rfl (hb hby d10_13) rfl rfl) ?_
  obtain ⟨cl2, Ar2, q2, S2, N2, H2, G2⟩ := id Pi9
  have hin2 : ¬ ((2 : Int32) < 0 ∨ cl2.slots.size ≤ ((2 : Int32)).toNatClampNeg) := inb_of S2 ⟨by decide, by decide⟩
  obtain ⟨T3, h3, X3, e3, W3, st3⟩ := stR X0 hx hZ e0 Ar2 (j := (2 : Int32)) hin2 rfl (Sto.ofV Ar2 q2 Pi10 (Ins.of_exa Pi1 hco)) (g := (mkF m 14 #[.val (.ref x0), .val (.ref x1), .val (.ref x2), .val (.int (2 : Int32))] [(.ref x1), (.int (2 : Int32)), (.ref x2)])) rfl rfl (hb hby d10_14)
  subst e3
  have F5 := Pi3.wr W3
  have F6 := Pi4.other W3 (Or.inl (ne_exa Pi3 Pi8 (by decide)))
  have F7 := Pi5.other W3 (Or.inl (ne_exa Pi3 Pi8 (by decide)))
  have F8 := Pi6.other W3 (Or.inl (ne_exa Pi3 Pi8 (by decide)))
  have F9 := Pi8.wr W3
  have N3 := Fr.snoc X3 N0 Pi7
  have K3 : Keep h0 T3.heap [x0, x2] := (Keep.refl h0 [x0, x2]).wr W3 (Or.inl (List.mem_of_getElem? (i := 1) rfl))
  have V3 : Arv Z T3.heap x2 kE (.object "java/lang/Object") (10 : Int32) [(.ref r1), (.ref r2), (.ref x1), .null, .null, .null, .null, .null, .null, .null] .null := Arv.set Ar2 q2 S2 N2 H2 G2 rfl W3 2 rfl (Nat.le_of_ble_eq_true rfl)
  refine Goes.to st3 ?_
  refine gx (XS.aloadN X3.here hx rfl (hb hby d10_15) rfl rfl) ?_
  refine gx (XS.iloadN X3.here hx rfl (hb hby d10_16) rfl) ?_
  refine gx (XS.iconst X3.here hx rfl (hb hby d10_17)) ?_
  refine gx (XS.iadd X3.here hx rfl (hb hby d10_18) rfl) ?_
  obtain ⟨T11, h11, X11, e11, W11, st11⟩ := putF X3 hx hZ hown (host := "") (Or.inl (own_hw hw 56 rfl)) Via.refl rfl F7 F5 (Or.inl (own_hw hw 57 rfl)) (own_hw hw 6 rfl) (ty := .int) (by decide) rfl rfl (g := (mkF m 19 #[.val (.ref x0), .val (.ref x1), .val (.ref x2), .val (.int (2 : Int32))] [(.int (3 : Int32)), (.ref x0)])) rfl rfl (hb hby d10_19)
  subst e11
  have F13 := F5.wr W11
  have F14 := F6.other W11 (Or.inr (slot_ne (Or.inl (own_hw hw 27 rfl)) (Or.inl (own_hw hw 57 rfl)) (by decide) (t := .int) (t' := .int) (by decide) (by decide)))
  have F16 := F8.other W11 (Or.inr (slot_ne (Or.inl (own_hw hw 30 rfl)) (Or.inl (own_hw hw 57 rfl)) (by decide) (t := (.array (.object "java/lang/Object"))) (t' := .int) (by decide) (by decide)))
  have F17 := F9.wr W11
  have F18 := V3.other W11 (ne_exa F9 F5 (by decide))
  have N11 := Fr.snoc X11 N3 Pi0
  have K11 : Keep h0 T11.heap [x0, x2] := K3.wr W11 (Or.inl (List.mem_of_getElem? (i := 0) rfl))
  have F19 : Fld Z T11.heap x0 "java/util/ArrayList" "size" "I" (.int (3 : Int32)) := F7.same W11
  refine Goes.to st11 ?_
  show Goes p.tables e below (T11.setTop (mkF m 22 #[.val (.ref x0), .val (.ref x1), .val (.ref x2), .val (.int (2 : Int32))] [])) _
  obtain ⟨fs, hr, hrun, hended, hW, hsame⟩ := X11.leave (v := none) (fun _ => rfl)
  exact ⟨_, _, X11.returnOut hx Bd.returns (hb hby d10_22) hr, hrun, hended, _, _, rfl, ⟨rfl, N11, (by show Keep h0 T11.heap [x0, x2]; exact K11), (by show Exa Z T11.heap x0 "java/util/ArrayList"; exact F13), (by show Fld Z T11.heap x0 "java/util/AbstractList" "modCount" "I" (.int (3 : Int32)); exact F14), (by show Fld Z T11.heap x0 "java/util/ArrayList" "size" "I" (.int (3 : Int32)); exact F19), (by show Fld Z T11.heap x0 "java/util/ArrayList" "elementData" "[Ljava/lang/Object;" (.ref x2); exact F16), (by show Exa Z T11.heap x2 "[Ljava/lang/Object;"; exact F17), (by show Arv Z T11.heap x2 kE (.object "java/lang/Object") (10 : Int32) [(.ref r1), (.ref r2), (.ref x1), .null, .null, .null, .null, .null, .null, .null] .null; exact F18), Pi10⟩, ⟨_, rfl⟩, hW, hsame.mono (by decide) (by decide)⟩

theorem d9_0 : decode jdk_38_method_25_code 0 = .ok (.aload_n 0, 1) := by decide +kernel
theorem d9_1 : decode jdk_38_method_25_code 1 = .ok (.dup, 1) := by decide +kernel
theorem d9_2 : decode jdk_38_method_25_code 2 = .ok (.getfield 63, 3) := by decide +kernel
theorem d9_5 : decode jdk_38_method_25_code 5 = .ok (.iconst 1, 1) := by decide +kernel
theorem d9_6 : decode jdk_38_method_25_code 6 = .ok (.iadd, 1) := by decide +kernel
theorem d9_7 : decode jdk_38_method_25_code 7 = .ok (.putfield 63, 3) := by decide +kernel
theorem d9_10 : decode jdk_38_method_25_code 10 = .ok (.aload_n 0, 1) := by decide +kernel
theorem d9_11 : decode jdk_38_method_25_code 11 = .ok (.aload_n 1, 1) := by decide +kernel
theorem d9_12 : decode jdk_38_method_25_code 12 = .ok (.aload_n 0, 1) := by decide +kernel
theorem d9_13 : decode jdk_38_method_25_code 13 = .ok (.getfield 9, 3) := by decide +kernel
theorem d9_16 : decode jdk_38_method_25_code 16 = .ok (.aload_n 0, 1) := by decide +kernel
theorem d9_17 : decode jdk_38_method_25_code 17 = .ok (.getfield 48, 3) := by decide +kernel
theorem d9_20 : decode jdk_38_method_25_code 20 = .ok (.invokevirtual 131, 3) := by decide +kernel
theorem d9_23 : decode jdk_38_method_25_code 23 = .ok (.iconst 1, 1) := by decide +kernel
theorem d9_24 : decode jdk_38_method_25_code 24 = .ok (.ireturn, 1) := by decide +kernel
theorem own_pd_pLjavallanglObjectsaLjavallanglObjectsIqV : parseMethodDescriptor "(Ljava/lang/Object;[Ljava/lang/Object;I)V" = some ⟨[(.object "java/lang/Object"), (.array (.object "java/lang/Object")), .int], none⟩ := by decide +kernel
theorem own_pn_9 : plainName "java/util/ArrayList" = true := by first | (simp [plainName, overriddenIn]; done) | decide +kernel
theorem own_ef_own_rmAD0 (m : MethodId) (x0 : Addr) (x1 : Addr) : entryFrame m #[(.ref x0), (.ref x1)] 2 = mkF m 0 #[.val (.ref x0), .val (.ref x1)] [] := by first | (simp [entryFrame, mkF, argsToLocals, Value.category]; done) | rfl
def own_Q_own_rmAD0 (Z : State) (x0 : Addr) (x1 : Addr) (aD : Addr) (kD : ClassId) (kk : String) (h0 : Heap) (n0 : Nat) (v : Option Value) (h : Heap) (L : List Loc) : Prop := ∃ (ea : Addr) (kE : ClassId), v = some (.int (1 : Int32)) ∧ Fr n0 L ∧ h0.size ≤ ea ∧ Keep h0 h [x0] ∧ Exa Z h x0 "java/util/ArrayList" ∧ Fld Z h x0 "java/util/AbstractList" "modCount" "I" (.int (1 : Int32)) ∧ Fld Z h x0 "java/util/ArrayList" "size" "I" (.int (1 : Int32)) ∧ Fld Z h x0 "java/util/ArrayList" "elementData" "[Ljava/lang/Object;" (.ref ea) ∧ Exa Z h ea "[Ljava/lang/Object;" ∧ Arv Z h ea kE (.object "java/lang/Object") (10 : Int32) [(.ref x1), .null, .null, .null, .null, .null, .null, .null, .null, .null] .null ∧ Ovr Z kE "java/lang/Object"
abbrev own_r_own_rmAD0 : Room := ({ frames := 4, cells := 1, slots := 10, locals := 56 } : Room)

set_option maxRecDepth 65536 in
set_option maxHeartbeats 40000000 in
theorem own_rmAD0 (l : Launch) (Z : State) (a0 : Array Value) (hw : ∀ d ∈ tables_1, d.before a0 Z = true) (ws : List Jvm.Cond) (x0 : Addr) (x1 : Addr) (aD : Addr) (kD : ClassId) (kk : String) (h0 : Heap) (n0 : Nat) (Z0 : n0 ≤ h0.size) (Pi0 : n0 ≤ x0) (Pi1 : Exa Z h0 x1 kk) (hco : (Cond.castable kk "java/lang/Object").before a0 Z = true) (Pi3 : Exa Z h0 x0 "java/util/ArrayList") (Pi4 : Fld Z h0 x0 "java/util/AbstractList" "modCount" "I" (.int (0 : Int32))) (Pi5 : Fld Z h0 x0 "java/util/ArrayList" "size" "I" (.int (0 : Int32))) (Pi6 : Fld Z h0 x0 "java/util/ArrayList" "elementData" "[Ljava/lang/Object;" (.ref aD)) (Pi7 : Sta Z h0 "java/util/ArrayList" "DEFAULTCAPACITY_EMPTY_ELEMENTDATA" "[Ljava/lang/Object;" (.ref aD)) (Pi8 : Arv Z h0 aD kD (.object "java/lang/Object") (0 : Int32) [] .null) (Pi9 : Exa Z h0 aD "[Ljava/lang/Object;") :
    MetFree l own_n12 (head1 (Jvm.Cond.code own_n12 jdk_38_method_25_code 2 (some .boolean) :: ws) own_r_own_rmAD0) (fun a U => a = #[(.ref x0), (.ref x1)] ∧ Z.Warmed39 U.vm ∧ U.heap = h0) (fun _ _ _ _ _ => True) (fun _ U o U' => ∃ v L, o = .returned v ∧ own_Q_own_rmAD0 Z x0 x1 aD kD kk h0 n0 v U'.heap L ∧ FrameEnd U o U' L own_r_own_rmAD0.cells own_r_own_rmAD0.slots) := by
  refine MetFree.of_bodySF (plainFor_of_name own_pn_9) hisR ?_
  intro p e s m args below meth c s₁ Bd hml0 hP hK
  obtain ⟨rfl, hZ, hh⟩ := hP
  have hx := Bd.exec
  have hby := Bd.bytes
  have hml : c.maxLocals = 2 := hml0
  have hown : s.vm.findClass "java/util/ArrayList" = some m.cls := findClass_of_methodNamed Bd.named
  have hnm := (name_of_methodNamed Bd.named Bd.method).1
  have X0 : Stand p l e own_r_own_rmAD0 s m #[(.ref x0), (.ref x1)] below meth c s₁ [] 0 0 := Stand.of_body Bd
  have e0 : s₁.heap = h0 := by rw [← hh, Bd.state]; rfl
  have N0 := Fr.nil n0
  show Goes p.tables e below _ (own_R below s (own_Q_own_rmAD0 Z x0 x1 aD kD kk h0 n0) own_r_own_rmAD0.cells own_r_own_rmAD0.slots)
  refine Goes.to (fun t k => castTop (own_ef_own_rmAD0 m x0 x1) k) ?_
  refine gx (XS.aloadN X0.here hx rfl (hb hby d9_0) rfl rfl) ?_
  refine gx (XS.dup X0.here hx rfl (hb hby d9_1) rfl rfl) ?_
  obtain ⟨T1, X1, e1, st1⟩ := getF X0 hx hZ hown (host := "") (Or.inl (own_hw hw 54 rfl)) (Via.of (own_hw hw 55 rfl)) e0 Pi4 (g := (mkF m 2 #[.val (.ref x0), .val (.ref x1)] [(.ref x0), (.ref x0)])) rfl rfl (hb hby d9_2)
  refine Goes.to st1 ?_
  refine gx (XS.iconst X1.here hx rfl (hb hby d9_5)) ?_
  refine gx (XS.iadd X1.here hx rfl (hb hby d9_6) rfl) ?_
  obtain ⟨T2, h2, X2, e2, W2, st2⟩ := putF X1 hx hZ hown (host := "") (Or.inl (own_hw hw 54 rfl)) (Via.of (own_hw hw 55 rfl)) e1 Pi4 Pi3 (Or.inl (own_hw hw 27 rfl)) (own_hw hw 6 rfl) (ty := .int) (by decide) rfl rfl (g := (mkF m 7 #[.val (.ref x0), .val (.ref x1)] [(.int (1 : Int32)), (.ref x0)])) rfl rfl (hb hby d9_7)
  subst e2
  have F3 := Pi1.wr W2
  have F4 := Pi3.wr W2
  have F6 := Pi5.other W2 (Or.inr (slot_ne (Or.inl (own_hw hw 57 rfl)) (Or.inl (own_hw hw 27 rfl)) (by decide) (t := .int) (t' := .int) (by decide) (by decide)))
  have F7 := Pi6.other W2 (Or.inr (slot_ne (Or.inl (own_hw hw 30 rfl)) (Or.inl (own_hw hw 27 rfl)) (by decide) (t := (.array (.object "java/lang/Object"))) (t' := .int) (by decide) (by decide)))
  have F8 := Pi7.wr W2
  have F9 := Pi8.other W2 (ne_exa Pi9 Pi3 (by decide))
  have F10 := Pi9.wr W2
  have N2 := Fr.snoc X2 N0 Pi0
  have Z2 : n0 ≤ T2.heap.size := Nat.le_trans Z0 (Nat.le_of_eq W2.size.symm)
  have K2 : Keep h0 T2.heap [x0] := (Keep.refl h0 [x0]).wr W2 (Or.inl (List.mem_of_getElem? (i := 0) rfl))
  have F11 : Fld Z T2.heap x0 "java/util/AbstractList" "modCount" "I" (.int (1 : Int32)) := Pi4.same W2
  refine Goes.to st2 ?_
  refine gx (XS.aloadN X2.here hx rfl (hb hby d9_10) rfl rfl) ?_
  refine gx (XS.aloadN X2.here hx rfl (hb hby d9_11) rfl rfl) ?_
  refine gx (XS.aloadN X2.here hx rfl (hb hby d9_12) rfl rfl) ?_
  obtain ⟨T12, X12, e12, st12⟩ := getF X2 hx hZ hown (host := "") (Or.inl (own_hw hw 29 rfl)) Via.refl rfl F7 (g := (mkF m 13 #[.val (.ref x0), .val (.ref x1)] [(.ref x0), (.ref x1), (.ref x0)])) rfl rfl (hb hby d9_13)
  refine Goes.to st12 ?_
  refine gx (XS.aloadN X12.here hx rfl (hb hby d9_16) rfl rfl) ?_
  obtain ⟨T13, X13, e13, st13⟩ := getF X12 hx hZ hown (host := "") (Or.inl (own_hw hw 56 rfl)) Via.refl e12 F6 (g := (mkF m 17 #[.val (.ref x0), .val (.ref x1)] [(.ref x0), (.ref aD), (.ref x1), (.ref x0)])) rfl rfl (hb hby d9_17)
  refine Goes.to st13 ?_
  obtain ⟨cq14, q14a, q14b⟩ := F4.cell
  obtain ⟨_, _, ⟨T14, L14, k14, n14⟩, -, X14, ⟨Lc14, hQ14, l14, y14, z14⟩, st14⟩ := X13.privateBack hx (y := own_n11) hown (mvT hZ (own_hw hw 58 rfl)) (mvT hZ (own_hw hw 59 rfl)) (mvT hZ (own_hw hw 61 rfl)) (Cond.privateMethod_at (mvP (args := #[]) hZ (own_hw hw 60 rfl))) (mvT hZ (own_hw hw 62 rfl)) (by decide) (backOf (W := 0) (own_rmAH0 l Z a0 hw [] x0 x1 aD kD kk T2.heap n0 Z2 Pi0 F3 hco F4 F11 F6 F7 F8 F9 F10) hZ (own_hw hw 62 rfl) (own_hw hw 7 rfl) (by decide) (by decide)) (g := (mkF m 20 #[.val (.ref x0), .val (.ref x1)] [(.int (0 : Int32)), (.ref aD), (.ref x1), (.ref x0)])) rfl (by rw [hml]; rfl) (Steps.refl _) (a := x0) (by rw [e13]; exact q14a) q14b (argsL := [(.ref x1), (.ref aD), (.int (0 : Int32))]) (rest := []) (lenOf own_pd_pLjavallanglObjectsaLjavallanglObjectsIqV rfl) rfl (own_W rfl rfl) (hb hby d9_20) (fun _ _ => ⟨rfl, e13, (by decide : 0 + 1 ≤ _), (by decide : 0 + 10 ≤ _)⟩)
  dsimp only [Pt.U, Pt.locs, Pt.cells, Pt.slots] at X14 l14 y14 z14 st14 hQ14
  subst l14 y14 z14
  obtain ⟨ea_14, kE_14, hv14, Nq14, sq14_0, Kq14, Qf14_0, Qf14_1, Qf14_2, Qf14_3, Qf14_4, Qf14_5, Qf14_6⟩ := hQ14
  have N14 := Fr.app N2 Nq14
  have sz_ea_14 : h0.size ≤ ea_14 := Nat.le_trans K2.1 sq14_0
  have Kc14 : Keep h0 T14.heap [x0] := K2.trans Kq14 (allS (Or.inl (List.mem_of_getElem? (i := 0) rfl)) all0)
  subst hv14
  refine Goes.tr st14 ?_
  refine gx (XS.iconst X14.here hx rfl (hb hby d9_23)) ?_
  show Goes p.tables e below (T14.setTop (mkF m 24 #[.val (.ref x0), .val (.ref x1)] [(.int (1 : Int32))])) _
  obtain ⟨fs, hr, hrun, hended, hW, hsame⟩ := X14.leave (v := some (.int (1 : Int32))) (fun h => by rw [Bd.returns] at h; cases h)
  exact ⟨_, _, retN X14 hx (t := .boolean) Bd.returns (by simp) (hb hby d9_24) hr, hrun, hended, _, _, rfl, ⟨ea_14, kE_14, rfl, N14, sz_ea_14, (by show Keep h0 T14.heap [x0]; exact Kc14), (by show Exa Z T14.heap x0 "java/util/ArrayList"; exact Qf14_0), (by show Fld Z T14.heap x0 "java/util/AbstractList" "modCount" "I" (.int (1 : Int32)); exact Qf14_1), (by show Fld Z T14.heap x0 "java/util/ArrayList" "size" "I" (.int (1 : Int32)); exact Qf14_2), (by show Fld Z T14.heap x0 "java/util/ArrayList" "elementData" "[Ljava/lang/Object;" (.ref ea_14); exact Qf14_3), (by show Exa Z T14.heap ea_14 "[Ljava/lang/Object;"; exact Qf14_4), (by show Arv Z T14.heap ea_14 kE_14 (.object "java/lang/Object") (10 : Int32) [(.ref x1), .null, .null, .null, .null, .null, .null, .null, .null, .null] .null; exact Qf14_5), Qf14_6⟩, ⟨_, rfl⟩, hW, hsame.mono (by decide) (by decide)⟩

theorem own_ef_own_rmAD1 (m : MethodId) (x0 : Addr) (x1 : Addr) : entryFrame m #[(.ref x0), (.ref x1)] 2 = mkF m 0 #[.val (.ref x0), .val (.ref x1)] [] := by first | (simp [entryFrame, mkF, argsToLocals, Value.category]; done) | rfl
def own_Q_own_rmAD1 (Z : State) (x0 : Addr) (x1 : Addr) (ea : Addr) (kE : ClassId) (kk : String) (r1 : Addr) (h0 : Heap) (n0 : Nat) (v : Option Value) (h : Heap) (L : List Loc) : Prop := v = some (.int (1 : Int32)) ∧ Fr n0 L ∧ Keep h0 h [x0, ea] ∧ Exa Z h x0 "java/util/ArrayList" ∧ Fld Z h x0 "java/util/AbstractList" "modCount" "I" (.int (2 : Int32)) ∧ Fld Z h x0 "java/util/ArrayList" "size" "I" (.int (2 : Int32)) ∧ Fld Z h x0 "java/util/ArrayList" "elementData" "[Ljava/lang/Object;" (.ref ea) ∧ Exa Z h ea "[Ljava/lang/Object;" ∧ Arv Z h ea kE (.object "java/lang/Object") (10 : Int32) [(.ref r1), (.ref x1), .null, .null, .null, .null, .null, .null, .null, .null] .null ∧ Ovr Z kE "java/lang/Object"
abbrev own_r_own_rmAD1 : Room := ({ frames := 1, cells := 0, slots := 0, locals := 15 } : Room)

set_option maxRecDepth 65536 in
set_option maxHeartbeats 40000000 in
theorem own_rmAD1 (l : Launch) (Z : State) (a0 : Array Value) (hw : ∀ d ∈ tables_1, d.before a0 Z = true) (ws : List Jvm.Cond) (x0 : Addr) (x1 : Addr) (ea : Addr) (kE : ClassId) (kk : String) (r1 : Addr) (h0 : Heap) (n0 : Nat) (Z0 : n0 ≤ h0.size) (Pi0 : n0 ≤ x0) (Pi1 : Exa Z h0 x1 kk) (hco : (Cond.castable kk "java/lang/Object").before a0 Z = true) (Pi3 : Exa Z h0 x0 "java/util/ArrayList") (Pi4 : Fld Z h0 x0 "java/util/AbstractList" "modCount" "I" (.int (1 : Int32))) (Pi5 : Fld Z h0 x0 "java/util/ArrayList" "size" "I" (.int (1 : Int32))) (Pi6 : Fld Z h0 x0 "java/util/ArrayList" "elementData" "[Ljava/lang/Object;" (.ref ea)) (Pi7 : n0 ≤ ea) (Pi8 : Exa Z h0 ea "[Ljava/lang/Object;") (Pi9 : Arv Z h0 ea kE (.object "java/lang/Object") (10 : Int32) [(.ref r1), .null, .null, .null, .null, .null, .null, .null, .null, .null] .null) (Pi10 : Ovr Z kE "java/lang/Object") :
    MetFree l own_n12 (head1 (Jvm.Cond.code own_n12 jdk_38_method_25_code 2 (some .boolean) :: ws) own_r_own_rmAD1) (fun a U => a = #[(.ref x0), (.ref x1)] ∧ Z.Warmed39 U.vm ∧ U.heap = h0) (fun _ _ _ _ _ => True) (fun _ U o U' => ∃ v L, o = .returned v ∧ own_Q_own_rmAD1 Z x0 x1 ea kE kk r1 h0 n0 v U'.heap L ∧ FrameEnd U o U' L own_r_own_rmAD1.cells own_r_own_rmAD1.slots) := by
  refine MetFree.of_bodySF (plainFor_of_name own_pn_9) hisR ?_
  intro p e s m args below meth c s₁ Bd hml0 hP hK
  obtain ⟨rfl, hZ, hh⟩ := hP
  have hx := Bd.exec
  have hby := Bd.bytes
  have hml : c.maxLocals = 2 := hml0
  have hown : s.vm.findClass "java/util/ArrayList" = some m.cls := findClass_of_methodNamed Bd.named
  have hnm := (name_of_methodNamed Bd.named Bd.method).1
  have X0 : Stand p l e own_r_own_rmAD1 s m #[(.ref x0), (.ref x1)] below meth c s₁ [] 0 0 := Stand.of_body Bd
  have e0 : s₁.heap = h0 := by rw [← hh, Bd.state]; rfl
  have N0 := Fr.nil n0
  show Goes p.tables e below _ (own_R below s (own_Q_own_rmAD1 Z x0 x1 ea kE kk r1 h0 n0) own_r_own_rmAD1.cells own_r_own_rmAD1.slots)
  refine Goes.to (fun t k => castTop (own_ef_own_rmAD1 m x0 x1) k) ?_
  refine gx (XS.aloadN X0.here hx rfl (hb hby d9_0) rfl rfl) ?_
  refine gx (XS.dup X0.here hx rfl (hb hby d9_1) rfl rfl) ?_
  obtain ⟨T1, X1, e1, st1⟩ := getF X0 hx hZ hown (host := "") (Or.inl (own_hw hw 54 rfl)) (Via.of (own_hw hw 55 rfl)) e0 Pi4 (g := (mkF m 2 #[.val (.ref x0), .val (.ref x1)] [(.ref x0), (.ref x0)])) rfl rfl (hb hby d9_2)
  refine Goes.to st1 ?_
  refine gx (XS.iconst X1.here hx rfl (hb hby d9_5)) ?_
  refine gx (XS.iadd X1.here hx rfl (hb hby d9_6) rfl) ?_
  obtain ⟨T2, h2, X2, e2, W2, st2⟩ := putF X1 hx hZ hown (host := "") (Or.inl (own_hw hw 54 rfl)) (Via.of (own_hw hw 55 rfl)) e1 Pi4 Pi3 (Or.inl (own_hw hw 27 rfl)) (own_hw hw 6 rfl) (ty := .int) (by decide) rfl rfl (g := (mkF m 7 #[.val (.ref x0), .val (.ref x1)] [(.int (2 : Int32)), (.ref x0)])) rfl rfl (hb hby d9_7)
  subst e2
  have F3 := Pi1.wr W2
  have F4 := Pi3.wr W2
  have F6 := Pi5.other W2 (Or.inr (slot_ne (Or.inl (own_hw hw 57 rfl)) (Or.inl (own_hw hw 27 rfl)) (by decide) (t := .int) (t' := .int) (by decide) (by decide)))
  have F7 := Pi6.other W2 (Or.inr (slot_ne (Or.inl (own_hw hw 30 rfl)) (Or.inl (own_hw hw 27 rfl)) (by decide) (t := (.array (.object "java/lang/Object"))) (t' := .int) (by decide) (by decide)))
  have F8 := Pi8.wr W2
  have F9 := Pi9.other W2 (ne_exa Pi8 Pi3 (by decide))
  have N2 := Fr.snoc X2 N0 Pi0
  have Z2 : n0 ≤ T2.heap.size := Nat.le_trans Z0 (Nat.le_of_eq W2.size.symm)
  have K2 : Keep h0 T2.heap [x0, ea] := (Keep.refl h0 [x0, ea]).wr W2 (Or.inl (List.mem_of_getElem? (i := 0) rfl))
  have F10 : Fld Z T2.heap x0 "java/util/AbstractList" "modCount" "I" (.int (2 : Int32)) := Pi4.same W2
  refine Goes.to st2 ?_
  refine gx (XS.aloadN X2.here hx rfl (hb hby d9_10) rfl rfl) ?_
  refine gx (XS.aloadN X2.here hx rfl (hb hby d9_11) rfl rfl) ?_
  refine gx (XS.aloadN X2.here hx rfl (hb hby d9_12) rfl rfl) ?_
  obtain ⟨T11, X11, e11, st11⟩ := getF X2 hx hZ hown (host := "") (Or.inl (own_hw hw 29 rfl)) Via.refl rfl F7 (g := (mkF m 13 #[.val (.ref x0), .val (.ref x1)] [(.ref x0), (.ref x1), (.ref x0)])) rfl rfl (hb hby d9_13)
  refine Goes.to st11 ?_
  refine gx (XS.aloadN X11.here hx rfl (hb hby d9_16) rfl rfl) ?_
  obtain ⟨T12, X12, e12, st12⟩ := getF X11 hx hZ hown (host := "") (Or.inl (own_hw hw 56 rfl)) Via.refl e11 F6 (g := (mkF m 17 #[.val (.ref x0), .val (.ref x1)] [(.ref x0), (.ref ea), (.ref x1), (.ref x0)])) rfl rfl (hb hby d9_17)
  refine Goes.to st12 ?_
  obtain ⟨cq13, q13a, q13b⟩ := F4.cell
  obtain ⟨_, _, ⟨T13, L13, k13, n13⟩, -, X13, ⟨Lc13, hQ13, l13, y13, z13⟩, st13⟩ := X12.privateBack hx (y := own_n11) hown (mvT hZ (own_hw hw 58 rfl)) (mvT hZ (own_hw hw 59 rfl)) (mvT hZ (own_hw hw 61 rfl)) (Cond.privateMethod_at (mvP (args := #[]) hZ (own_hw hw 60 rfl))) (mvT hZ (own_hw hw 62 rfl)) (by decide) (backOf (W := 0) (own_rmAH1 l Z a0 hw [] x0 x1 ea kE kk r1 T2.heap n0 Z2 Pi0 F3 hco F4 F10 F6 F7 Pi7 F8 F9 Pi10) hZ (own_hw hw 62 rfl) (own_hw hw 7 rfl) (by decide) (by decide)) (g := (mkF m 20 #[.val (.ref x0), .val (.ref x1)] [(.int (1 : Int32)), (.ref ea), (.ref x1), (.ref x0)])) rfl (by rw [hml]; rfl) (Steps.refl _) (a := x0) (by rw [e12]; exact q13a) q13b (argsL := [(.ref x1), (.ref ea), (.int (1 : Int32))]) (rest := []) (lenOf own_pd_pLjavallanglObjectsaLjavallanglObjectsIqV rfl) rfl (own_W rfl rfl) (hb hby d9_20) (fun _ _ => ⟨rfl, e12, (by decide : 0 + 0 ≤ _), (by decide : 0 + 0 ≤ _)⟩)
  dsimp only [Pt.U, Pt.locs, Pt.cells, Pt.slots] at X13 l13 y13 z13 st13 hQ13
  subst l13 y13 z13
  obtain ⟨hv13, Nq13, Kq13, Qf13_0, Qf13_1, Qf13_2, Qf13_3, Qf13_4, Qf13_5, Qf13_6⟩ := hQ13
  have N13 := Fr.app N2 Nq13
  have Kc13 : Keep h0 T13.heap [x0, ea] := K2.trans Kq13 (allS (Or.inl (List.mem_of_getElem? (i := 0) rfl)) (allS (Or.inl (List.mem_of_getElem? (i := 1) rfl)) all0))
  subst hv13
  refine Goes.tr st13 ?_
  refine gx (XS.iconst X13.here hx rfl (hb hby d9_23)) ?_
  show Goes p.tables e below (T13.setTop (mkF m 24 #[.val (.ref x0), .val (.ref x1)] [(.int (1 : Int32))])) _
  obtain ⟨fs, hr, hrun, hended, hW, hsame⟩ := X13.leave (v := some (.int (1 : Int32))) (fun h => by rw [Bd.returns] at h; cases h)
  exact ⟨_, _, retN X13 hx (t := .boolean) Bd.returns (by simp) (hb hby d9_24) hr, hrun, hended, _, _, rfl, ⟨rfl, N13, (by show Keep h0 T13.heap [x0, ea]; exact Kc13), (by show Exa Z T13.heap x0 "java/util/ArrayList"; exact Qf13_0), (by show Fld Z T13.heap x0 "java/util/AbstractList" "modCount" "I" (.int (2 : Int32)); exact Qf13_1), (by show Fld Z T13.heap x0 "java/util/ArrayList" "size" "I" (.int (2 : Int32)); exact Qf13_2), (by show Fld Z T13.heap x0 "java/util/ArrayList" "elementData" "[Ljava/lang/Object;" (.ref ea); exact Qf13_3), (by show Exa Z T13.heap ea "[Ljava/lang/Object;"; exact Qf13_4), (by show Arv Z T13.heap ea kE (.object "java/lang/Object") (10 : Int32) [(.ref r1), (.ref x1), .null, .null, .null, .null, .null, .null, .null, .null] .null; exact Qf13_5), Qf13_6⟩, ⟨_, rfl⟩, hW, hsame.mono (by decide) (by decide)⟩

theorem own_ef_own_rmAD2 (m : MethodId) (x0 : Addr) (x1 : Addr) : entryFrame m #[(.ref x0), (.ref x1)] 2 = mkF m 0 #[.val (.ref x0), .val (.ref x1)] [] := by first | (simp [entryFrame, mkF, argsToLocals, Value.category]; done) | rfl
def own_Q_own_rmAD2 (Z : State) (x0 : Addr) (x1 : Addr) (ea : Addr) (kE : ClassId) (kk : String) (r1 : Addr) (r2 : Addr) (h0 : Heap) (n0 : Nat) (v : Option Value) (h : Heap) (L : List Loc) : Prop := v = some (.int (1 : Int32)) ∧ Fr n0 L ∧ Keep h0 h [x0, ea] ∧ Exa Z h x0 "java/util/ArrayList" ∧ Fld Z h x0 "java/util/AbstractList" "modCount" "I" (.int (3 : Int32)) ∧ Fld Z h x0 "java/util/ArrayList" "size" "I" (.int (3 : Int32)) ∧ Fld Z h x0 "java/util/ArrayList" "elementData" "[Ljava/lang/Object;" (.ref ea) ∧ Exa Z h ea "[Ljava/lang/Object;" ∧ Arv Z h ea kE (.object "java/lang/Object") (10 : Int32) [(.ref r1), (.ref r2), (.ref x1), .null, .null, .null, .null, .null, .null, .null] .null ∧ Ovr Z kE "java/lang/Object"
abbrev own_r_own_rmAD2 : Room := ({ frames := 1, cells := 0, slots := 0, locals := 15 } : Room)

set_option maxRecDepth 65536 in
set_option maxHeartbeats 40000000 in
theorem own_rmAD2 (l : Launch) (Z : State) (a0 : Array Value) (hw : ∀ d ∈ tables_1, d.before a0 Z = true) (ws : List Jvm.Cond) (x0 : Addr) (x1 : Addr) (ea : Addr) (kE : ClassId) (kk : String) (r1 : Addr) (r2 : Addr) (h0 : Heap) (n0 : Nat) (Z0 : n0 ≤ h0.size) (Pi0 : n0 ≤ x0) (Pi1 : Exa Z h0 x1 kk) (hco : (Cond.castable kk "java/lang/Object").before a0 Z = true) (Pi3 : Exa Z h0 x0 "java/util/ArrayList") (Pi4 : Fld Z h0 x0 "java/util/AbstractList" "modCount" "I" (.int (2 : Int32))) (Pi5 : Fld Z h0 x0 "java/util/ArrayList" "size" "I" (.int (2 : Int32))) (Pi6 : Fld Z h0 x0 "java/util/ArrayList" "elementData" "[Ljava/lang/Object;" (.ref ea)) (Pi7 : n0 ≤ ea) (Pi8 : Exa Z h0 ea "[Ljava/lang/Object;") (Pi9 : Arv Z h0 ea kE (.object "java/lang/Object") (10 : Int32) [(.ref r1), (.ref r2), .null, .null, .null, .null, .null, .null, .null, .null] .null) (Pi10 : Ovr Z kE "java/lang/Object") :
    MetFree l own_n12 (head1 (Jvm.Cond.code own_n12 jdk_38_method_25_code 2 (some .boolean) :: ws) own_r_own_rmAD2) (fun a U => a = #[(.ref x0), (.ref x1)] ∧ Z.Warmed39 U.vm ∧ U.heap = h0) (fun _ _ _ _ _ => True) (fun _ U o U' => ∃ v L, o = .returned v ∧ own_Q_own_rmAD2 Z x0 x1 ea kE kk r1 r2 h0 n0 v U'.heap L ∧ FrameEnd U o U' L own_r_own_rmAD2.cells own_r_own_rmAD2.slots) := by
  refine MetFree.of_bodySF (plainFor_of_name own_pn_9) hisR ?_
  intro p e s m args below meth c s₁ Bd hml0 hP hK
  obtain ⟨rfl, hZ, hh⟩ := hP
  have hx := Bd.exec
  have hby := Bd.bytes
  have hml : c.maxLocals = 2 := hml0
  have hown : s.vm.findClass "java/util/ArrayList" = some m.cls := findClass_of_methodNamed Bd.named
  have hnm := (name_of_methodNamed Bd.named Bd.method).1
  have X0 : Stand p l e own_r_own_rmAD2 s m #[(.ref x0), (.ref x1)] below meth c s₁ [] 0 0 := Stand.of_body Bd
  have e0 : s₁.heap = h0 := by rw [← hh, Bd.state]; rfl
  have N0 := Fr.nil n0
  show Goes p.tables e below _ (own_R below s (own_Q_own_rmAD2 Z x0 x1 ea kE kk r1 r2 h0 n0) own_r_own_rmAD2.cells own_r_own_rmAD2.slots)
  refine Goes.to (fun t k => castTop (own_ef_own_rmAD2 m x0 x1) k) ?_
  refine gx (XS.aloadN X0.here hx rfl (hb hby d9_0) rfl rfl) ?_
  refine gx (XS.dup X0.here hx rfl (hb hby d9_1) rfl rfl) ?_
  obtain ⟨T1, X1, e1, st1⟩ := getF X0 hx hZ hown (host := "") (Or.inl (own_hw hw 54 rfl)) (Via.of (own_hw hw 55 rfl)) e0 Pi4 (g := (mkF m 2 #[.val (.ref x0), .val (.ref x1)] [(.ref x0), (.ref x0)])) rfl rfl (hb hby d9_2)
  refine Goes.to st1 ?_
  refine gx (XS.iconst X1.here hx rfl (hb hby d9_5)) ?_
  refine gx (XS.iadd X1.here hx rfl (hb hby d9_6) rfl) ?_
  obtain ⟨T2, h2, X2, e2, W2, st2⟩ := putF X1 hx hZ hown (host := "") (Or.inl (own_hw hw 54 rfl)) (Via.of (own_hw hw 55 rfl)) e1 Pi4 Pi3 (Or.inl (own_hw hw 27 rfl)) (own_hw hw 6 rfl) (ty := .int) (by decide) rfl rfl (g := (mkF m 7 #[.val (.ref x0), .val (.ref x1)] [(.int (3 : Int32)), (.ref x0)])) rfl rfl (hb hby d9_7)
  subst e2
  have F3 := Pi1.wr W2
  have F4 := Pi3.wr W2
  have F6 := Pi5.other W2 (Or.inr (slot_ne (Or.inl (own_hw hw 57 rfl)) (Or.inl (own_hw hw 27 rfl)) (by decide) (t := .int) (t' := .int) (by decide) (by decide)))
  have F7 := Pi6.other W2 (Or.inr (slot_ne (Or.inl (own_hw hw 30 rfl)) (Or.inl (own_hw hw 27 rfl)) (by decide) (t := (.array (.object "java/lang/Object"))) (t' := .int) (by decide) (by decide)))
  have F8 := Pi8.wr W2
  have F9 := Pi9.other W2 (ne_exa Pi8 Pi3 (by decide))
  have N2 := Fr.snoc X2 N0 Pi0
  have Z2 : n0 ≤ T2.heap.size := Nat.le_trans Z0 (Nat.le_of_eq W2.size.symm)
  have K2 : Keep h0 T2.heap [x0, ea] := (Keep.refl h0 [x0, ea]).wr W2 (Or.inl (List.mem_of_getElem? (i := 0) rfl))
  have F10 : Fld Z T2.heap x0 "java/util/AbstractList" "modCount" "I" (.int (3 : Int32)) := Pi4.same W2
  refine Goes.to st2 ?_
  refine gx (XS.aloadN X2.here hx rfl (hb hby d9_10) rfl rfl) ?_
  refine gx (XS.aloadN X2.here hx rfl (hb hby d9_11) rfl rfl) ?_
  refine gx (XS.aloadN X2.here hx rfl (hb hby d9_12) rfl rfl) ?_
  obtain ⟨T11, X11, e11, st11⟩ := getF X2 hx hZ hown (host := "") (Or.inl (own_hw hw 29 rfl)) Via.refl rfl F7 (g := (mkF m 13 #[.val (.ref x0), .val (.ref x1)] [(.ref x0), (.ref x1), (.ref x0)])) rfl rfl (hb hby d9_13)
  refine Goes.to st11 ?_
  refine gx (XS.aloadN X11.here hx rfl (hb hby d9_16) rfl rfl) ?_
  obtain ⟨T12, X12, e12, st12⟩ := getF X11 hx hZ hown (host := "") (Or.inl (own_hw hw 56 rfl)) Via.refl e11 F6 (g := (mkF m 17 #[.val (.ref x0), .val (.ref x1)] [(.ref x0), (.ref ea), (.ref x1), (.ref x0)])) rfl rfl (hb hby d9_17)
  refine Goes.to st12 ?_
  obtain ⟨cq13, q13a, q13b⟩ := F4.cell
  obtain ⟨_, _, ⟨T13, L13, k13, n13⟩, -, X13, ⟨Lc13, hQ13, l13, y13, z13⟩, st13⟩ := X12.privateBack hx (y := own_n11) hown (mvT hZ (own_hw hw 58 rfl)) (mvT hZ (own_hw hw 59 rfl)) (mvT hZ (own_hw hw 61 rfl)) (Cond.privateMethod_at (mvP (args := #[]) hZ (own_hw hw 60 rfl))) (mvT hZ (own_hw hw 62 rfl)) (by decide) (backOf (W := 0) (own_rmAH2 l Z a0 hw [] x0 x1 ea kE kk r1 r2 T2.heap n0 Z2 Pi0 F3 hco F4 F10 F6 F7 Pi7 F8 F9 Pi10) hZ (own_hw hw 62 rfl) (own_hw hw 7 rfl) (by decide) (by decide)) (g := (mkF m 20 #[.val (.ref x0), .val (.ref x1)] [(.int (2 : Int32)), (.ref ea), (.ref x1), (.ref x0)])) rfl (by rw [hml]; rfl) (Steps.refl _) (a := x0) (by rw [e12]; exact q13a) q13b (argsL := [(.ref x1), (.ref ea), (.int (2 : Int32))]) (rest := []) (lenOf own_pd_pLjavallanglObjectsaLjavallanglObjectsIqV rfl) rfl (own_W rfl rfl) (hb hby d9_20) (fun _ _ => ⟨rfl, e12, (by decide : 0 + 0 ≤ _), (by decide : 0 + 0 ≤ _)⟩)
  dsimp only [Pt.U, Pt.locs, Pt.cells, Pt.slots] at X13 l13 y13 z13 st13 hQ13
  subst l13 y13 z13
  obtain ⟨hv13, Nq13, Kq13, Qf13_0, Qf13_1, Qf13_2, Qf13_3, Qf13_4, Qf13_5, Qf13_6⟩ := hQ13
  have N13 := Fr.app N2 Nq13
  have Kc13 : Keep h0 T13.heap [x0, ea] := K2.trans Kq13 (allS (Or.inl (List.mem_of_getElem? (i := 0) rfl)) (allS (Or.inl (List.mem_of_getElem? (i := 1) rfl)) all0))
  subst hv13
  refine Goes.tr st13 ?_
  refine gx (XS.iconst X13.here hx rfl (hb hby d9_23)) ?_
  show Goes p.tables e below (T13.setTop (mkF m 24 #[.val (.ref x0), .val (.ref x1)] [(.int (1 : Int32))])) _
  obtain ⟨fs, hr, hrun, hended, hW, hsame⟩ := X13.leave (v := some (.int (1 : Int32))) (fun h => by rw [Bd.returns] at h; cases h)
  exact ⟨_, _, retN X13 hx (t := .boolean) Bd.returns (by simp) (hb hby d9_24) hr, hrun, hended, _, _, rfl, ⟨rfl, N13, (by show Keep h0 T13.heap [x0, ea]; exact Kc13), (by show Exa Z T13.heap x0 "java/util/ArrayList"; exact Qf13_0), (by show Fld Z T13.heap x0 "java/util/AbstractList" "modCount" "I" (.int (3 : Int32)); exact Qf13_1), (by show Fld Z T13.heap x0 "java/util/ArrayList" "size" "I" (.int (3 : Int32)); exact Qf13_2), (by show Fld Z T13.heap x0 "java/util/ArrayList" "elementData" "[Ljava/lang/Object;" (.ref ea); exact Qf13_3), (by show Exa Z T13.heap ea "[Ljava/lang/Object;"; exact Qf13_4), (by show Arv Z T13.heap ea kE (.object "java/lang/Object") (10 : Int32) [(.ref r1), (.ref r2), (.ref x1), .null, .null, .null, .null, .null, .null, .null] .null; exact Qf13_5), Qf13_6⟩, ⟨_, rfl⟩, hW, hsame.mono (by decide) (by decide)⟩

theorem d15_0 : decode jdk_38_method_9_code 0 = .ok (.aload_n 0, 1) := by decide +kernel
theorem d15_1 : decode jdk_38_method_9_code 1 = .ok (.getfield 48, 3) := by decide +kernel
theorem d15_4 : decode jdk_38_method_9_code 4 = .ok (.ifCond .ne 7, 3) := by decide +kernel
theorem d15_7 : decode jdk_38_method_9_code 7 = .ok (.iconst 1, 1) := by decide +kernel
theorem d15_8 : decode jdk_38_method_9_code 8 = .ok (.goto 4, 3) := by decide +kernel
theorem d15_11 : decode jdk_38_method_9_code 11 = .ok (.iconst 0, 1) := by decide +kernel
theorem d15_12 : decode jdk_38_method_9_code 12 = .ok (.ireturn, 1) := by decide +kernel
theorem own_pn_15 : plainName "java/util/ArrayList" = true := by first | (simp [plainName, overriddenIn]; done) | decide +kernel
theorem own_ef_own_rm15 (m : MethodId) (x0 : Addr) : entryFrame m #[(.ref x0)] 1 = mkF m 0 #[.val (.ref x0)] [] := by first | (simp [entryFrame, mkF, argsToLocals, Value.category]; done) | rfl
def own_Q_own_rm15 (Z : State) (x0 : Addr) (sz : Int32) (h0 : Heap) (n0 : Nat) (v : Option Value) (h : Heap) (L : List Loc) : Prop := v = some (.int (if sz = (0 : Int32) then (1 : Int32) else (0 : Int32))) ∧ Fr n0 L ∧ h = h0
abbrev own_r_own_rm15 : Room := ({ frames := 0, cells := 0, slots := 0, locals := 0 } : Room)

set_option maxRecDepth 65536 in
set_option maxHeartbeats 40000000 in
theorem own_rm15 (l : Launch) (Z : State) (a0 : Array Value) (hw : ∀ d ∈ tables_1, d.before a0 Z = true) (ws : List Jvm.Cond) (x0 : Addr) (sz : Int32) (h0 : Heap) (n0 : Nat) (Z0 : n0 ≤ h0.size) (Pi0 : Fld Z h0 x0 "java/util/ArrayList" "size" "I" (.int sz)) :
    MetFree l own_n13 (head1 (Jvm.Cond.code own_n13 jdk_38_method_9_code 1 (some .boolean) :: ws) own_r_own_rm15) (fun a U => a = #[(.ref x0)] ∧ Z.Warmed39 U.vm ∧ U.heap = h0) (fun _ _ _ _ _ => True) (fun _ U o U' => ∃ v L, o = .returned v ∧ own_Q_own_rm15 Z x0 sz h0 n0 v U'.heap L ∧ FrameEnd U o U' L own_r_own_rm15.cells own_r_own_rm15.slots) := by
  refine MetFree.of_bodySF (plainFor_of_name own_pn_15) hisR ?_
  intro p e s m args below meth c s₁ Bd hml0 hP hK
  obtain ⟨rfl, hZ, hh⟩ := hP
  have hx := Bd.exec
  have hby := Bd.bytes
  have hml : c.maxLocals = 1 := hml0
  have hown : s.vm.findClass "java/util/ArrayList" = some m.cls := findClass_of_methodNamed Bd.named
  have hnm := (name_of_methodNamed Bd.named Bd.method).1
  have X0 : Stand p l e own_r_own_rm15 s m #[(.ref x0)] below meth c s₁ [] 0 0 := Stand.of_body Bd
  have e0 : s₁.heap = h0 := by rw [← hh, Bd.state]; rfl
  have N0 := Fr.nil n0
  show Goes p.tables e below _ (own_R below s (own_Q_own_rm15 Z x0 sz h0 n0) own_r_own_rm15.cells own_r_own_rm15.slots)
  refine Goes.to (fun t k => castTop (own_ef_own_rm15 m x0) k) ?_
  refine gx (XS.aloadN X0.here hx rfl (hb hby d15_0) rfl rfl) ?_
  obtain ⟨T1, X1, e1, st1⟩ := getF X0 hx hZ hown (host := "") (Or.inl (own_hw hw 56 rfl)) Via.refl e0 Pi0 (g := (mkF m 1 #[.val (.ref x0)] [(.ref x0)])) rfl rfl (hb hby d15_1)
  refine Goes.to st1 ?_
  by_cases hc2 : sz = (0 : Int32)
  · refine gx (XS.ifNo X1.here hx rfl (hb hby d15_4) rfl ((if0 _ _).trans (teq hc2).2)) ?_
    refine gx (XS.iconst X1.here hx rfl (hb hby d15_7)) ?_
    refine gx (XS.goto X1.here hx rfl (pc0 := 8) (pc' := 12) rfl (hb hby d15_8) (by decide) (by decide)) ?_
    show Goes p.tables e below (T1.setTop (mkF m 12 #[.val (.ref x0)] [(.int (1 : Int32))])) _
    obtain ⟨fs, hr, hrun, hended, hW, hsame⟩ := X1.leave (v := some (.int (1 : Int32))) (fun h => by rw [Bd.returns] at h; cases h)
    have hv : (some (.int (1 : Int32)) : Option Value) = some (.int (if sz = (0 : Int32) then (1 : Int32) else (0 : Int32))) := by
      rw [if_pos hc2]
    exact ⟨_, _, retN X1 hx (t := .boolean) Bd.returns (by simp) (hb hby d15_12) hr, hrun, hended, _, _, rfl, ⟨hv, N0, e1⟩, ⟨_, rfl⟩, hW, hsame.mono (by decide) (by decide)⟩
  · refine gx (XS.ifYes X1.here hx rfl (pc0 := 4) (pc' := 11) rfl (hb hby d15_4) rfl ((if0 _ _).trans (feq hc2).2) (by decide) (by decide)) ?_
    refine gx (XS.iconst X1.here hx rfl (hb hby d15_11)) ?_
    show Goes p.tables e below (T1.setTop (mkF m 12 #[.val (.ref x0)] [(.int (0 : Int32))])) _
    obtain ⟨fs, hr, hrun, hended, hW, hsame⟩ := X1.leave (v := some (.int (0 : Int32))) (fun h => by rw [Bd.returns] at h; cases h)
    have hv : (some (.int (0 : Int32)) : Option Value) = some (.int (if sz = (0 : Int32) then (1 : Int32) else (0 : Int32))) := by
      rw [if_neg hc2]
    exact ⟨_, _, retN X1 hx (t := .boolean) Bd.returns (by simp) (hb hby d15_12) hr, hrun, hended, _, _, rfl, ⟨hv, N0, e1⟩, ⟨_, rfl⟩, hW, hsame.mono (by decide) (by decide)⟩

theorem d7_0 : decode prog_15_method_1_code 0 = .ok (.aload_n 0, 1) := by decide +kernel
theorem d7_1 : decode prog_15_method_1_code 1 = .ok (.invokespecial 1, 3) := by decide +kernel
theorem d7_4 : decode prog_15_method_1_code 4 = .ok (.iload_n 1, 1) := by decide +kernel
theorem d7_5 : decode prog_15_method_1_code 5 = .ok (.iconst 1, 1) := by decide +kernel
theorem d7_6 : decode prog_15_method_1_code 6 = .ok (.if_icmp .ge 13, 3) := by decide +kernel
theorem d7_19 : decode prog_15_method_1_code 19 = .ok (.aload_n 0, 1) := by decide +kernel
theorem d7_20 : decode prog_15_method_1_code 20 = .ok (.iload_n 1, 1) := by decide +kernel
theorem d7_21 : decode prog_15_method_1_code 21 = .ok (.putfield 14, 3) := by decide +kernel
theorem d7_24 : decode prog_15_method_1_code 24 = .ok (.return_, 1) := by decide +kernel
theorem own_pn_7 : plainName "com/example/wee_table/weetable/model/GcRule$MaxVersions" = true := by first | (simp [plainName, overriddenIn]; done) | decide +kernel
theorem own_ef_own_rm7 (m : MethodId) (x0 : Addr) (x1 : Int32) : entryFrame m #[(.ref x0), (.int x1)] 2 = mkF m 0 #[.val (.ref x0), .val (.int x1)] [] := by first | (simp [entryFrame, mkF, argsToLocals, Value.category]; done) | rfl
def own_Q_own_rm7 (Z : State) (x0 : Addr) (x1 : Int32)  (h0 : Heap) (n0 : Nat) (v : Option Value) (h : Heap) (L : List Loc) : Prop := v = none ∧ Fr n0 L ∧ Keep h0 h [x0] ∧ Exa Z h x0 "com/example/wee_table/weetable/model/GcRule$MaxVersions" ∧ Fld Z h x0 "com/example/wee_table/weetable/model/GcRule$MaxVersions" "count" "I" (.int x1)
abbrev own_r_own_rm7 : Room := ({ frames := 2, cells := 0, slots := 0, locals := 24 } : Room)

set_option maxRecDepth 65536 in
set_option maxHeartbeats 40000000 in
theorem own_rm7 (l : Launch) (Z : State) (a0 : Array Value) (hw : ∀ d ∈ tables_1, d.before a0 Z = true) (ws : List Jvm.Cond) (x0 : Addr) (x1 : Int32)  (h0 : Heap) (n0 : Nat) (Z0 : n0 ≤ h0.size) (E_x0 : Exa Z h0 x0 "com/example/wee_table/weetable/model/GcRule$MaxVersions") (g_x0 : n0 ≤ x0) (F_x0_0 : Fld Z h0 x0 "com/example/wee_table/weetable/model/GcRule$MaxVersions" "count" "I" (.int (0 : Int32))) (hge : ¬ (x1 < (1 : Int32))) :
    MetFree l own_n14 (head1 (Jvm.Cond.code own_n14 prog_15_method_1_code 2 none :: ws) own_r_own_rm7) (fun a U => a = #[(.ref x0), (.int x1)] ∧ Z.Warmed39 U.vm ∧ U.heap = h0) (fun _ _ _ _ _ => True) (fun _ U o U' => ∃ v L, o = .returned v ∧ own_Q_own_rm7 Z x0 x1 h0 n0 v U'.heap L ∧ FrameEnd U o U' L own_r_own_rm7.cells own_r_own_rm7.slots) := by
  refine MetFree.of_bodySF (plainFor_of_name own_pn_7) hisR ?_
  intro p e s m args below meth c s₁ Bd hml0 hP hK
  obtain ⟨rfl, hZ, hh⟩ := hP
  have hx := Bd.exec
  have hby := Bd.bytes
  have hml : c.maxLocals = 2 := hml0
  have hown : s.vm.findClass "com/example/wee_table/weetable/model/GcRule$MaxVersions" = some m.cls := findClass_of_methodNamed Bd.named
  have hnm := (name_of_methodNamed Bd.named Bd.method).1
  have X0 : Stand p l e own_r_own_rm7 s m #[(.ref x0), (.int x1)] below meth c s₁ [] 0 0 := Stand.of_body Bd
  have e0 : s₁.heap = h0 := by rw [← hh, Bd.state]; rfl
  have N0 := Fr.nil n0
  show Goes p.tables e below _ (own_R below s (own_Q_own_rm7 Z x0 x1 h0 n0) own_r_own_rm7.cells own_r_own_rm7.slots)
  refine Goes.to (fun t k => castTop (own_ef_own_rm7 m x0 x1) k) ?_
  refine gx (XS.aloadN X0.here hx rfl (hb hby d7_0) rfl rfl) ?_
  obtain ⟨_, _, ⟨T1, L1, k1, n1⟩, -, X1, ⟨Lc1, hQ1, l1, y1, z1⟩, st1⟩ := X0.specialBack hx (y := own_n4) rfl hown (mvT hZ (own_hw hw 41 rfl)) (mvT hZ (own_hw hw 42 rfl)) (mvT hZ (own_hw hw 45 rfl)) (by decide) (backOf (W := 0) (own_rm8 l Z a0 hw [] x0 h0 n0 Z0 ) hZ (own_hw hw 45 rfl) (own_hw hw 44 rfl) (by decide) (by decide)) (g := (mkF m 1 #[.val (.ref x0), .val (.int x1)] [(.ref x0)])) rfl (by rw [hml]; rfl) (Steps.refl _) (a := x0) (argsL := []) (rest := []) (lenOf own_pd_pqV rfl) rfl (own_W rfl rfl) (hb hby d7_1) (fun _ _ => ⟨rfl, e0, (by decide : 0 + 0 ≤ _), (by decide : 0 + 0 ≤ _)⟩)
  dsimp only [Pt.U, Pt.locs, Pt.cells, Pt.slots] at X1 l1 y1 z1 st1 hQ1
  subst l1 y1 z1
  obtain ⟨hv1, Nq1, hp1_0⟩ := hQ1
  have N1 := Fr.app N0 Nq1
  subst hv1
  refine Goes.tr st1 ?_
  refine gx (XS.iloadN X1.here hx rfl (hb hby d7_4) rfl) ?_
  refine gx (XS.iconst X1.here hx rfl (hb hby d7_5)) ?_
  refine gx (XS.icmpYes X1.here hx rfl (pc0 := 6) (pc' := 19) rfl (hb hby d7_6) rfl (flt hge).2.1 (by decide) (by decide)) ?_
  refine gx (XS.aloadN X1.here hx rfl (hb hby d7_19) rfl rfl) ?_
  show Goes p.tables e below (T1.setTop (mkF m 20 #[.val (.ref x0), .val (.int x1)] [(.ref x0)])) _
  refine gx (XS.iloadN X1.here hx rfl (hb hby d7_20) rfl) ?_
  obtain ⟨T2, h2, X2, e2, W2, st2⟩ := putF X1 hx hZ hown (host := "") (Or.inl (own_hw hw 47 rfl)) Via.refl hp1_0 F_x0_0 E_x0 (Or.inr ⟨(own_hw hw 48 rfl), rfl, hnm⟩) (own_hw hw 36 rfl) (ty := .int) (by decide) rfl rfl (g := (mkF m 21 #[.val (.ref x0), .val (.int x1)] [(.int x1), (.ref x0)])) rfl rfl (hb hby d7_21)
  subst e2
  have F3 := E_x0.wr W2
  have N2 := Fr.snoc X2 N1 g_x0
  have K2 : Keep h0 T2.heap [x0] := (Keep.refl h0 [x0]).wr W2 (Or.inl (List.mem_of_getElem? (i := 0) rfl))
  have F5 : Fld Z T2.heap x0 "com/example/wee_table/weetable/model/GcRule$MaxVersions" "count" "I" (.int x1) := F_x0_0.same W2
  refine Goes.to st2 ?_
  show Goes p.tables e below (T2.setTop (mkF m 24 #[.val (.ref x0), .val (.int x1)] [])) _
  obtain ⟨fs, hr, hrun, hended, hW, hsame⟩ := X2.leave (v := none) (fun _ => rfl)
  have hv : (none : Option Value) = none := by
    rfl
  exact ⟨_, _, X2.returnOut hx Bd.returns (hb hby d7_24) hr, hrun, hended, _, _, rfl, ⟨hv, N2, (by show Keep h0 T2.heap [x0]; exact K2), (by show Exa Z T2.heap x0 "com/example/wee_table/weetable/model/GcRule$MaxVersions"; exact F3), (by show Fld Z T2.heap x0 "com/example/wee_table/weetable/model/GcRule$MaxVersions" "count" "I" (.int x1); exact F5)⟩, ⟨_, rfl⟩, hW, hsame.mono (by decide) (by decide)⟩

theorem d6_0 : decode method_2_code 0 = .ok (.iload_n 0, 1) := by decide +kernel
theorem d6_1 : decode method_2_code 1 = .ok (.ifCond .eq 7, 3) := by decide +kernel
theorem d6_4 : decode method_2_code 4 = .ok (.getstatic 7, 3) := by decide +kernel
theorem d6_7 : decode method_2_code 7 = .ok (.areturn, 1) := by decide +kernel
theorem own_pn_6 : plainName "com/example/wee_table/weetable/model/IntersectionExpiresPinLaw" = true := by first | (simp [plainName, overriddenIn]; done) | decide +kernel
theorem own_ef_own_rmRU1 (m : MethodId) (x1 : Int32) : entryFrame m #[(.int (1 : Int32)), (.int x1)] 2 = mkF m 0 #[.val (.int (1 : Int32)), .val (.int x1)] [] := by first | (simp [entryFrame, mkF, argsToLocals, Value.category]; done) | rfl
def own_Q_own_rmRU1 (Z : State) (x1 : Int32) (aN : Addr) (h0 : Heap) (n0 : Nat) (v : Option Value) (h : Heap) (L : List Loc) : Prop := v = some (.ref aN) ∧ Fr n0 L ∧ h = h0
abbrev own_r_own_rmRU1 : Room := ({ frames := 0, cells := 0, slots := 0, locals := 0 } : Room)

set_option maxRecDepth 65536 in
set_option maxHeartbeats 40000000 in
theorem own_rmRU1 (l : Launch) (Z : State) (a0 : Array Value) (hw : ∀ d ∈ tables_1, d.before a0 Z = true) (ws : List Jvm.Cond) (x1 : Int32) (aN : Addr) (h0 : Heap) (n0 : Nat) (Z0 : n0 ≤ h0.size) (Pi0 : Sta Z h0 "com/example/wee_table/weetable/model/GcRule" "NONE" "Lcom/example/wee_table/weetable/model/GcRule;" (.ref aN)) :
    MetFree l own_n15 (head1 (Jvm.Cond.code own_n15 method_2_code 2 (some (.object "com/example/wee_table/weetable/model/GcRule")) :: ws) own_r_own_rmRU1) (fun a U => a = #[(.int (1 : Int32)), (.int x1)] ∧ Z.Warmed39 U.vm ∧ U.heap = h0) (fun _ _ _ _ _ => True) (fun _ U o U' => ∃ v L, o = .returned v ∧ own_Q_own_rmRU1 Z x1 aN h0 n0 v U'.heap L ∧ FrameEnd U o U' L own_r_own_rmRU1.cells own_r_own_rmRU1.slots) := by
  refine MetFree.of_bodySF (plainFor_of_name own_pn_6) hisR ?_
  intro p e s m args below meth c s₁ Bd hml0 hP hK
  obtain ⟨rfl, hZ, hh⟩ := hP
  have hx := Bd.exec
  have hby := Bd.bytes
  have hml : c.maxLocals = 2 := hml0
  have hown : s.vm.findClass "com/example/wee_table/weetable/model/IntersectionExpiresPinLaw" = some m.cls := findClass_of_methodNamed Bd.named
  have hnm := (name_of_methodNamed Bd.named Bd.method).1
  have X0 : Stand p l e own_r_own_rmRU1 s m #[(.int (1 : Int32)), (.int x1)] below meth c s₁ [] 0 0 := Stand.of_body Bd
  have e0 : s₁.heap = h0 := by rw [← hh, Bd.state]; rfl
  have N0 := Fr.nil n0
  show Goes p.tables e below _ (own_R below s (own_Q_own_rmRU1 Z x1 aN h0 n0) own_r_own_rmRU1.cells own_r_own_rmRU1.slots)
  refine Goes.to (fun t k => castTop (own_ef_own_rmRU1 m x1) k) ?_
  refine gx (XS.iloadN X0.here hx rfl (hb hby d6_0) rfl) ?_
  refine gx (XS.ifNo X0.here hx rfl (hb hby d6_1) rfl ((if0 _ _).trans (feq (by decide : ¬ ((1 : Int32) = (0 : Int32)))).1)) ?_
  obtain ⟨T1, X1, e1, st1⟩ := getS2 X0 hx hZ hown (host := "") (Or.inl (own_hw hw 263 rfl)) Via.refl e0 Pi0 (g := (mkF m 4 #[.val (.int (1 : Int32)), .val (.int x1)] [])) rfl (hb hby d6_4)
  refine Goes.to st1 ?_
  show Goes p.tables e below (T1.setTop (mkF m 7 #[.val (.int (1 : Int32)), .val (.int x1)] [(.ref aN)])) _
  obtain ⟨fs, hr, hrun, hended, hW, hsame⟩ := X1.leave (v := some (.ref aN)) (fun h => by rw [Bd.returns] at h; cases h)
  have hv : (some (.ref aN) : Option Value) = some (.ref aN) := by
    rfl
  exact ⟨_, _, retOut X1 hx Bd.returns rfl (Or.inr (Or.inr (Or.inr (Or.inr ⟨rfl, rfl, rfl⟩)))) (hb hby d6_7) hr, hrun, hended, _, _, rfl, ⟨hv, N0, e1⟩, ⟨_, rfl⟩, hW, hsame.mono (by decide) (by decide)⟩

theorem d6_8 : decode method_2_code 8 = .ok (.new 13, 3) := by decide +kernel
theorem d6_11 : decode method_2_code 11 = .ok (.dup, 1) := by decide +kernel
theorem d6_12 : decode method_2_code 12 = .ok (.iload_n 1, 1) := by decide +kernel
theorem d6_13 : decode method_2_code 13 = .ok (.invokespecial 15, 3) := by decide +kernel
theorem d6_16 : decode method_2_code 16 = .ok (.areturn, 1) := by decide +kernel
theorem own_pd_pIqV : parseMethodDescriptor "(I)V" = some ⟨[.int], none⟩ := by decide +kernel
theorem own_ef_own_rmRU0 (m : MethodId) (x1 : Int32) : entryFrame m #[(.int (0 : Int32)), (.int x1)] 2 = mkF m 0 #[.val (.int (0 : Int32)), .val (.int x1)] [] := by first | (simp [entryFrame, mkF, argsToLocals, Value.category]; done) | rfl
def own_Q_own_rmRU0 (Z : State) (x1 : Int32)  (h0 : Heap) (n0 : Nat) (v : Option Value) (h : Heap) (L : List Loc) : Prop := ∃ (ru : Addr), v = some (.ref ru) ∧ Fr n0 L ∧ h0.size ≤ ru ∧ Keep h0 h [] ∧ Exa Z h ru "com/example/wee_table/weetable/model/GcRule$MaxVersions" ∧ Fld Z h ru "com/example/wee_table/weetable/model/GcRule$MaxVersions" "count" "I" (.int x1)
abbrev own_r_own_rmRU0 : Room := ({ frames := 3, cells := 1, slots := 1, locals := 38 } : Room)

set_option maxRecDepth 65536 in
set_option maxHeartbeats 40000000 in
theorem own_rmRU0 (l : Launch) (Z : State) (a0 : Array Value) (hw : ∀ d ∈ tables_1, d.before a0 Z = true) (ws : List Jvm.Cond) (x1 : Int32)  (h0 : Heap) (n0 : Nat) (Z0 : n0 ≤ h0.size) (hge : ¬ (x1 < (1 : Int32))) :
    MetFree l own_n15 (head1 (Jvm.Cond.code own_n15 method_2_code 2 (some (.object "com/example/wee_table/weetable/model/GcRule")) :: ws) own_r_own_rmRU0) (fun a U => a = #[(.int (0 : Int32)), (.int x1)] ∧ Z.Warmed39 U.vm ∧ U.heap = h0) (fun _ _ _ _ _ => True) (fun _ U o U' => ∃ v L, o = .returned v ∧ own_Q_own_rmRU0 Z x1 h0 n0 v U'.heap L ∧ FrameEnd U o U' L own_r_own_rmRU0.cells own_r_own_rmRU0.slots) := by
  refine MetFree.of_bodySF (plainFor_of_name own_pn_6) hisR ?_
  intro p e s m args below meth c s₁ Bd hml0 hP hK
  obtain ⟨rfl, hZ, hh⟩ := hP
  have hx := Bd.exec
  have hby := Bd.bytes
  have hml : c.maxLocals = 2 := hml0
  have hown : s.vm.findClass "com/example/wee_table/weetable/model/IntersectionExpiresPinLaw" = some m.cls := findClass_of_methodNamed Bd.named
  have hnm := (name_of_methodNamed Bd.named Bd.method).1
  have X0 : Stand p l e own_r_own_rmRU0 s m #[(.int (0 : Int32)), (.int x1)] below meth c s₁ [] 0 0 := Stand.of_body Bd
  have e0 : s₁.heap = h0 := by rw [← hh, Bd.state]; rfl
  have N0 := Fr.nil n0
  show Goes p.tables e below _ (own_R below s (own_Q_own_rmRU0 Z x1 h0 n0) own_r_own_rmRU0.cells own_r_own_rmRU0.slots)
  refine Goes.to (fun t k => castTop (own_ef_own_rmRU0 m x1) k) ?_
  refine gx (XS.iloadN X0.here hx rfl (hb hby d6_0) rfl) ?_
  refine gx (XS.ifYes X0.here hx rfl (pc0 := 1) (pc' := 8) rfl (hb hby d6_1) rfl ((if0 _ _).trans (teq (by decide : (0 : Int32) = (0 : Int32))).1) (by decide) (by decide)) ?_
  obtain ⟨T1, h1, X1, e1, E1, A1, D1, -, st1⟩ := newO X0 hx hZ hown (own_hw hw 35 rfl) (own_hw hw 36 rfl) (own_hw hw 37 rfl) e0 (g := (mkF m 8 #[.val (.int (0 : Int32)), .val (.int x1)] [])) rfl (hb hby d6_8) (by decide) (by decide)
  obtain ⟨b1, g1⟩ : ∃ z, z = h0.size := ⟨_, rfl⟩
  rw [← g1] at A1 D1 st1
  subst e1
  have g_b1 : n0 ≤ b1 := Nat.le_trans Z0 (Nat.le_of_eq g1.symm)
  have Z1 : n0 ≤ T1.heap.size := Nat.le_trans Z0 E1.1
  have sz_b1 : h0.size ≤ b1 := Nat.le_trans (Keep.refl h0 []).1 (Nat.le_of_eq g1.symm)
  have K1 : Keep h0 T1.heap [] := (Keep.refl h0 []).ext E1
  have F2 : Fld Z T1.heap b1 "com/example/wee_table/weetable/model/GcRule$MaxVersions" "count" "I" (.int (0 : Int32)) := D1 (Or.inr (own_hw hw 48 rfl)) (ty := .int) (by decide)
  refine Goes.to st1 ?_
  refine gx (XS.dup X1.here hx rfl (hb hby d6_11) rfl rfl) ?_
  refine gx (XS.iloadN X1.here hx rfl (hb hby d6_12) rfl) ?_
  obtain ⟨_, _, ⟨T3, L3, k3, n3⟩, -, X3, ⟨Lc3, hQ3, l3, y3, z3⟩, st3⟩ := X1.specialBack hx (y := own_n14) rfl hown (mvT hZ (own_hw hw 38 rfl)) (mvT hZ (own_hw hw 39 rfl)) (mvT hZ (own_hw hw 40 rfl)) (by decide) (backOf (W := 1) (own_rm7 l Z a0 hw [] b1 x1 T1.heap n0 Z1 A1 g_b1 F2 hge) hZ (own_hw hw 40 rfl) (own_hw hw 37 rfl) (by decide) (by decide)) (g := (mkF m 13 #[.val (.int (0 : Int32)), .val (.int x1)] [(.int x1), (.ref b1), (.ref b1)])) rfl (by rw [hml]; rfl) (Steps.refl _) (a := b1) (argsL := [(.int x1)]) (rest := [(.ref b1)]) (lenOf own_pd_pIqV rfl) rfl (own_W rfl rfl) (hb hby d6_13) (fun _ _ => ⟨rfl, rfl, (by decide : 1 + 0 ≤ _), (by decide : 1 + 0 ≤ _)⟩)
  dsimp only [Pt.U, Pt.locs, Pt.cells, Pt.slots] at X3 l3 y3 z3 st3 hQ3
  subst l3 y3 z3
  obtain ⟨hv3, Nq3, hp3_0, hp3_1, hp3_2⟩ := hQ3
  have N3 := Fr.app N0 Nq3
  have Kc3 : Keep h0 T3.heap [] := K1.trans hp3_0 (allS (Or.inr sz_b1) all0)
  subst hv3
  refine Goes.tr st3 ?_
  show Goes p.tables e below (T3.setTop (mkF m 16 #[.val (.int (0 : Int32)), .val (.int x1)] [(.ref b1)])) _
  obtain ⟨fs, hr, hrun, hended, hW, hsame⟩ := X3.leave (v := some (.ref b1)) (fun h => by rw [Bd.returns] at h; cases h)
  exact ⟨_, _, retOut X3 hx Bd.returns rfl (Or.inr (Or.inr (Or.inr (Or.inr ⟨rfl, rfl, rfl⟩)))) (hb hby d6_16) hr, hrun, hended, _, _, rfl, ⟨b1, rfl, N3, sz_b1, (by show Keep h0 T3.heap []; exact Kc3), (by show Exa Z T3.heap b1 "com/example/wee_table/weetable/model/GcRule$MaxVersions"; exact hp3_1), (by show Fld Z T3.heap b1 "com/example/wee_table/weetable/model/GcRule$MaxVersions" "count" "I" (.int x1); exact hp3_2)⟩, ⟨_, rfl⟩, hW, hsame.mono (by decide) (by decide)⟩

theorem d34_0 : decode prog_15_method_2_code 0 = .ok (.iload_n 1, 1) := by decide +kernel
theorem d34_1 : decode prog_15_method_2_code 1 = .ok (.aload_n 0, 1) := by decide +kernel
theorem d34_2 : decode prog_15_method_2_code 2 = .ok (.getfield 14, 3) := by decide +kernel
theorem d34_5 : decode prog_15_method_2_code 5 = .ok (.if_icmp .lt 7, 3) := by decide +kernel
theorem d34_8 : decode prog_15_method_2_code 8 = .ok (.iconst 1, 1) := by decide +kernel
theorem d34_9 : decode prog_15_method_2_code 9 = .ok (.goto 4, 3) := by decide +kernel
theorem d34_12 : decode prog_15_method_2_code 12 = .ok (.iconst 0, 1) := by decide +kernel
theorem d34_13 : decode prog_15_method_2_code 13 = .ok (.ireturn, 1) := by decide +kernel
theorem own_pn_34 : plainName "com/example/wee_table/weetable/model/GcRule$MaxVersions" = true := by first | (simp [plainName, overriddenIn]; done) | decide +kernel
theorem own_ef_own_rm34 (m : MethodId) (x0 : Addr) (x1 : Int32) (x2 : Int64) (x3 : Int64) : entryFrame m #[(.ref x0), (.int x1), (.long x2), (.long x3)] 6 = mkF m 0 #[.val (.ref x0), .val (.int x1), .val (.long x2), .second, .val (.long x3), .second] [] := by first | (simp [entryFrame, mkF, argsToLocals, Value.category]; done) | rfl
def own_Q_own_rm34 (Z : State) (x0 : Addr) (x1 : Int32) (x2 : Int64) (x3 : Int64) (cc : Int32) (h0 : Heap) (n0 : Nat) (v : Option Value) (h : Heap) (L : List Loc) : Prop := v = some (.int (if x1 < cc then (0 : Int32) else (1 : Int32))) ∧ Fr n0 L ∧ h = h0
abbrev own_r_own_rm34 : Room := ({ frames := 0, cells := 0, slots := 0, locals := 0 } : Room)

set_option maxRecDepth 65536 in
set_option maxHeartbeats 40000000 in
theorem own_rm34 (l : Launch) (Z : State) (a0 : Array Value) (hw : ∀ d ∈ tables_1, d.before a0 Z = true) (ws : List Jvm.Cond) (x0 : Addr) (x1 : Int32) (x2 : Int64) (x3 : Int64) (cc : Int32) (h0 : Heap) (n0 : Nat) (Z0 : n0 ≤ h0.size) (Pi0 : Fld Z h0 x0 "com/example/wee_table/weetable/model/GcRule$MaxVersions" "count" "I" (.int cc)) :
    MetFree l own_n16 (head1 (Jvm.Cond.code own_n16 prog_15_method_2_code 6 (some .boolean) :: ws) own_r_own_rm34) (fun a U => a = #[(.ref x0), (.int x1), (.long x2), (.long x3)] ∧ Z.Warmed39 U.vm ∧ U.heap = h0) (fun _ _ _ _ _ => True) (fun _ U o U' => ∃ v L, o = .returned v ∧ own_Q_own_rm34 Z x0 x1 x2 x3 cc h0 n0 v U'.heap L ∧ FrameEnd U o U' L own_r_own_rm34.cells own_r_own_rm34.slots) := by
  refine MetFree.of_bodySF (plainFor_of_name own_pn_34) hisR ?_
  intro p e s m args below meth c s₁ Bd hml0 hP hK
  obtain ⟨rfl, hZ, hh⟩ := hP
  have hx := Bd.exec
  have hby := Bd.bytes
  have hml : c.maxLocals = 6 := hml0
  have hown : s.vm.findClass "com/example/wee_table/weetable/model/GcRule$MaxVersions" = some m.cls := findClass_of_methodNamed Bd.named
  have hnm := (name_of_methodNamed Bd.named Bd.method).1
  have X0 : Stand p l e own_r_own_rm34 s m #[(.ref x0), (.int x1), (.long x2), (.long x3)] below meth c s₁ [] 0 0 := Stand.of_body Bd
  have e0 : s₁.heap = h0 := by rw [← hh, Bd.state]; rfl
  have N0 := Fr.nil n0
  show Goes p.tables e below _ (own_R below s (own_Q_own_rm34 Z x0 x1 x2 x3 cc h0 n0) own_r_own_rm34.cells own_r_own_rm34.slots)
  refine Goes.to (fun t k => castTop (own_ef_own_rm34 m x0 x1 x2 x3) k) ?_
  refine gx (XS.iloadN X0.here hx rfl (hb hby d34_0) rfl) ?_
  refine gx (XS.aloadN X0.here hx rfl (hb hby d34_1) rfl rfl) ?_
  obtain ⟨T1, X1, e1, st1⟩ := getF X0 hx hZ hown (host := "") (Or.inl (own_hw hw 47 rfl)) Via.refl e0 Pi0 (g := (mkF m 2 #[.val (.ref x0), .val (.int x1), .val (.long x2), .second, .val (.long x3), .second] [(.ref x0), (.int x1)])) rfl rfl (hb hby d34_2)
  refine Goes.to st1 ?_
  by_cases hc2 : x1 < cc
  · refine gx (XS.icmpYes X1.here hx rfl (pc0 := 5) (pc' := 12) rfl (hb hby d34_5) rfl (tlt hc2).1 (by decide) (by decide)) ?_
    refine gx (XS.iconst X1.here hx rfl (hb hby d34_12)) ?_
    show Goes p.tables e below (T1.setTop (mkF m 13 #[.val (.ref x0), .val (.int x1), .val (.long x2), .second, .val (.long x3), .second] [(.int (0 : Int32))])) _
    obtain ⟨fs, hr, hrun, hended, hW, hsame⟩ := X1.leave (v := some (.int (0 : Int32))) (fun h => by rw [Bd.returns] at h; cases h)
    have hv : (some (.int (0 : Int32)) : Option Value) = some (.int (if x1 < cc then (0 : Int32) else (1 : Int32))) := by
      rw [if_pos hc2]
    exact ⟨_, _, retN X1 hx (t := .boolean) Bd.returns (by simp) (hb hby d34_13) hr, hrun, hended, _, _, rfl, ⟨hv, N0, e1⟩, ⟨_, rfl⟩, hW, hsame.mono (by decide) (by decide)⟩
  · refine gx (XS.icmpNo X1.here hx rfl (hb hby d34_5) rfl (flt hc2).1) ?_
    refine gx (XS.iconst X1.here hx rfl (hb hby d34_8)) ?_
    refine gx (XS.goto X1.here hx rfl (pc0 := 9) (pc' := 13) rfl (hb hby d34_9) (by decide) (by decide)) ?_
    show Goes p.tables e below (T1.setTop (mkF m 13 #[.val (.ref x0), .val (.int x1), .val (.long x2), .second, .val (.long x3), .second] [(.int (1 : Int32))])) _
    obtain ⟨fs, hr, hrun, hended, hW, hsame⟩ := X1.leave (v := some (.int (1 : Int32))) (fun h => by rw [Bd.returns] at h; cases h)
    have hv : (some (.int (1 : Int32)) : Option Value) = some (.int (if x1 < cc then (0 : Int32) else (1 : Int32))) := by
      rw [if_neg hc2]
    exact ⟨_, _, retN X1 hx (t := .boolean) Bd.returns (by simp) (hb hby d34_13) hr, hrun, hended, _, _, rfl, ⟨hv, N0, e1⟩, ⟨_, rfl⟩, hW, hsame.mono (by decide) (by decide)⟩

theorem d37_0 : decode prog_16_method_2_code 0 = .ok (.iconst 0, 1) := by decide +kernel
theorem d37_1 : decode prog_16_method_2_code 1 = .ok (.ireturn, 1) := by decide +kernel
theorem own_pn_37 : plainName "com/example/wee_table/weetable/model/GcRule$None" = true := by first | (simp [plainName, overriddenIn]; done) | decide +kernel
theorem own_ef_own_rm37 (m : MethodId) (x0 : Addr) (x1 : Int32) (x2 : Int64) (x3 : Int64) : entryFrame m #[(.ref x0), (.int x1), (.long x2), (.long x3)] 6 = mkF m 0 #[.val (.ref x0), .val (.int x1), .val (.long x2), .second, .val (.long x3), .second] [] := by first | (simp [entryFrame, mkF, argsToLocals, Value.category]; done) | rfl
def own_Q_own_rm37 (Z : State) (x0 : Addr) (x1 : Int32) (x2 : Int64) (x3 : Int64)  (h0 : Heap) (n0 : Nat) (v : Option Value) (h : Heap) (L : List Loc) : Prop := v = some (.int (0 : Int32)) ∧ Fr n0 L ∧ h = h0
abbrev own_r_own_rm37 : Room := ({ frames := 0, cells := 0, slots := 0, locals := 0 } : Room)

set_option maxRecDepth 65536 in
set_option maxHeartbeats 40000000 in
theorem own_rm37 (l : Launch) (Z : State) (a0 : Array Value) (hw : ∀ d ∈ tables_1, d.before a0 Z = true) (ws : List Jvm.Cond) (x0 : Addr) (x1 : Int32) (x2 : Int64) (x3 : Int64)  (h0 : Heap) (n0 : Nat) (Z0 : n0 ≤ h0.size)  :
    MetFree l own_n17 (head1 (Jvm.Cond.code own_n17 prog_16_method_2_code 6 (some .boolean) :: ws) own_r_own_rm37) (fun a U => a = #[(.ref x0), (.int x1), (.long x2), (.long x3)] ∧ Z.Warmed39 U.vm ∧ U.heap = h0) (fun _ _ _ _ _ => True) (fun _ U o U' => ∃ v L, o = .returned v ∧ own_Q_own_rm37 Z x0 x1 x2 x3 h0 n0 v U'.heap L ∧ FrameEnd U o U' L own_r_own_rm37.cells own_r_own_rm37.slots) := by
  refine MetFree.of_bodySF (plainFor_of_name own_pn_37) hisR ?_
  intro p e s m args below meth c s₁ Bd hml0 hP hK
  obtain ⟨rfl, hZ, hh⟩ := hP
  have hx := Bd.exec
  have hby := Bd.bytes
  have hml : c.maxLocals = 6 := hml0
  have hown : s.vm.findClass "com/example/wee_table/weetable/model/GcRule$None" = some m.cls := findClass_of_methodNamed Bd.named
  have hnm := (name_of_methodNamed Bd.named Bd.method).1
  have X0 : Stand p l e own_r_own_rm37 s m #[(.ref x0), (.int x1), (.long x2), (.long x3)] below meth c s₁ [] 0 0 := Stand.of_body Bd
  have e0 : s₁.heap = h0 := by rw [← hh, Bd.state]; rfl
  have N0 := Fr.nil n0
  show Goes p.tables e below _ (own_R below s (own_Q_own_rm37 Z x0 x1 x2 x3 h0 n0) own_r_own_rm37.cells own_r_own_rm37.slots)
  refine Goes.to (fun t k => castTop (own_ef_own_rm37 m x0 x1 x2 x3) k) ?_
  refine gx (XS.iconst X0.here hx rfl (hb hby d37_0)) ?_
  show Goes p.tables e below (s₁.setTop (mkF m 1 #[.val (.ref x0), .val (.int x1), .val (.long x2), .second, .val (.long x3), .second] [(.int (0 : Int32))])) _
  obtain ⟨fs, hr, hrun, hended, hW, hsame⟩ := X0.leave (v := some (.int (0 : Int32))) (fun h => by rw [Bd.returns] at h; cases h)
  have hv : (some (.int (0 : Int32)) : Option Value) = some (.int (0 : Int32)) := by
    rfl
  exact ⟨_, _, retN X0 hx (t := .boolean) Bd.returns (by simp) (hb hby d37_1) hr, hrun, hended, _, _, rfl, ⟨hv, N0, e0⟩, ⟨_, rfl⟩, hW, hsame.mono (by decide) (by decide)⟩

theorem d35_0 : decode method_3_code 0 = .ok (.iload_n 0, 1) := by decide +kernel
theorem d35_1 : decode method_3_code 1 = .ok (.ifCond .eq 5, 3) := by decide +kernel
theorem d35_4 : decode method_3_code 4 = .ok (.iconst 0, 1) := by decide +kernel
theorem d35_5 : decode method_3_code 5 = .ok (.ireturn, 1) := by decide +kernel
theorem own_pn_35 : plainName "com/example/wee_table/weetable/model/IntersectionExpiresPinLaw" = true := by first | (simp [plainName, overriddenIn]; done) | decide +kernel
theorem own_ef_own_rmRF1 (m : MethodId) (x1 : Int32) (x2 : Int32) : entryFrame m #[(.int (1 : Int32)), (.int x1), (.int x2)] 3 = mkF m 0 #[.val (.int (1 : Int32)), .val (.int x1), .val (.int x2)] [] := by first | (simp [entryFrame, mkF, argsToLocals, Value.category]; done) | rfl
def own_Q_own_rmRF1 (Z : State) (x1 : Int32) (x2 : Int32)  (h0 : Heap) (n0 : Nat) (v : Option Value) (h : Heap) (L : List Loc) : Prop := v = some (.int (0 : Int32)) ∧ Fr n0 L ∧ h = h0
abbrev own_r_own_rmRF1 : Room := ({ frames := 0, cells := 0, slots := 0, locals := 0 } : Room)

set_option maxRecDepth 65536 in
set_option maxHeartbeats 40000000 in
theorem own_rmRF1 (l : Launch) (Z : State) (a0 : Array Value) (hw : ∀ d ∈ tables_1, d.before a0 Z = true) (ws : List Jvm.Cond) (x1 : Int32) (x2 : Int32)  (h0 : Heap) (n0 : Nat) (Z0 : n0 ≤ h0.size)  :
    MetFree l own_n18 (head1 (Jvm.Cond.code own_n18 method_3_code 3 (some .boolean) :: ws) own_r_own_rmRF1) (fun a U => a = #[(.int (1 : Int32)), (.int x1), (.int x2)] ∧ Z.Warmed39 U.vm ∧ U.heap = h0) (fun _ _ _ _ _ => True) (fun _ U o U' => ∃ v L, o = .returned v ∧ own_Q_own_rmRF1 Z x1 x2 h0 n0 v U'.heap L ∧ FrameEnd U o U' L own_r_own_rmRF1.cells own_r_own_rmRF1.slots) := by
  refine MetFree.of_bodySF (plainFor_of_name own_pn_35) hisR ?_
  intro p e s m args below meth c s₁ Bd hml0 hP hK
  obtain ⟨rfl, hZ, hh⟩ := hP
  have hx := Bd.exec
  have hby := Bd.bytes
  have hml : c.maxLocals = 3 := hml0
  have hown : s.vm.findClass "com/example/wee_table/weetable/model/IntersectionExpiresPinLaw" = some m.cls := findClass_of_methodNamed Bd.named
  have hnm := (name_of_methodNamed Bd.named Bd.method).1
  have X0 : Stand p l e own_r_own_rmRF1 s m #[(.int (1 : Int32)), (.int x1), (.int x2)] below meth c s₁ [] 0 0 := Stand.of_body Bd
  have e0 : s₁.heap = h0 := by rw [← hh, Bd.state]; rfl
  have N0 := Fr.nil n0
  show Goes p.tables e below _ (own_R below s (own_Q_own_rmRF1 Z x1 x2 h0 n0) own_r_own_rmRF1.cells own_r_own_rmRF1.slots)
  refine Goes.to (fun t k => castTop (own_ef_own_rmRF1 m x1 x2) k) ?_
  refine gx (XS.iloadN X0.here hx rfl (hb hby d35_0) rfl) ?_
  refine gx (XS.ifNo X0.here hx rfl (hb hby d35_1) rfl ((if0 _ _).trans (feq (by decide : ¬ ((1 : Int32) = (0 : Int32)))).1)) ?_
  refine gx (XS.iconst X0.here hx rfl (hb hby d35_4)) ?_
  show Goes p.tables e below (s₁.setTop (mkF m 5 #[.val (.int (1 : Int32)), .val (.int x1), .val (.int x2)] [(.int (0 : Int32))])) _
  obtain ⟨fs, hr, hrun, hended, hW, hsame⟩ := X0.leave (v := some (.int (0 : Int32))) (fun h => by rw [Bd.returns] at h; cases h)
  have hv : (some (.int (0 : Int32)) : Option Value) = some (.int (0 : Int32)) := by
    rfl
  exact ⟨_, _, retN X0 hx (t := .boolean) Bd.returns (by simp) (hb hby d35_5) hr, hrun, hended, _, _, rfl, ⟨hv, N0, e0⟩, ⟨_, rfl⟩, hW, hsame.mono (by decide) (by decide)⟩

theorem d35_6 : decode method_3_code 6 = .ok (.iload_n 2, 1) := by decide +kernel
theorem d35_7 : decode method_3_code 7 = .ok (.iload_n 1, 1) := by decide +kernel
theorem d35_8 : decode method_3_code 8 = .ok (.if_icmp .lt 7, 3) := by decide +kernel
theorem d35_11 : decode method_3_code 11 = .ok (.iconst 1, 1) := by decide +kernel
theorem d35_12 : decode method_3_code 12 = .ok (.goto 4, 3) := by decide +kernel
theorem d35_15 : decode method_3_code 15 = .ok (.iconst 0, 1) := by decide +kernel
theorem d35_16 : decode method_3_code 16 = .ok (.ireturn, 1) := by decide +kernel
theorem own_ef_own_rmRF0 (m : MethodId) (x1 : Int32) (x2 : Int32) : entryFrame m #[(.int (0 : Int32)), (.int x1), (.int x2)] 3 = mkF m 0 #[.val (.int (0 : Int32)), .val (.int x1), .val (.int x2)] [] := by first | (simp [entryFrame, mkF, argsToLocals, Value.category]; done) | rfl
def own_Q_own_rmRF0 (Z : State) (x1 : Int32) (x2 : Int32)  (h0 : Heap) (n0 : Nat) (v : Option Value) (h : Heap) (L : List Loc) : Prop := v = some (.int (if x2 < x1 then (0 : Int32) else (1 : Int32))) ∧ Fr n0 L ∧ h = h0
abbrev own_r_own_rmRF0 : Room := ({ frames := 0, cells := 0, slots := 0, locals := 0 } : Room)

set_option maxRecDepth 65536 in
set_option maxHeartbeats 40000000 in
theorem own_rmRF0 (l : Launch) (Z : State) (a0 : Array Value) (hw : ∀ d ∈ tables_1, d.before a0 Z = true) (ws : List Jvm.Cond) (x1 : Int32) (x2 : Int32)  (h0 : Heap) (n0 : Nat) (Z0 : n0 ≤ h0.size)  :
    MetFree l own_n18 (head1 (Jvm.Cond.code own_n18 method_3_code 3 (some .boolean) :: ws) own_r_own_rmRF0) (fun a U => a = #[(.int (0 : Int32)), (.int x1), (.int x2)] ∧ Z.Warmed39 U.vm ∧ U.heap = h0) (fun _ _ _ _ _ => True) (fun _ U o U' => ∃ v L, o = .returned v ∧ own_Q_own_rmRF0 Z x1 x2 h0 n0 v U'.heap L ∧ FrameEnd U o U' L own_r_own_rmRF0.cells own_r_own_rmRF0.slots) := by
  refine MetFree.of_bodySF (plainFor_of_name own_pn_35) hisR ?_
  intro p e s m args below meth c s₁ Bd hml0 hP hK
  obtain ⟨rfl, hZ, hh⟩ := hP
  have hx := Bd.exec
  have hby := Bd.bytes
  have hml : c.maxLocals = 3 := hml0
  have hown : s.vm.findClass "com/example/wee_table/weetable/model/IntersectionExpiresPinLaw" = some m.cls := findClass_of_methodNamed Bd.named
  have hnm := (name_of_methodNamed Bd.named Bd.method).1
  have X0 : Stand p l e own_r_own_rmRF0 s m #[(.int (0 : Int32)), (.int x1), (.int x2)] below meth c s₁ [] 0 0 := Stand.of_body Bd
  have e0 : s₁.heap = h0 := by rw [← hh, Bd.state]; rfl
  have N0 := Fr.nil n0
  show Goes p.tables e below _ (own_R below s (own_Q_own_rmRF0 Z x1 x2 h0 n0) own_r_own_rmRF0.cells own_r_own_rmRF0.slots)
  refine Goes.to (fun t k => castTop (own_ef_own_rmRF0 m x1 x2) k) ?_
  refine gx (XS.iloadN X0.here hx rfl (hb hby d35_0) rfl) ?_
  refine gx (XS.ifYes X0.here hx rfl (pc0 := 1) (pc' := 6) rfl (hb hby d35_1) rfl ((if0 _ _).trans (teq (by decide : (0 : Int32) = (0 : Int32))).1) (by decide) (by decide)) ?_
  refine gx (XS.iloadN X0.here hx rfl (hb hby d35_6) rfl) ?_
  refine gx (XS.iloadN X0.here hx rfl (hb hby d35_7) rfl) ?_
  by_cases hc1 : x2 < x1
  · refine gx (XS.icmpYes X0.here hx rfl (pc0 := 8) (pc' := 15) rfl (hb hby d35_8) rfl (tlt hc1).1 (by decide) (by decide)) ?_
    show Goes p.tables e below (s₁.setTop (mkF m 15 #[.val (.int (0 : Int32)), .val (.int x1), .val (.int x2)] [])) _
    refine gx (XS.iconst X0.here hx rfl (hb hby d35_15)) ?_
    show Goes p.tables e below (s₁.setTop (mkF m 16 #[.val (.int (0 : Int32)), .val (.int x1), .val (.int x2)] [(.int (0 : Int32))])) _
    obtain ⟨fs, hr, hrun, hended, hW, hsame⟩ := X0.leave (v := some (.int (0 : Int32))) (fun h => by rw [Bd.returns] at h; cases h)
    have hv : (some (.int (0 : Int32)) : Option Value) = some (.int (if x2 < x1 then (0 : Int32) else (1 : Int32))) := by
      rw [if_pos hc1]
    exact ⟨_, _, retN X0 hx (t := .boolean) Bd.returns (by simp) (hb hby d35_16) hr, hrun, hended, _, _, rfl, ⟨hv, N0, e0⟩, ⟨_, rfl⟩, hW, hsame.mono (by decide) (by decide)⟩
  · refine gx (XS.icmpNo X0.here hx rfl (hb hby d35_8) rfl (flt hc1).1) ?_
    show Goes p.tables e below (s₁.setTop (mkF m 11 #[.val (.int (0 : Int32)), .val (.int x1), .val (.int x2)] [])) _
    refine gx (XS.iconst X0.here hx rfl (hb hby d35_11)) ?_
    refine gx (XS.goto X0.here hx rfl (pc0 := 12) (pc' := 16) rfl (hb hby d35_12) (by decide) (by decide)) ?_
    show Goes p.tables e below (s₁.setTop (mkF m 16 #[.val (.int (0 : Int32)), .val (.int x1), .val (.int x2)] [(.int (1 : Int32))])) _
    obtain ⟨fs, hr, hrun, hended, hW, hsame⟩ := X0.leave (v := some (.int (1 : Int32))) (fun h => by rw [Bd.returns] at h; cases h)
    have hv : (some (.int (1 : Int32)) : Option Value) = some (.int (if x2 < x1 then (0 : Int32) else (1 : Int32))) := by
      rw [if_neg hc1]
    exact ⟨_, _, retN X0 hx (t := .boolean) Bd.returns (by simp) (hb hby d35_16) hr, hrun, hended, _, _, rfl, ⟨hv, N0, e0⟩, ⟨_, rfl⟩, hW, hsame.mono (by decide) (by decide)⟩

theorem d20_0 : decode jdk_65_method_120_code 0 = .ok (.aload_n 2, 1) := by decide +kernel
theorem d20_1 : decode jdk_65_method_120_code 1 = .ok (.ldc 110, 2) := by decide +kernel
theorem d20_3 : decode jdk_65_method_120_code 3 = .ok (.if_acmp .ne 10, 3) := by decide +kernel
theorem d20_6 : decode jdk_65_method_120_code 6 = .ok (.iload_n 1, 1) := by decide +kernel
theorem d20_7 : decode jdk_65_method_120_code 7 = .ok (.anewarray 2, 3) := by decide +kernel
theorem d20_10 : decode jdk_65_method_120_code 10 = .ok (.goto 14, 3) := by decide +kernel
theorem d20_24 : decode jdk_65_method_120_code 24 = .ok (.astore_n 3, 1) := by decide +kernel
theorem d20_25 : decode jdk_65_method_120_code 25 = .ok (.aload_n 0, 1) := by decide +kernel
theorem d20_26 : decode jdk_65_method_120_code 26 = .ok (.iconst 0, 1) := by decide +kernel
theorem d20_27 : decode jdk_65_method_120_code 27 = .ok (.aload_n 3, 1) := by decide +kernel
theorem d20_28 : decode jdk_65_method_120_code 28 = .ok (.iconst 0, 1) := by decide +kernel
theorem d20_29 : decode jdk_65_method_120_code 29 = .ok (.aload_n 0, 1) := by decide +kernel
theorem d20_30 : decode jdk_65_method_120_code 30 = .ok (.arraylength, 1) := by decide +kernel
theorem d20_31 : decode jdk_65_method_120_code 31 = .ok (.iload_n 1, 1) := by decide +kernel
theorem d20_32 : decode jdk_65_method_120_code 32 = .ok (.invokestatic 304, 3) := by decide +kernel
theorem d20_35 : decode jdk_65_method_120_code 35 = .ok (.invokestatic 150, 3) := by decide +kernel
theorem d20_38 : decode jdk_65_method_120_code 38 = .ok (.aload_n 3, 1) := by decide +kernel
theorem d20_39 : decode jdk_65_method_120_code 39 = .ok (.areturn, 1) := by decide +kernel
theorem own_pn_20 : plainName "java/util/Arrays" = true := by first | (simp [plainName, overriddenIn]; done) | decide +kernel
theorem own_ef_own_rmCC1 (m : MethodId) (x0 : Addr) (x2 : Addr) : entryFrame m #[(.ref x0), (.int (1 : Int32)), (.ref x2)] 4 = mkF m 0 #[.val (.ref x0), .val (.int (1 : Int32)), .val (.ref x2), .unset] [] := by first | (simp [entryFrame, mkF, argsToLocals, Value.category]; done) | rfl
def own_Q_own_rmCC1 (Z : State) (x0 : Addr) (x2 : Addr) (kE : ClassId) (r1 : Addr) (kk1 : String) (h0 : Heap) (n0 : Nat) (v : Option Value) (h : Heap) (L : List Loc) : Prop := ∃ (ca : Addr) (kC : ClassId), v = some (.ref ca) ∧ Fr n0 L ∧ h0.size ≤ ca ∧ Keep h0 h [] ∧ Exa Z h ca "[Ljava/lang/Object;" ∧ Arv Z h ca kC (.object "java/lang/Object") (1 : Int32) [(.ref r1)] .null ∧ Ovr Z kC "java/lang/Object"
abbrev own_r_own_rmCC1 : Room := ({ frames := 1, cells := 1, slots := 1, locals := 18 } : Room)

set_option maxRecDepth 65536 in
set_option maxHeartbeats 40000000 in
theorem own_rmCC1 (l : Launch) (Z : State) (a0 : Array Value) (hw : ∀ d ∈ tables_1, d.before a0 Z = true) (ws : List Jvm.Cond) (x0 : Addr) (x2 : Addr) (kE : ClassId) (r1 : Addr) (kk1 : String) (h0 : Heap) (n0 : Nat) (Z0 : n0 ≤ h0.size) (Pi0 : Exa Z h0 x0 "[Ljava/lang/Object;") (Pi1 : Arv Z h0 x0 kE (.object "java/lang/Object") (10 : Int32) [(.ref r1), .null, .null, .null, .null, .null, .null, .null, .null, .null] .null) (Pi2 : Exa Z h0 r1 kk1) (hco1 : (Cond.castable kk1 "java/lang/Object").before a0 Z = true) (Mr : (Term.mirror "[Ljava/lang/Object;").eval #[] Z none [] Z = some (.ref x2)) :
    MetFree l own_n19 (head1 (Jvm.Cond.code own_n19 jdk_65_method_120_code 4 (some (.array (.object "java/lang/Object"))) :: ws) own_r_own_rmCC1) (fun a U => a = #[(.ref x0), (.int (1 : Int32)), (.ref x2)] ∧ Z.Warmed39 U.vm ∧ U.heap = h0) (fun _ _ _ _ _ => True) (fun _ U o U' => ∃ v L, o = .returned v ∧ own_Q_own_rmCC1 Z x0 x2 kE r1 kk1 h0 n0 v U'.heap L ∧ FrameEnd U o U' L own_r_own_rmCC1.cells own_r_own_rmCC1.slots) := by
  refine MetFree.of_bodySF (plainFor_of_name own_pn_20) hisR ?_
  intro p e s m args below meth c s₁ Bd hml0 hP hK
  obtain ⟨rfl, hZ, hh⟩ := hP
  have hx := Bd.exec
  have hby := Bd.bytes
  have hml : c.maxLocals = 4 := hml0
  have hown : s.vm.findClass "java/util/Arrays" = some m.cls := findClass_of_methodNamed Bd.named
  have hnm := (name_of_methodNamed Bd.named Bd.method).1
  have X0 : Stand p l e own_r_own_rmCC1 s m #[(.ref x0), (.int (1 : Int32)), (.ref x2)] below meth c s₁ [] 0 0 := Stand.of_body Bd
  have e0 : s₁.heap = h0 := by rw [← hh, Bd.state]; rfl
  have N0 := Fr.nil n0
  show Goes p.tables e below _ (own_R below s (own_Q_own_rmCC1 Z x0 x2 kE r1 kk1 h0 n0) own_r_own_rmCC1.cells own_r_own_rmCC1.slots)
  refine Goes.to (fun t k => castTop (own_ef_own_rmCC1 m x0 x2) k) ?_
  refine gx (XS.aloadN X0.here hx rfl (hb hby d20_0) rfl rfl) ?_
  obtain ⟨T1, X1, e1, st1⟩ := own_ldcM X0 hx hZ hown (own_hw hw 145 rfl) e0 Mr (g := (mkF m 1 #[.val (.ref x0), .val (.int (1 : Int32)), .val (.ref x2), .unset] [(.ref x2)])) rfl (hb hby d20_1)
  refine Goes.to st1 ?_
  refine gx (Jvm.RoadKit.acmp (g := (mkF m 3 #[.val (.ref x0), .val (.int (1 : Int32)), .val (.ref x2), .unset] [(.ref x2), (.ref x2)])) X1 hx rfl rfl rfl (pc0 := 3) (pc' := 6) (same := true) rfl (hb hby d20_3) rfl (decide_eq_true rfl) (by decide) (by decide)) ?_
  refine gx (XS.iloadN X1.here hx rfl (hb hby d20_6) rfl) ?_
  obtain ⟨T2, h2, k2, X2, e2, E2, A2, Ex2, O2, st2⟩ := newRE X1 hx hZ hown (own_hw hw 146 rfl) (own_hw hw 75 rfl) e1 (g := (mkF m 7 #[.val (.ref x0), .val (.int (1 : Int32)), .val (.ref x2), .unset] [(.int (1 : Int32))])) rfl (hb hby d20_7) rfl (by decide) (cap := 1) (by decide) (by decide) (by decide) (by decide) (ad := "[Ljava/lang/Object;") (by decide)
  obtain ⟨b2, g2⟩ : ∃ z, z = h0.size := ⟨_, rfl⟩
  rw [← g2] at A2 Ex2 st2
  subst e2
  have F6 := Pi1.ext E2
  have F7 := Pi2.ext E2
  have g_b2 : n0 ≤ b2 := Nat.le_trans Z0 (Nat.le_of_eq g2.symm)
  have Z2 : n0 ≤ T2.heap.size := Nat.le_trans Z0 E2.1
  have sz_b2 : h0.size ≤ b2 := Nat.le_trans (Keep.refl h0 []).1 (Nat.le_of_eq g2.symm)
  have K2 : Keep h0 T2.heap [] := (Keep.refl h0 []).ext E2
  have V2 : Arv Z T2.heap b2 k2 (.object "java/lang/Object") (1 : Int32) [.null] .null := (Arv.new A2 (by decide)).pad (pad_rep [] .null 1)
  refine Goes.to st2 ?_
  refine gx (XS.goto X2.here hx rfl (pc0 := 10) (pc' := 24) rfl (hb hby d20_10) (by decide) (by decide)) ?_
  refine gx (XS.astoreN X2.here hx rfl (hb hby d20_24) rfl rfl (l' := #[.val (.ref x0), .val (.int (1 : Int32)), .val (.ref x2), .val (.ref b2)]) rfl) ?_
  refine gx (XS.aloadN X2.here hx rfl (hb hby d20_25) rfl rfl) ?_
  refine gx (XS.iconst X2.here hx rfl (hb hby d20_26)) ?_
  show Goes p.tables e below (T2.setTop (mkF m 27 #[.val (.ref x0), .val (.int (1 : Int32)), .val (.ref x2), .val (.ref b2)] [(.int (0 : Int32)), (.ref x0)])) _
  refine gx (XS.aloadN X2.here hx rfl (hb hby d20_27) rfl rfl) ?_
  refine gx (XS.iconst X2.here hx rfl (hb hby d20_28)) ?_
  refine gx (XS.aloadN X2.here hx rfl (hb hby d20_29) rfl rfl) ?_
  obtain ⟨cl8, Ar8, -, S8, N8, -, -⟩ := id F6
  refine Goes.to (fun _ k => X2.arraylength hx Ar8.1 (State.isArrayOf_alike hZ.alike Ar8.2.1) (g := (mkF m 30 #[.val (.ref x0), .val (.int (1 : Int32)), .val (.ref x2), .val (.ref b2)] [(.ref x0), (.int (0 : Int32)), (.ref b2), (.int (0 : Int32)), (.ref x0)])) rfl rfl (hb hby d20_30) _ k) ?_
  rw [len_of S8 N8]
  refine gx (XS.iloadN X2.here hx rfl (hb hby d20_31) rfl) ?_
  obtain ⟨_, _, ⟨T9, L9, k9, n9⟩, -, X9, ⟨Lc9, hQ9, l9, y9, z9⟩, st9⟩ := Jvm.LawKit.callS X2 hx (y := own_n1) hown (mvT hZ (own_hw hw 147 rfl)) (mvT hZ (own_hw hw 148 rfl)) (mvT hZ (own_hw hw 3 rfl)) (mvT hZ (own_hw hw 149 rfl)) (by decide) (backOf (W := 4) (own_rm21 l Z a0 hw [] (10 : Int32) (1 : Int32) T2.heap n0 Z2 ) hZ (own_hw hw 149 rfl) (own_hw hw 3 rfl) (by decide) (by decide)) (g := (mkF m 32 #[.val (.ref x0), .val (.int (1 : Int32)), .val (.ref x2), .val (.ref b2)] [(.int (1 : Int32)), (.int (10 : Int32)), (.int (0 : Int32)), (.ref b2), (.int (0 : Int32)), (.ref x0)])) rfl (by rw [hml]; rfl) (argsL := [(.int (10 : Int32)), (.int (1 : Int32))]) (rest := [(.int (0 : Int32)), (.ref b2), (.int (0 : Int32)), (.ref x0)]) (lenOf own_pd_pIIqI rfl) rfl (own_W rfl rfl) (hb hby d20_32) (fun _ _ => ⟨rfl, rfl, (by decide : 1 + 0 ≤ _), (by decide : 1 + 0 ≤ _)⟩)
  dsimp only [Pt.U, Pt.locs, Pt.cells, Pt.slots] at X9 l9 y9 z9 st9 hQ9
  subst l9 y9 z9
  obtain ⟨hv9, Nq9, hp9_0⟩ := hQ9
  have N9 := Fr.app N0 Nq9
  rw [show own_min (10 : Int32) (1 : Int32) = (1 : Int32) from by decide] at hv9
  subst hv9
  refine Goes.to st9 ?_
  obtain ⟨cl10, Ar10, q10, -, -, -, -⟩ := id V2
  obtain ⟨T11, h11, L11, X11, e11, N11, K11, V11, st11⟩ := cpA X9 hx hZ hown (own_hw hw 150 rfl) (own_hw hw 153 rfl) (own_hw hw 151 rfl) (own_hw hw 152 rfl) hp9_0 (sp := (0 : Int32)) (dp := (0 : Int32)) (nn := (1 : Int32)) (us := [(.ref r1)]) F6 V2 (Or.inr ⟨rfl, rfl, ⟨(Sto.ofV Ar10 q10 O2 (Ins.of_exa F7 hco1)), trivial⟩⟩) (by decide) (by decide) (by decide) (by decide) (by decide) rfl (by decide) N9 g_b2 (g := (mkF m 35 #[.val (.ref x0), .val (.int (1 : Int32)), .val (.ref x2), .val (.ref b2)] [(.int (1 : Int32)), (.int (0 : Int32)), (.ref b2), (.int (0 : Int32)), (.ref x0)])) rfl (by rw [hml]; rfl) rfl (hb hby d20_35) (by decide) (W := 0) (own_W rfl rfl) (by decide)
  subst e11
  have F15 := Ex2.keep K11
  have Kc11 : Keep h0 T11.heap [] := K2.trans K11 (allS (Or.inr sz_b2) all0)
  replace V11 : Arv Z T11.heap b2 k2 (.object "java/lang/Object") (1 : Int32) [(.ref r1)] .null := V11
  refine Goes.to st11 ?_
  refine gx (XS.aloadN X11.here hx rfl (hb hby d20_38) rfl rfl) ?_
  show Goes p.tables e below (T11.setTop (mkF m 39 #[.val (.ref x0), .val (.int (1 : Int32)), .val (.ref x2), .val (.ref b2)] [(.ref b2)])) _
  obtain ⟨fs, hr, hrun, hended, hW, hsame⟩ := X11.leave (v := some (.ref b2)) (fun h => by rw [Bd.returns] at h; cases h)
  exact ⟨_, _, retOut X11 hx Bd.returns rfl (Or.inr (Or.inr (Or.inr (Or.inr ⟨rfl, rfl, rfl⟩)))) (hb hby d20_39) hr, hrun, hended, _, _, rfl, ⟨b2, k2, rfl, N11, sz_b2, (by show Keep h0 T11.heap []; exact Kc11), (by show Exa Z T11.heap b2 "[Ljava/lang/Object;"; exact F15), (by show Arv Z T11.heap b2 k2 (.object "java/lang/Object") (1 : Int32) [(.ref r1)] .null; exact V11), O2⟩, ⟨_, rfl⟩, hW, hsame.mono (by decide) (by decide)⟩

theorem own_ef_own_rmCC2 (m : MethodId) (x0 : Addr) (x2 : Addr) : entryFrame m #[(.ref x0), (.int (2 : Int32)), (.ref x2)] 4 = mkF m 0 #[.val (.ref x0), .val (.int (2 : Int32)), .val (.ref x2), .unset] [] := by first | (simp [entryFrame, mkF, argsToLocals, Value.category]; done) | rfl
def own_Q_own_rmCC2 (Z : State) (x0 : Addr) (x2 : Addr) (kE : ClassId) (r1 : Addr) (r2 : Addr) (kk1 : String) (kk2 : String) (h0 : Heap) (n0 : Nat) (v : Option Value) (h : Heap) (L : List Loc) : Prop := ∃ (ca : Addr) (kC : ClassId), v = some (.ref ca) ∧ Fr n0 L ∧ h0.size ≤ ca ∧ Keep h0 h [] ∧ Exa Z h ca "[Ljava/lang/Object;" ∧ Arv Z h ca kC (.object "java/lang/Object") (2 : Int32) [(.ref r1), (.ref r2)] .null ∧ Ovr Z kC "java/lang/Object"
abbrev own_r_own_rmCC2 : Room := ({ frames := 1, cells := 1, slots := 2, locals := 18 } : Room)

set_option maxRecDepth 65536 in
set_option maxHeartbeats 40000000 in
theorem own_rmCC2 (l : Launch) (Z : State) (a0 : Array Value) (hw : ∀ d ∈ tables_1, d.before a0 Z = true) (ws : List Jvm.Cond) (x0 : Addr) (x2 : Addr) (kE : ClassId) (r1 : Addr) (r2 : Addr) (kk1 : String) (kk2 : String) (h0 : Heap) (n0 : Nat) (Z0 : n0 ≤ h0.size) (Pi0 : Exa Z h0 x0 "[Ljava/lang/Object;") (Pi1 : Arv Z h0 x0 kE (.object "java/lang/Object") (10 : Int32) [(.ref r1), (.ref r2), .null, .null, .null, .null, .null, .null, .null, .null] .null) (Pi2 : Exa Z h0 r1 kk1) (hco1 : (Cond.castable kk1 "java/lang/Object").before a0 Z = true) (Pi4 : Exa Z h0 r2 kk2) (hco2 : (Cond.castable kk2 "java/lang/Object").before a0 Z = true) (Mr : (Term.mirror "[Ljava/lang/Object;").eval #[] Z none [] Z = some (.ref x2)) :
    MetFree l own_n19 (head1 (Jvm.Cond.code own_n19 jdk_65_method_120_code 4 (some (.array (.object "java/lang/Object"))) :: ws) own_r_own_rmCC2) (fun a U => a = #[(.ref x0), (.int (2 : Int32)), (.ref x2)] ∧ Z.Warmed39 U.vm ∧ U.heap = h0) (fun _ _ _ _ _ => True) (fun _ U o U' => ∃ v L, o = .returned v ∧ own_Q_own_rmCC2 Z x0 x2 kE r1 r2 kk1 kk2 h0 n0 v U'.heap L ∧ FrameEnd U o U' L own_r_own_rmCC2.cells own_r_own_rmCC2.slots) := by
  refine MetFree.of_bodySF (plainFor_of_name own_pn_20) hisR ?_
  intro p e s m args below meth c s₁ Bd hml0 hP hK
  obtain ⟨rfl, hZ, hh⟩ := hP
  have hx := Bd.exec
  have hby := Bd.bytes
  have hml : c.maxLocals = 4 := hml0
  have hown : s.vm.findClass "java/util/Arrays" = some m.cls := findClass_of_methodNamed Bd.named
  have hnm := (name_of_methodNamed Bd.named Bd.method).1
  have X0 : Stand p l e own_r_own_rmCC2 s m #[(.ref x0), (.int (2 : Int32)), (.ref x2)] below meth c s₁ [] 0 0 := Stand.of_body Bd
  have e0 : s₁.heap = h0 := by rw [← hh, Bd.state]; rfl
  have N0 := Fr.nil n0
  show Goes p.tables e below _ (own_R below s (own_Q_own_rmCC2 Z x0 x2 kE r1 r2 kk1 kk2 h0 n0) own_r_own_rmCC2.cells own_r_own_rmCC2.slots)
  refine Goes.to (fun t k => castTop (own_ef_own_rmCC2 m x0 x2) k) ?_
  refine gx (XS.aloadN X0.here hx rfl (hb hby d20_0) rfl rfl) ?_
  obtain ⟨T1, X1, e1, st1⟩ := own_ldcM X0 hx hZ hown (own_hw hw 145 rfl) e0 Mr (g := (mkF m 1 #[.val (.ref x0), .val (.int (2 : Int32)), .val (.ref x2), .unset] [(.ref x2)])) rfl (hb hby d20_1)
  refine Goes.to st1 ?_
  refine gx (Jvm.RoadKit.acmp (g := (mkF m 3 #[.val (.ref x0), .val (.int (2 : Int32)), .val (.ref x2), .unset] [(.ref x2), (.ref x2)])) X1 hx rfl rfl rfl (pc0 := 3) (pc' := 6) (same := true) rfl (hb hby d20_3) rfl (decide_eq_true rfl) (by decide) (by decide)) ?_
  refine gx (XS.iloadN X1.here hx rfl (hb hby d20_6) rfl) ?_
  obtain ⟨T2, h2, k2, X2, e2, E2, A2, Ex2, O2, st2⟩ := newRE X1 hx hZ hown (own_hw hw 146 rfl) (own_hw hw 75 rfl) e1 (g := (mkF m 7 #[.val (.ref x0), .val (.int (2 : Int32)), .val (.ref x2), .unset] [(.int (2 : Int32))])) rfl (hb hby d20_7) rfl (by decide) (cap := 2) (by decide) (by decide) (by decide) (by decide) (ad := "[Ljava/lang/Object;") (by decide)
  obtain ⟨b2, g2⟩ : ∃ z, z = h0.size := ⟨_, rfl⟩
  rw [← g2] at A2 Ex2 st2
  subst e2
  have F7 := Pi1.ext E2
  have F8 := Pi2.ext E2
  have F9 := Pi4.ext E2
  have g_b2 : n0 ≤ b2 := Nat.le_trans Z0 (Nat.le_of_eq g2.symm)
  have Z2 : n0 ≤ T2.heap.size := Nat.le_trans Z0 E2.1
  have sz_b2 : h0.size ≤ b2 := Nat.le_trans (Keep.refl h0 []).1 (Nat.le_of_eq g2.symm)
  have K2 : Keep h0 T2.heap [] := (Keep.refl h0 []).ext E2
  have V2 : Arv Z T2.heap b2 k2 (.object "java/lang/Object") (2 : Int32) [.null, .null] .null := (Arv.new A2 (by decide)).pad (pad_rep [] .null 2)
  refine Goes.to st2 ?_
  refine gx (XS.goto X2.here hx rfl (pc0 := 10) (pc' := 24) rfl (hb hby d20_10) (by decide) (by decide)) ?_
  refine gx (XS.astoreN X2.here hx rfl (hb hby d20_24) rfl rfl (l' := #[.val (.ref x0), .val (.int (2 : Int32)), .val (.ref x2), .val (.ref b2)]) rfl) ?_
  refine gx (XS.aloadN X2.here hx rfl (hb hby d20_25) rfl rfl) ?_
  refine gx (XS.iconst X2.here hx rfl (hb hby d20_26)) ?_
  show Goes p.tables e below (T2.setTop (mkF m 27 #[.val (.ref x0), .val (.int (2 : Int32)), .val (.ref x2), .val (.ref b2)] [(.int (0 : Int32)), (.ref x0)])) _
  refine gx (XS.aloadN X2.here hx rfl (hb hby d20_27) rfl rfl) ?_
  refine gx (XS.iconst X2.here hx rfl (hb hby d20_28)) ?_
  refine gx (XS.aloadN X2.here hx rfl (hb hby d20_29) rfl rfl) ?_
  obtain ⟨cl10, Ar10, -, S10, N10, -, -⟩ := id F7
  refine Goes.to (fun _ k => X2.arraylength hx Ar10.1 (State.isArrayOf_alike hZ.alike Ar10.2.1) (g := (mkF m 30 #[.val (.ref x0), .val (.int (2 : Int32)), .val (.ref x2), .val (.ref b2)] [(.ref x0), (.int (0 : Int32)), (.ref b2), (.int (0 : Int32)), (.ref x0)])) rfl rfl (hb hby d20_30) _ k) ?_
  rw [len_of S10 N10]
  refine gx (XS.iloadN X2.here hx rfl (hb hby d20_31) rfl) ?_
  obtain ⟨_, _, ⟨T11, L11, k11, n11⟩, -, X11, ⟨Lc11, hQ11, l11, y11, z11⟩, st11⟩ := Jvm.LawKit.callS X2 hx (y := own_n1) hown (mvT hZ (own_hw hw 147 rfl)) (mvT hZ (own_hw hw 148 rfl)) (mvT hZ (own_hw hw 3 rfl)) (mvT hZ (own_hw hw 149 rfl)) (by decide) (backOf (W := 4) (own_rm21 l Z a0 hw [] (10 : Int32) (2 : Int32) T2.heap n0 Z2 ) hZ (own_hw hw 149 rfl) (own_hw hw 3 rfl) (by decide) (by decide)) (g := (mkF m 32 #[.val (.ref x0), .val (.int (2 : Int32)), .val (.ref x2), .val (.ref b2)] [(.int (2 : Int32)), (.int (10 : Int32)), (.int (0 : Int32)), (.ref b2), (.int (0 : Int32)), (.ref x0)])) rfl (by rw [hml]; rfl) (argsL := [(.int (10 : Int32)), (.int (2 : Int32))]) (rest := [(.int (0 : Int32)), (.ref b2), (.int (0 : Int32)), (.ref x0)]) (lenOf own_pd_pIIqI rfl) rfl (own_W rfl rfl) (hb hby d20_32) (fun _ _ => ⟨rfl, rfl, (by decide : 1 + 0 ≤ _), (by decide : 2 + 0 ≤ _)⟩)
  dsimp only [Pt.U, Pt.locs, Pt.cells, Pt.slots] at X11 l11 y11 z11 st11 hQ11
  subst l11 y11 z11
  obtain ⟨hv11, Nq11, hp11_0⟩ := hQ11
  have N11 := Fr.app N0 Nq11
  rw [show own_min (10 : Int32) (2 : Int32) = (2 : Int32) from by decide] at hv11
  subst hv11
  refine Goes.to st11 ?_
  obtain ⟨cl12, Ar12, q12, -, -, -, -⟩ := id V2
  obtain ⟨T13, h13, L13, X13, e13, N13, K13, V13, st13⟩ := cpA X11 hx hZ hown (own_hw hw 150 rfl) (own_hw hw 153 rfl) (own_hw hw 151 rfl) (own_hw hw 152 rfl) hp11_0 (sp := (0 : Int32)) (dp := (0 : Int32)) (nn := (2 : Int32)) (us := [(.ref r1), (.ref r2)]) F7 V2 (Or.inr ⟨rfl, rfl, ⟨(Sto.ofV Ar12 q12 O2 (Ins.of_exa F8 hco1)), (Sto.ofV Ar12 q12 O2 (Ins.of_exa F9 hco2)), trivial⟩⟩) (by decide) (by decide) (by decide) (by decide) (by decide) rfl (by decide) N11 g_b2 (g := (mkF m 35 #[.val (.ref x0), .val (.int (2 : Int32)), .val (.ref x2), .val (.ref b2)] [(.int (2 : Int32)), (.int (0 : Int32)), (.ref b2), (.int (0 : Int32)), (.ref x0)])) rfl (by rw [hml]; rfl) rfl (hb hby d20_35) (by decide) (W := 0) (own_W rfl rfl) (by decide)
  subst e13
  have F18 := Ex2.keep K13
  have Kc13 : Keep h0 T13.heap [] := K2.trans K13 (allS (Or.inr sz_b2) all0)
  replace V13 : Arv Z T13.heap b2 k2 (.object "java/lang/Object") (2 : Int32) [(.ref r1), (.ref r2)] .null := V13
  refine Goes.to st13 ?_
  refine gx (XS.aloadN X13.here hx rfl (hb hby d20_38) rfl rfl) ?_
  show Goes p.tables e below (T13.setTop (mkF m 39 #[.val (.ref x0), .val (.int (2 : Int32)), .val (.ref x2), .val (.ref b2)] [(.ref b2)])) _
  obtain ⟨fs, hr, hrun, hended, hW, hsame⟩ := X13.leave (v := some (.ref b2)) (fun h => by rw [Bd.returns] at h; cases h)
  exact ⟨_, _, retOut X13 hx Bd.returns rfl (Or.inr (Or.inr (Or.inr (Or.inr ⟨rfl, rfl, rfl⟩)))) (hb hby d20_39) hr, hrun, hended, _, _, rfl, ⟨b2, k2, rfl, N13, sz_b2, (by show Keep h0 T13.heap []; exact Kc13), (by show Exa Z T13.heap b2 "[Ljava/lang/Object;"; exact F18), (by show Arv Z T13.heap b2 k2 (.object "java/lang/Object") (2 : Int32) [(.ref r1), (.ref r2)] .null; exact V13), O2⟩, ⟨_, rfl⟩, hW, hsame.mono (by decide) (by decide)⟩

theorem own_ef_own_rmCC3 (m : MethodId) (x0 : Addr) (x2 : Addr) : entryFrame m #[(.ref x0), (.int (3 : Int32)), (.ref x2)] 4 = mkF m 0 #[.val (.ref x0), .val (.int (3 : Int32)), .val (.ref x2), .unset] [] := by first | (simp [entryFrame, mkF, argsToLocals, Value.category]; done) | rfl
def own_Q_own_rmCC3 (Z : State) (x0 : Addr) (x2 : Addr) (kE : ClassId) (r1 : Addr) (r2 : Addr) (r3 : Addr) (kk1 : String) (kk2 : String) (kk3 : String) (h0 : Heap) (n0 : Nat) (v : Option Value) (h : Heap) (L : List Loc) : Prop := ∃ (ca : Addr) (kC : ClassId), v = some (.ref ca) ∧ Fr n0 L ∧ h0.size ≤ ca ∧ Keep h0 h [] ∧ Exa Z h ca "[Ljava/lang/Object;" ∧ Arv Z h ca kC (.object "java/lang/Object") (3 : Int32) [(.ref r1), (.ref r2), (.ref r3)] .null ∧ Ovr Z kC "java/lang/Object"
abbrev own_r_own_rmCC3 : Room := ({ frames := 1, cells := 1, slots := 3, locals := 18 } : Room)

set_option maxRecDepth 65536 in
set_option maxHeartbeats 40000000 in
theorem own_rmCC3 (l : Launch) (Z : State) (a0 : Array Value) (hw : ∀ d ∈ tables_1, d.before a0 Z = true) (ws : List Jvm.Cond) (x0 : Addr) (x2 : Addr) (kE : ClassId) (r1 : Addr) (r2 : Addr) (r3 : Addr) (kk1 : String) (kk2 : String) (kk3 : String) (h0 : Heap) (n0 : Nat) (Z0 : n0 ≤ h0.size) (Pi0 : Exa Z h0 x0 "[Ljava/lang/Object;") (Pi1 : Arv Z h0 x0 kE (.object "java/lang/Object") (10 : Int32) [(.ref r1), (.ref r2), (.ref r3), .null, .null, .null, .null, .null, .null, .null] .null) (Pi2 : Exa Z h0 r1 kk1) (hco1 : (Cond.castable kk1 "java/lang/Object").before a0 Z = true) (Pi4 : Exa Z h0 r2 kk2) (hco2 : (Cond.castable kk2 "java/lang/Object").before a0 Z = true) (Pi6 : Exa Z h0 r3 kk3) (hco3 : (Cond.castable kk3 "java/lang/Object").before a0 Z = true) (Mr : (Term.mirror "[Ljava/lang/Object;").eval #[] Z none [] Z = some (.ref x2)) :
    MetFree l own_n19 (head1 (Jvm.Cond.code own_n19 jdk_65_method_120_code 4 (some (.array (.object "java/lang/Object"))) :: ws) own_r_own_rmCC3) (fun a U => a = #[(.ref x0), (.int (3 : Int32)), (.ref x2)] ∧ Z.Warmed39 U.vm ∧ U.heap = h0) (fun _ _ _ _ _ => True) (fun _ U o U' => ∃ v L, o = .returned v ∧ own_Q_own_rmCC3 Z x0 x2 kE r1 r2 r3 kk1 kk2 kk3 h0 n0 v U'.heap L ∧ FrameEnd U o U' L own_r_own_rmCC3.cells own_r_own_rmCC3.slots) := by
  refine MetFree.of_bodySF (plainFor_of_name own_pn_20) hisR ?_
  intro p e s m args below meth c s₁ Bd hml0 hP hK
  obtain ⟨rfl, hZ, hh⟩ := hP
  have hx := Bd.exec
  have hby := Bd.bytes
  have hml : c.maxLocals = 4 := hml0
  have hown : s.vm.findClass "java/util/Arrays" = some m.cls := findClass_of_methodNamed Bd.named
  have hnm := (name_of_methodNamed Bd.named Bd.method).1
  have X0 : Stand p l e own_r_own_rmCC3 s m #[(.ref x0), (.int (3 : Int32)), (.ref x2)] below meth c s₁ [] 0 0 := Stand.of_body Bd
  have e0 : s₁.heap = h0 := by rw [← hh, Bd.state]; rfl
  have N0 := Fr.nil n0
  show Goes p.tables e below _ (own_R below s (own_Q_own_rmCC3 Z x0 x2 kE r1 r2 r3 kk1 kk2 kk3 h0 n0) own_r_own_rmCC3.cells own_r_own_rmCC3.slots)
  refine Goes.to (fun t k => castTop (own_ef_own_rmCC3 m x0 x2) k) ?_
  refine gx (XS.aloadN X0.here hx rfl (hb hby d20_0) rfl rfl) ?_
  obtain ⟨T1, X1, e1, st1⟩ := own_ldcM X0 hx hZ hown (own_hw hw 145 rfl) e0 Mr (g := (mkF m 1 #[.val (.ref x0), .val (.int (3 : Int32)), .val (.ref x2), .unset] [(.ref x2)])) rfl (hb hby d20_1)
  refine Goes.to st1 ?_
  refine gx (Jvm.RoadKit.acmp (g := (mkF m 3 #[.val (.ref x0), .val (.int (3 : Int32)), .val (.ref x2), .unset] [(.ref x2), (.ref x2)])) X1 hx rfl rfl rfl (pc0 := 3) (pc' := 6) (same := true) rfl (hb hby d20_3) rfl (decide_eq_true rfl) (by decide) (by decide)) ?_
  refine gx (XS.iloadN X1.here hx rfl (hb hby d20_6) rfl) ?_
  obtain ⟨T2, h2, k2, X2, e2, E2, A2, Ex2, O2, st2⟩ := newRE X1 hx hZ hown (own_hw hw 146 rfl) (own_hw hw 75 rfl) e1 (g := (mkF m 7 #[.val (.ref x0), .val (.int (3 : Int32)), .val (.ref x2), .unset] [(.int (3 : Int32))])) rfl (hb hby d20_7) rfl (by decide) (cap := 3) (by decide) (by decide) (by decide) (by decide) (ad := "[Ljava/lang/Object;") (by decide)
  obtain ⟨b2, g2⟩ : ∃ z, z = h0.size := ⟨_, rfl⟩
  rw [← g2] at A2 Ex2 st2
  subst e2
  have F8 := Pi1.ext E2
  have F9 := Pi2.ext E2
  have F10 := Pi4.ext E2
  have F11 := Pi6.ext E2
  have g_b2 : n0 ≤ b2 := Nat.le_trans Z0 (Nat.le_of_eq g2.symm)
  have Z2 : n0 ≤ T2.heap.size := Nat.le_trans Z0 E2.1
  have sz_b2 : h0.size ≤ b2 := Nat.le_trans (Keep.refl h0 []).1 (Nat.le_of_eq g2.symm)
  have K2 : Keep h0 T2.heap [] := (Keep.refl h0 []).ext E2
  have V2 : Arv Z T2.heap b2 k2 (.object "java/lang/Object") (3 : Int32) [.null, .null, .null] .null := (Arv.new A2 (by decide)).pad (pad_rep [] .null 3)
  refine Goes.to st2 ?_
  refine gx (XS.goto X2.here hx rfl (pc0 := 10) (pc' := 24) rfl (hb hby d20_10) (by decide) (by decide)) ?_
  refine gx (XS.astoreN X2.here hx rfl (hb hby d20_24) rfl rfl (l' := #[.val (.ref x0), .val (.int (3 : Int32)), .val (.ref x2), .val (.ref b2)]) rfl) ?_
  refine gx (XS.aloadN X2.here hx rfl (hb hby d20_25) rfl rfl) ?_
  refine gx (XS.iconst X2.here hx rfl (hb hby d20_26)) ?_
  show Goes p.tables e below (T2.setTop (mkF m 27 #[.val (.ref x0), .val (.int (3 : Int32)), .val (.ref x2), .val (.ref b2)] [(.int (0 : Int32)), (.ref x0)])) _
  refine gx (XS.aloadN X2.here hx rfl (hb hby d20_27) rfl rfl) ?_
  refine gx (XS.iconst X2.here hx rfl (hb hby d20_28)) ?_
  refine gx (XS.aloadN X2.here hx rfl (hb hby d20_29) rfl rfl) ?_
  obtain ⟨cl12, Ar12, -, S12, N12, -, -⟩ := id F8
  refine Goes.to (fun _ k => X2.arraylength hx Ar12.1 (State.isArrayOf_alike hZ.alike Ar12.2.1) (g := (mkF m 30 #[.val (.ref x0), .val (.int (3 : Int32)), .val (.ref x2), .val (.ref b2)] [(.ref x0), (.int (0 : Int32)), (.ref b2), (.int (0 : Int32)), (.ref x0)])) rfl rfl (hb hby d20_30) _ k) ?_
  rw [len_of S12 N12]
  refine gx (XS.iloadN X2.here hx rfl (hb hby d20_31) rfl) ?_
  obtain ⟨_, _, ⟨T13, L13, k13, n13⟩, -, X13, ⟨Lc13, hQ13, l13, y13, z13⟩, st13⟩ := Jvm.LawKit.callS X2 hx (y := own_n1) hown (mvT hZ (own_hw hw 147 rfl)) (mvT hZ (own_hw hw 148 rfl)) (mvT hZ (own_hw hw 3 rfl)) (mvT hZ (own_hw hw 149 rfl)) (by decide) (backOf (W := 4) (own_rm21 l Z a0 hw [] (10 : Int32) (3 : Int32) T2.heap n0 Z2 ) hZ (own_hw hw 149 rfl) (own_hw hw 3 rfl) (by decide) (by decide)) (g := (mkF m 32 #[.val (.ref x0), .val (.int (3 : Int32)), .val (.ref x2), .val (.ref b2)] [(.int (3 : Int32)), (.int (10 : Int32)), (.int (0 : Int32)), (.ref b2), (.int (0 : Int32)), (.ref x0)])) rfl (by rw [hml]; rfl) (argsL := [(.int (10 : Int32)), (.int (3 : Int32))]) (rest := [(.int (0 : Int32)), (.ref b2), (.int (0 : Int32)), (.ref x0)]) (lenOf own_pd_pIIqI rfl) rfl (own_W rfl rfl) (hb hby d20_32) (fun _ _ => ⟨rfl, rfl, (by decide : 1 + 0 ≤ _), (by decide : 3 + 0 ≤ _)⟩)
  dsimp only [Pt.U, Pt.locs, Pt.cells, Pt.slots] at X13 l13 y13 z13 st13 hQ13
  subst l13 y13 z13
  obtain ⟨hv13, Nq13, hp13_0⟩ := hQ13
  have N13 := Fr.app N0 Nq13
  rw [show own_min (10 : Int32) (3 : Int32) = (3 : Int32) from by decide] at hv13
  subst hv13
  refine Goes.to st13 ?_
  obtain ⟨cl14, Ar14, q14, -, -, -, -⟩ := id V2
  obtain ⟨T15, h15, L15, X15, e15, N15, K15, V15, st15⟩ := cpA X13 hx hZ hown (own_hw hw 150 rfl) (own_hw hw 153 rfl) (own_hw hw 151 rfl) (own_hw hw 152 rfl) hp13_0 (sp := (0 : Int32)) (dp := (0 : Int32)) (nn := (3 : Int32)) (us := [(.ref r1), (.ref r2), (.ref r3)]) F8 V2 (Or.inr ⟨rfl, rfl, ⟨(Sto.ofV Ar14 q14 O2 (Ins.of_exa F9 hco1)), (Sto.ofV Ar14 q14 O2 (Ins.of_exa F10 hco2)), (Sto.ofV Ar14 q14 O2 (Ins.of_exa F11 hco3)), trivial⟩⟩) (by decide) (by decide) (by decide) (by decide) (by decide) rfl (by decide) N13 g_b2 (g := (mkF m 35 #[.val (.ref x0), .val (.int (3 : Int32)), .val (.ref x2), .val (.ref b2)] [(.int (3 : Int32)), (.int (0 : Int32)), (.ref b2), (.int (0 : Int32)), (.ref x0)])) rfl (by rw [hml]; rfl) rfl (hb hby d20_35) (by decide) (W := 0) (own_W rfl rfl) (by decide)
  subst e15
  have F21 := Ex2.keep K15
  have Kc15 : Keep h0 T15.heap [] := K2.trans K15 (allS (Or.inr sz_b2) all0)
  replace V15 : Arv Z T15.heap b2 k2 (.object "java/lang/Object") (3 : Int32) [(.ref r1), (.ref r2), (.ref r3)] .null := V15
  refine Goes.to st15 ?_
  refine gx (XS.aloadN X15.here hx rfl (hb hby d20_38) rfl rfl) ?_
  show Goes p.tables e below (T15.setTop (mkF m 39 #[.val (.ref x0), .val (.int (3 : Int32)), .val (.ref x2), .val (.ref b2)] [(.ref b2)])) _
  obtain ⟨fs, hr, hrun, hended, hW, hsame⟩ := X15.leave (v := some (.ref b2)) (fun h => by rw [Bd.returns] at h; cases h)
  exact ⟨_, _, retOut X15 hx Bd.returns rfl (Or.inr (Or.inr (Or.inr (Or.inr ⟨rfl, rfl, rfl⟩)))) (hb hby d20_39) hr, hrun, hended, _, _, rfl, ⟨b2, k2, rfl, N15, sz_b2, (by show Keep h0 T15.heap []; exact Kc15), (by show Exa Z T15.heap b2 "[Ljava/lang/Object;"; exact F21), (by show Arv Z T15.heap b2 k2 (.object "java/lang/Object") (3 : Int32) [(.ref r1), (.ref r2), (.ref r3)] .null; exact V15), O2⟩, ⟨_, rfl⟩, hW, hsame.mono (by decide) (by decide)⟩

theorem d19_0 : decode jdk_65_method_119_code 0 = .ok (.aload_n 0, 1) := by decide +kernel
theorem d19_1 : decode jdk_65_method_119_code 1 = .ok (.iload_n 1, 1) := by decide +kernel
theorem d19_2 : decode jdk_65_method_119_code 2 = .ok (.aload_n 0, 1) := by decide +kernel
theorem d19_3 : decode jdk_65_method_119_code 3 = .ok (.invokevirtual 86, 3) := by decide +kernel
theorem d19_6 : decode jdk_65_method_119_code 6 = .ok (.invokestatic 300, 3) := by decide +kernel
theorem d19_9 : decode jdk_65_method_119_code 9 = .ok (.areturn, 1) := by decide +kernel
theorem own_pd_paLjavallanglObjectsILjavallanglClasssqaLjavallanglObjects : parseMethodDescriptor "([Ljava/lang/Object;ILjava/lang/Class;)[Ljava/lang/Object;" = some ⟨[(.array (.object "java/lang/Object")), .int, (.object "java/lang/Class")], some (.array (.object "java/lang/Object"))⟩ := by decide +kernel
theorem own_pn_19 : plainName "java/util/Arrays" = true := by first | (simp [plainName, overriddenIn]; done) | decide +kernel
theorem own_ef_own_rmCO1 (m : MethodId) (x0 : Addr) : entryFrame m #[(.ref x0), (.int (1 : Int32))] 2 = mkF m 0 #[.val (.ref x0), .val (.int (1 : Int32))] [] := by first | (simp [entryFrame, mkF, argsToLocals, Value.category]; done) | rfl
def own_Q_own_rmCO1 (Z : State) (x0 : Addr) (kE : ClassId) (r1 : Addr) (kk1 : String) (mr : Addr) (h0 : Heap) (n0 : Nat) (v : Option Value) (h : Heap) (L : List Loc) : Prop := ∃ (ca : Addr) (kC : ClassId), v = some (.ref ca) ∧ Fr n0 L ∧ h0.size ≤ ca ∧ Keep h0 h [] ∧ Exa Z h ca "[Ljava/lang/Object;" ∧ Arv Z h ca kC (.object "java/lang/Object") (1 : Int32) [(.ref r1)] .null ∧ Ovr Z kC "java/lang/Object"
abbrev own_r_own_rmCO1 : Room := ({ frames := 2, cells := 1, slots := 1, locals := 33 } : Room)

set_option maxRecDepth 65536 in
set_option maxHeartbeats 40000000 in
theorem own_rmCO1 (l : Launch) (Z : State) (a0 : Array Value) (hw : ∀ d ∈ tables_1, d.before a0 Z = true) (ws : List Jvm.Cond) (x0 : Addr) (kE : ClassId) (r1 : Addr) (kk1 : String) (mr : Addr) (h0 : Heap) (n0 : Nat) (Z0 : n0 ≤ h0.size) (Pi0 : Exa Z h0 x0 "[Ljava/lang/Object;") (Pi1 : Arv Z h0 x0 kE (.object "java/lang/Object") (10 : Int32) [(.ref r1), .null, .null, .null, .null, .null, .null, .null, .null, .null] .null) (Pi2 : Exa Z h0 r1 kk1) (hco1 : (Cond.castable kk1 "java/lang/Object").before a0 Z = true) (Mr : (Term.mirror "[Ljava/lang/Object;").eval #[] Z none [] Z = some (.ref mr)) :
    MetFree l own_n20 (head1 (Jvm.Cond.code own_n20 jdk_65_method_119_code 2 (some (.array (.object "java/lang/Object"))) :: ws) own_r_own_rmCO1) (fun a U => a = #[(.ref x0), (.int (1 : Int32))] ∧ Z.Warmed39 U.vm ∧ U.heap = h0) (fun _ _ _ _ _ => True) (fun _ U o U' => ∃ v L, o = .returned v ∧ own_Q_own_rmCO1 Z x0 kE r1 kk1 mr h0 n0 v U'.heap L ∧ FrameEnd U o U' L own_r_own_rmCO1.cells own_r_own_rmCO1.slots) := by
  refine MetFree.of_bodySF (plainFor_of_name own_pn_19) hisR ?_
  intro p e s m args below meth c s₁ Bd hml0 hP hK
  obtain ⟨rfl, hZ, hh⟩ := hP
  have hx := Bd.exec
  have hby := Bd.bytes
  have hml : c.maxLocals = 2 := hml0
  have hown : s.vm.findClass "java/util/Arrays" = some m.cls := findClass_of_methodNamed Bd.named
  have hnm := (name_of_methodNamed Bd.named Bd.method).1
  have X0 : Stand p l e own_r_own_rmCO1 s m #[(.ref x0), (.int (1 : Int32))] below meth c s₁ [] 0 0 := Stand.of_body Bd
  have e0 : s₁.heap = h0 := by rw [← hh, Bd.state]; rfl
  have N0 := Fr.nil n0
  show Goes p.tables e below _ (own_R below s (own_Q_own_rmCO1 Z x0 kE r1 kk1 mr h0 n0) own_r_own_rmCO1.cells own_r_own_rmCO1.slots)
  refine Goes.to (fun t k => castTop (own_ef_own_rmCO1 m x0) k) ?_
  refine gx (XS.aloadN X0.here hx rfl (hb hby d19_0) rfl rfl) ?_
  refine gx (XS.iloadN X0.here hx rfl (hb hby d19_1) rfl) ?_
  refine gx (XS.aloadN X0.here hx rfl (hb hby d19_2) rfl rfl) ?_
  obtain ⟨T1, X1, e1, st1⟩ := own_gcls X0 hx hZ hown (own_hw hw 136 rfl) (own_hw hw 137 rfl) (own_hw hw 117 rfl) (own_hw hw 139 rfl) (own_hw hw 138 rfl) (own_hw hw 140 rfl) e0 Pi0 Mr (g := (mkF m 3 #[.val (.ref x0), .val (.int (1 : Int32))] [(.ref x0), (.int (1 : Int32)), (.ref x0)])) rfl (by rw [hml]; rfl) rfl (hb hby d19_3) (by decide) (W := 2) (own_W rfl rfl) (by decide)
  refine Goes.to st1 ?_
  obtain ⟨_, _, ⟨T2, L2, k2, n2⟩, -, X2, ⟨Lc2, hQ2, l2, y2, z2⟩, st2⟩ := Jvm.LawKit.callS X1 hx (y := own_n19) hown (mvT hZ (own_hw hw 142 rfl)) (mvT hZ (own_hw hw 143 rfl)) (mvT hZ (own_hw hw 134 rfl)) (mvT hZ (own_hw hw 144 rfl)) (by decide) (backOf (W := 0) (own_rmCC1 l Z a0 hw [] x0 mr kE r1 kk1 h0 n0 Z0 Pi0 Pi1 Pi2 hco1 Mr) hZ (own_hw hw 144 rfl) (own_hw hw 134 rfl) (by decide) (by decide)) (g := (mkF m 6 #[.val (.ref x0), .val (.int (1 : Int32))] [(.ref mr), (.int (1 : Int32)), (.ref x0)])) rfl (by rw [hml]; rfl) (argsL := [(.ref x0), (.int (1 : Int32)), (.ref mr)]) (rest := []) (lenOf own_pd_paLjavallanglObjectsILjavallanglClasssqaLjavallanglObjects rfl) rfl (own_W rfl rfl) (hb hby d19_6) (fun _ _ => ⟨rfl, e1, (by decide : 0 + 1 ≤ _), (by decide : 0 + 1 ≤ _)⟩)
  dsimp only [Pt.U, Pt.locs, Pt.cells, Pt.slots] at X2 l2 y2 z2 st2 hQ2
  subst l2 y2 z2
  obtain ⟨ca_2, kC_2, hv2, Nq2, sq2_0, Kq2, Qf2_0, Qf2_1, Qf2_2⟩ := hQ2
  have N2 := Fr.app N0 Nq2
  have sz_ca_2 : h0.size ≤ ca_2 := Nat.le_trans (Keep.refl h0 []).1 sq2_0
  have Kc2 : Keep h0 T2.heap [] := (Keep.refl h0 []).trans Kq2 all0
  subst hv2
  refine Goes.to st2 ?_
  show Goes p.tables e below (T2.setTop (mkF m 9 #[.val (.ref x0), .val (.int (1 : Int32))] [(.ref ca_2)])) _
  obtain ⟨fs, hr, hrun, hended, hW, hsame⟩ := X2.leave (v := some (.ref ca_2)) (fun h => by rw [Bd.returns] at h; cases h)
  exact ⟨_, _, retOut X2 hx Bd.returns rfl (Or.inr (Or.inr (Or.inr (Or.inr ⟨rfl, rfl, rfl⟩)))) (hb hby d19_9) hr, hrun, hended, _, _, rfl, ⟨ca_2, kC_2, rfl, N2, sz_ca_2, (by show Keep h0 T2.heap []; exact Kc2), (by show Exa Z T2.heap ca_2 "[Ljava/lang/Object;"; exact Qf2_0), (by show Arv Z T2.heap ca_2 kC_2 (.object "java/lang/Object") (1 : Int32) [(.ref r1)] .null; exact Qf2_1), Qf2_2⟩, ⟨_, rfl⟩, hW, hsame.mono (by decide) (by decide)⟩

theorem own_ef_own_rmCO2 (m : MethodId) (x0 : Addr) : entryFrame m #[(.ref x0), (.int (2 : Int32))] 2 = mkF m 0 #[.val (.ref x0), .val (.int (2 : Int32))] [] := by first | (simp [entryFrame, mkF, argsToLocals, Value.category]; done) | rfl
def own_Q_own_rmCO2 (Z : State) (x0 : Addr) (kE : ClassId) (r1 : Addr) (r2 : Addr) (kk1 : String) (kk2 : String) (mr : Addr) (h0 : Heap) (n0 : Nat) (v : Option Value) (h : Heap) (L : List Loc) : Prop := ∃ (ca : Addr) (kC : ClassId), v = some (.ref ca) ∧ Fr n0 L ∧ h0.size ≤ ca ∧ Keep h0 h [] ∧ Exa Z h ca "[Ljava/lang/Object;" ∧ Arv Z h ca kC (.object "java/lang/Object") (2 : Int32) [(.ref r1), (.ref r2)] .null ∧ Ovr Z kC "java/lang/Object"
abbrev own_r_own_rmCO2 : Room := ({ frames := 2, cells := 1, slots := 2, locals := 33 } : Room)

set_option maxRecDepth 65536 in
set_option maxHeartbeats 40000000 in
theorem own_rmCO2 (l : Launch) (Z : State) (a0 : Array Value) (hw : ∀ d ∈ tables_1, d.before a0 Z = true) (ws : List Jvm.Cond) (x0 : Addr) (kE : ClassId) (r1 : Addr) (r2 : Addr) (kk1 : String) (kk2 : String) (mr : Addr) (h0 : Heap) (n0 : Nat) (Z0 : n0 ≤ h0.size) (Pi0 : Exa Z h0 x0 "[Ljava/lang/Object;") (Pi1 : Arv Z h0 x0 kE (.object "java/lang/Object") (10 : Int32) [(.ref r1), (.ref r2), .null, .null, .null, .null, .null, .null, .null, .null] .null) (Pi2 : Exa Z h0 r1 kk1) (hco1 : (Cond.castable kk1 "java/lang/Object").before a0 Z = true) (Pi4 : Exa Z h0 r2 kk2) (hco2 : (Cond.castable kk2 "java/lang/Object").before a0 Z = true) (Mr : (Term.mirror "[Ljava/lang/Object;").eval #[] Z none [] Z = some (.ref mr)) :
    MetFree l own_n20 (head1 (Jvm.Cond.code own_n20 jdk_65_method_119_code 2 (some (.array (.object "java/lang/Object"))) :: ws) own_r_own_rmCO2) (fun a U => a = #[(.ref x0), (.int (2 : Int32))] ∧ Z.Warmed39 U.vm ∧ U.heap = h0) (fun _ _ _ _ _ => True) (fun _ U o U' => ∃ v L, o = .returned v ∧ own_Q_own_rmCO2 Z x0 kE r1 r2 kk1 kk2 mr h0 n0 v U'.heap L ∧ FrameEnd U o U' L own_r_own_rmCO2.cells own_r_own_rmCO2.slots) := by
  refine MetFree.of_bodySF (plainFor_of_name own_pn_19) hisR ?_
  intro p e s m args below meth c s₁ Bd hml0 hP hK
  obtain ⟨rfl, hZ, hh⟩ := hP
  have hx := Bd.exec
  have hby := Bd.bytes
  have hml : c.maxLocals = 2 := hml0
  have hown : s.vm.findClass "java/util/Arrays" = some m.cls := findClass_of_methodNamed Bd.named
  have hnm := (name_of_methodNamed Bd.named Bd.method).1
  have X0 : Stand p l e own_r_own_rmCO2 s m #[(.ref x0), (.int (2 : Int32))] below meth c s₁ [] 0 0 := Stand.of_body Bd
  have e0 : s₁.heap = h0 := by rw [← hh, Bd.state]; rfl
  have N0 := Fr.nil n0
  show Goes p.tables e below _ (own_R below s (own_Q_own_rmCO2 Z x0 kE r1 r2 kk1 kk2 mr h0 n0) own_r_own_rmCO2.cells own_r_own_rmCO2.slots)
  refine Goes.to (fun t k => castTop (own_ef_own_rmCO2 m x0) k) ?_
  refine gx (XS.aloadN X0.here hx rfl (hb hby d19_0) rfl rfl) ?_
  refine gx (XS.iloadN X0.here hx rfl (hb hby d19_1) rfl) ?_
  refine gx (XS.aloadN X0.here hx rfl (hb hby d19_2) rfl rfl) ?_
  obtain ⟨T1, X1, e1, st1⟩ := own_gcls X0 hx hZ hown (own_hw hw 136 rfl) (own_hw hw 137 rfl) (own_hw hw 117 rfl) (own_hw hw 139 rfl) (own_hw hw 138 rfl) (own_hw hw 140 rfl) e0 Pi0 Mr (g := (mkF m 3 #[.val (.ref x0), .val (.int (2 : Int32))] [(.ref x0), (.int (2 : Int32)), (.ref x0)])) rfl (by rw [hml]; rfl) rfl (hb hby d19_3) (by decide) (W := 2) (own_W rfl rfl) (by decide)
  refine Goes.to st1 ?_
  obtain ⟨_, _, ⟨T2, L2, k2, n2⟩, -, X2, ⟨Lc2, hQ2, l2, y2, z2⟩, st2⟩ := Jvm.LawKit.callS X1 hx (y := own_n19) hown (mvT hZ (own_hw hw 142 rfl)) (mvT hZ (own_hw hw 143 rfl)) (mvT hZ (own_hw hw 134 rfl)) (mvT hZ (own_hw hw 144 rfl)) (by decide) (backOf (W := 0) (own_rmCC2 l Z a0 hw [] x0 mr kE r1 r2 kk1 kk2 h0 n0 Z0 Pi0 Pi1 Pi2 hco1 Pi4 hco2 Mr) hZ (own_hw hw 144 rfl) (own_hw hw 134 rfl) (by decide) (by decide)) (g := (mkF m 6 #[.val (.ref x0), .val (.int (2 : Int32))] [(.ref mr), (.int (2 : Int32)), (.ref x0)])) rfl (by rw [hml]; rfl) (argsL := [(.ref x0), (.int (2 : Int32)), (.ref mr)]) (rest := []) (lenOf own_pd_paLjavallanglObjectsILjavallanglClasssqaLjavallanglObjects rfl) rfl (own_W rfl rfl) (hb hby d19_6) (fun _ _ => ⟨rfl, e1, (by decide : 0 + 1 ≤ _), (by decide : 0 + 2 ≤ _)⟩)
  dsimp only [Pt.U, Pt.locs, Pt.cells, Pt.slots] at X2 l2 y2 z2 st2 hQ2
  subst l2 y2 z2
  obtain ⟨ca_2, kC_2, hv2, Nq2, sq2_0, Kq2, Qf2_0, Qf2_1, Qf2_2⟩ := hQ2
  have N2 := Fr.app N0 Nq2
  have sz_ca_2 : h0.size ≤ ca_2 := Nat.le_trans (Keep.refl h0 []).1 sq2_0
  have Kc2 : Keep h0 T2.heap [] := (Keep.refl h0 []).trans Kq2 all0
  subst hv2
  refine Goes.to st2 ?_
  show Goes p.tables e below (T2.setTop (mkF m 9 #[.val (.ref x0), .val (.int (2 : Int32))] [(.ref ca_2)])) _
  obtain ⟨fs, hr, hrun, hended, hW, hsame⟩ := X2.leave (v := some (.ref ca_2)) (fun h => by rw [Bd.returns] at h; cases h)
  exact ⟨_, _, retOut X2 hx Bd.returns rfl (Or.inr (Or.inr (Or.inr (Or.inr ⟨rfl, rfl, rfl⟩)))) (hb hby d19_9) hr, hrun, hended, _, _, rfl, ⟨ca_2, kC_2, rfl, N2, sz_ca_2, (by show Keep h0 T2.heap []; exact Kc2), (by show Exa Z T2.heap ca_2 "[Ljava/lang/Object;"; exact Qf2_0), (by show Arv Z T2.heap ca_2 kC_2 (.object "java/lang/Object") (2 : Int32) [(.ref r1), (.ref r2)] .null; exact Qf2_1), Qf2_2⟩, ⟨_, rfl⟩, hW, hsame.mono (by decide) (by decide)⟩

theorem own_ef_own_rmCO3 (m : MethodId) (x0 : Addr) : entryFrame m #[(.ref x0), (.int (3 : Int32))] 2 = mkF m 0 #[.val (.ref x0), .val (.int (3 : Int32))] [] := by first | (simp [entryFrame, mkF, argsToLocals, Value.category]; done) | rfl
def own_Q_own_rmCO3 (Z : State) (x0 : Addr) (kE : ClassId) (r1 : Addr) (r2 : Addr) (r3 : Addr) (kk1 : String) (kk2 : String) (kk3 : String) (mr : Addr) (h0 : Heap) (n0 : Nat) (v : Option Value) (h : Heap) (L : List Loc) : Prop := ∃ (ca : Addr) (kC : ClassId), v = some (.ref ca) ∧ Fr n0 L ∧ h0.size ≤ ca ∧ Keep h0 h [] ∧ Exa Z h ca "[Ljava/lang/Object;" ∧ Arv Z h ca kC (.object "java/lang/Object") (3 : Int32) [(.ref r1), (.ref r2), (.ref r3)] .null ∧ Ovr Z kC "java/lang/Object"
abbrev own_r_own_rmCO3 : Room := ({ frames := 2, cells := 1, slots := 3, locals := 33 } : Room)

set_option maxRecDepth 65536 in
set_option maxHeartbeats 40000000 in
theorem own_rmCO3 (l : Launch) (Z : State) (a0 : Array Value) (hw : ∀ d ∈ tables_1, d.before a0 Z = true) (ws : List Jvm.Cond) (x0 : Addr) (kE : ClassId) (r1 : Addr) (r2 : Addr) (r3 : Addr) (kk1 : String) (kk2 : String) (kk3 : String) (mr : Addr) (h0 : Heap) (n0 : Nat) (Z0 : n0 ≤ h0.size) (Pi0 : Exa Z h0 x0 "[Ljava/lang/Object;") (Pi1 : Arv Z h0 x0 kE (.object "java/lang/Object") (10 : Int32) [(.ref r1), (.ref r2), (.ref r3), .null, .null, .null, .null, .null, .null, .null] .null) (Pi2 : Exa Z h0 r1 kk1) (hco1 : (Cond.castable kk1 "java/lang/Object").before a0 Z = true) (Pi4 : Exa Z h0 r2 kk2) (hco2 : (Cond.castable kk2 "java/lang/Object").before a0 Z = true) (Pi6 : Exa Z h0 r3 kk3) (hco3 : (Cond.castable kk3 "java/lang/Object").before a0 Z = true) (Mr : (Term.mirror "[Ljava/lang/Object;").eval #[] Z none [] Z = some (.ref mr)) :
    MetFree l own_n20 (head1 (Jvm.Cond.code own_n20 jdk_65_method_119_code 2 (some (.array (.object "java/lang/Object"))) :: ws) own_r_own_rmCO3) (fun a U => a = #[(.ref x0), (.int (3 : Int32))] ∧ Z.Warmed39 U.vm ∧ U.heap = h0) (fun _ _ _ _ _ => True) (fun _ U o U' => ∃ v L, o = .returned v ∧ own_Q_own_rmCO3 Z x0 kE r1 r2 r3 kk1 kk2 kk3 mr h0 n0 v U'.heap L ∧ FrameEnd U o U' L own_r_own_rmCO3.cells own_r_own_rmCO3.slots) := by
  refine MetFree.of_bodySF (plainFor_of_name own_pn_19) hisR ?_
  intro p e s m args below meth c s₁ Bd hml0 hP hK
  obtain ⟨rfl, hZ, hh⟩ := hP
  have hx := Bd.exec
  have hby := Bd.bytes
  have hml : c.maxLocals = 2 := hml0
  have hown : s.vm.findClass "java/util/Arrays" = some m.cls := findClass_of_methodNamed Bd.named
  have hnm := (name_of_methodNamed Bd.named Bd.method).1
  have X0 : Stand p l e own_r_own_rmCO3 s m #[(.ref x0), (.int (3 : Int32))] below meth c s₁ [] 0 0 := Stand.of_body Bd
  have e0 : s₁.heap = h0 := by rw [← hh, Bd.state]; rfl
  have N0 := Fr.nil n0
  show Goes p.tables e below _ (own_R below s (own_Q_own_rmCO3 Z x0 kE r1 r2 r3 kk1 kk2 kk3 mr h0 n0) own_r_own_rmCO3.cells own_r_own_rmCO3.slots)
  refine Goes.to (fun t k => castTop (own_ef_own_rmCO3 m x0) k) ?_
  refine gx (XS.aloadN X0.here hx rfl (hb hby d19_0) rfl rfl) ?_
  refine gx (XS.iloadN X0.here hx rfl (hb hby d19_1) rfl) ?_
  refine gx (XS.aloadN X0.here hx rfl (hb hby d19_2) rfl rfl) ?_
  obtain ⟨T1, X1, e1, st1⟩ := own_gcls X0 hx hZ hown (own_hw hw 136 rfl) (own_hw hw 137 rfl) (own_hw hw 117 rfl) (own_hw hw 139 rfl) (own_hw hw 138 rfl) (own_hw hw 140 rfl) e0 Pi0 Mr (g := (mkF m 3 #[.val (.ref x0), .val (.int (3 : Int32))] [(.ref x0), (.int (3 : Int32)), (.ref x0)])) rfl (by rw [hml]; rfl) rfl (hb hby d19_3) (by decide) (W := 2) (own_W rfl rfl) (by decide)
  refine Goes.to st1 ?_
  obtain ⟨_, _, ⟨T2, L2, k2, n2⟩, -, X2, ⟨Lc2, hQ2, l2, y2, z2⟩, st2⟩ := Jvm.LawKit.callS X1 hx (y := own_n19) hown (mvT hZ (own_hw hw 142 rfl)) (mvT hZ (own_hw hw 143 rfl)) (mvT hZ (own_hw hw 134 rfl)) (mvT hZ (own_hw hw 144 rfl)) (by decide) (backOf (W := 0) (own_rmCC3 l Z a0 hw [] x0 mr kE r1 r2 r3 kk1 kk2 kk3 h0 n0 Z0 Pi0 Pi1 Pi2 hco1 Pi4 hco2 Pi6 hco3 Mr) hZ (own_hw hw 144 rfl) (own_hw hw 134 rfl) (by decide) (by decide)) (g := (mkF m 6 #[.val (.ref x0), .val (.int (3 : Int32))] [(.ref mr), (.int (3 : Int32)), (.ref x0)])) rfl (by rw [hml]; rfl) (argsL := [(.ref x0), (.int (3 : Int32)), (.ref mr)]) (rest := []) (lenOf own_pd_paLjavallanglObjectsILjavallanglClasssqaLjavallanglObjects rfl) rfl (own_W rfl rfl) (hb hby d19_6) (fun _ _ => ⟨rfl, e1, (by decide : 0 + 1 ≤ _), (by decide : 0 + 3 ≤ _)⟩)
  dsimp only [Pt.U, Pt.locs, Pt.cells, Pt.slots] at X2 l2 y2 z2 st2 hQ2
  subst l2 y2 z2
  obtain ⟨ca_2, kC_2, hv2, Nq2, sq2_0, Kq2, Qf2_0, Qf2_1, Qf2_2⟩ := hQ2
  have N2 := Fr.app N0 Nq2
  have sz_ca_2 : h0.size ≤ ca_2 := Nat.le_trans (Keep.refl h0 []).1 sq2_0
  have Kc2 : Keep h0 T2.heap [] := (Keep.refl h0 []).trans Kq2 all0
  subst hv2
  refine Goes.to st2 ?_
  show Goes p.tables e below (T2.setTop (mkF m 9 #[.val (.ref x0), .val (.int (3 : Int32))] [(.ref ca_2)])) _
  obtain ⟨fs, hr, hrun, hended, hW, hsame⟩ := X2.leave (v := some (.ref ca_2)) (fun h => by rw [Bd.returns] at h; cases h)
  exact ⟨_, _, retOut X2 hx Bd.returns rfl (Or.inr (Or.inr (Or.inr (Or.inr ⟨rfl, rfl, rfl⟩)))) (hb hby d19_9) hr, hrun, hended, _, _, rfl, ⟨ca_2, kC_2, rfl, N2, sz_ca_2, (by show Keep h0 T2.heap []; exact Kc2), (by show Exa Z T2.heap ca_2 "[Ljava/lang/Object;"; exact Qf2_0), (by show Arv Z T2.heap ca_2 kC_2 (.object "java/lang/Object") (3 : Int32) [(.ref r1), (.ref r2), (.ref r3)] .null; exact Qf2_1), Qf2_2⟩, ⟨_, rfl⟩, hW, hsame.mono (by decide) (by decide)⟩

theorem d18_0 : decode jdk_38_method_16_code 0 = .ok (.aload_n 0, 1) := by decide +kernel
theorem d18_1 : decode jdk_38_method_16_code 1 = .ok (.getfield 9, 3) := by decide +kernel
theorem d18_4 : decode jdk_38_method_16_code 4 = .ok (.aload_n 0, 1) := by decide +kernel
theorem d18_5 : decode jdk_38_method_16_code 5 = .ok (.getfield 48, 3) := by decide +kernel
theorem d18_8 : decode jdk_38_method_16_code 8 = .ok (.invokestatic 66, 3) := by decide +kernel
theorem d18_11 : decode jdk_38_method_16_code 11 = .ok (.areturn, 1) := by decide +kernel
theorem own_pd_paLjavallanglObjectsIqaLjavallanglObjects : parseMethodDescriptor "([Ljava/lang/Object;I)[Ljava/lang/Object;" = some ⟨[(.array (.object "java/lang/Object")), .int], some (.array (.object "java/lang/Object"))⟩ := by decide +kernel
theorem own_pn_18 : plainName "java/util/ArrayList" = true := by first | (simp [plainName, overriddenIn]; done) | decide +kernel
theorem own_ef_own_rmTA1 (m : MethodId) (x0 : Addr) : entryFrame m #[(.ref x0)] 1 = mkF m 0 #[.val (.ref x0)] [] := by first | (simp [entryFrame, mkF, argsToLocals, Value.category]; done) | rfl
def own_Q_own_rmTA1 (Z : State) (x0 : Addr) (ea : Addr) (kE : ClassId) (r1 : Addr) (kk1 : String) (mr : Addr) (h0 : Heap) (n0 : Nat) (v : Option Value) (h : Heap) (L : List Loc) : Prop := ∃ (ca : Addr) (kC : ClassId), v = some (.ref ca) ∧ Fr n0 L ∧ h0.size ≤ ca ∧ Keep h0 h [] ∧ Exa Z h ca "[Ljava/lang/Object;" ∧ Arv Z h ca kC (.object "java/lang/Object") (1 : Int32) [(.ref r1)] .null ∧ Ovr Z kC "java/lang/Object"
abbrev own_r_own_rmTA1 : Room := ({ frames := 3, cells := 1, slots := 1, locals := 46 } : Room)

set_option maxRecDepth 65536 in
set_option maxHeartbeats 40000000 in
theorem own_rmTA1 (l : Launch) (Z : State) (a0 : Array Value) (hw : ∀ d ∈ tables_1, d.before a0 Z = true) (ws : List Jvm.Cond) (x0 : Addr) (ea : Addr) (kE : ClassId) (r1 : Addr) (kk1 : String) (mr : Addr) (h0 : Heap) (n0 : Nat) (Z0 : n0 ≤ h0.size) (Pi0 : Exa Z h0 x0 "java/util/ArrayList") (Pi1 : Fld Z h0 x0 "java/util/ArrayList" "size" "I" (.int (1 : Int32))) (Pi2 : Fld Z h0 x0 "java/util/ArrayList" "elementData" "[Ljava/lang/Object;" (.ref ea)) (Pi3 : Exa Z h0 ea "[Ljava/lang/Object;") (Pi4 : Arv Z h0 ea kE (.object "java/lang/Object") (10 : Int32) [(.ref r1), .null, .null, .null, .null, .null, .null, .null, .null, .null] .null) (Pi5 : Exa Z h0 r1 kk1) (hco1 : (Cond.castable kk1 "java/lang/Object").before a0 Z = true) (Mr : (Term.mirror "[Ljava/lang/Object;").eval #[] Z none [] Z = some (.ref mr)) :
    MetFree l own_n21 (head1 (Jvm.Cond.code own_n21 jdk_38_method_16_code 1 (some (.array (.object "java/lang/Object"))) :: ws) own_r_own_rmTA1) (fun a U => a = #[(.ref x0)] ∧ Z.Warmed39 U.vm ∧ U.heap = h0) (fun _ _ _ _ _ => True) (fun _ U o U' => ∃ v L, o = .returned v ∧ own_Q_own_rmTA1 Z x0 ea kE r1 kk1 mr h0 n0 v U'.heap L ∧ FrameEnd U o U' L own_r_own_rmTA1.cells own_r_own_rmTA1.slots) := by
  refine MetFree.of_bodySF (plainFor_of_name own_pn_18) hisR ?_
  intro p e s m args below meth c s₁ Bd hml0 hP hK
  obtain ⟨rfl, hZ, hh⟩ := hP
  have hx := Bd.exec
  have hby := Bd.bytes
  have hml : c.maxLocals = 1 := hml0
  have hown : s.vm.findClass "java/util/ArrayList" = some m.cls := findClass_of_methodNamed Bd.named
  have hnm := (name_of_methodNamed Bd.named Bd.method).1
  have X0 : Stand p l e own_r_own_rmTA1 s m #[(.ref x0)] below meth c s₁ [] 0 0 := Stand.of_body Bd
  have e0 : s₁.heap = h0 := by rw [← hh, Bd.state]; rfl
  have N0 := Fr.nil n0
  show Goes p.tables e below _ (own_R below s (own_Q_own_rmTA1 Z x0 ea kE r1 kk1 mr h0 n0) own_r_own_rmTA1.cells own_r_own_rmTA1.slots)
  refine Goes.to (fun t k => castTop (own_ef_own_rmTA1 m x0) k) ?_
  refine gx (XS.aloadN X0.here hx rfl (hb hby d18_0) rfl rfl) ?_
  obtain ⟨T1, X1, e1, st1⟩ := getF X0 hx hZ hown (host := "") (Or.inl (own_hw hw 29 rfl)) Via.refl e0 Pi2 (g := (mkF m 1 #[.val (.ref x0)] [(.ref x0)])) rfl rfl (hb hby d18_1)
  refine Goes.to st1 ?_
  refine gx (XS.aloadN X1.here hx rfl (hb hby d18_4) rfl rfl) ?_
  obtain ⟨T2, X2, e2, st2⟩ := getF X1 hx hZ hown (host := "") (Or.inl (own_hw hw 56 rfl)) Via.refl e1 Pi1 (g := (mkF m 5 #[.val (.ref x0)] [(.ref x0), (.ref ea)])) rfl rfl (hb hby d18_5)
  refine Goes.to st2 ?_
  obtain ⟨_, _, ⟨T3, L3, k3, n3⟩, -, X3, ⟨Lc3, hQ3, l3, y3, z3⟩, st3⟩ := Jvm.LawKit.callS X2 hx (y := own_n20) hown (mvT hZ (own_hw hw 132 rfl)) (mvT hZ (own_hw hw 133 rfl)) (mvT hZ (own_hw hw 134 rfl)) (mvT hZ (own_hw hw 135 rfl)) (by decide) (backOf (W := 0) (own_rmCO1 l Z a0 hw [] ea kE r1 kk1 mr h0 n0 Z0 Pi3 Pi4 Pi5 hco1 Mr) hZ (own_hw hw 135 rfl) (own_hw hw 134 rfl) (by decide) (by decide)) (g := (mkF m 8 #[.val (.ref x0)] [(.int (1 : Int32)), (.ref ea)])) rfl (by rw [hml]; rfl) (argsL := [(.ref ea), (.int (1 : Int32))]) (rest := []) (lenOf own_pd_paLjavallanglObjectsIqaLjavallanglObjects rfl) rfl (own_W rfl rfl) (hb hby d18_8) (fun _ _ => ⟨rfl, e2, (by decide : 0 + 1 ≤ _), (by decide : 0 + 1 ≤ _)⟩)
  dsimp only [Pt.U, Pt.locs, Pt.cells, Pt.slots] at X3 l3 y3 z3 st3 hQ3
  subst l3 y3 z3
  obtain ⟨ca_3, kC_3, hv3, Nq3, sq3_0, Kq3, Qf3_0, Qf3_1, Qf3_2⟩ := hQ3
  have N3 := Fr.app N0 Nq3
  have sz_ca_3 : h0.size ≤ ca_3 := Nat.le_trans (Keep.refl h0 []).1 sq3_0
  have Kc3 : Keep h0 T3.heap [] := (Keep.refl h0 []).trans Kq3 all0
  subst hv3
  refine Goes.to st3 ?_
  show Goes p.tables e below (T3.setTop (mkF m 11 #[.val (.ref x0)] [(.ref ca_3)])) _
  obtain ⟨fs, hr, hrun, hended, hW, hsame⟩ := X3.leave (v := some (.ref ca_3)) (fun h => by rw [Bd.returns] at h; cases h)
  exact ⟨_, _, retOut X3 hx Bd.returns rfl (Or.inr (Or.inr (Or.inr (Or.inr ⟨rfl, rfl, rfl⟩)))) (hb hby d18_11) hr, hrun, hended, _, _, rfl, ⟨ca_3, kC_3, rfl, N3, sz_ca_3, (by show Keep h0 T3.heap []; exact Kc3), (by show Exa Z T3.heap ca_3 "[Ljava/lang/Object;"; exact Qf3_0), (by show Arv Z T3.heap ca_3 kC_3 (.object "java/lang/Object") (1 : Int32) [(.ref r1)] .null; exact Qf3_1), Qf3_2⟩, ⟨_, rfl⟩, hW, hsame.mono (by decide) (by decide)⟩

theorem own_ef_own_rmTA2 (m : MethodId) (x0 : Addr) : entryFrame m #[(.ref x0)] 1 = mkF m 0 #[.val (.ref x0)] [] := by first | (simp [entryFrame, mkF, argsToLocals, Value.category]; done) | rfl
def own_Q_own_rmTA2 (Z : State) (x0 : Addr) (ea : Addr) (kE : ClassId) (r1 : Addr) (r2 : Addr) (kk1 : String) (kk2 : String) (mr : Addr) (h0 : Heap) (n0 : Nat) (v : Option Value) (h : Heap) (L : List Loc) : Prop := ∃ (ca : Addr) (kC : ClassId), v = some (.ref ca) ∧ Fr n0 L ∧ h0.size ≤ ca ∧ Keep h0 h [] ∧ Exa Z h ca "[Ljava/lang/Object;" ∧ Arv Z h ca kC (.object "java/lang/Object") (2 : Int32) [(.ref r1), (.ref r2)] .null ∧ Ovr Z kC "java/lang/Object"
abbrev own_r_own_rmTA2 : Room := ({ frames := 3, cells := 1, slots := 2, locals := 46 } : Room)

set_option maxRecDepth 65536 in
set_option maxHeartbeats 40000000 in
theorem own_rmTA2 (l : Launch) (Z : State) (a0 : Array Value) (hw : ∀ d ∈ tables_1, d.before a0 Z = true) (ws : List Jvm.Cond) (x0 : Addr) (ea : Addr) (kE : ClassId) (r1 : Addr) (r2 : Addr) (kk1 : String) (kk2 : String) (mr : Addr) (h0 : Heap) (n0 : Nat) (Z0 : n0 ≤ h0.size) (Pi0 : Exa Z h0 x0 "java/util/ArrayList") (Pi1 : Fld Z h0 x0 "java/util/ArrayList" "size" "I" (.int (2 : Int32))) (Pi2 : Fld Z h0 x0 "java/util/ArrayList" "elementData" "[Ljava/lang/Object;" (.ref ea)) (Pi3 : Exa Z h0 ea "[Ljava/lang/Object;") (Pi4 : Arv Z h0 ea kE (.object "java/lang/Object") (10 : Int32) [(.ref r1), (.ref r2), .null, .null, .null, .null, .null, .null, .null, .null] .null) (Pi5 : Exa Z h0 r1 kk1) (hco1 : (Cond.castable kk1 "java/lang/Object").before a0 Z = true) (Pi7 : Exa Z h0 r2 kk2) (hco2 : (Cond.castable kk2 "java/lang/Object").before a0 Z = true) (Mr : (Term.mirror "[Ljava/lang/Object;").eval #[] Z none [] Z = some (.ref mr)) :
    MetFree l own_n21 (head1 (Jvm.Cond.code own_n21 jdk_38_method_16_code 1 (some (.array (.object "java/lang/Object"))) :: ws) own_r_own_rmTA2) (fun a U => a = #[(.ref x0)] ∧ Z.Warmed39 U.vm ∧ U.heap = h0) (fun _ _ _ _ _ => True) (fun _ U o U' => ∃ v L, o = .returned v ∧ own_Q_own_rmTA2 Z x0 ea kE r1 r2 kk1 kk2 mr h0 n0 v U'.heap L ∧ FrameEnd U o U' L own_r_own_rmTA2.cells own_r_own_rmTA2.slots) := by
  refine MetFree.of_bodySF (plainFor_of_name own_pn_18) hisR ?_
  intro p e s m args below meth c s₁ Bd hml0 hP hK
  obtain ⟨rfl, hZ, hh⟩ := hP
  have hx := Bd.exec
  have hby := Bd.bytes
  have hml : c.maxLocals = 1 := hml0
  have hown : s.vm.findClass "java/util/ArrayList" = some m.cls := findClass_of_methodNamed Bd.named
  have hnm := (name_of_methodNamed Bd.named Bd.method).1
  have X0 : Stand p l e own_r_own_rmTA2 s m #[(.ref x0)] below meth c s₁ [] 0 0 := Stand.of_body Bd
  have e0 : s₁.heap = h0 := by rw [← hh, Bd.state]; rfl
  have N0 := Fr.nil n0
  show Goes p.tables e below _ (own_R below s (own_Q_own_rmTA2 Z x0 ea kE r1 r2 kk1 kk2 mr h0 n0) own_r_own_rmTA2.cells own_r_own_rmTA2.slots)
  refine Goes.to (fun t k => castTop (own_ef_own_rmTA2 m x0) k) ?_
  refine gx (XS.aloadN X0.here hx rfl (hb hby d18_0) rfl rfl) ?_
  obtain ⟨T1, X1, e1, st1⟩ := getF X0 hx hZ hown (host := "") (Or.inl (own_hw hw 29 rfl)) Via.refl e0 Pi2 (g := (mkF m 1 #[.val (.ref x0)] [(.ref x0)])) rfl rfl (hb hby d18_1)
  refine Goes.to st1 ?_
  refine gx (XS.aloadN X1.here hx rfl (hb hby d18_4) rfl rfl) ?_
  obtain ⟨T2, X2, e2, st2⟩ := getF X1 hx hZ hown (host := "") (Or.inl (own_hw hw 56 rfl)) Via.refl e1 Pi1 (g := (mkF m 5 #[.val (.ref x0)] [(.ref x0), (.ref ea)])) rfl rfl (hb hby d18_5)
  refine Goes.to st2 ?_
  obtain ⟨_, _, ⟨T3, L3, k3, n3⟩, -, X3, ⟨Lc3, hQ3, l3, y3, z3⟩, st3⟩ := Jvm.LawKit.callS X2 hx (y := own_n20) hown (mvT hZ (own_hw hw 132 rfl)) (mvT hZ (own_hw hw 133 rfl)) (mvT hZ (own_hw hw 134 rfl)) (mvT hZ (own_hw hw 135 rfl)) (by decide) (backOf (W := 0) (own_rmCO2 l Z a0 hw [] ea kE r1 r2 kk1 kk2 mr h0 n0 Z0 Pi3 Pi4 Pi5 hco1 Pi7 hco2 Mr) hZ (own_hw hw 135 rfl) (own_hw hw 134 rfl) (by decide) (by decide)) (g := (mkF m 8 #[.val (.ref x0)] [(.int (2 : Int32)), (.ref ea)])) rfl (by rw [hml]; rfl) (argsL := [(.ref ea), (.int (2 : Int32))]) (rest := []) (lenOf own_pd_paLjavallanglObjectsIqaLjavallanglObjects rfl) rfl (own_W rfl rfl) (hb hby d18_8) (fun _ _ => ⟨rfl, e2, (by decide : 0 + 1 ≤ _), (by decide : 0 + 2 ≤ _)⟩)
  dsimp only [Pt.U, Pt.locs, Pt.cells, Pt.slots] at X3 l3 y3 z3 st3 hQ3
  subst l3 y3 z3
  obtain ⟨ca_3, kC_3, hv3, Nq3, sq3_0, Kq3, Qf3_0, Qf3_1, Qf3_2⟩ := hQ3
  have N3 := Fr.app N0 Nq3
  have sz_ca_3 : h0.size ≤ ca_3 := Nat.le_trans (Keep.refl h0 []).1 sq3_0
  have Kc3 : Keep h0 T3.heap [] := (Keep.refl h0 []).trans Kq3 all0
  subst hv3
  refine Goes.to st3 ?_
  show Goes p.tables e below (T3.setTop (mkF m 11 #[.val (.ref x0)] [(.ref ca_3)])) _
  obtain ⟨fs, hr, hrun, hended, hW, hsame⟩ := X3.leave (v := some (.ref ca_3)) (fun h => by rw [Bd.returns] at h; cases h)
  exact ⟨_, _, retOut X3 hx Bd.returns rfl (Or.inr (Or.inr (Or.inr (Or.inr ⟨rfl, rfl, rfl⟩)))) (hb hby d18_11) hr, hrun, hended, _, _, rfl, ⟨ca_3, kC_3, rfl, N3, sz_ca_3, (by show Keep h0 T3.heap []; exact Kc3), (by show Exa Z T3.heap ca_3 "[Ljava/lang/Object;"; exact Qf3_0), (by show Arv Z T3.heap ca_3 kC_3 (.object "java/lang/Object") (2 : Int32) [(.ref r1), (.ref r2)] .null; exact Qf3_1), Qf3_2⟩, ⟨_, rfl⟩, hW, hsame.mono (by decide) (by decide)⟩

theorem own_ef_own_rmTA3 (m : MethodId) (x0 : Addr) : entryFrame m #[(.ref x0)] 1 = mkF m 0 #[.val (.ref x0)] [] := by first | (simp [entryFrame, mkF, argsToLocals, Value.category]; done) | rfl
def own_Q_own_rmTA3 (Z : State) (x0 : Addr) (ea : Addr) (kE : ClassId) (r1 : Addr) (r2 : Addr) (r3 : Addr) (kk1 : String) (kk2 : String) (kk3 : String) (mr : Addr) (h0 : Heap) (n0 : Nat) (v : Option Value) (h : Heap) (L : List Loc) : Prop := ∃ (ca : Addr) (kC : ClassId), v = some (.ref ca) ∧ Fr n0 L ∧ h0.size ≤ ca ∧ Keep h0 h [] ∧ Exa Z h ca "[Ljava/lang/Object;" ∧ Arv Z h ca kC (.object "java/lang/Object") (3 : Int32) [(.ref r1), (.ref r2), (.ref r3)] .null ∧ Ovr Z kC "java/lang/Object"
abbrev own_r_own_rmTA3 : Room := ({ frames := 3, cells := 1, slots := 3, locals := 46 } : Room)

set_option maxRecDepth 65536 in
set_option maxHeartbeats 40000000 in
theorem own_rmTA3 (l : Launch) (Z : State) (a0 : Array Value) (hw : ∀ d ∈ tables_1, d.before a0 Z = true) (ws : List Jvm.Cond) (x0 : Addr) (ea : Addr) (kE : ClassId) (r1 : Addr) (r2 : Addr) (r3 : Addr) (kk1 : String) (kk2 : String) (kk3 : String) (mr : Addr) (h0 : Heap) (n0 : Nat) (Z0 : n0 ≤ h0.size) (Pi0 : Exa Z h0 x0 "java/util/ArrayList") (Pi1 : Fld Z h0 x0 "java/util/ArrayList" "size" "I" (.int (3 : Int32))) (Pi2 : Fld Z h0 x0 "java/util/ArrayList" "elementData" "[Ljava/lang/Object;" (.ref ea)) (Pi3 : Exa Z h0 ea "[Ljava/lang/Object;") (Pi4 : Arv Z h0 ea kE (.object "java/lang/Object") (10 : Int32) [(.ref r1), (.ref r2), (.ref r3), .null, .null, .null, .null, .null, .null, .null] .null) (Pi5 : Exa Z h0 r1 kk1) (hco1 : (Cond.castable kk1 "java/lang/Object").before a0 Z = true) (Pi7 : Exa Z h0 r2 kk2) (hco2 : (Cond.castable kk2 "java/lang/Object").before a0 Z = true) (Pi9 : Exa Z h0 r3 kk3) (hco3 : (Cond.castable kk3 "java/lang/Object").before a0 Z = true) (Mr : (Term.mirror "[Ljava/lang/Object;").eval #[] Z none [] Z = some (.ref mr)) :
    MetFree l own_n21 (head1 (Jvm.Cond.code own_n21 jdk_38_method_16_code 1 (some (.array (.object "java/lang/Object"))) :: ws) own_r_own_rmTA3) (fun a U => a = #[(.ref x0)] ∧ Z.Warmed39 U.vm ∧ U.heap = h0) (fun _ _ _ _ _ => True) (fun _ U o U' => ∃ v L, o = .returned v ∧ own_Q_own_rmTA3 Z x0 ea kE r1 r2 r3 kk1 kk2 kk3 mr h0 n0 v U'.heap L ∧ FrameEnd U o U' L own_r_own_rmTA3.cells own_r_own_rmTA3.slots) := by
  refine MetFree.of_bodySF (plainFor_of_name own_pn_18) hisR ?_
  intro p e s m args below meth c s₁ Bd hml0 hP hK
  obtain ⟨rfl, hZ, hh⟩ := hP
  have hx := Bd.exec
  have hby := Bd.bytes
  have hml : c.maxLocals = 1 := hml0
  have hown : s.vm.findClass "java/util/ArrayList" = some m.cls := findClass_of_methodNamed Bd.named
  have hnm := (name_of_methodNamed Bd.named Bd.method).1
  have X0 : Stand p l e own_r_own_rmTA3 s m #[(.ref x0)] below meth c s₁ [] 0 0 := Stand.of_body Bd
  have e0 : s₁.heap = h0 := by rw [← hh, Bd.state]; rfl
  have N0 := Fr.nil n0
  show Goes p.tables e below _ (own_R below s (own_Q_own_rmTA3 Z x0 ea kE r1 r2 r3 kk1 kk2 kk3 mr h0 n0) own_r_own_rmTA3.cells own_r_own_rmTA3.slots)
  refine Goes.to (fun t k => castTop (own_ef_own_rmTA3 m x0) k) ?_
  refine gx (XS.aloadN X0.here hx rfl (hb hby d18_0) rfl rfl) ?_
  obtain ⟨T1, X1, e1, st1⟩ := getF X0 hx hZ hown (host := "") (Or.inl (own_hw hw 29 rfl)) Via.refl e0 Pi2 (g := (mkF m 1 #[.val (.ref x0)] [(.ref x0)])) rfl rfl (hb hby d18_1)
  refine Goes.to st1 ?_
  refine gx (XS.aloadN X1.here hx rfl (hb hby d18_4) rfl rfl) ?_
  obtain ⟨T2, X2, e2, st2⟩ := getF X1 hx hZ hown (host := "") (Or.inl (own_hw hw 56 rfl)) Via.refl e1 Pi1 (g := (mkF m 5 #[.val (.ref x0)] [(.ref x0), (.ref ea)])) rfl rfl (hb hby d18_5)
  refine Goes.to st2 ?_
  obtain ⟨_, _, ⟨T3, L3, k3, n3⟩, -, X3, ⟨Lc3, hQ3, l3, y3, z3⟩, st3⟩ := Jvm.LawKit.callS X2 hx (y := own_n20) hown (mvT hZ (own_hw hw 132 rfl)) (mvT hZ (own_hw hw 133 rfl)) (mvT hZ (own_hw hw 134 rfl)) (mvT hZ (own_hw hw 135 rfl)) (by decide) (backOf (W := 0) (own_rmCO3 l Z a0 hw [] ea kE r1 r2 r3 kk1 kk2 kk3 mr h0 n0 Z0 Pi3 Pi4 Pi5 hco1 Pi7 hco2 Pi9 hco3 Mr) hZ (own_hw hw 135 rfl) (own_hw hw 134 rfl) (by decide) (by decide)) (g := (mkF m 8 #[.val (.ref x0)] [(.int (3 : Int32)), (.ref ea)])) rfl (by rw [hml]; rfl) (argsL := [(.ref ea), (.int (3 : Int32))]) (rest := []) (lenOf own_pd_paLjavallanglObjectsIqaLjavallanglObjects rfl) rfl (own_W rfl rfl) (hb hby d18_8) (fun _ _ => ⟨rfl, e2, (by decide : 0 + 1 ≤ _), (by decide : 0 + 3 ≤ _)⟩)
  dsimp only [Pt.U, Pt.locs, Pt.cells, Pt.slots] at X3 l3 y3 z3 st3 hQ3
  subst l3 y3 z3
  obtain ⟨ca_3, kC_3, hv3, Nq3, sq3_0, Kq3, Qf3_0, Qf3_1, Qf3_2⟩ := hQ3
  have N3 := Fr.app N0 Nq3
  have sz_ca_3 : h0.size ≤ ca_3 := Nat.le_trans (Keep.refl h0 []).1 sq3_0
  have Kc3 : Keep h0 T3.heap [] := (Keep.refl h0 []).trans Kq3 all0
  subst hv3
  refine Goes.to st3 ?_
  show Goes p.tables e below (T3.setTop (mkF m 11 #[.val (.ref x0)] [(.ref ca_3)])) _
  obtain ⟨fs, hr, hrun, hended, hW, hsame⟩ := X3.leave (v := some (.ref ca_3)) (fun h => by rw [Bd.returns] at h; cases h)
  exact ⟨_, _, retOut X3 hx Bd.returns rfl (Or.inr (Or.inr (Or.inr (Or.inr ⟨rfl, rfl, rfl⟩)))) (hb hby d18_11) hr, hrun, hended, _, _, rfl, ⟨ca_3, kC_3, rfl, N3, sz_ca_3, (by show Keep h0 T3.heap []; exact Kc3), (by show Exa Z T3.heap ca_3 "[Ljava/lang/Object;"; exact Qf3_0), (by show Arv Z T3.heap ca_3 kC_3 (.object "java/lang/Object") (3 : Int32) [(.ref r1), (.ref r2), (.ref r3)] .null; exact Qf3_1), Qf3_2⟩, ⟨_, rfl⟩, hW, hsame.mono (by decide) (by decide)⟩

theorem d23_0 : decode jdk_44_method_1_code 0 = .ok (.aload_n 0, 1) := by decide +kernel
theorem d23_1 : decode jdk_44_method_1_code 1 = .ok (.invokespecial 1, 3) := by decide +kernel
theorem d23_4 : decode jdk_44_method_1_code 4 = .ok (.aload_n 0, 1) := by decide +kernel
theorem d23_5 : decode jdk_44_method_1_code 5 = .ok (.aload_n 1, 1) := by decide +kernel
theorem d23_6 : decode jdk_44_method_1_code 6 = .ok (.invokestatic 7, 3) := by decide +kernel
theorem d23_9 : decode jdk_44_method_1_code 9 = .ok (.putfield 13, 3) := by decide +kernel
theorem d23_12 : decode jdk_44_method_1_code 12 = .ok (.aload_n 0, 1) := by decide +kernel
theorem d23_13 : decode jdk_44_method_1_code 13 = .ok (.getstatic 19, 3) := by decide +kernel
theorem d23_16 : decode jdk_44_method_1_code 16 = .ok (.putfield 24, 3) := by decide +kernel
theorem d23_19 : decode jdk_44_method_1_code 19 = .ok (.return_, 1) := by decide +kernel
theorem own_pd_pLjavallanglObjectsqLjavallanglObjects : parseMethodDescriptor "(Ljava/lang/Object;)Ljava/lang/Object;" = some ⟨[(.object "java/lang/Object")], some (.object "java/lang/Object")⟩ := by decide +kernel
theorem own_pn_23 : plainName "java/util/ImmutableCollections$List12" = true := by first | (simp [plainName, overriddenIn]; done) | decide +kernel
theorem own_ef_own_rm23 (m : MethodId) (x0 : Addr) (x1 : Addr) : entryFrame m #[(.ref x0), (.ref x1)] 2 = mkF m 0 #[.val (.ref x0), .val (.ref x1)] [] := by first | (simp [entryFrame, mkF, argsToLocals, Value.category]; done) | rfl
def own_Q_own_rm23 (Z : State) (x0 : Addr) (x1 : Addr) (aI : Addr) (h0 : Heap) (n0 : Nat) (v : Option Value) (h : Heap) (L : List Loc) : Prop := v = none ∧ Fr n0 L ∧ Keep h0 h [x0] ∧ Exa Z h x0 "java/util/ImmutableCollections$List12" ∧ Fld Z h x0 "java/util/ImmutableCollections$List12" "e0" "Ljava/lang/Object;" (.ref x1) ∧ Fld Z h x0 "java/util/ImmutableCollections$List12" "e1" "Ljava/lang/Object;" (.ref aI)
abbrev own_r_own_rm23 : Room := ({ frames := 4, cells := 0, slots := 0, locals := 48 } : Room)

set_option maxRecDepth 65536 in
set_option maxHeartbeats 40000000 in
theorem own_rm23 (l : Launch) (Z : State) (a0 : Array Value) (hw : ∀ d ∈ tables_1, d.before a0 Z = true) (ws : List Jvm.Cond) (x0 : Addr) (x1 : Addr) (aI : Addr) (h0 : Heap) (n0 : Nat) (Z0 : n0 ≤ h0.size) (Pi0 : n0 ≤ x0) (Pi1 : Exa Z h0 x0 "java/util/ImmutableCollections$List12") (Pi2 : Fld Z h0 x0 "java/util/ImmutableCollections$List12" "e0" "Ljava/lang/Object;" .null) (Pi3 : Fld Z h0 x0 "java/util/ImmutableCollections$List12" "e1" "Ljava/lang/Object;" .null) (Pi4 : Sta Z h0 "java/util/ImmutableCollections" "EMPTY" "Ljava/lang/Object;" (.ref aI)) :
    MetFree l own_n22 (head1 (Jvm.Cond.code own_n22 jdk_44_method_1_code 2 none :: ws) own_r_own_rm23) (fun a U => a = #[(.ref x0), (.ref x1)] ∧ Z.Warmed39 U.vm ∧ U.heap = h0) (fun _ _ _ _ _ => True) (fun _ U o U' => ∃ v L, o = .returned v ∧ own_Q_own_rm23 Z x0 x1 aI h0 n0 v U'.heap L ∧ FrameEnd U o U' L own_r_own_rm23.cells own_r_own_rm23.slots) := by
  refine MetFree.of_bodySF (plainFor_of_name own_pn_23) hisR ?_
  intro p e s m args below meth c s₁ Bd hml0 hP hK
  obtain ⟨rfl, hZ, hh⟩ := hP
  have hx := Bd.exec
  have hby := Bd.bytes
  have hml : c.maxLocals = 2 := hml0
  have hown : s.vm.findClass "java/util/ImmutableCollections$List12" = some m.cls := findClass_of_methodNamed Bd.named
  have hnm := (name_of_methodNamed Bd.named Bd.method).1
  have X0 : Stand p l e own_r_own_rm23 s m #[(.ref x0), (.ref x1)] below meth c s₁ [] 0 0 := Stand.of_body Bd
  have e0 : s₁.heap = h0 := by rw [← hh, Bd.state]; rfl
  have N0 := Fr.nil n0
  show Goes p.tables e below _ (own_R below s (own_Q_own_rm23 Z x0 x1 aI h0 n0) own_r_own_rm23.cells own_r_own_rm23.slots)
  refine Goes.to (fun t k => castTop (own_ef_own_rm23 m x0 x1) k) ?_
  refine gx (XS.aloadN X0.here hx rfl (hb hby d23_0) rfl rfl) ?_
  obtain ⟨_, _, ⟨T1, L1, k1, n1⟩, -, X1, ⟨Lc1, hQ1, l1, y1, z1⟩, st1⟩ := X0.specialBack hx (y := own_n6) rfl hown (mvT hZ (own_hw hw 164 rfl)) (mvT hZ (own_hw hw 165 rfl)) (mvT hZ (own_hw hw 169 rfl)) (by decide) (backOf (W := 0) (own_rm24 l Z a0 hw [] x0 h0 n0 Z0 ) hZ (own_hw hw 169 rfl) (own_hw hw 168 rfl) (by decide) (by decide)) (g := (mkF m 1 #[.val (.ref x0), .val (.ref x1)] [(.ref x0)])) rfl (by rw [hml]; rfl) (Steps.refl _) (a := x0) (argsL := []) (rest := []) (lenOf own_pd_pqV rfl) rfl (own_W rfl rfl) (hb hby d23_1) (fun _ _ => ⟨rfl, e0, (by decide : 0 + 0 ≤ _), (by decide : 0 + 0 ≤ _)⟩)
  dsimp only [Pt.U, Pt.locs, Pt.cells, Pt.slots] at X1 l1 y1 z1 st1 hQ1
  subst l1 y1 z1
  obtain ⟨hv1, Nq1, hp1_0⟩ := hQ1
  have N1 := Fr.app N0 Nq1
  subst hv1
  refine Goes.tr st1 ?_
  refine gx (XS.aloadN X1.here hx rfl (hb hby d23_4) rfl rfl) ?_
  refine gx (XS.aloadN X1.here hx rfl (hb hby d23_5) rfl rfl) ?_
  obtain ⟨_, _, ⟨T2, L2, k2, n2⟩, -, X2, ⟨Lc2, hQ2, l2, y2, z2⟩, st2⟩ := Jvm.LawKit.callS X1 hx (y := own_n2) hown (mvT hZ (own_hw hw 178 rfl)) (mvT hZ (own_hw hw 179 rfl)) (mvT hZ (own_hw hw 180 rfl)) (mvT hZ (own_hw hw 181 rfl)) (by decide) (backOf (W := 1) (own_rm26 l Z a0 hw [] x1 h0 n0 Z0 ) hZ (own_hw hw 181 rfl) (own_hw hw 180 rfl) (by decide) (by decide)) (g := (mkF m 6 #[.val (.ref x0), .val (.ref x1)] [(.ref x1), (.ref x0)])) rfl (by rw [hml]; rfl) (argsL := [(.ref x1)]) (rest := [(.ref x0)]) (lenOf own_pd_pLjavallanglObjectsqLjavallanglObjects rfl) rfl (own_W rfl rfl) (hb hby d23_6) (fun _ _ => ⟨rfl, hp1_0, (by decide : 0 + 0 ≤ _), (by decide : 0 + 0 ≤ _)⟩)
  dsimp only [Pt.U, Pt.locs, Pt.cells, Pt.slots] at X2 l2 y2 z2 st2 hQ2
  subst l2 y2 z2
  obtain ⟨hv2, Nq2, hp2_0⟩ := hQ2
  have N2 := Fr.app N1 Nq2
  subst hv2
  refine Goes.to st2 ?_
  obtain ⟨T3, h3, X3, e3, W3, st3⟩ := putF X2 hx hZ hown (host := "") (Or.inl (own_hw hw 182 rfl)) Via.refl hp2_0 Pi2 Pi1 (Or.inr ⟨(own_hw hw 183 rfl), rfl, hnm⟩) (own_hw hw 158 rfl) (ty := (.object "java/lang/Object")) (by decide) rfl rfl (g := (mkF m 9 #[.val (.ref x0), .val (.ref x1)] [(.ref x1), (.ref x0)])) rfl rfl (hb hby d23_9)
  subst e3
  have F4 := Pi1.wr W3
  have F6 := Pi3.other W3 (Or.inr (slot_ne (Or.inr (own_hw hw 186 rfl)) (Or.inr (own_hw hw 183 rfl)) (by decide) (t := (.object "java/lang/Object")) (t' := (.object "java/lang/Object")) (by decide) (by decide)))
  have F7 := Pi4.wr W3
  have N3 := Fr.snoc X3 N2 Pi0
  have K3 : Keep h0 T3.heap [x0] := (Keep.refl h0 [x0]).wr W3 (Or.inl (List.mem_of_getElem? (i := 0) rfl))
  have F8 : Fld Z T3.heap x0 "java/util/ImmutableCollections$List12" "e0" "Ljava/lang/Object;" (.ref x1) := Pi2.same W3
  refine Goes.to st3 ?_
  refine gx (XS.aloadN X3.here hx rfl (hb hby d23_12) rfl rfl) ?_
  obtain ⟨T9, X9, e9, st9⟩ := getS2 X3 hx hZ hown (Or.inr (own_hw hw 184 rfl)) Via.refl rfl F7 (g := (mkF m 13 #[.val (.ref x0), .val (.ref x1)] [(.ref x0)])) rfl (hb hby d23_13)
  refine Goes.to st9 ?_
  obtain ⟨T10, h10, X10, e10, W10, st10⟩ := putF X9 hx hZ hown (host := "") (Or.inl (own_hw hw 185 rfl)) Via.refl e9 F6 F4 (Or.inr ⟨(own_hw hw 186 rfl), rfl, hnm⟩) (own_hw hw 158 rfl) (ty := (.object "java/lang/Object")) (by decide) rfl rfl (g := (mkF m 16 #[.val (.ref x0), .val (.ref x1)] [(.ref aI), (.ref x0)])) rfl rfl (hb hby d23_16)
  subst e10
  have F11 := F4.wr W10
  have F12 := F8.other W10 (Or.inr (slot_ne (Or.inr (own_hw hw 183 rfl)) (Or.inr (own_hw hw 186 rfl)) (by decide) (t := (.object "java/lang/Object")) (t' := (.object "java/lang/Object")) (by decide) (by decide)))
  have N10 := Fr.snoc X10 N3 Pi0
  have K10 : Keep h0 T10.heap [x0] := K3.wr W10 (Or.inl (List.mem_of_getElem? (i := 0) rfl))
  have F15 : Fld Z T10.heap x0 "java/util/ImmutableCollections$List12" "e1" "Ljava/lang/Object;" (.ref aI) := F6.same W10
  refine Goes.to st10 ?_
  show Goes p.tables e below (T10.setTop (mkF m 19 #[.val (.ref x0), .val (.ref x1)] [])) _
  obtain ⟨fs, hr, hrun, hended, hW, hsame⟩ := X10.leave (v := none) (fun _ => rfl)
  exact ⟨_, _, X10.returnOut hx Bd.returns (hb hby d23_19) hr, hrun, hended, _, _, rfl, ⟨rfl, N10, (by show Keep h0 T10.heap [x0]; exact K10), (by show Exa Z T10.heap x0 "java/util/ImmutableCollections$List12"; exact F11), (by show Fld Z T10.heap x0 "java/util/ImmutableCollections$List12" "e0" "Ljava/lang/Object;" (.ref x1); exact F12), (by show Fld Z T10.heap x0 "java/util/ImmutableCollections$List12" "e1" "Ljava/lang/Object;" (.ref aI); exact F15)⟩, ⟨_, rfl⟩, hW, hsame.mono (by decide) (by decide)⟩

theorem d36_0 : decode jdk_44_method_2_code 0 = .ok (.aload_n 0, 1) := by decide +kernel
theorem d36_1 : decode jdk_44_method_2_code 1 = .ok (.invokespecial 1, 3) := by decide +kernel
theorem d36_4 : decode jdk_44_method_2_code 4 = .ok (.aload_n 0, 1) := by decide +kernel
theorem d36_5 : decode jdk_44_method_2_code 5 = .ok (.aload_n 1, 1) := by decide +kernel
theorem d36_6 : decode jdk_44_method_2_code 6 = .ok (.invokestatic 7, 3) := by decide +kernel
theorem d36_9 : decode jdk_44_method_2_code 9 = .ok (.putfield 13, 3) := by decide +kernel
theorem d36_12 : decode jdk_44_method_2_code 12 = .ok (.aload_n 0, 1) := by decide +kernel
theorem d36_13 : decode jdk_44_method_2_code 13 = .ok (.aload_n 2, 1) := by decide +kernel
theorem d36_14 : decode jdk_44_method_2_code 14 = .ok (.invokestatic 7, 3) := by decide +kernel
theorem d36_17 : decode jdk_44_method_2_code 17 = .ok (.putfield 24, 3) := by decide +kernel
theorem d36_20 : decode jdk_44_method_2_code 20 = .ok (.return_, 1) := by decide +kernel
theorem own_pn_36 : plainName "java/util/ImmutableCollections$List12" = true := by first | (simp [plainName, overriddenIn]; done) | decide +kernel
theorem own_ef_own_rm36 (m : MethodId) (x0 : Addr) (x1 : Addr) (x2 : Addr) : entryFrame m #[(.ref x0), (.ref x1), (.ref x2)] 3 = mkF m 0 #[.val (.ref x0), .val (.ref x1), .val (.ref x2)] [] := by first | (simp [entryFrame, mkF, argsToLocals, Value.category]; done) | rfl
def own_Q_own_rm36 (Z : State) (x0 : Addr) (x1 : Addr) (x2 : Addr)  (h0 : Heap) (n0 : Nat) (v : Option Value) (h : Heap) (L : List Loc) : Prop := v = none ∧ Fr n0 L ∧ Keep h0 h [x0] ∧ Exa Z h x0 "java/util/ImmutableCollections$List12" ∧ Fld Z h x0 "java/util/ImmutableCollections$List12" "e0" "Ljava/lang/Object;" (.ref x1) ∧ Fld Z h x0 "java/util/ImmutableCollections$List12" "e1" "Ljava/lang/Object;" (.ref x2)
abbrev own_r_own_rm36 : Room := ({ frames := 4, cells := 0, slots := 0, locals := 48 } : Room)

set_option maxRecDepth 65536 in
set_option maxHeartbeats 40000000 in
theorem own_rm36 (l : Launch) (Z : State) (a0 : Array Value) (hw : ∀ d ∈ tables_1, d.before a0 Z = true) (ws : List Jvm.Cond) (x0 : Addr) (x1 : Addr) (x2 : Addr)  (h0 : Heap) (n0 : Nat) (Z0 : n0 ≤ h0.size) (Pi0 : n0 ≤ x0) (Pi1 : Exa Z h0 x0 "java/util/ImmutableCollections$List12") (Pi2 : Fld Z h0 x0 "java/util/ImmutableCollections$List12" "e0" "Ljava/lang/Object;" .null) (Pi3 : Fld Z h0 x0 "java/util/ImmutableCollections$List12" "e1" "Ljava/lang/Object;" .null) :
    MetFree l own_n23 (head1 (Jvm.Cond.code own_n23 jdk_44_method_2_code 3 none :: ws) own_r_own_rm36) (fun a U => a = #[(.ref x0), (.ref x1), (.ref x2)] ∧ Z.Warmed39 U.vm ∧ U.heap = h0) (fun _ _ _ _ _ => True) (fun _ U o U' => ∃ v L, o = .returned v ∧ own_Q_own_rm36 Z x0 x1 x2 h0 n0 v U'.heap L ∧ FrameEnd U o U' L own_r_own_rm36.cells own_r_own_rm36.slots) := by
  refine MetFree.of_bodySF (plainFor_of_name own_pn_36) hisR ?_
  intro p e s m args below meth c s₁ Bd hml0 hP hK
  obtain ⟨rfl, hZ, hh⟩ := hP
  have hx := Bd.exec
  have hby := Bd.bytes
  have hml : c.maxLocals = 3 := hml0
  have hown : s.vm.findClass "java/util/ImmutableCollections$List12" = some m.cls := findClass_of_methodNamed Bd.named
  have hnm := (name_of_methodNamed Bd.named Bd.method).1
  have X0 : Stand p l e own_r_own_rm36 s m #[(.ref x0), (.ref x1), (.ref x2)] below meth c s₁ [] 0 0 := Stand.of_body Bd
  have e0 : s₁.heap = h0 := by rw [← hh, Bd.state]; rfl
  have N0 := Fr.nil n0
  show Goes p.tables e below _ (own_R below s (own_Q_own_rm36 Z x0 x1 x2 h0 n0) own_r_own_rm36.cells own_r_own_rm36.slots)
  refine Goes.to (fun t k => castTop (own_ef_own_rm36 m x0 x1 x2) k) ?_
  refine gx (XS.aloadN X0.here hx rfl (hb hby d36_0) rfl rfl) ?_
  obtain ⟨_, _, ⟨T1, L1, k1, n1⟩, -, X1, ⟨Lc1, hQ1, l1, y1, z1⟩, st1⟩ := X0.specialBack hx (y := own_n6) rfl hown (mvT hZ (own_hw hw 164 rfl)) (mvT hZ (own_hw hw 165 rfl)) (mvT hZ (own_hw hw 169 rfl)) (by decide) (backOf (W := 0) (own_rm24 l Z a0 hw [] x0 h0 n0 Z0 ) hZ (own_hw hw 169 rfl) (own_hw hw 168 rfl) (by decide) (by decide)) (g := (mkF m 1 #[.val (.ref x0), .val (.ref x1), .val (.ref x2)] [(.ref x0)])) rfl (by rw [hml]; rfl) (Steps.refl _) (a := x0) (argsL := []) (rest := []) (lenOf own_pd_pqV rfl) rfl (own_W rfl rfl) (hb hby d36_1) (fun _ _ => ⟨rfl, e0, (by decide : 0 + 0 ≤ _), (by decide : 0 + 0 ≤ _)⟩)
  dsimp only [Pt.U, Pt.locs, Pt.cells, Pt.slots] at X1 l1 y1 z1 st1 hQ1
  subst l1 y1 z1
  obtain ⟨hv1, Nq1, hp1_0⟩ := hQ1
  have N1 := Fr.app N0 Nq1
  subst hv1
  refine Goes.tr st1 ?_
  refine gx (XS.aloadN X1.here hx rfl (hb hby d36_4) rfl rfl) ?_
  refine gx (XS.aloadN X1.here hx rfl (hb hby d36_5) rfl rfl) ?_
  obtain ⟨_, _, ⟨T2, L2, k2, n2⟩, -, X2, ⟨Lc2, hQ2, l2, y2, z2⟩, st2⟩ := Jvm.LawKit.callS X1 hx (y := own_n2) hown (mvT hZ (own_hw hw 178 rfl)) (mvT hZ (own_hw hw 179 rfl)) (mvT hZ (own_hw hw 180 rfl)) (mvT hZ (own_hw hw 181 rfl)) (by decide) (backOf (W := 1) (own_rm26 l Z a0 hw [] x1 h0 n0 Z0 ) hZ (own_hw hw 181 rfl) (own_hw hw 180 rfl) (by decide) (by decide)) (g := (mkF m 6 #[.val (.ref x0), .val (.ref x1), .val (.ref x2)] [(.ref x1), (.ref x0)])) rfl (by rw [hml]; rfl) (argsL := [(.ref x1)]) (rest := [(.ref x0)]) (lenOf own_pd_pLjavallanglObjectsqLjavallanglObjects rfl) rfl (own_W rfl rfl) (hb hby d36_6) (fun _ _ => ⟨rfl, hp1_0, (by decide : 0 + 0 ≤ _), (by decide : 0 + 0 ≤ _)⟩)
  dsimp only [Pt.U, Pt.locs, Pt.cells, Pt.slots] at X2 l2 y2 z2 st2 hQ2
  subst l2 y2 z2
  obtain ⟨hv2, Nq2, hp2_0⟩ := hQ2
  have N2 := Fr.app N1 Nq2
  subst hv2
  refine Goes.to st2 ?_
  obtain ⟨T3, h3, X3, e3, W3, st3⟩ := putF X2 hx hZ hown (host := "") (Or.inl (own_hw hw 182 rfl)) Via.refl hp2_0 Pi2 Pi1 (Or.inr ⟨(own_hw hw 183 rfl), rfl, hnm⟩) (own_hw hw 158 rfl) (ty := (.object "java/lang/Object")) (by decide) rfl rfl (g := (mkF m 9 #[.val (.ref x0), .val (.ref x1), .val (.ref x2)] [(.ref x1), (.ref x0)])) rfl rfl (hb hby d36_9)
  subst e3
  have F4 := Pi1.wr W3
  have F6 := Pi3.other W3 (Or.inr (slot_ne (Or.inr (own_hw hw 186 rfl)) (Or.inr (own_hw hw 183 rfl)) (by decide) (t := (.object "java/lang/Object")) (t' := (.object "java/lang/Object")) (by decide) (by decide)))
  have N3 := Fr.snoc X3 N2 Pi0
  have Z3 : n0 ≤ T3.heap.size := Nat.le_trans Z0 (Nat.le_of_eq W3.size.symm)
  have K3 : Keep h0 T3.heap [x0] := (Keep.refl h0 [x0]).wr W3 (Or.inl (List.mem_of_getElem? (i := 0) rfl))
  have F7 : Fld Z T3.heap x0 "java/util/ImmutableCollections$List12" "e0" "Ljava/lang/Object;" (.ref x1) := Pi2.same W3
  refine Goes.to st3 ?_
  refine gx (XS.aloadN X3.here hx rfl (hb hby d36_12) rfl rfl) ?_
  refine gx (XS.aloadN X3.here hx rfl (hb hby d36_13) rfl rfl) ?_
  obtain ⟨_, _, ⟨T8, L8, k8, n8⟩, -, X8, ⟨Lc8, hQ8, l8, y8, z8⟩, st8⟩ := Jvm.LawKit.callS X3 hx (y := own_n2) hown (mvT hZ (own_hw hw 178 rfl)) (mvT hZ (own_hw hw 179 rfl)) (mvT hZ (own_hw hw 180 rfl)) (mvT hZ (own_hw hw 181 rfl)) (by decide) (backOf (W := 1) (own_rm26 l Z a0 hw [] x2 T3.heap n0 Z3 ) hZ (own_hw hw 181 rfl) (own_hw hw 180 rfl) (by decide) (by decide)) (g := (mkF m 14 #[.val (.ref x0), .val (.ref x1), .val (.ref x2)] [(.ref x2), (.ref x0)])) rfl (by rw [hml]; rfl) (argsL := [(.ref x2)]) (rest := [(.ref x0)]) (lenOf own_pd_pLjavallanglObjectsqLjavallanglObjects rfl) rfl (own_W rfl rfl) (hb hby d36_14) (fun _ _ => ⟨rfl, rfl, (by decide : 0 + 0 ≤ _), (by decide : 0 + 0 ≤ _)⟩)
  dsimp only [Pt.U, Pt.locs, Pt.cells, Pt.slots] at X8 l8 y8 z8 st8 hQ8
  subst l8 y8 z8
  obtain ⟨hv8, Nq8, hp8_0⟩ := hQ8
  have N8 := Fr.app N3 Nq8
  subst hv8
  refine Goes.to st8 ?_
  obtain ⟨T9, h9, X9, e9, W9, st9⟩ := putF X8 hx hZ hown (host := "") (Or.inl (own_hw hw 185 rfl)) Via.refl hp8_0 F6 F4 (Or.inr ⟨(own_hw hw 186 rfl), rfl, hnm⟩) (own_hw hw 158 rfl) (ty := (.object "java/lang/Object")) (by decide) rfl rfl (g := (mkF m 17 #[.val (.ref x0), .val (.ref x1), .val (.ref x2)] [(.ref x2), (.ref x0)])) rfl rfl (hb hby d36_17)
  subst e9
  have F10 := F4.wr W9
  have F11 := F7.other W9 (Or.inr (slot_ne (Or.inr (own_hw hw 183 rfl)) (Or.inr (own_hw hw 186 rfl)) (by decide) (t := (.object "java/lang/Object")) (t' := (.object "java/lang/Object")) (by decide) (by decide)))
  have N9 := Fr.snoc X9 N8 Pi0
  have K9 : Keep h0 T9.heap [x0] := K3.wr W9 (Or.inl (List.mem_of_getElem? (i := 0) rfl))
  have F13 : Fld Z T9.heap x0 "java/util/ImmutableCollections$List12" "e1" "Ljava/lang/Object;" (.ref x2) := F6.same W9
  refine Goes.to st9 ?_
  show Goes p.tables e below (T9.setTop (mkF m 20 #[.val (.ref x0), .val (.ref x1), .val (.ref x2)] [])) _
  obtain ⟨fs, hr, hrun, hended, hW, hsame⟩ := X9.leave (v := none) (fun _ => rfl)
  exact ⟨_, _, X9.returnOut hx Bd.returns (hb hby d36_20) hr, hrun, hended, _, _, rfl, ⟨rfl, N9, (by show Keep h0 T9.heap [x0]; exact K9), (by show Exa Z T9.heap x0 "java/util/ImmutableCollections$List12"; exact F10), (by show Fld Z T9.heap x0 "java/util/ImmutableCollections$List12" "e0" "Ljava/lang/Object;" (.ref x1); exact F11), (by show Fld Z T9.heap x0 "java/util/ImmutableCollections$List12" "e1" "Ljava/lang/Object;" (.ref x2); exact F13)⟩, ⟨_, rfl⟩, hW, hsame.mono (by decide) (by decide)⟩

theorem d39_0 : decode jdk_45_method_1_code 0 = .ok (.aload_n 0, 1) := by decide +kernel
theorem d39_1 : decode jdk_45_method_1_code 1 = .ok (.invokespecial 1, 3) := by decide +kernel
theorem d39_4 : decode jdk_45_method_1_code 4 = .ok (.aload_n 0, 1) := by decide +kernel
theorem d39_5 : decode jdk_45_method_1_code 5 = .ok (.aload_n 1, 1) := by decide +kernel
theorem d39_6 : decode jdk_45_method_1_code 6 = .ok (.putfield 7, 3) := by decide +kernel
theorem d39_9 : decode jdk_45_method_1_code 9 = .ok (.aload_n 0, 1) := by decide +kernel
theorem d39_10 : decode jdk_45_method_1_code 10 = .ok (.iload_n 2, 1) := by decide +kernel
theorem d39_11 : decode jdk_45_method_1_code 11 = .ok (.putfield 13, 3) := by decide +kernel
theorem d39_14 : decode jdk_45_method_1_code 14 = .ok (.return_, 1) := by decide +kernel
theorem own_pn_39 : plainName "java/util/ImmutableCollections$ListN" = true := by first | (simp [plainName, overriddenIn]; done) | decide +kernel
theorem own_ef_own_rm39 (m : MethodId) (x0 : Addr) (x1 : Addr) (x2 : Int32) : entryFrame m #[(.ref x0), (.ref x1), (.int x2)] 3 = mkF m 0 #[.val (.ref x0), .val (.ref x1), .val (.int x2)] [] := by first | (simp [entryFrame, mkF, argsToLocals, Value.category]; done) | rfl
def own_Q_own_rm39 (Z : State) (x0 : Addr) (x1 : Addr) (x2 : Int32)  (h0 : Heap) (n0 : Nat) (v : Option Value) (h : Heap) (L : List Loc) : Prop := v = none ∧ Fr n0 L ∧ Keep h0 h [x0] ∧ Exa Z h x0 "java/util/ImmutableCollections$ListN" ∧ Fld Z h x0 "java/util/ImmutableCollections$ListN" "elements" "[Ljava/lang/Object;" (.ref x1)
abbrev own_r_own_rm39 : Room := ({ frames := 4, cells := 0, slots := 0, locals := 48 } : Room)

set_option maxRecDepth 65536 in
set_option maxHeartbeats 40000000 in
theorem own_rm39 (l : Launch) (Z : State) (a0 : Array Value) (hw : ∀ d ∈ tables_1, d.before a0 Z = true) (ws : List Jvm.Cond) (x0 : Addr) (x1 : Addr) (x2 : Int32)  (h0 : Heap) (n0 : Nat) (Z0 : n0 ≤ h0.size) (Pi0 : n0 ≤ x0) (Pi1 : Exa Z h0 x0 "java/util/ImmutableCollections$ListN") (Pi2 : Fld Z h0 x0 "java/util/ImmutableCollections$ListN" "elements" "[Ljava/lang/Object;" .null) (Pi3 : Fld Z h0 x0 "java/util/ImmutableCollections$ListN" "allowNulls" "Z" (.int (0 : Int32))) :
    MetFree l own_n24 (head1 (Jvm.Cond.code own_n24 jdk_45_method_1_code 3 none :: ws) own_r_own_rm39) (fun a U => a = #[(.ref x0), (.ref x1), (.int x2)] ∧ Z.Warmed39 U.vm ∧ U.heap = h0) (fun _ _ _ _ _ => True) (fun _ U o U' => ∃ v L, o = .returned v ∧ own_Q_own_rm39 Z x0 x1 x2 h0 n0 v U'.heap L ∧ FrameEnd U o U' L own_r_own_rm39.cells own_r_own_rm39.slots) := by
  refine MetFree.of_bodySF (plainFor_of_name own_pn_39) hisR ?_
  intro p e s m args below meth c s₁ Bd hml0 hP hK
  obtain ⟨rfl, hZ, hh⟩ := hP
  have hx := Bd.exec
  have hby := Bd.bytes
  have hml : c.maxLocals = 3 := hml0
  have hown : s.vm.findClass "java/util/ImmutableCollections$ListN" = some m.cls := findClass_of_methodNamed Bd.named
  have hnm := (name_of_methodNamed Bd.named Bd.method).1
  have X0 : Stand p l e own_r_own_rm39 s m #[(.ref x0), (.ref x1), (.int x2)] below meth c s₁ [] 0 0 := Stand.of_body Bd
  have e0 : s₁.heap = h0 := by rw [← hh, Bd.state]; rfl
  have N0 := Fr.nil n0
  show Goes p.tables e below _ (own_R below s (own_Q_own_rm39 Z x0 x1 x2 h0 n0) own_r_own_rm39.cells own_r_own_rm39.slots)
  refine Goes.to (fun t k => castTop (own_ef_own_rm39 m x0 x1 x2) k) ?_
  refine gx (XS.aloadN X0.here hx rfl (hb hby d39_0) rfl rfl) ?_
  obtain ⟨_, _, ⟨T1, L1, k1, n1⟩, -, X1, ⟨Lc1, hQ1, l1, y1, z1⟩, st1⟩ := X0.specialBack hx (y := own_n6) rfl hown (mvT hZ (own_hw hw 287 rfl)) (mvT hZ (own_hw hw 165 rfl)) (mvT hZ (own_hw hw 169 rfl)) (by decide) (backOf (W := 0) (own_rm24 l Z a0 hw [] x0 h0 n0 Z0 ) hZ (own_hw hw 169 rfl) (own_hw hw 168 rfl) (by decide) (by decide)) (g := (mkF m 1 #[.val (.ref x0), .val (.ref x1), .val (.int x2)] [(.ref x0)])) rfl (by rw [hml]; rfl) (Steps.refl _) (a := x0) (argsL := []) (rest := []) (lenOf own_pd_pqV rfl) rfl (own_W rfl rfl) (hb hby d39_1) (fun _ _ => ⟨rfl, e0, (by decide : 0 + 0 ≤ _), (by decide : 0 + 0 ≤ _)⟩)
  dsimp only [Pt.U, Pt.locs, Pt.cells, Pt.slots] at X1 l1 y1 z1 st1 hQ1
  subst l1 y1 z1
  obtain ⟨hv1, Nq1, hp1_0⟩ := hQ1
  have N1 := Fr.app N0 Nq1
  subst hv1
  refine Goes.tr st1 ?_
  refine gx (XS.aloadN X1.here hx rfl (hb hby d39_4) rfl rfl) ?_
  refine gx (XS.aloadN X1.here hx rfl (hb hby d39_5) rfl rfl) ?_
  obtain ⟨T2, h2, X2, e2, W2, st2⟩ := putF X1 hx hZ hown (host := "") (Or.inl (own_hw hw 291 rfl)) Via.refl hp1_0 Pi2 Pi1 (Or.inr ⟨(own_hw hw 292 rfl), rfl, hnm⟩) (own_hw hw 281 rfl) (ty := (.array (.object "java/lang/Object"))) (by decide) rfl rfl (g := (mkF m 6 #[.val (.ref x0), .val (.ref x1), .val (.int x2)] [(.ref x1), (.ref x0)])) rfl rfl (hb hby d39_6)
  subst e2
  have F3 := Pi1.wr W2
  have F5 := Pi3.other W2 (Or.inr (slot_ne (Or.inr (own_hw hw 294 rfl)) (Or.inr (own_hw hw 292 rfl)) (by decide) (t := .boolean) (t' := (.array (.object "java/lang/Object"))) (by decide) (by decide)))
  have N2 := Fr.snoc X2 N1 Pi0
  have K2 : Keep h0 T2.heap [x0] := (Keep.refl h0 [x0]).wr W2 (Or.inl (List.mem_of_getElem? (i := 0) rfl))
  have F6 : Fld Z T2.heap x0 "java/util/ImmutableCollections$ListN" "elements" "[Ljava/lang/Object;" (.ref x1) := Pi2.same W2
  refine Goes.to st2 ?_
  refine gx (XS.aloadN X2.here hx rfl (hb hby d39_9) rfl rfl) ?_
  refine gx (XS.iloadN X2.here hx rfl (hb hby d39_10) rfl) ?_
  obtain ⟨T7, h7, X7, e7, W7, st7⟩ := putFN X2 hx hZ hown (own_hw hw 293 rfl) Via.refl rfl F5 F3 (Or.inr ⟨(own_hw hw 294 rfl), rfl, hnm⟩) (own_hw hw 281 rfl) (ty := .boolean) (v' := (.int (nar .boolean x2))) (by decide) rfl (fits_nar_bool _) (g := (mkF m 11 #[.val (.ref x0), .val (.ref x1), .val (.int x2)] [(.int x2), (.ref x0)])) rfl rfl (hb hby d39_11)
  subst e7
  have F8 := F3.wr W7
  have F9 := F6.other W7 (Or.inr (slot_ne (Or.inr (own_hw hw 292 rfl)) (Or.inr (own_hw hw 294 rfl)) (by decide) (t := (.array (.object "java/lang/Object"))) (t' := .boolean) (by decide) (by decide)))
  have N7 := Fr.snoc X7 N2 Pi0
  have K7 : Keep h0 T7.heap [x0] := K2.wr W7 (Or.inl (List.mem_of_getElem? (i := 0) rfl))
  refine Goes.to st7 ?_
  show Goes p.tables e below (T7.setTop (mkF m 14 #[.val (.ref x0), .val (.ref x1), .val (.int x2)] [])) _
  obtain ⟨fs, hr, hrun, hended, hW, hsame⟩ := X7.leave (v := none) (fun _ => rfl)
  exact ⟨_, _, X7.returnOut hx Bd.returns (hb hby d39_14) hr, hrun, hended, _, _, rfl, ⟨rfl, N7, (by show Keep h0 T7.heap [x0]; exact K7), (by show Exa Z T7.heap x0 "java/util/ImmutableCollections$ListN"; exact F8), (by show Fld Z T7.heap x0 "java/util/ImmutableCollections$ListN" "elements" "[Ljava/lang/Object;" (.ref x1); exact F9)⟩, ⟨_, rfl⟩, hW, hsame.mono (by decide) (by decide)⟩

theorem d38_0 : decode jdk_56_method_4_code 0 = .ok (.aload_n 0, 1) := by decide +kernel
theorem d38_1 : decode jdk_56_method_4_code 1 = .ok (.arraylength, 1) := by decide +kernel
theorem d38_2 : decode jdk_56_method_4_code 2 = .ok (.anewarray 2, 3) := by decide +kernel
theorem d38_5 : decode jdk_56_method_4_code 5 = .ok (.astore_n 1, 1) := by decide +kernel
theorem d38_6 : decode jdk_56_method_4_code 6 = .ok (.iconst 0, 1) := by decide +kernel
theorem d38_7 : decode jdk_56_method_4_code 7 = .ok (.istore_n 2, 1) := by decide +kernel
theorem d38_8 : decode jdk_56_method_4_code 8 = .ok (.iload_n 2, 1) := by decide +kernel
theorem d38_9 : decode jdk_56_method_4_code 9 = .ok (.aload_n 0, 1) := by decide +kernel
theorem d38_10 : decode jdk_56_method_4_code 10 = .ok (.arraylength, 1) := by decide +kernel
theorem d38_11 : decode jdk_56_method_4_code 11 = .ok (.if_icmp .ge 18, 3) := by decide +kernel
theorem d38_14 : decode jdk_56_method_4_code 14 = .ok (.aload_n 1, 1) := by decide +kernel
theorem d38_15 : decode jdk_56_method_4_code 15 = .ok (.iload_n 2, 1) := by decide +kernel
theorem d38_16 : decode jdk_56_method_4_code 16 = .ok (.aload_n 0, 1) := by decide +kernel
theorem d38_17 : decode jdk_56_method_4_code 17 = .ok (.iload_n 2, 1) := by decide +kernel
theorem d38_18 : decode jdk_56_method_4_code 18 = .ok (.aaload, 1) := by decide +kernel
theorem d38_19 : decode jdk_56_method_4_code 19 = .ok (.invokestatic 37, 3) := by decide +kernel
theorem d38_22 : decode jdk_56_method_4_code 22 = .ok (.aastore, 1) := by decide +kernel
theorem d38_23 : decode jdk_56_method_4_code 23 = .ok (.iinc 2 1, 3) := by decide +kernel
theorem d38_26 : decode jdk_56_method_4_code 26 = .ok (.goto (-18), 3) := by decide +kernel
theorem d38_29 : decode jdk_56_method_4_code 29 = .ok (.new 12, 3) := by decide +kernel
theorem d38_32 : decode jdk_56_method_4_code 32 = .ok (.dup, 1) := by decide +kernel
theorem d38_33 : decode jdk_56_method_4_code 33 = .ok (.aload_n 1, 1) := by decide +kernel
theorem d38_34 : decode jdk_56_method_4_code 34 = .ok (.iconst 0, 1) := by decide +kernel
theorem d38_35 : decode jdk_56_method_4_code 35 = .ok (.invokespecial 43, 3) := by decide +kernel
theorem d38_38 : decode jdk_56_method_4_code 38 = .ok (.areturn, 1) := by decide +kernel
theorem own_pd_paLjavallanglObjectsZqV : parseMethodDescriptor "([Ljava/lang/Object;Z)V" = some ⟨[(.array (.object "java/lang/Object")), .boolean], none⟩ := by decide +kernel
theorem own_pn_38 : plainName "java/util/ImmutableCollections" = true := by first | (simp [plainName, overriddenIn]; done) | decide +kernel
theorem own_ef_own_rm38 (m : MethodId) (x0 : Addr) : entryFrame m #[(.ref x0)] 3 = mkF m 0 #[.val (.ref x0), .unset, .unset] [] := by first | (simp [entryFrame, mkF, argsToLocals, Value.category]; done) | rfl
def own_Q_own_rm38 (Z : State) (x0 : Addr) (kC : ClassId) (r1 : Addr) (r2 : Addr) (r3 : Addr) (kk1 : String) (kk2 : String) (kk3 : String) (h0 : Heap) (n0 : Nat) (v : Option Value) (h : Heap) (L : List Loc) : Prop := ∃ (li : Addr) (el : Addr) (kL : ClassId), v = some (.ref li) ∧ Fr n0 L ∧ h0.size ≤ li ∧ h0.size ≤ el ∧ li ≠ el ∧ Keep h0 h [] ∧ Exa Z h li "java/util/ImmutableCollections$ListN" ∧ Fld Z h li "java/util/ImmutableCollections$ListN" "elements" "[Ljava/lang/Object;" (.ref el) ∧ Exa Z h el "[Ljava/lang/Object;" ∧ Arv Z h el kL (.object "java/lang/Object") (3 : Int32) [(.ref r1), (.ref r2), (.ref r3)] .null
abbrev own_r_own_rm38 : Room := ({ frames := 5, cells := 2, slots := 5, locals := 63 } : Room)

set_option maxRecDepth 65536 in
set_option maxHeartbeats 40000000 in
theorem own_rm38 (l : Launch) (Z : State) (a0 : Array Value) (hw : ∀ d ∈ tables_1, d.before a0 Z = true) (ws : List Jvm.Cond) (x0 : Addr) (kC : ClassId) (r1 : Addr) (r2 : Addr) (r3 : Addr) (kk1 : String) (kk2 : String) (kk3 : String) (h0 : Heap) (n0 : Nat) (Z0 : n0 ≤ h0.size) (Pi0 : Arv Z h0 x0 kC (.object "java/lang/Object") (3 : Int32) [(.ref r1), (.ref r2), (.ref r3)] .null) (Pi1 : Exa Z h0 x0 "[Ljava/lang/Object;") (Pi2 : Exa Z h0 r1 kk1) (hco1 : (Cond.castable kk1 "java/lang/Object").before a0 Z = true) (Pi4 : Exa Z h0 r2 kk2) (hco2 : (Cond.castable kk2 "java/lang/Object").before a0 Z = true) (Pi6 : Exa Z h0 r3 kk3) (hco3 : (Cond.castable kk3 "java/lang/Object").before a0 Z = true) :
    MetFree l own_n25 (head1 (Jvm.Cond.code own_n25 jdk_56_method_4_code 3 (some (.object "java/util/List")) :: ws) own_r_own_rm38) (fun a U => a = #[(.ref x0)] ∧ Z.Warmed39 U.vm ∧ U.heap = h0) (fun _ _ _ _ _ => True) (fun _ U o U' => ∃ v L, o = .returned v ∧ own_Q_own_rm38 Z x0 kC r1 r2 r3 kk1 kk2 kk3 h0 n0 v U'.heap L ∧ FrameEnd U o U' L own_r_own_rm38.cells own_r_own_rm38.slots) := by
  refine MetFree.of_bodySF (plainFor_of_name own_pn_38) hisR ?_
  intro p e s m args below meth c s₁ Bd hml0 hP hK
  obtain ⟨rfl, hZ, hh⟩ := hP
  have hx := Bd.exec
  have hby := Bd.bytes
  have hml : c.maxLocals = 3 := hml0
  have hown : s.vm.findClass "java/util/ImmutableCollections" = some m.cls := findClass_of_methodNamed Bd.named
  have hnm := (name_of_methodNamed Bd.named Bd.method).1
  have X0 : Stand p l e own_r_own_rm38 s m #[(.ref x0)] below meth c s₁ [] 0 0 := Stand.of_body Bd
  have e0 : s₁.heap = h0 := by rw [← hh, Bd.state]; rfl
  have N0 := Fr.nil n0
  show Goes p.tables e below _ (own_R below s (own_Q_own_rm38 Z x0 kC r1 r2 r3 kk1 kk2 kk3 h0 n0) own_r_own_rm38.cells own_r_own_rm38.slots)
  refine Goes.to (fun t k => castTop (own_ef_own_rm38 m x0) k) ?_
  refine gx (XS.aloadN X0.here hx rfl (hb hby d38_0) rfl rfl) ?_
  obtain ⟨cl1, Ar1, -, S1, N1, -, -⟩ := id Pi0
  refine Goes.to (fun _ k => X0.arraylength hx (by rw [e0]; exact Ar1.1) (State.isArrayOf_alike hZ.alike Ar1.2.1) (g := (mkF m 1 #[.val (.ref x0), .unset, .unset] [(.ref x0)])) rfl rfl (hb hby d38_1) _ k) ?_
  rw [len_of S1 N1]
  obtain ⟨T2, h2, k2, X2, e2, E2, A2, Ex2, O2, st2⟩ := newRE X0 hx hZ hown (own_hw hw 279 rfl) (own_hw hw 75 rfl) e0 (g := (mkF m 2 #[.val (.ref x0), .unset, .unset] [(.int (3 : Int32))])) rfl (hb hby d38_2) rfl (by decide) (cap := 3) (by decide) (by decide) (by decide) (by decide) (ad := "[Ljava/lang/Object;") (by decide)
  obtain ⟨b2, g2⟩ : ∃ z, z = h0.size := ⟨_, rfl⟩
  rw [← g2] at A2 Ex2 st2
  subst e2
  have ne3 : x0 ≠ b2 := Nat.ne_of_lt (Nat.lt_of_lt_of_le Pi0.lt (Nat.le_of_eq g2.symm))
  have F7 := Pi0.ext E2
  have F9 := Pi2.ext E2
  have F10 := Pi4.ext E2
  have F11 := Pi6.ext E2
  have g_b2 : n0 ≤ b2 := Nat.le_trans Z0 (Nat.le_of_eq g2.symm)
  have Z2 : n0 ≤ T2.heap.size := Nat.le_trans Z0 E2.1
  have sz_b2 : h0.size ≤ b2 := Nat.le_trans (Keep.refl h0 []).1 (Nat.le_of_eq g2.symm)
  have K2 : Keep h0 T2.heap [] := (Keep.refl h0 []).ext E2
  have V2 : Arv Z T2.heap b2 k2 (.object "java/lang/Object") (3 : Int32) [.null, .null, .null] .null := (Arv.new A2 (by decide)).pad (pad_rep [] .null 3)
  refine Goes.to st2 ?_
  refine gx (XS.astoreN X2.here hx rfl (hb hby d38_5) rfl rfl (l' := #[.val (.ref x0), .val (.ref b2), .unset]) rfl) ?_
  refine gx (XS.iconst X2.here hx rfl (hb hby d38_6)) ?_
  refine gx (XS.istoreN X2.here hx rfl (hb hby d38_7) rfl (l' := #[.val (.ref x0), .val (.ref b2), .val (.int (0 : Int32))]) rfl) ?_
  refine gx (XS.iloadN X2.here hx rfl (hb hby d38_8) rfl) ?_
  show Goes p.tables e below (T2.setTop (mkF m 9 #[.val (.ref x0), .val (.ref b2), .val (.int (0 : Int32))] [(.int (0 : Int32))])) _
  refine gx (XS.aloadN X2.here hx rfl (hb hby d38_9) rfl rfl) ?_
  obtain ⟨cl12, Ar12, -, S12, N12, -, -⟩ := id F7
  refine Goes.to (fun _ k => X2.arraylength hx Ar12.1 (State.isArrayOf_alike hZ.alike Ar12.2.1) (g := (mkF m 10 #[.val (.ref x0), .val (.ref b2), .val (.int (0 : Int32))] [(.ref x0), (.int (0 : Int32))])) rfl rfl (hb hby d38_10) _ k) ?_
  rw [len_of S12 N12]
  refine gx (XS.icmpNo X2.here hx rfl (hb hby d38_11) rfl (tlt (by decide : (0 : Int32) < (3 : Int32))).2.1) ?_
  refine gx (XS.aloadN X2.here hx rfl (hb hby d38_14) rfl rfl) ?_
  refine gx (XS.iloadN X2.here hx rfl (hb hby d38_15) rfl) ?_
  refine gx (XS.aloadN X2.here hx rfl (hb hby d38_16) rfl rfl) ?_
  show Goes p.tables e below (T2.setTop (mkF m 17 #[.val (.ref x0), .val (.ref b2), .val (.int (0 : Int32))] [(.ref x0), (.int (0 : Int32)), (.ref b2)])) _
  refine gx (XS.iloadN X2.here hx rfl (hb hby d38_17) rfl) ?_
  obtain ⟨cl13, Ar13, q13, S13, N13, H13, G13⟩ := id F7
  have hin13 : ¬ ((0 : Int32) < 0 ∨ cl13.slots.size ≤ ((0 : Int32)).toNatClampNeg) := inb_of S13 ⟨by decide, by decide⟩
  have hat13 : cl13.slots[((0 : Int32)).toNatClampNeg]? = some (.ref r1) := Has.at H13 hin13 rfl
  refine gx (X2.aaload hx (j := (0 : Int32)) (v := (.ref r1)) Ar13.1 (State.isArrayOf_alike hZ.alike Ar13.2.1) rfl Ar13.2.2 hin13 hat13 (g := (mkF m 18 #[.val (.ref x0), .val (.ref b2), .val (.int (0 : Int32))] [(.int (0 : Int32)), (.ref x0), (.int (0 : Int32)), (.ref b2)])) rfl rfl (hb hby d38_18) _) ?_
  obtain ⟨_, _, ⟨T14, L14, k14, n14⟩, -, X14, ⟨Lc14, hQ14, l14, y14, z14⟩, st14⟩ := Jvm.LawKit.callS X2 hx (y := own_n2) hown (mvT hZ (own_hw hw 280 rfl)) (mvT hZ (own_hw hw 179 rfl)) (mvT hZ (own_hw hw 180 rfl)) (mvT hZ (own_hw hw 181 rfl)) (by decide) (backOf (W := 2) (own_rm26 l Z a0 hw [] r1 T2.heap n0 Z2 ) hZ (own_hw hw 181 rfl) (own_hw hw 180 rfl) (by decide) (by decide)) (g := (mkF m 19 #[.val (.ref x0), .val (.ref b2), .val (.int (0 : Int32))] [(.ref r1), (.int (0 : Int32)), (.ref b2)])) rfl (by rw [hml]; rfl) (argsL := [(.ref r1)]) (rest := [(.int (0 : Int32)), (.ref b2)]) (lenOf own_pd_pLjavallanglObjectsqLjavallanglObjects rfl) rfl (own_W rfl rfl) (hb hby d38_19) (fun _ _ => ⟨rfl, rfl, (by decide : 1 + 0 ≤ _), (by decide : 3 + 0 ≤ _)⟩)
  dsimp only [Pt.U, Pt.locs, Pt.cells, Pt.slots] at X14 l14 y14 z14 st14 hQ14
  subst l14 y14 z14
  obtain ⟨hv14, Nq14, hp14_0⟩ := hQ14
  have N14 := Fr.app N0 Nq14
  subst hv14
  refine Goes.to st14 ?_
  obtain ⟨cl15, Ar15, q15, S15, N15, H15, G15⟩ := id V2
  have hin15 : ¬ ((0 : Int32) < 0 ∨ cl15.slots.size ≤ ((0 : Int32)).toNatClampNeg) := inb_of S15 ⟨by decide, by decide⟩
  obtain ⟨T16, h16, X16, e16, W16, st16⟩ := stR X14 hx hZ hp14_0 Ar15 (j := (0 : Int32)) hin15 rfl (Sto.ofV Ar15 q15 O2 (Ins.of_exa F9 hco1)) (g := (mkF m 22 #[.val (.ref x0), .val (.ref b2), .val (.int (0 : Int32))] [(.ref r1), (.int (0 : Int32)), (.ref b2)])) rfl rfl (hb hby d38_22)
  subst e16
  have F17 := F7.other W16 ne3
  have F20 := F10.wr W16
  have F21 := F11.wr W16
  have F22 := Ex2.wr W16
  have N16 := Fr.snoc X16 N14 g_b2
  have Z16 : n0 ≤ T16.heap.size := Nat.le_trans Z2 (Nat.le_of_eq W16.size.symm)
  have K16 : Keep h0 T16.heap [] := K2.wr W16 (Or.inr sz_b2)
  have V16 : Arv Z T16.heap b2 k2 (.object "java/lang/Object") (3 : Int32) [(.ref r1), .null, .null] .null := Arv.set Ar15 q15 S15 N15 H15 G15 rfl W16 0 rfl (Nat.le_of_ble_eq_true rfl)
  refine Goes.to st16 ?_
  refine gx (XS.iinc X16.here hx rfl (hb hby d38_23) rfl (l' := #[.val (.ref x0), .val (.ref b2), .val (.int (1 : Int32))]) rfl) ?_
  refine gx (XS.goto X16.here hx rfl (pc0 := 26) (pc' := 8) rfl (hb hby d38_26) (by decide) (by decide)) ?_
  refine gx (XS.iloadN X16.here hx rfl (hb hby d38_8) rfl) ?_
  refine gx (XS.aloadN X16.here hx rfl (hb hby d38_9) rfl rfl) ?_
  obtain ⟨cl24, Ar24, -, S24, N24, -, -⟩ := id F17
  refine Goes.to (fun _ k => X16.arraylength hx Ar24.1 (State.isArrayOf_alike hZ.alike Ar24.2.1) (g := (mkF m 10 #[.val (.ref x0), .val (.ref b2), .val (.int (1 : Int32))] [(.ref x0), (.int (1 : Int32))])) rfl rfl (hb hby d38_10) _ k) ?_
  rw [len_of S24 N24]
  refine gx (XS.icmpNo X16.here hx rfl (hb hby d38_11) rfl (tlt (by decide : (1 : Int32) < (3 : Int32))).2.1) ?_
  refine gx (XS.aloadN X16.here hx rfl (hb hby d38_14) rfl rfl) ?_
  refine gx (XS.iloadN X16.here hx rfl (hb hby d38_15) rfl) ?_
  refine gx (XS.aloadN X16.here hx rfl (hb hby d38_16) rfl rfl) ?_
  show Goes p.tables e below (T16.setTop (mkF m 17 #[.val (.ref x0), .val (.ref b2), .val (.int (1 : Int32))] [(.ref x0), (.int (1 : Int32)), (.ref b2)])) _
  refine gx (XS.iloadN X16.here hx rfl (hb hby d38_17) rfl) ?_
  obtain ⟨cl25, Ar25, q25, S25, N25, H25, G25⟩ := id F17
  have hin25 : ¬ ((1 : Int32) < 0 ∨ cl25.slots.size ≤ ((1 : Int32)).toNatClampNeg) := inb_of S25 ⟨by decide, by decide⟩
  have hat25 : cl25.slots[((1 : Int32)).toNatClampNeg]? = some (.ref r2) := Has.at H25 hin25 rfl
  refine gx (X16.aaload hx (j := (1 : Int32)) (v := (.ref r2)) Ar25.1 (State.isArrayOf_alike hZ.alike Ar25.2.1) rfl Ar25.2.2 hin25 hat25 (g := (mkF m 18 #[.val (.ref x0), .val (.ref b2), .val (.int (1 : Int32))] [(.int (1 : Int32)), (.ref x0), (.int (1 : Int32)), (.ref b2)])) rfl rfl (hb hby d38_18) _) ?_
  obtain ⟨_, _, ⟨T26, L26, k26, n26⟩, -, X26, ⟨Lc26, hQ26, l26, y26, z26⟩, st26⟩ := Jvm.LawKit.callS X16 hx (y := own_n2) hown (mvT hZ (own_hw hw 280 rfl)) (mvT hZ (own_hw hw 179 rfl)) (mvT hZ (own_hw hw 180 rfl)) (mvT hZ (own_hw hw 181 rfl)) (by decide) (backOf (W := 2) (own_rm26 l Z a0 hw [] r2 T16.heap n0 Z16 ) hZ (own_hw hw 181 rfl) (own_hw hw 180 rfl) (by decide) (by decide)) (g := (mkF m 19 #[.val (.ref x0), .val (.ref b2), .val (.int (1 : Int32))] [(.ref r2), (.int (1 : Int32)), (.ref b2)])) rfl (by rw [hml]; rfl) (argsL := [(.ref r2)]) (rest := [(.int (1 : Int32)), (.ref b2)]) (lenOf own_pd_pLjavallanglObjectsqLjavallanglObjects rfl) rfl (own_W rfl rfl) (hb hby d38_19) (fun _ _ => ⟨rfl, rfl, (by decide : 1 + 0 ≤ _), (by decide : 3 + 0 ≤ _)⟩)
  dsimp only [Pt.U, Pt.locs, Pt.cells, Pt.slots] at X26 l26 y26 z26 st26 hQ26
  subst l26 y26 z26
  obtain ⟨hv26, Nq26, hp26_0⟩ := hQ26
  have N26 := Fr.app N16 Nq26
  subst hv26
  refine Goes.to st26 ?_
  obtain ⟨cl27, Ar27, q27, S27, N27, H27, G27⟩ := id V16
  have hin27 : ¬ ((1 : Int32) < 0 ∨ cl27.slots.size ≤ ((1 : Int32)).toNatClampNeg) := inb_of S27 ⟨by decide, by decide⟩
  obtain ⟨T28, h28, X28, e28, W28, st28⟩ := stR X26 hx hZ hp26_0 Ar27 (j := (1 : Int32)) hin27 rfl (Sto.ofV Ar27 q27 O2 (Ins.of_exa F20 hco2)) (g := (mkF m 22 #[.val (.ref x0), .val (.ref b2), .val (.int (1 : Int32))] [(.ref r2), (.int (1 : Int32)), (.ref b2)])) rfl rfl (hb hby d38_22)
  subst e28
  have F29 := F17.other W28 ne3
  have F33 := F21.wr W28
  have F34 := F22.wr W28
  have N28 := Fr.snoc X28 N26 g_b2
  have Z28 : n0 ≤ T28.heap.size := Nat.le_trans Z16 (Nat.le_of_eq W28.size.symm)
  have K28 : Keep h0 T28.heap [] := K16.wr W28 (Or.inr sz_b2)
  have V28 : Arv Z T28.heap b2 k2 (.object "java/lang/Object") (3 : Int32) [(.ref r1), (.ref r2), .null] .null := Arv.set Ar27 q27 S27 N27 H27 G27 rfl W28 1 rfl (Nat.le_of_ble_eq_true rfl)
  refine Goes.to st28 ?_
  refine gx (XS.iinc X28.here hx rfl (hb hby d38_23) rfl (l' := #[.val (.ref x0), .val (.ref b2), .val (.int (2 : Int32))]) rfl) ?_
  refine gx (XS.goto X28.here hx rfl (pc0 := 26) (pc' := 8) rfl (hb hby d38_26) (by decide) (by decide)) ?_
  refine gx (XS.iloadN X28.here hx rfl (hb hby d38_8) rfl) ?_
  refine gx (XS.aloadN X28.here hx rfl (hb hby d38_9) rfl rfl) ?_
  obtain ⟨cl36, Ar36, -, S36, N36, -, -⟩ := id F29
  refine Goes.to (fun _ k => X28.arraylength hx Ar36.1 (State.isArrayOf_alike hZ.alike Ar36.2.1) (g := (mkF m 10 #[.val (.ref x0), .val (.ref b2), .val (.int (2 : Int32))] [(.ref x0), (.int (2 : Int32))])) rfl rfl (hb hby d38_10) _ k) ?_
  rw [len_of S36 N36]
  refine gx (XS.icmpNo X28.here hx rfl (hb hby d38_11) rfl (tlt (by decide : (2 : Int32) < (3 : Int32))).2.1) ?_
  refine gx (XS.aloadN X28.here hx rfl (hb hby d38_14) rfl rfl) ?_
  refine gx (XS.iloadN X28.here hx rfl (hb hby d38_15) rfl) ?_
  refine gx (XS.aloadN X28.here hx rfl (hb hby d38_16) rfl rfl) ?_
  show Goes p.tables e below (T28.setTop (mkF m 17 #[.val (.ref x0), .val (.ref b2), .val (.int (2 : Int32))] [(.ref x0), (.int (2 : Int32)), (.ref b2)])) _
  refine gx (XS.iloadN X28.here hx rfl (hb hby d38_17) rfl) ?_
  obtain ⟨cl37, Ar37, q37, S37, N37, H37, G37⟩ := id F29
  have hin37 : ¬ ((2 : Int32) < 0 ∨ cl37.slots.size ≤ ((2 : Int32)).toNatClampNeg) := inb_of S37 ⟨by decide, by decide⟩
  have hat37 : cl37.slots[((2 : Int32)).toNatClampNeg]? = some (.ref r3) := Has.at H37 hin37 rfl
  refine gx (X28.aaload hx (j := (2 : Int32)) (v := (.ref r3)) Ar37.1 (State.isArrayOf_alike hZ.alike Ar37.2.1) rfl Ar37.2.2 hin37 hat37 (g := (mkF m 18 #[.val (.ref x0), .val (.ref b2), .val (.int (2 : Int32))] [(.int (2 : Int32)), (.ref x0), (.int (2 : Int32)), (.ref b2)])) rfl rfl (hb hby d38_18) _) ?_
  obtain ⟨_, _, ⟨T38, L38, k38, n38⟩, -, X38, ⟨Lc38, hQ38, l38, y38, z38⟩, st38⟩ := Jvm.LawKit.callS X28 hx (y := own_n2) hown (mvT hZ (own_hw hw 280 rfl)) (mvT hZ (own_hw hw 179 rfl)) (mvT hZ (own_hw hw 180 rfl)) (mvT hZ (own_hw hw 181 rfl)) (by decide) (backOf (W := 2) (own_rm26 l Z a0 hw [] r3 T28.heap n0 Z28 ) hZ (own_hw hw 181 rfl) (own_hw hw 180 rfl) (by decide) (by decide)) (g := (mkF m 19 #[.val (.ref x0), .val (.ref b2), .val (.int (2 : Int32))] [(.ref r3), (.int (2 : Int32)), (.ref b2)])) rfl (by rw [hml]; rfl) (argsL := [(.ref r3)]) (rest := [(.int (2 : Int32)), (.ref b2)]) (lenOf own_pd_pLjavallanglObjectsqLjavallanglObjects rfl) rfl (own_W rfl rfl) (hb hby d38_19) (fun _ _ => ⟨rfl, rfl, (by decide : 1 + 0 ≤ _), (by decide : 3 + 0 ≤ _)⟩)
  dsimp only [Pt.U, Pt.locs, Pt.cells, Pt.slots] at X38 l38 y38 z38 st38 hQ38
  subst l38 y38 z38
  obtain ⟨hv38, Nq38, hp38_0⟩ := hQ38
  have N38 := Fr.app N28 Nq38
  subst hv38
  refine Goes.to st38 ?_
  obtain ⟨cl39, Ar39, q39, S39, N39, H39, G39⟩ := id V28
  have hin39 : ¬ ((2 : Int32) < 0 ∨ cl39.slots.size ≤ ((2 : Int32)).toNatClampNeg) := inb_of S39 ⟨by decide, by decide⟩
  obtain ⟨T40, h40, X40, e40, W40, st40⟩ := stR X38 hx hZ hp38_0 Ar39 (j := (2 : Int32)) hin39 rfl (Sto.ofV Ar39 q39 O2 (Ins.of_exa F33 hco3)) (g := (mkF m 22 #[.val (.ref x0), .val (.ref b2), .val (.int (2 : Int32))] [(.ref r3), (.int (2 : Int32)), (.ref b2)])) rfl rfl (hb hby d38_22)
  subst e40
  have F41 := F29.other W40 ne3
  have F46 := F34.wr W40
  have N40 := Fr.snoc X40 N38 g_b2
  have Z40 : n0 ≤ T40.heap.size := Nat.le_trans Z28 (Nat.le_of_eq W40.size.symm)
  have K40 : Keep h0 T40.heap [] := K28.wr W40 (Or.inr sz_b2)
  have V40 : Arv Z T40.heap b2 k2 (.object "java/lang/Object") (3 : Int32) [(.ref r1), (.ref r2), (.ref r3)] .null := Arv.set Ar39 q39 S39 N39 H39 G39 rfl W40 2 rfl (Nat.le_of_ble_eq_true rfl)
  refine Goes.to st40 ?_
  refine gx (XS.iinc X40.here hx rfl (hb hby d38_23) rfl (l' := #[.val (.ref x0), .val (.ref b2), .val (.int (3 : Int32))]) rfl) ?_
  refine gx (XS.goto X40.here hx rfl (pc0 := 26) (pc' := 8) rfl (hb hby d38_26) (by decide) (by decide)) ?_
  refine gx (XS.iloadN X40.here hx rfl (hb hby d38_8) rfl) ?_
  refine gx (XS.aloadN X40.here hx rfl (hb hby d38_9) rfl rfl) ?_
  obtain ⟨cl48, Ar48, -, S48, N48, -, -⟩ := id F41
  refine Goes.to (fun _ k => X40.arraylength hx Ar48.1 (State.isArrayOf_alike hZ.alike Ar48.2.1) (g := (mkF m 10 #[.val (.ref x0), .val (.ref b2), .val (.int (3 : Int32))] [(.ref x0), (.int (3 : Int32))])) rfl rfl (hb hby d38_10) _ k) ?_
  rw [len_of S48 N48]
  refine gx (XS.icmpYes X40.here hx rfl (pc0 := 11) (pc' := 29) rfl (hb hby d38_11) rfl (flt (by decide : ¬ ((3 : Int32) < (3 : Int32)))).2.1 (by decide) (by decide)) ?_
  obtain ⟨T49, h49, X49, e49, E49, A49, D49, -, st49⟩ := newO X40 hx hZ hown (own_hw hw 118 rfl) (own_hw hw 281 rfl) (own_hw hw 282 rfl) rfl (g := (mkF m 29 #[.val (.ref x0), .val (.ref b2), .val (.int (3 : Int32))] [])) rfl (hb hby d38_29) (by decide) (by decide)
  obtain ⟨b49, g49⟩ : ∃ z, z = T40.heap.size := ⟨_, rfl⟩
  rw [← g49] at A49 D49 st49
  subst e49
  have ne54 : b2 ≠ b49 := Nat.ne_of_lt (Nat.lt_of_lt_of_le F46.lt (Nat.le_of_eq g49.symm))
  have F60 := F46.ext E49
  have F61 := V40.ext E49
  have g_b49 : n0 ≤ b49 := Nat.le_trans Z40 (Nat.le_of_eq g49.symm)
  have Z49 : n0 ≤ T49.heap.size := Nat.le_trans Z40 E49.1
  have sz_b49 : h0.size ≤ b49 := Nat.le_trans K40.1 (Nat.le_of_eq g49.symm)
  have K49 : Keep h0 T49.heap [] := K40.ext E49
  have F62 : Fld Z T49.heap b49 "java/util/ImmutableCollections$ListN" "elements" "[Ljava/lang/Object;" .null := D49 (Or.inr (own_hw hw 292 rfl)) (ty := (.array (.object "java/lang/Object"))) (by decide)
  have F63 : Fld Z T49.heap b49 "java/util/ImmutableCollections$ListN" "allowNulls" "Z" (.int (0 : Int32)) := D49 (Or.inr (own_hw hw 294 rfl)) (ty := .boolean) (by decide)
  refine Goes.to st49 ?_
  refine gx (XS.dup X49.here hx rfl (hb hby d38_32) rfl rfl) ?_
  refine gx (XS.aloadN X49.here hx rfl (hb hby d38_33) rfl rfl) ?_
  refine gx (XS.iconst X49.here hx rfl (hb hby d38_34)) ?_
  obtain ⟨_, _, ⟨T64, L64, k64, n64⟩, -, X64, ⟨Lc64, hQ64, l64, y64, z64⟩, st64⟩ := X49.specialBackNest hx (y := own_n24) rfl hown (own_mvM hZ (own_hw hw 283 rfl)) (mvT hZ (own_hw hw 284 rfl)) (mvT hZ (own_hw hw 286 rfl)) (by decide) (backOf (W := 1) (own_rm39 l Z a0 hw [] b49 b2 (0 : Int32) T49.heap n0 Z49 g_b49 A49 F62 F63) hZ (own_hw hw 286 rfl) (own_hw hw 282 rfl) (by decide) (by decide)) (g := (mkF m 35 #[.val (.ref x0), .val (.ref b2), .val (.int (3 : Int32))] [(.int (0 : Int32)), (.ref b2), (.ref b49), (.ref b49)])) rfl (by rw [hml]; rfl) (Steps.refl _) (a := b49) (argsL := [(.ref b2), (.int (0 : Int32))]) (rest := [(.ref b49)]) (lenOf own_pd_paLjavallanglObjectsZqV rfl) rfl (own_W rfl rfl) (hb hby d38_35) (fun _ _ => ⟨rfl, rfl, (by decide : 2 + 0 ≤ _), (by decide : 5 + 0 ≤ _)⟩)
  dsimp only [Pt.U, Pt.locs, Pt.cells, Pt.slots] at X64 l64 y64 z64 st64 hQ64
  subst l64 y64 z64
  obtain ⟨hv64, Nq64, Kq64, Qf64_0, Qf64_1⟩ := hQ64
  have N64 := Fr.app N40 Nq64
  have F70 := F60.keep Kq64
  have F71 := F61.keep Kq64 (ninS ne54 nin0)
  have Kc64 : Keep h0 T64.heap [] := K49.trans Kq64 (allS (Or.inr sz_b49) all0)
  subst hv64
  refine Goes.tr st64 ?_
  show Goes p.tables e below (T64.setTop (mkF m 38 #[.val (.ref x0), .val (.ref b2), .val (.int (3 : Int32))] [(.ref b49)])) _
  obtain ⟨fs, hr, hrun, hended, hW, hsame⟩ := X64.leave (v := some (.ref b49)) (fun h => by rw [Bd.returns] at h; cases h)
  exact ⟨_, _, retOut X64 hx Bd.returns rfl (Or.inr (Or.inr (Or.inr (Or.inr ⟨rfl, rfl, rfl⟩)))) (hb hby d38_38) hr, hrun, hended, _, _, rfl, ⟨b49, b2, k2, rfl, N64, sz_b49, sz_b2, (Ne.symm ne54), (by show Keep h0 T64.heap []; exact Kc64), (by show Exa Z T64.heap b49 "java/util/ImmutableCollections$ListN"; exact Qf64_0), (by show Fld Z T64.heap b49 "java/util/ImmutableCollections$ListN" "elements" "[Ljava/lang/Object;" (.ref b2); exact Qf64_1), (by show Exa Z T64.heap b2 "[Ljava/lang/Object;"; exact F70), (by show Arv Z T64.heap b2 k2 (.object "java/lang/Object") (3 : Int32) [(.ref r1), (.ref r2), (.ref r3)] .null; exact F71)⟩, ⟨_, rfl⟩, hW, hsame.mono (by decide) (by decide)⟩

theorem d22_0 : decode jdk_40_method_47_code 0 = .ok (.aload_n 0, 1) := by decide +kernel
theorem d22_1 : decode jdk_40_method_47_code 1 = .ok (.arraylength, 1) := by decide +kernel
theorem d22_2 : decode jdk_40_method_47_code 2 = .ok (.tableswitch 57 0 2 #[26, 32, 43], 26) := by decide +kernel
theorem d22_34 : decode jdk_40_method_47_code 34 = .ok (.new 96, 3) := by decide +kernel
theorem d22_37 : decode jdk_40_method_47_code 37 = .ok (.dup, 1) := by decide +kernel
theorem d22_38 : decode jdk_40_method_47_code 38 = .ok (.aload_n 0, 1) := by decide +kernel
theorem d22_39 : decode jdk_40_method_47_code 39 = .ok (.iconst 0, 1) := by decide +kernel
theorem d22_40 : decode jdk_40_method_47_code 40 = .ok (.aaload, 1) := by decide +kernel
theorem d22_41 : decode jdk_40_method_47_code 41 = .ok (.invokespecial 98, 3) := by decide +kernel
theorem d22_44 : decode jdk_40_method_47_code 44 = .ok (.areturn, 1) := by decide +kernel
theorem own_pd_pLjavallanglObjectsqV : parseMethodDescriptor "(Ljava/lang/Object;)V" = some ⟨[(.object "java/lang/Object")], none⟩ := by decide +kernel
theorem own_pn_22 : plainName "java/util/List" = true := by first | (simp [plainName, overriddenIn]; done) | decide +kernel
theorem own_ef_own_rmLO1 (m : MethodId) (x0 : Addr) : entryFrame m #[(.ref x0)] 2 = mkF m 0 #[.val (.ref x0), .unset] [] := by first | (simp [entryFrame, mkF, argsToLocals, Value.category]; done) | rfl
def own_Q_own_rmLO1 (Z : State) (x0 : Addr) (kC : ClassId) (r1 : Addr) (kk1 : String) (aI : Addr) (h0 : Heap) (n0 : Nat) (v : Option Value) (h : Heap) (L : List Loc) : Prop := ∃ (li : Addr), v = some (.ref li) ∧ Fr n0 L ∧ h0.size ≤ li ∧ Keep h0 h [] ∧ Exa Z h li "java/util/ImmutableCollections$List12" ∧ Fld Z h li "java/util/ImmutableCollections$List12" "e0" "Ljava/lang/Object;" (.ref r1) ∧ Fld Z h li "java/util/ImmutableCollections$List12" "e1" "Ljava/lang/Object;" (.ref aI)
abbrev own_r_own_rmLO1 : Room := ({ frames := 5, cells := 1, slots := 2, locals := 62 } : Room)

set_option maxRecDepth 65536 in
set_option maxHeartbeats 40000000 in
theorem own_rmLO1 (l : Launch) (Z : State) (a0 : Array Value) (hw : ∀ d ∈ tables_1, d.before a0 Z = true) (ws : List Jvm.Cond) (x0 : Addr) (kC : ClassId) (r1 : Addr) (kk1 : String) (aI : Addr) (h0 : Heap) (n0 : Nat) (Z0 : n0 ≤ h0.size) (Pi0 : Arv Z h0 x0 kC (.object "java/lang/Object") (1 : Int32) [(.ref r1)] .null) (Pi1 : Exa Z h0 x0 "[Ljava/lang/Object;") (Pi2 : Exa Z h0 r1 kk1) (hco1 : (Cond.castable kk1 "java/lang/Object").before a0 Z = true) (Pi4 : Sta Z h0 "java/util/ImmutableCollections" "EMPTY" "Ljava/lang/Object;" (.ref aI)) :
    MetFree l own_n26 (head1 (Jvm.Cond.code own_n26 jdk_40_method_47_code 2 (some (.object "java/util/List")) :: ws) own_r_own_rmLO1) (fun a U => a = #[(.ref x0)] ∧ Z.Warmed39 U.vm ∧ U.heap = h0) (fun _ _ _ _ _ => True) (fun _ U o U' => ∃ v L, o = .returned v ∧ own_Q_own_rmLO1 Z x0 kC r1 kk1 aI h0 n0 v U'.heap L ∧ FrameEnd U o U' L own_r_own_rmLO1.cells own_r_own_rmLO1.slots) := by
  refine MetFree.of_bodySF (plainFor_of_name own_pn_22) hisR ?_
  intro p e s m args below meth c s₁ Bd hml0 hP hK
  obtain ⟨rfl, hZ, hh⟩ := hP
  have hx := Bd.exec
  have hby := Bd.bytes
  have hml : c.maxLocals = 2 := hml0
  have hown : s.vm.findClass "java/util/List" = some m.cls := findClass_of_methodNamed Bd.named
  have hnm := (name_of_methodNamed Bd.named Bd.method).1
  have X0 : Stand p l e own_r_own_rmLO1 s m #[(.ref x0)] below meth c s₁ [] 0 0 := Stand.of_body Bd
  have e0 : s₁.heap = h0 := by rw [← hh, Bd.state]; rfl
  have N0 := Fr.nil n0
  show Goes p.tables e below _ (own_R below s (own_Q_own_rmLO1 Z x0 kC r1 kk1 aI h0 n0) own_r_own_rmLO1.cells own_r_own_rmLO1.slots)
  refine Goes.to (fun t k => castTop (own_ef_own_rmLO1 m x0) k) ?_
  refine gx (XS.aloadN X0.here hx rfl (hb hby d22_0) rfl rfl) ?_
  obtain ⟨cl1, Ar1, -, S1, N1, -, -⟩ := id Pi0
  refine Goes.to (fun _ k => X0.arraylength hx (by rw [e0]; exact Ar1.1) (State.isArrayOf_alike hZ.alike Ar1.2.1) (g := (mkF m 1 #[.val (.ref x0), .unset] [(.ref x0)])) rfl rfl (hb hby d22_1) _ k) ?_
  rw [len_of S1 N1]
  show Goes p.tables e below (s₁.setTop (mkF m 2 #[.val (.ref x0), .unset] [(.int (1 : Int32))])) _
  refine Goes.to (fun _ k => XS.tswIn X0.here hx rfl (o := 32) (pc0 := 2) (pc' := 34) rfl (hb hby d22_2) rfl (by decide) rfl (by decide) (by decide) k) ?_
  obtain ⟨T2, h2, X2, e2, E2, A2, D2, -, st2⟩ := newO X0 hx hZ hown (own_hw hw 157 rfl) (own_hw hw 158 rfl) (own_hw hw 159 rfl) e0 (g := (mkF m 34 #[.val (.ref x0), .unset] [])) rfl (hb hby d22_34) (by decide) (by decide)
  obtain ⟨b2, g2⟩ : ∃ z, z = h0.size := ⟨_, rfl⟩
  rw [← g2] at A2 D2 st2
  subst e2
  have F5 := Pi0.ext E2
  have F8 := Pi4.ext E2
  have g_b2 : n0 ≤ b2 := Nat.le_trans Z0 (Nat.le_of_eq g2.symm)
  have Z2 : n0 ≤ T2.heap.size := Nat.le_trans Z0 E2.1
  have sz_b2 : h0.size ≤ b2 := Nat.le_trans (Keep.refl h0 []).1 (Nat.le_of_eq g2.symm)
  have K2 : Keep h0 T2.heap [] := (Keep.refl h0 []).ext E2
  have F9 : Fld Z T2.heap b2 "java/util/ImmutableCollections$List12" "e0" "Ljava/lang/Object;" .null := D2 (Or.inr (own_hw hw 183 rfl)) (ty := (.object "java/lang/Object")) (by decide)
  have F10 : Fld Z T2.heap b2 "java/util/ImmutableCollections$List12" "e1" "Ljava/lang/Object;" .null := D2 (Or.inr (own_hw hw 186 rfl)) (ty := (.object "java/lang/Object")) (by decide)
  refine Goes.to st2 ?_
  refine gx (XS.dup X2.here hx rfl (hb hby d22_37) rfl rfl) ?_
  refine gx (XS.aloadN X2.here hx rfl (hb hby d22_38) rfl rfl) ?_
  refine gx (XS.iconst X2.here hx rfl (hb hby d22_39)) ?_
  obtain ⟨cl11, Ar11, q11, S11, N11, H11, G11⟩ := id F5
  have hin11 : ¬ ((0 : Int32) < 0 ∨ cl11.slots.size ≤ ((0 : Int32)).toNatClampNeg) := inb_of S11 ⟨by decide, by decide⟩
  have hat11 : cl11.slots[((0 : Int32)).toNatClampNeg]? = some (.ref r1) := Has.at H11 hin11 rfl
  refine gx (X2.aaload hx (j := (0 : Int32)) (v := (.ref r1)) Ar11.1 (State.isArrayOf_alike hZ.alike Ar11.2.1) rfl Ar11.2.2 hin11 hat11 (g := (mkF m 40 #[.val (.ref x0), .unset] [(.int (0 : Int32)), (.ref x0), (.ref b2), (.ref b2)])) rfl rfl (hb hby d22_40) _) ?_
  obtain ⟨_, _, ⟨T12, L12, k12, n12⟩, -, X12, ⟨Lc12, hQ12, l12, y12, z12⟩, st12⟩ := X2.specialBack hx (y := own_n22) rfl hown (mvT hZ (own_hw hw 160 rfl)) (mvT hZ (own_hw hw 161 rfl)) (mvT hZ (own_hw hw 163 rfl)) (by decide) (backOf (W := 1) (own_rm23 l Z a0 hw [] b2 r1 aI T2.heap n0 Z2 g_b2 A2 F9 F10 F8) hZ (own_hw hw 163 rfl) (own_hw hw 159 rfl) (by decide) (by decide)) (g := (mkF m 41 #[.val (.ref x0), .unset] [(.ref r1), (.ref b2), (.ref b2)])) rfl (by rw [hml]; rfl) (Steps.refl _) (a := b2) (argsL := [(.ref r1)]) (rest := [(.ref b2)]) (lenOf own_pd_pLjavallanglObjectsqV rfl) rfl (own_W rfl rfl) (hb hby d22_41) (fun _ _ => ⟨rfl, rfl, (by decide : 1 + 0 ≤ _), (by decide : 2 + 0 ≤ _)⟩)
  dsimp only [Pt.U, Pt.locs, Pt.cells, Pt.slots] at X12 l12 y12 z12 st12 hQ12
  subst l12 y12 z12
  obtain ⟨hv12, Nq12, Kq12, Qf12_0, Qf12_1, Qf12_2⟩ := hQ12
  have N12 := Fr.app N0 Nq12
  have Kc12 : Keep h0 T12.heap [] := K2.trans Kq12 (allS (Or.inr sz_b2) all0)
  subst hv12
  refine Goes.tr st12 ?_
  show Goes p.tables e below (T12.setTop (mkF m 44 #[.val (.ref x0), .unset] [(.ref b2)])) _
  obtain ⟨fs, hr, hrun, hended, hW, hsame⟩ := X12.leave (v := some (.ref b2)) (fun h => by rw [Bd.returns] at h; cases h)
  exact ⟨_, _, retOut X12 hx Bd.returns rfl (Or.inr (Or.inr (Or.inr (Or.inr ⟨rfl, rfl, rfl⟩)))) (hb hby d22_44) hr, hrun, hended, _, _, rfl, ⟨b2, rfl, N12, sz_b2, (by show Keep h0 T12.heap []; exact Kc12), (by show Exa Z T12.heap b2 "java/util/ImmutableCollections$List12"; exact Qf12_0), (by show Fld Z T12.heap b2 "java/util/ImmutableCollections$List12" "e0" "Ljava/lang/Object;" (.ref r1); exact Qf12_1), (by show Fld Z T12.heap b2 "java/util/ImmutableCollections$List12" "e1" "Ljava/lang/Object;" (.ref aI); exact Qf12_2)⟩, ⟨_, rfl⟩, hW, hsame.mono (by decide) (by decide)⟩

theorem d22_45 : decode jdk_40_method_47_code 45 = .ok (.new 96, 3) := by decide +kernel
theorem d22_48 : decode jdk_40_method_47_code 48 = .ok (.dup, 1) := by decide +kernel
theorem d22_49 : decode jdk_40_method_47_code 49 = .ok (.aload_n 0, 1) := by decide +kernel
theorem d22_50 : decode jdk_40_method_47_code 50 = .ok (.iconst 0, 1) := by decide +kernel
theorem d22_51 : decode jdk_40_method_47_code 51 = .ok (.aaload, 1) := by decide +kernel
theorem d22_52 : decode jdk_40_method_47_code 52 = .ok (.aload_n 0, 1) := by decide +kernel
theorem d22_53 : decode jdk_40_method_47_code 53 = .ok (.iconst 1, 1) := by decide +kernel
theorem d22_54 : decode jdk_40_method_47_code 54 = .ok (.aaload, 1) := by decide +kernel
theorem d22_55 : decode jdk_40_method_47_code 55 = .ok (.invokespecial 100, 3) := by decide +kernel
theorem d22_58 : decode jdk_40_method_47_code 58 = .ok (.areturn, 1) := by decide +kernel
theorem own_pd_pLjavallanglObjectsLjavallanglObjectsqV : parseMethodDescriptor "(Ljava/lang/Object;Ljava/lang/Object;)V" = some ⟨[(.object "java/lang/Object"), (.object "java/lang/Object")], none⟩ := by decide +kernel
theorem own_ef_own_rmLO2 (m : MethodId) (x0 : Addr) : entryFrame m #[(.ref x0)] 2 = mkF m 0 #[.val (.ref x0), .unset] [] := by first | (simp [entryFrame, mkF, argsToLocals, Value.category]; done) | rfl
def own_Q_own_rmLO2 (Z : State) (x0 : Addr) (kC : ClassId) (r1 : Addr) (r2 : Addr) (kk1 : String) (kk2 : String) (aI : Addr) (h0 : Heap) (n0 : Nat) (v : Option Value) (h : Heap) (L : List Loc) : Prop := ∃ (li : Addr), v = some (.ref li) ∧ Fr n0 L ∧ h0.size ≤ li ∧ Keep h0 h [] ∧ Exa Z h li "java/util/ImmutableCollections$List12" ∧ Fld Z h li "java/util/ImmutableCollections$List12" "e0" "Ljava/lang/Object;" (.ref r1) ∧ Fld Z h li "java/util/ImmutableCollections$List12" "e1" "Ljava/lang/Object;" (.ref r2)
abbrev own_r_own_rmLO2 : Room := ({ frames := 5, cells := 1, slots := 2, locals := 63 } : Room)

set_option maxRecDepth 65536 in
set_option maxHeartbeats 40000000 in
theorem own_rmLO2 (l : Launch) (Z : State) (a0 : Array Value) (hw : ∀ d ∈ tables_1, d.before a0 Z = true) (ws : List Jvm.Cond) (x0 : Addr) (kC : ClassId) (r1 : Addr) (r2 : Addr) (kk1 : String) (kk2 : String) (aI : Addr) (h0 : Heap) (n0 : Nat) (Z0 : n0 ≤ h0.size) (Pi0 : Arv Z h0 x0 kC (.object "java/lang/Object") (2 : Int32) [(.ref r1), (.ref r2)] .null) (Pi1 : Exa Z h0 x0 "[Ljava/lang/Object;") (Pi2 : Exa Z h0 r1 kk1) (hco1 : (Cond.castable kk1 "java/lang/Object").before a0 Z = true) (Pi4 : Exa Z h0 r2 kk2) (hco2 : (Cond.castable kk2 "java/lang/Object").before a0 Z = true) (Pi6 : Sta Z h0 "java/util/ImmutableCollections" "EMPTY" "Ljava/lang/Object;" (.ref aI)) :
    MetFree l own_n26 (head1 (Jvm.Cond.code own_n26 jdk_40_method_47_code 2 (some (.object "java/util/List")) :: ws) own_r_own_rmLO2) (fun a U => a = #[(.ref x0)] ∧ Z.Warmed39 U.vm ∧ U.heap = h0) (fun _ _ _ _ _ => True) (fun _ U o U' => ∃ v L, o = .returned v ∧ own_Q_own_rmLO2 Z x0 kC r1 r2 kk1 kk2 aI h0 n0 v U'.heap L ∧ FrameEnd U o U' L own_r_own_rmLO2.cells own_r_own_rmLO2.slots) := by
  refine MetFree.of_bodySF (plainFor_of_name own_pn_22) hisR ?_
  intro p e s m args below meth c s₁ Bd hml0 hP hK
  obtain ⟨rfl, hZ, hh⟩ := hP
  have hx := Bd.exec
  have hby := Bd.bytes
  have hml : c.maxLocals = 2 := hml0
  have hown : s.vm.findClass "java/util/List" = some m.cls := findClass_of_methodNamed Bd.named
  have hnm := (name_of_methodNamed Bd.named Bd.method).1
  have X0 : Stand p l e own_r_own_rmLO2 s m #[(.ref x0)] below meth c s₁ [] 0 0 := Stand.of_body Bd
  have e0 : s₁.heap = h0 := by rw [← hh, Bd.state]; rfl
  have N0 := Fr.nil n0
  show Goes p.tables e below _ (own_R below s (own_Q_own_rmLO2 Z x0 kC r1 r2 kk1 kk2 aI h0 n0) own_r_own_rmLO2.cells own_r_own_rmLO2.slots)
  refine Goes.to (fun t k => castTop (own_ef_own_rmLO2 m x0) k) ?_
  refine gx (XS.aloadN X0.here hx rfl (hb hby d22_0) rfl rfl) ?_
  obtain ⟨cl1, Ar1, -, S1, N1, -, -⟩ := id Pi0
  refine Goes.to (fun _ k => X0.arraylength hx (by rw [e0]; exact Ar1.1) (State.isArrayOf_alike hZ.alike Ar1.2.1) (g := (mkF m 1 #[.val (.ref x0), .unset] [(.ref x0)])) rfl rfl (hb hby d22_1) _ k) ?_
  rw [len_of S1 N1]
  show Goes p.tables e below (s₁.setTop (mkF m 2 #[.val (.ref x0), .unset] [(.int (2 : Int32))])) _
  refine Goes.to (fun _ k => XS.tswIn X0.here hx rfl (o := 43) (pc0 := 2) (pc' := 45) rfl (hb hby d22_2) rfl (by decide) rfl (by decide) (by decide) k) ?_
  obtain ⟨T2, h2, X2, e2, E2, A2, D2, -, st2⟩ := newO X0 hx hZ hown (own_hw hw 157 rfl) (own_hw hw 158 rfl) (own_hw hw 159 rfl) e0 (g := (mkF m 45 #[.val (.ref x0), .unset] [])) rfl (hb hby d22_45) (by decide) (by decide)
  obtain ⟨b2, g2⟩ : ∃ z, z = h0.size := ⟨_, rfl⟩
  rw [← g2] at A2 D2 st2
  subst e2
  have F6 := Pi0.ext E2
  have g_b2 : n0 ≤ b2 := Nat.le_trans Z0 (Nat.le_of_eq g2.symm)
  have Z2 : n0 ≤ T2.heap.size := Nat.le_trans Z0 E2.1
  have sz_b2 : h0.size ≤ b2 := Nat.le_trans (Keep.refl h0 []).1 (Nat.le_of_eq g2.symm)
  have K2 : Keep h0 T2.heap [] := (Keep.refl h0 []).ext E2
  have F11 : Fld Z T2.heap b2 "java/util/ImmutableCollections$List12" "e0" "Ljava/lang/Object;" .null := D2 (Or.inr (own_hw hw 183 rfl)) (ty := (.object "java/lang/Object")) (by decide)
  have F12 : Fld Z T2.heap b2 "java/util/ImmutableCollections$List12" "e1" "Ljava/lang/Object;" .null := D2 (Or.inr (own_hw hw 186 rfl)) (ty := (.object "java/lang/Object")) (by decide)
  refine Goes.to st2 ?_
  refine gx (XS.dup X2.here hx rfl (hb hby d22_48) rfl rfl) ?_
  refine gx (XS.aloadN X2.here hx rfl (hb hby d22_49) rfl rfl) ?_
  refine gx (XS.iconst X2.here hx rfl (hb hby d22_50)) ?_
  obtain ⟨cl13, Ar13, q13, S13, N13, H13, G13⟩ := id F6
  have hin13 : ¬ ((0 : Int32) < 0 ∨ cl13.slots.size ≤ ((0 : Int32)).toNatClampNeg) := inb_of S13 ⟨by decide, by decide⟩
  have hat13 : cl13.slots[((0 : Int32)).toNatClampNeg]? = some (.ref r1) := Has.at H13 hin13 rfl
  refine gx (X2.aaload hx (j := (0 : Int32)) (v := (.ref r1)) Ar13.1 (State.isArrayOf_alike hZ.alike Ar13.2.1) rfl Ar13.2.2 hin13 hat13 (g := (mkF m 51 #[.val (.ref x0), .unset] [(.int (0 : Int32)), (.ref x0), (.ref b2), (.ref b2)])) rfl rfl (hb hby d22_51) _) ?_
  refine gx (XS.aloadN X2.here hx rfl (hb hby d22_52) rfl rfl) ?_
  refine gx (XS.iconst X2.here hx rfl (hb hby d22_53)) ?_
  obtain ⟨cl14, Ar14, q14, S14, N14, H14, G14⟩ := id F6
  have hin14 : ¬ ((1 : Int32) < 0 ∨ cl14.slots.size ≤ ((1 : Int32)).toNatClampNeg) := inb_of S14 ⟨by decide, by decide⟩
  have hat14 : cl14.slots[((1 : Int32)).toNatClampNeg]? = some (.ref r2) := Has.at H14 hin14 rfl
  refine gx (X2.aaload hx (j := (1 : Int32)) (v := (.ref r2)) Ar14.1 (State.isArrayOf_alike hZ.alike Ar14.2.1) rfl Ar14.2.2 hin14 hat14 (g := (mkF m 54 #[.val (.ref x0), .unset] [(.int (1 : Int32)), (.ref x0), (.ref r1), (.ref b2), (.ref b2)])) rfl rfl (hb hby d22_54) _) ?_
  obtain ⟨_, _, ⟨T15, L15, k15, n15⟩, -, X15, ⟨Lc15, hQ15, l15, y15, z15⟩, st15⟩ := X2.specialBack hx (y := own_n23) rfl hown (mvT hZ (own_hw hw 266 rfl)) (mvT hZ (own_hw hw 267 rfl)) (mvT hZ (own_hw hw 268 rfl)) (by decide) (backOf (W := 1) (own_rm36 l Z a0 hw [] b2 r1 r2 T2.heap n0 Z2 g_b2 A2 F11 F12) hZ (own_hw hw 268 rfl) (own_hw hw 159 rfl) (by decide) (by decide)) (g := (mkF m 55 #[.val (.ref x0), .unset] [(.ref r2), (.ref r1), (.ref b2), (.ref b2)])) rfl (by rw [hml]; rfl) (Steps.refl _) (a := b2) (argsL := [(.ref r1), (.ref r2)]) (rest := [(.ref b2)]) (lenOf own_pd_pLjavallanglObjectsLjavallanglObjectsqV rfl) rfl (own_W rfl rfl) (hb hby d22_55) (fun _ _ => ⟨rfl, rfl, (by decide : 1 + 0 ≤ _), (by decide : 2 + 0 ≤ _)⟩)
  dsimp only [Pt.U, Pt.locs, Pt.cells, Pt.slots] at X15 l15 y15 z15 st15 hQ15
  subst l15 y15 z15
  obtain ⟨hv15, Nq15, Kq15, Qf15_0, Qf15_1, Qf15_2⟩ := hQ15
  have N15 := Fr.app N0 Nq15
  have Kc15 : Keep h0 T15.heap [] := K2.trans Kq15 (allS (Or.inr sz_b2) all0)
  subst hv15
  refine Goes.tr st15 ?_
  show Goes p.tables e below (T15.setTop (mkF m 58 #[.val (.ref x0), .unset] [(.ref b2)])) _
  obtain ⟨fs, hr, hrun, hended, hW, hsame⟩ := X15.leave (v := some (.ref b2)) (fun h => by rw [Bd.returns] at h; cases h)
  exact ⟨_, _, retOut X15 hx Bd.returns rfl (Or.inr (Or.inr (Or.inr (Or.inr ⟨rfl, rfl, rfl⟩)))) (hb hby d22_58) hr, hrun, hended, _, _, rfl, ⟨b2, rfl, N15, sz_b2, (by show Keep h0 T15.heap []; exact Kc15), (by show Exa Z T15.heap b2 "java/util/ImmutableCollections$List12"; exact Qf15_0), (by show Fld Z T15.heap b2 "java/util/ImmutableCollections$List12" "e0" "Ljava/lang/Object;" (.ref r1); exact Qf15_1), (by show Fld Z T15.heap b2 "java/util/ImmutableCollections$List12" "e1" "Ljava/lang/Object;" (.ref r2); exact Qf15_2)⟩, ⟨_, rfl⟩, hW, hsame.mono (by decide) (by decide)⟩

theorem d22_59 : decode jdk_40_method_47_code 59 = .ok (.aload_n 0, 1) := by decide +kernel
theorem d22_60 : decode jdk_40_method_47_code 60 = .ok (.invokestatic 109, 3) := by decide +kernel
theorem d22_63 : decode jdk_40_method_47_code 63 = .ok (.areturn, 1) := by decide +kernel
theorem own_pd_paLjavallanglObjectsqLjavalutillLists : parseMethodDescriptor "([Ljava/lang/Object;)Ljava/util/List;" = some ⟨[(.array (.object "java/lang/Object"))], some (.object "java/util/List")⟩ := by decide +kernel
theorem own_ef_own_rmLO3 (m : MethodId) (x0 : Addr) : entryFrame m #[(.ref x0)] 2 = mkF m 0 #[.val (.ref x0), .unset] [] := by first | (simp [entryFrame, mkF, argsToLocals, Value.category]; done) | rfl
def own_Q_own_rmLO3 (Z : State) (x0 : Addr) (kC : ClassId) (r1 : Addr) (r2 : Addr) (r3 : Addr) (kk1 : String) (kk2 : String) (kk3 : String) (aI : Addr) (h0 : Heap) (n0 : Nat) (v : Option Value) (h : Heap) (L : List Loc) : Prop := ∃ (li : Addr) (el : Addr) (kL : ClassId), v = some (.ref li) ∧ Fr n0 L ∧ h0.size ≤ li ∧ h0.size ≤ el ∧ li ≠ el ∧ Keep h0 h [] ∧ Exa Z h li "java/util/ImmutableCollections$ListN" ∧ Fld Z h li "java/util/ImmutableCollections$ListN" "elements" "[Ljava/lang/Object;" (.ref el) ∧ Exa Z h el "[Ljava/lang/Object;" ∧ Arv Z h el kL (.object "java/lang/Object") (3 : Int32) [(.ref r1), (.ref r2), (.ref r3)] .null
abbrev own_r_own_rmLO3 : Room := ({ frames := 6, cells := 2, slots := 5, locals := 77 } : Room)

set_option maxRecDepth 65536 in
set_option maxHeartbeats 40000000 in
theorem own_rmLO3 (l : Launch) (Z : State) (a0 : Array Value) (hw : ∀ d ∈ tables_1, d.before a0 Z = true) (ws : List Jvm.Cond) (x0 : Addr) (kC : ClassId) (r1 : Addr) (r2 : Addr) (r3 : Addr) (kk1 : String) (kk2 : String) (kk3 : String) (aI : Addr) (h0 : Heap) (n0 : Nat) (Z0 : n0 ≤ h0.size) (Pi0 : Arv Z h0 x0 kC (.object "java/lang/Object") (3 : Int32) [(.ref r1), (.ref r2), (.ref r3)] .null) (Pi1 : Exa Z h0 x0 "[Ljava/lang/Object;") (Pi2 : Exa Z h0 r1 kk1) (hco1 : (Cond.castable kk1 "java/lang/Object").before a0 Z = true) (Pi4 : Exa Z h0 r2 kk2) (hco2 : (Cond.castable kk2 "java/lang/Object").before a0 Z = true) (Pi6 : Exa Z h0 r3 kk3) (hco3 : (Cond.castable kk3 "java/lang/Object").before a0 Z = true) (Pi8 : Sta Z h0 "java/util/ImmutableCollections" "EMPTY" "Ljava/lang/Object;" (.ref aI)) :
    MetFree l own_n26 (head1 (Jvm.Cond.code own_n26 jdk_40_method_47_code 2 (some (.object "java/util/List")) :: ws) own_r_own_rmLO3) (fun a U => a = #[(.ref x0)] ∧ Z.Warmed39 U.vm ∧ U.heap = h0) (fun _ _ _ _ _ => True) (fun _ U o U' => ∃ v L, o = .returned v ∧ own_Q_own_rmLO3 Z x0 kC r1 r2 r3 kk1 kk2 kk3 aI h0 n0 v U'.heap L ∧ FrameEnd U o U' L own_r_own_rmLO3.cells own_r_own_rmLO3.slots) := by
  refine MetFree.of_bodySF (plainFor_of_name own_pn_22) hisR ?_
  intro p e s m args below meth c s₁ Bd hml0 hP hK
  obtain ⟨rfl, hZ, hh⟩ := hP
  have hx := Bd.exec
  have hby := Bd.bytes
  have hml : c.maxLocals = 2 := hml0
  have hown : s.vm.findClass "java/util/List" = some m.cls := findClass_of_methodNamed Bd.named
  have hnm := (name_of_methodNamed Bd.named Bd.method).1
  have X0 : Stand p l e own_r_own_rmLO3 s m #[(.ref x0)] below meth c s₁ [] 0 0 := Stand.of_body Bd
  have e0 : s₁.heap = h0 := by rw [← hh, Bd.state]; rfl
  have N0 := Fr.nil n0
  show Goes p.tables e below _ (own_R below s (own_Q_own_rmLO3 Z x0 kC r1 r2 r3 kk1 kk2 kk3 aI h0 n0) own_r_own_rmLO3.cells own_r_own_rmLO3.slots)
  refine Goes.to (fun t k => castTop (own_ef_own_rmLO3 m x0) k) ?_
  refine gx (XS.aloadN X0.here hx rfl (hb hby d22_0) rfl rfl) ?_
  obtain ⟨cl1, Ar1, -, S1, N1, -, -⟩ := id Pi0
  refine Goes.to (fun _ k => X0.arraylength hx (by rw [e0]; exact Ar1.1) (State.isArrayOf_alike hZ.alike Ar1.2.1) (g := (mkF m 1 #[.val (.ref x0), .unset] [(.ref x0)])) rfl rfl (hb hby d22_1) _ k) ?_
  rw [len_of S1 N1]
  show Goes p.tables e below (s₁.setTop (mkF m 2 #[.val (.ref x0), .unset] [(.int (3 : Int32))])) _
  refine Goes.to (fun _ k => XS.tswOut X0.here hx rfl (pc0 := 2) (pc' := 59) rfl (hb hby d22_2) rfl (by decide) (by decide) (by decide) k) ?_
  refine gx (XS.aloadN X0.here hx rfl (hb hby d22_59) rfl rfl) ?_
  obtain ⟨_, _, ⟨T2, L2, k2, n2⟩, -, X2, ⟨Lc2, hQ2, l2, y2, z2⟩, st2⟩ := Jvm.LawKit.callS X0 hx (y := own_n25) hown (mvT hZ (own_hw hw 276 rfl)) (mvT hZ (own_hw hw 277 rfl)) (mvT hZ (own_hw hw 111 rfl)) (mvT hZ (own_hw hw 278 rfl)) (by decide) (backOf (W := 0) (own_rm38 l Z a0 hw [] x0 kC r1 r2 r3 kk1 kk2 kk3 h0 n0 Z0 Pi0 Pi1 Pi2 hco1 Pi4 hco2 Pi6 hco3) hZ (own_hw hw 278 rfl) (own_hw hw 111 rfl) (by decide) (by decide)) (g := (mkF m 60 #[.val (.ref x0), .unset] [(.ref x0)])) rfl (by rw [hml]; rfl) (argsL := [(.ref x0)]) (rest := []) (lenOf own_pd_paLjavallanglObjectsqLjavalutillLists rfl) rfl (own_W rfl rfl) (hb hby d22_60) (fun _ _ => ⟨rfl, e0, (by decide : 0 + 2 ≤ _), (by decide : 0 + 5 ≤ _)⟩)
  dsimp only [Pt.U, Pt.locs, Pt.cells, Pt.slots] at X2 l2 y2 z2 st2 hQ2
  subst l2 y2 z2
  obtain ⟨li_2, el_2, kL_2, hv2, Nq2, sq2_0, sq2_1, np2_0, Kq2, Qf2_0, Qf2_1, Qf2_2, Qf2_3⟩ := hQ2
  have N2 := Fr.app N0 Nq2
  have sz_li_2 : h0.size ≤ li_2 := Nat.le_trans (Keep.refl h0 []).1 sq2_0
  have sz_el_2 : h0.size ≤ el_2 := Nat.le_trans (Keep.refl h0 []).1 sq2_1
  have Kc2 : Keep h0 T2.heap [] := (Keep.refl h0 []).trans Kq2 all0
  subst hv2
  refine Goes.to st2 ?_
  show Goes p.tables e below (T2.setTop (mkF m 63 #[.val (.ref x0), .unset] [(.ref li_2)])) _
  obtain ⟨fs, hr, hrun, hended, hW, hsame⟩ := X2.leave (v := some (.ref li_2)) (fun h => by rw [Bd.returns] at h; cases h)
  exact ⟨_, _, retOut X2 hx Bd.returns rfl (Or.inr (Or.inr (Or.inr (Or.inr ⟨rfl, rfl, rfl⟩)))) (hb hby d22_63) hr, hrun, hended, _, _, rfl, ⟨li_2, el_2, kL_2, rfl, N2, sz_li_2, sz_el_2, np2_0, (by show Keep h0 T2.heap []; exact Kc2), (by show Exa Z T2.heap li_2 "java/util/ImmutableCollections$ListN"; exact Qf2_0), (by show Fld Z T2.heap li_2 "java/util/ImmutableCollections$ListN" "elements" "[Ljava/lang/Object;" (.ref el_2); exact Qf2_1), (by show Exa Z T2.heap el_2 "[Ljava/lang/Object;"; exact Qf2_2), (by show Arv Z T2.heap el_2 kL_2 (.object "java/lang/Object") (3 : Int32) [(.ref r1), (.ref r2), (.ref r3)] .null; exact Qf2_3)⟩, ⟨_, rfl⟩, hW, hsame.mono (by decide) (by decide)⟩

theorem d17_0 : decode jdk_56_method_3_code 0 = .ok (.aload_n 0, 1) := by decide +kernel
theorem d17_1 : decode jdk_56_method_3_code 1 = .ok (.instanceof 10, 3) := by decide +kernel
theorem d17_4 : decode jdk_56_method_3_code 4 = .ok (.ifCond .ne 22, 3) := by decide +kernel
theorem d17_7 : decode jdk_56_method_3_code 7 = .ok (.aload_n 0, 1) := by decide +kernel
theorem d17_8 : decode jdk_56_method_3_code 8 = .ok (.instanceof 12, 3) := by decide +kernel
theorem d17_11 : decode jdk_56_method_3_code 11 = .ok (.ifCond .eq 20, 3) := by decide +kernel
theorem d17_31 : decode jdk_56_method_3_code 31 = .ok (.aload_n 0, 1) := by decide +kernel
theorem d17_32 : decode jdk_56_method_3_code 32 = .ok (.invokeinterface 20 1, 5) := by decide +kernel
theorem d17_37 : decode jdk_56_method_3_code 37 = .ok (.ifCond .eq 7, 3) := by decide +kernel
theorem d17_44 : decode jdk_56_method_3_code 44 = .ok (.aload_n 0, 1) := by decide +kernel
theorem d17_45 : decode jdk_56_method_3_code 45 = .ok (.invokeinterface 30 1, 5) := by decide +kernel
theorem d17_50 : decode jdk_56_method_3_code 50 = .ok (.invokestatic 34, 3) := by decide +kernel
theorem d17_53 : decode jdk_56_method_3_code 53 = .ok (.areturn, 1) := by decide +kernel
theorem own_pd_pqZ : parseMethodDescriptor "()Z" = some ⟨[], some .boolean⟩ := by decide +kernel
theorem own_pn_17 : plainName "java/util/ImmutableCollections" = true := by first | (simp [plainName, overriddenIn]; done) | decide +kernel
theorem own_ef_own_rmLC1 (m : MethodId) (x0 : Addr) : entryFrame m #[(.ref x0)] 2 = mkF m 0 #[.val (.ref x0), .unset] [] := by first | (simp [entryFrame, mkF, argsToLocals, Value.category]; done) | rfl
def own_Q_own_rmLC1 (Z : State) (x0 : Addr) (ea : Addr) (kE : ClassId) (r1 : Addr) (kk1 : String) (mr : Addr) (aI : Addr) (h0 : Heap) (n0 : Nat) (v : Option Value) (h : Heap) (L : List Loc) : Prop := ∃ (li : Addr), v = some (.ref li) ∧ Fr n0 L ∧ h0.size ≤ li ∧ Keep h0 h [] ∧ Exa Z h li "java/util/ImmutableCollections$List12" ∧ Fld Z h li "java/util/ImmutableCollections$List12" "e0" "Ljava/lang/Object;" (.ref r1) ∧ Fld Z h li "java/util/ImmutableCollections$List12" "e1" "Ljava/lang/Object;" (.ref aI)
abbrev own_r_own_rmLC1 : Room := ({ frames := 6, cells := 2, slots := 3, locals := 75 } : Room)

set_option maxRecDepth 65536 in
set_option maxHeartbeats 40000000 in
theorem own_rmLC1 (l : Launch) (Z : State) (a0 : Array Value) (hw : ∀ d ∈ tables_1, d.before a0 Z = true) (ws : List Jvm.Cond) (x0 : Addr) (ea : Addr) (kE : ClassId) (r1 : Addr) (kk1 : String) (mr : Addr) (aI : Addr) (h0 : Heap) (n0 : Nat) (Z0 : n0 ≤ h0.size) (Pi0 : Exa Z h0 x0 "java/util/ArrayList") (Pi1 : Fld Z h0 x0 "java/util/ArrayList" "size" "I" (.int (1 : Int32))) (Pi2 : Fld Z h0 x0 "java/util/ArrayList" "elementData" "[Ljava/lang/Object;" (.ref ea)) (Pi3 : Exa Z h0 ea "[Ljava/lang/Object;") (Pi4 : Arv Z h0 ea kE (.object "java/lang/Object") (10 : Int32) [(.ref r1), .null, .null, .null, .null, .null, .null, .null, .null, .null] .null) (Pi5 : Exa Z h0 r1 kk1) (hco1 : (Cond.castable kk1 "java/lang/Object").before a0 Z = true) (Pi7 : Sta Z h0 "java/util/ImmutableCollections" "EMPTY" "Ljava/lang/Object;" (.ref aI)) (Mr : (Term.mirror "[Ljava/lang/Object;").eval #[] Z none [] Z = some (.ref mr)) :
    MetFree l own_n29 (head1 (Jvm.Cond.code own_n29 jdk_56_method_3_code 2 (some (.object "java/util/List")) :: ws) own_r_own_rmLC1) (fun a U => a = #[(.ref x0)] ∧ Z.Warmed39 U.vm ∧ U.heap = h0) (fun _ _ _ _ _ => True) (fun _ U o U' => ∃ v L, o = .returned v ∧ own_Q_own_rmLC1 Z x0 ea kE r1 kk1 mr aI h0 n0 v U'.heap L ∧ FrameEnd U o U' L own_r_own_rmLC1.cells own_r_own_rmLC1.slots) := by
  refine MetFree.of_bodySF (plainFor_of_name own_pn_17) hisR ?_
  intro p e s m args below meth c s₁ Bd hml0 hP hK
  obtain ⟨rfl, hZ, hh⟩ := hP
  have hx := Bd.exec
  have hby := Bd.bytes
  have hml : c.maxLocals = 2 := hml0
  have hown : s.vm.findClass "java/util/ImmutableCollections" = some m.cls := findClass_of_methodNamed Bd.named
  have hnm := (name_of_methodNamed Bd.named Bd.method).1
  have X0 : Stand p l e own_r_own_rmLC1 s m #[(.ref x0)] below meth c s₁ [] 0 0 := Stand.of_body Bd
  have e0 : s₁.heap = h0 := by rw [← hh, Bd.state]; rfl
  have N0 := Fr.nil n0
  show Goes p.tables e below _ (own_R below s (own_Q_own_rmLC1 Z x0 ea kE r1 kk1 mr aI h0 n0) own_r_own_rmLC1.cells own_r_own_rmLC1.slots)
  refine Goes.to (fun t k => castTop (own_ef_own_rmLC1 m x0) k) ?_
  refine gx (XS.aloadN X0.here hx rfl (hb hby d17_0) rfl rfl) ?_
  obtain ⟨T1, X1, e1, st1⟩ := instNo X0 hx hZ hown (own_hw hw 113 rfl) e0 Pi0 (own_no hw (own_hw hw 158 rfl) (by decide) (by decide) (by decide) (by decide)) (g := (mkF m 1 #[.val (.ref x0), .unset] [(.ref x0)])) rfl rfl (hb hby d17_1)
  refine Goes.to st1 ?_
  refine gx (XS.ifNo X1.here hx rfl (hb hby d17_4) rfl ((if0 _ _).trans (teq (by decide : (0 : Int32) = (0 : Int32))).2)) ?_
  refine gx (XS.aloadN X1.here hx rfl (hb hby d17_7) rfl rfl) ?_
  obtain ⟨T2, X2, e2, st2⟩ := instNo X1 hx hZ hown (own_hw hw 118 rfl) e1 Pi0 (own_no hw (own_hw hw 281 rfl) (by decide) (by decide) (by decide) (by decide)) (g := (mkF m 8 #[.val (.ref x0), .unset] [(.ref x0)])) rfl rfl (hb hby d17_8)
  refine Goes.to st2 ?_
  refine gx (XS.ifYes X2.here hx rfl (pc0 := 11) (pc' := 31) rfl (hb hby d17_11) rfl ((if0 _ _).trans (teq (by decide : (0 : Int32) = (0 : Int32))).1) (by decide) (by decide)) ?_
  refine gx (XS.aloadN X2.here hx rfl (hb hby d17_31) rfl rfl) ?_
  obtain ⟨cq3, kq3, q3a, q3b, q3c⟩ := isOf hZ e2 Pi0
  obtain ⟨_, _, ⟨T3, L3, k3, n3⟩, -, X3, ⟨Lc3, hQ3, l3, y3, z3⟩, st3⟩ := X2.interfaceBack hx (xi := own_n27) (y := own_n13) hown (mvT hZ (own_hw hw 119 rfl)) (mvT hZ (own_hw hw 120 rfl)) (mvT hZ (own_hw hw 121 rfl)) (mvT hZ (own_hw hw 122 rfl)) (mvT hZ (own_hw hw 100 rfl)) (mvT hZ (own_hw hw 101 rfl)) (mvT hZ (own_hw hw 102 rfl)) (mvT hZ (own_hw hw 123 rfl)) (by decide) (backOf (W := 0) (own_rm15 l Z a0 hw [] x0 (1 : Int32) h0 n0 Z0 Pi1) hZ (own_hw hw 104 rfl) (own_hw hw 7 rfl) (by decide) (by decide)) q3a q3b q3c (g := (mkF m 32 #[.val (.ref x0), .unset] [(.ref x0)])) rfl (by rw [hml]; rfl) (Steps.refl _) (argsL := []) (rest := []) (lenOf own_pd_pqZ rfl) rfl (own_W rfl rfl) (hb hby d17_32) (fun _ _ => ⟨rfl, e2, (by decide : 0 + 0 ≤ _), (by decide : 0 + 0 ≤ _)⟩)
  dsimp only [Pt.U, Pt.locs, Pt.cells, Pt.slots] at X3 l3 y3 z3 st3 hQ3
  subst l3 y3 z3
  obtain ⟨hv3, Nq3, hp3_0⟩ := hQ3
  have N3 := Fr.app N0 Nq3
  rw [if_neg (by decide : ¬ ((1 : Int32) = (0 : Int32)))] at hv3
  subst hv3
  refine Goes.tr st3 ?_
  refine gx (XS.ifYes X3.here hx rfl (pc0 := 37) (pc' := 44) rfl (hb hby d17_37) rfl ((if0 _ _).trans (teq (by decide : (0 : Int32) = (0 : Int32))).1) (by decide) (by decide)) ?_
  refine gx (XS.aloadN X3.here hx rfl (hb hby d17_44) rfl rfl) ?_
  obtain ⟨cq4, kq4, q4a, q4b, q4c⟩ := isOf hZ hp3_0 Pi0
  obtain ⟨_, _, ⟨T4, L4, k4, n4⟩, -, X4, ⟨Lc4, hQ4, l4, y4, z4⟩, st4⟩ := X3.interfaceBack hx (xi := own_n28) (y := own_n21) hown (mvT hZ (own_hw hw 124 rfl)) (mvT hZ (own_hw hw 125 rfl)) (mvT hZ (own_hw hw 126 rfl)) (mvT hZ (own_hw hw 127 rfl)) (mvT hZ (own_hw hw 128 rfl)) (mvT hZ (own_hw hw 129 rfl)) (mvT hZ (own_hw hw 130 rfl)) (mvT hZ (own_hw hw 123 rfl)) (by decide) (backOf (W := 0) (own_rmTA1 l Z a0 hw [] x0 ea kE r1 kk1 mr h0 n0 Z0 Pi0 Pi1 Pi2 Pi3 Pi4 Pi5 hco1 Mr) hZ (own_hw hw 131 rfl) (own_hw hw 7 rfl) (by decide) (by decide)) q4a q4b q4c (g := (mkF m 45 #[.val (.ref x0), .unset] [(.ref x0)])) rfl (by rw [hml]; rfl) (Steps.refl _) (argsL := []) (rest := []) (lenOf own_pd_pqaLjavallanglObjects rfl) rfl (own_W rfl rfl) (hb hby d17_45) (fun _ _ => ⟨rfl, hp3_0, (by decide : 0 + 1 ≤ _), (by decide : 0 + 1 ≤ _)⟩)
  dsimp only [Pt.U, Pt.locs, Pt.cells, Pt.slots] at X4 l4 y4 z4 st4 hQ4
  subst l4 y4 z4
  obtain ⟨ca_4, kC_4, hv4, Nq4, sq4_0, Kq4, Qf4_0, Qf4_1, Qf4_2⟩ := hQ4
  have N4 := Fr.app N3 Nq4
  have F13 := Pi5.keep Kq4
  have F14 := own_sta0 Kq4 Pi7
  have Zk4 : n0 ≤ T4.heap.size := Nat.le_trans Z0 Kq4.1
  have Kc4 : Keep h0 T4.heap [] := (Keep.refl h0 []).trans Kq4 all0
  subst hv4
  refine Goes.tr st4 ?_
  obtain ⟨_, _, ⟨T15, L15, k15, n15⟩, -, X15, ⟨Lc15, hQ15, l15, y15, z15⟩, st15⟩ := Jvm.LawKit.callS X4 hx (y := own_n26) hown (mvT hZ (own_hw hw 154 rfl)) (mvT hZ (own_hw hw 155 rfl)) (mvT hZ (own_hw hw 107 rfl)) (mvT hZ (own_hw hw 156 rfl)) (by decide) (backOf (W := 0) (own_rmLO1 l Z a0 hw [] ca_4 kC_4 r1 kk1 aI T4.heap n0 Zk4 Qf4_1 Qf4_0 F13 hco1 F14) hZ (own_hw hw 156 rfl) (own_hw hw 107 rfl) (by decide) (by decide)) (g := (mkF m 50 #[.val (.ref x0), .unset] [(.ref ca_4)])) rfl (by rw [hml]; rfl) (argsL := [(.ref ca_4)]) (rest := []) (lenOf own_pd_paLjavallanglObjectsqLjavalutillLists rfl) rfl (own_W rfl rfl) (hb hby d17_50) (fun _ _ => ⟨rfl, rfl, (by decide : 1 + 1 ≤ _), (by decide : 1 + 2 ≤ _)⟩)
  dsimp only [Pt.U, Pt.locs, Pt.cells, Pt.slots] at X15 l15 y15 z15 st15 hQ15
  subst l15 y15 z15
  obtain ⟨li_15, hv15, Nq15, sq15_0, Kq15, Qf15_0, Qf15_1, Qf15_2⟩ := hQ15
  have N15 := Fr.app N4 Nq15
  have sz_li_15 : h0.size ≤ li_15 := Nat.le_trans Kc4.1 sq15_0
  have Kc15 : Keep h0 T15.heap [] := Kc4.trans Kq15 all0
  subst hv15
  refine Goes.to st15 ?_
  show Goes p.tables e below (T15.setTop (mkF m 53 #[.val (.ref x0), .unset] [(.ref li_15)])) _
  obtain ⟨fs, hr, hrun, hended, hW, hsame⟩ := X15.leave (v := some (.ref li_15)) (fun h => by rw [Bd.returns] at h; cases h)
  exact ⟨_, _, retOut X15 hx Bd.returns rfl (Or.inr (Or.inr (Or.inr (Or.inr ⟨rfl, rfl, rfl⟩)))) (hb hby d17_53) hr, hrun, hended, _, _, rfl, ⟨li_15, rfl, N15, sz_li_15, (by show Keep h0 T15.heap []; exact Kc15), (by show Exa Z T15.heap li_15 "java/util/ImmutableCollections$List12"; exact Qf15_0), (by show Fld Z T15.heap li_15 "java/util/ImmutableCollections$List12" "e0" "Ljava/lang/Object;" (.ref r1); exact Qf15_1), (by show Fld Z T15.heap li_15 "java/util/ImmutableCollections$List12" "e1" "Ljava/lang/Object;" (.ref aI); exact Qf15_2)⟩, ⟨_, rfl⟩, hW, hsame.mono (by decide) (by decide)⟩

theorem own_ef_own_rmLC2 (m : MethodId) (x0 : Addr) : entryFrame m #[(.ref x0)] 2 = mkF m 0 #[.val (.ref x0), .unset] [] := by first | (simp [entryFrame, mkF, argsToLocals, Value.category]; done) | rfl
def own_Q_own_rmLC2 (Z : State) (x0 : Addr) (ea : Addr) (kE : ClassId) (r1 : Addr) (r2 : Addr) (kk1 : String) (kk2 : String) (mr : Addr) (aI : Addr) (h0 : Heap) (n0 : Nat) (v : Option Value) (h : Heap) (L : List Loc) : Prop := ∃ (li : Addr), v = some (.ref li) ∧ Fr n0 L ∧ h0.size ≤ li ∧ Keep h0 h [] ∧ Exa Z h li "java/util/ImmutableCollections$List12" ∧ Fld Z h li "java/util/ImmutableCollections$List12" "e0" "Ljava/lang/Object;" (.ref r1) ∧ Fld Z h li "java/util/ImmutableCollections$List12" "e1" "Ljava/lang/Object;" (.ref r2)
abbrev own_r_own_rmLC2 : Room := ({ frames := 6, cells := 2, slots := 4, locals := 76 } : Room)

set_option maxRecDepth 65536 in
set_option maxHeartbeats 40000000 in
theorem own_rmLC2 (l : Launch) (Z : State) (a0 : Array Value) (hw : ∀ d ∈ tables_1, d.before a0 Z = true) (ws : List Jvm.Cond) (x0 : Addr) (ea : Addr) (kE : ClassId) (r1 : Addr) (r2 : Addr) (kk1 : String) (kk2 : String) (mr : Addr) (aI : Addr) (h0 : Heap) (n0 : Nat) (Z0 : n0 ≤ h0.size) (Pi0 : Exa Z h0 x0 "java/util/ArrayList") (Pi1 : Fld Z h0 x0 "java/util/ArrayList" "size" "I" (.int (2 : Int32))) (Pi2 : Fld Z h0 x0 "java/util/ArrayList" "elementData" "[Ljava/lang/Object;" (.ref ea)) (Pi3 : Exa Z h0 ea "[Ljava/lang/Object;") (Pi4 : Arv Z h0 ea kE (.object "java/lang/Object") (10 : Int32) [(.ref r1), (.ref r2), .null, .null, .null, .null, .null, .null, .null, .null] .null) (Pi5 : Exa Z h0 r1 kk1) (hco1 : (Cond.castable kk1 "java/lang/Object").before a0 Z = true) (Pi7 : Exa Z h0 r2 kk2) (hco2 : (Cond.castable kk2 "java/lang/Object").before a0 Z = true) (Pi9 : Sta Z h0 "java/util/ImmutableCollections" "EMPTY" "Ljava/lang/Object;" (.ref aI)) (Mr : (Term.mirror "[Ljava/lang/Object;").eval #[] Z none [] Z = some (.ref mr)) :
    MetFree l own_n29 (head1 (Jvm.Cond.code own_n29 jdk_56_method_3_code 2 (some (.object "java/util/List")) :: ws) own_r_own_rmLC2) (fun a U => a = #[(.ref x0)] ∧ Z.Warmed39 U.vm ∧ U.heap = h0) (fun _ _ _ _ _ => True) (fun _ U o U' => ∃ v L, o = .returned v ∧ own_Q_own_rmLC2 Z x0 ea kE r1 r2 kk1 kk2 mr aI h0 n0 v U'.heap L ∧ FrameEnd U o U' L own_r_own_rmLC2.cells own_r_own_rmLC2.slots) := by
  refine MetFree.of_bodySF (plainFor_of_name own_pn_17) hisR ?_
  intro p e s m args below meth c s₁ Bd hml0 hP hK
  obtain ⟨rfl, hZ, hh⟩ := hP
  have hx := Bd.exec
  have hby := Bd.bytes
  have hml : c.maxLocals = 2 := hml0
  have hown : s.vm.findClass "java/util/ImmutableCollections" = some m.cls := findClass_of_methodNamed Bd.named
  have hnm := (name_of_methodNamed Bd.named Bd.method).1
  have X0 : Stand p l e own_r_own_rmLC2 s m #[(.ref x0)] below meth c s₁ [] 0 0 := Stand.of_body Bd
  have e0 : s₁.heap = h0 := by rw [← hh, Bd.state]; rfl
  have N0 := Fr.nil n0
  show Goes p.tables e below _ (own_R below s (own_Q_own_rmLC2 Z x0 ea kE r1 r2 kk1 kk2 mr aI h0 n0) own_r_own_rmLC2.cells own_r_own_rmLC2.slots)
  refine Goes.to (fun t k => castTop (own_ef_own_rmLC2 m x0) k) ?_
  refine gx (XS.aloadN X0.here hx rfl (hb hby d17_0) rfl rfl) ?_
  obtain ⟨T1, X1, e1, st1⟩ := instNo X0 hx hZ hown (own_hw hw 113 rfl) e0 Pi0 (own_no hw (own_hw hw 158 rfl) (by decide) (by decide) (by decide) (by decide)) (g := (mkF m 1 #[.val (.ref x0), .unset] [(.ref x0)])) rfl rfl (hb hby d17_1)
  refine Goes.to st1 ?_
  refine gx (XS.ifNo X1.here hx rfl (hb hby d17_4) rfl ((if0 _ _).trans (teq (by decide : (0 : Int32) = (0 : Int32))).2)) ?_
  refine gx (XS.aloadN X1.here hx rfl (hb hby d17_7) rfl rfl) ?_
  obtain ⟨T2, X2, e2, st2⟩ := instNo X1 hx hZ hown (own_hw hw 118 rfl) e1 Pi0 (own_no hw (own_hw hw 281 rfl) (by decide) (by decide) (by decide) (by decide)) (g := (mkF m 8 #[.val (.ref x0), .unset] [(.ref x0)])) rfl rfl (hb hby d17_8)
  refine Goes.to st2 ?_
  refine gx (XS.ifYes X2.here hx rfl (pc0 := 11) (pc' := 31) rfl (hb hby d17_11) rfl ((if0 _ _).trans (teq (by decide : (0 : Int32) = (0 : Int32))).1) (by decide) (by decide)) ?_
  refine gx (XS.aloadN X2.here hx rfl (hb hby d17_31) rfl rfl) ?_
  obtain ⟨cq3, kq3, q3a, q3b, q3c⟩ := isOf hZ e2 Pi0
  obtain ⟨_, _, ⟨T3, L3, k3, n3⟩, -, X3, ⟨Lc3, hQ3, l3, y3, z3⟩, st3⟩ := X2.interfaceBack hx (xi := own_n27) (y := own_n13) hown (mvT hZ (own_hw hw 119 rfl)) (mvT hZ (own_hw hw 120 rfl)) (mvT hZ (own_hw hw 121 rfl)) (mvT hZ (own_hw hw 122 rfl)) (mvT hZ (own_hw hw 100 rfl)) (mvT hZ (own_hw hw 101 rfl)) (mvT hZ (own_hw hw 102 rfl)) (mvT hZ (own_hw hw 123 rfl)) (by decide) (backOf (W := 0) (own_rm15 l Z a0 hw [] x0 (2 : Int32) h0 n0 Z0 Pi1) hZ (own_hw hw 104 rfl) (own_hw hw 7 rfl) (by decide) (by decide)) q3a q3b q3c (g := (mkF m 32 #[.val (.ref x0), .unset] [(.ref x0)])) rfl (by rw [hml]; rfl) (Steps.refl _) (argsL := []) (rest := []) (lenOf own_pd_pqZ rfl) rfl (own_W rfl rfl) (hb hby d17_32) (fun _ _ => ⟨rfl, e2, (by decide : 0 + 0 ≤ _), (by decide : 0 + 0 ≤ _)⟩)
  dsimp only [Pt.U, Pt.locs, Pt.cells, Pt.slots] at X3 l3 y3 z3 st3 hQ3
  subst l3 y3 z3
  obtain ⟨hv3, Nq3, hp3_0⟩ := hQ3
  have N3 := Fr.app N0 Nq3
  rw [if_neg (by decide : ¬ ((2 : Int32) = (0 : Int32)))] at hv3
  subst hv3
  refine Goes.tr st3 ?_
  refine gx (XS.ifYes X3.here hx rfl (pc0 := 37) (pc' := 44) rfl (hb hby d17_37) rfl ((if0 _ _).trans (teq (by decide : (0 : Int32) = (0 : Int32))).1) (by decide) (by decide)) ?_
  refine gx (XS.aloadN X3.here hx rfl (hb hby d17_44) rfl rfl) ?_
  obtain ⟨cq4, kq4, q4a, q4b, q4c⟩ := isOf hZ hp3_0 Pi0
  obtain ⟨_, _, ⟨T4, L4, k4, n4⟩, -, X4, ⟨Lc4, hQ4, l4, y4, z4⟩, st4⟩ := X3.interfaceBack hx (xi := own_n28) (y := own_n21) hown (mvT hZ (own_hw hw 124 rfl)) (mvT hZ (own_hw hw 125 rfl)) (mvT hZ (own_hw hw 126 rfl)) (mvT hZ (own_hw hw 127 rfl)) (mvT hZ (own_hw hw 128 rfl)) (mvT hZ (own_hw hw 129 rfl)) (mvT hZ (own_hw hw 130 rfl)) (mvT hZ (own_hw hw 123 rfl)) (by decide) (backOf (W := 0) (own_rmTA2 l Z a0 hw [] x0 ea kE r1 r2 kk1 kk2 mr h0 n0 Z0 Pi0 Pi1 Pi2 Pi3 Pi4 Pi5 hco1 Pi7 hco2 Mr) hZ (own_hw hw 131 rfl) (own_hw hw 7 rfl) (by decide) (by decide)) q4a q4b q4c (g := (mkF m 45 #[.val (.ref x0), .unset] [(.ref x0)])) rfl (by rw [hml]; rfl) (Steps.refl _) (argsL := []) (rest := []) (lenOf own_pd_pqaLjavallanglObjects rfl) rfl (own_W rfl rfl) (hb hby d17_45) (fun _ _ => ⟨rfl, hp3_0, (by decide : 0 + 1 ≤ _), (by decide : 0 + 2 ≤ _)⟩)
  dsimp only [Pt.U, Pt.locs, Pt.cells, Pt.slots] at X4 l4 y4 z4 st4 hQ4
  subst l4 y4 z4
  obtain ⟨ca_4, kC_4, hv4, Nq4, sq4_0, Kq4, Qf4_0, Qf4_1, Qf4_2⟩ := hQ4
  have N4 := Fr.app N3 Nq4
  have F14 := Pi5.keep Kq4
  have F15 := Pi7.keep Kq4
  have F16 := own_sta0 Kq4 Pi9
  have Zk4 : n0 ≤ T4.heap.size := Nat.le_trans Z0 Kq4.1
  have Kc4 : Keep h0 T4.heap [] := (Keep.refl h0 []).trans Kq4 all0
  subst hv4
  refine Goes.tr st4 ?_
  obtain ⟨_, _, ⟨T17, L17, k17, n17⟩, -, X17, ⟨Lc17, hQ17, l17, y17, z17⟩, st17⟩ := Jvm.LawKit.callS X4 hx (y := own_n26) hown (mvT hZ (own_hw hw 154 rfl)) (mvT hZ (own_hw hw 155 rfl)) (mvT hZ (own_hw hw 107 rfl)) (mvT hZ (own_hw hw 156 rfl)) (by decide) (backOf (W := 0) (own_rmLO2 l Z a0 hw [] ca_4 kC_4 r1 r2 kk1 kk2 aI T4.heap n0 Zk4 Qf4_1 Qf4_0 F14 hco1 F15 hco2 F16) hZ (own_hw hw 156 rfl) (own_hw hw 107 rfl) (by decide) (by decide)) (g := (mkF m 50 #[.val (.ref x0), .unset] [(.ref ca_4)])) rfl (by rw [hml]; rfl) (argsL := [(.ref ca_4)]) (rest := []) (lenOf own_pd_paLjavallanglObjectsqLjavalutillLists rfl) rfl (own_W rfl rfl) (hb hby d17_50) (fun _ _ => ⟨rfl, rfl, (by decide : 1 + 1 ≤ _), (by decide : 2 + 2 ≤ _)⟩)
  dsimp only [Pt.U, Pt.locs, Pt.cells, Pt.slots] at X17 l17 y17 z17 st17 hQ17
  subst l17 y17 z17
  obtain ⟨li_17, hv17, Nq17, sq17_0, Kq17, Qf17_0, Qf17_1, Qf17_2⟩ := hQ17
  have N17 := Fr.app N4 Nq17
  have sz_li_17 : h0.size ≤ li_17 := Nat.le_trans Kc4.1 sq17_0
  have Kc17 : Keep h0 T17.heap [] := Kc4.trans Kq17 all0
  subst hv17
  refine Goes.to st17 ?_
  show Goes p.tables e below (T17.setTop (mkF m 53 #[.val (.ref x0), .unset] [(.ref li_17)])) _
  obtain ⟨fs, hr, hrun, hended, hW, hsame⟩ := X17.leave (v := some (.ref li_17)) (fun h => by rw [Bd.returns] at h; cases h)
  exact ⟨_, _, retOut X17 hx Bd.returns rfl (Or.inr (Or.inr (Or.inr (Or.inr ⟨rfl, rfl, rfl⟩)))) (hb hby d17_53) hr, hrun, hended, _, _, rfl, ⟨li_17, rfl, N17, sz_li_17, (by show Keep h0 T17.heap []; exact Kc17), (by show Exa Z T17.heap li_17 "java/util/ImmutableCollections$List12"; exact Qf17_0), (by show Fld Z T17.heap li_17 "java/util/ImmutableCollections$List12" "e0" "Ljava/lang/Object;" (.ref r1); exact Qf17_1), (by show Fld Z T17.heap li_17 "java/util/ImmutableCollections$List12" "e1" "Ljava/lang/Object;" (.ref r2); exact Qf17_2)⟩, ⟨_, rfl⟩, hW, hsame.mono (by decide) (by decide)⟩

theorem own_ef_own_rmLC3 (m : MethodId) (x0 : Addr) : entryFrame m #[(.ref x0)] 2 = mkF m 0 #[.val (.ref x0), .unset] [] := by first | (simp [entryFrame, mkF, argsToLocals, Value.category]; done) | rfl
def own_Q_own_rmLC3 (Z : State) (x0 : Addr) (ea : Addr) (kE : ClassId) (r1 : Addr) (r2 : Addr) (r3 : Addr) (kk1 : String) (kk2 : String) (kk3 : String) (mr : Addr) (aI : Addr) (h0 : Heap) (n0 : Nat) (v : Option Value) (h : Heap) (L : List Loc) : Prop := ∃ (li : Addr) (el : Addr) (kL : ClassId), v = some (.ref li) ∧ Fr n0 L ∧ h0.size ≤ li ∧ h0.size ≤ el ∧ li ≠ el ∧ Keep h0 h [] ∧ Exa Z h li "java/util/ImmutableCollections$ListN" ∧ Fld Z h li "java/util/ImmutableCollections$ListN" "elements" "[Ljava/lang/Object;" (.ref el) ∧ Exa Z h el "[Ljava/lang/Object;" ∧ Arv Z h el kL (.object "java/lang/Object") (3 : Int32) [(.ref r1), (.ref r2), (.ref r3)] .null
abbrev own_r_own_rmLC3 : Room := ({ frames := 7, cells := 3, slots := 8, locals := 90 } : Room)

set_option maxRecDepth 65536 in
set_option maxHeartbeats 40000000 in
theorem own_rmLC3 (l : Launch) (Z : State) (a0 : Array Value) (hw : ∀ d ∈ tables_1, d.before a0 Z = true) (ws : List Jvm.Cond) (x0 : Addr) (ea : Addr) (kE : ClassId) (r1 : Addr) (r2 : Addr) (r3 : Addr) (kk1 : String) (kk2 : String) (kk3 : String) (mr : Addr) (aI : Addr) (h0 : Heap) (n0 : Nat) (Z0 : n0 ≤ h0.size) (Pi0 : Exa Z h0 x0 "java/util/ArrayList") (Pi1 : Fld Z h0 x0 "java/util/ArrayList" "size" "I" (.int (3 : Int32))) (Pi2 : Fld Z h0 x0 "java/util/ArrayList" "elementData" "[Ljava/lang/Object;" (.ref ea)) (Pi3 : Exa Z h0 ea "[Ljava/lang/Object;") (Pi4 : Arv Z h0 ea kE (.object "java/lang/Object") (10 : Int32) [(.ref r1), (.ref r2), (.ref r3), .null, .null, .null, .null, .null, .null, .null] .null) (Pi5 : Exa Z h0 r1 kk1) (hco1 : (Cond.castable kk1 "java/lang/Object").before a0 Z = true) (Pi7 : Exa Z h0 r2 kk2) (hco2 : (Cond.castable kk2 "java/lang/Object").before a0 Z = true) (Pi9 : Exa Z h0 r3 kk3) (hco3 : (Cond.castable kk3 "java/lang/Object").before a0 Z = true) (Pi11 : Sta Z h0 "java/util/ImmutableCollections" "EMPTY" "Ljava/lang/Object;" (.ref aI)) (Mr : (Term.mirror "[Ljava/lang/Object;").eval #[] Z none [] Z = some (.ref mr)) :
    MetFree l own_n29 (head1 (Jvm.Cond.code own_n29 jdk_56_method_3_code 2 (some (.object "java/util/List")) :: ws) own_r_own_rmLC3) (fun a U => a = #[(.ref x0)] ∧ Z.Warmed39 U.vm ∧ U.heap = h0) (fun _ _ _ _ _ => True) (fun _ U o U' => ∃ v L, o = .returned v ∧ own_Q_own_rmLC3 Z x0 ea kE r1 r2 r3 kk1 kk2 kk3 mr aI h0 n0 v U'.heap L ∧ FrameEnd U o U' L own_r_own_rmLC3.cells own_r_own_rmLC3.slots) := by
  refine MetFree.of_bodySF (plainFor_of_name own_pn_17) hisR ?_
  intro p e s m args below meth c s₁ Bd hml0 hP hK
  obtain ⟨rfl, hZ, hh⟩ := hP
  have hx := Bd.exec
  have hby := Bd.bytes
  have hml : c.maxLocals = 2 := hml0
  have hown : s.vm.findClass "java/util/ImmutableCollections" = some m.cls := findClass_of_methodNamed Bd.named
  have hnm := (name_of_methodNamed Bd.named Bd.method).1
  have X0 : Stand p l e own_r_own_rmLC3 s m #[(.ref x0)] below meth c s₁ [] 0 0 := Stand.of_body Bd
  have e0 : s₁.heap = h0 := by rw [← hh, Bd.state]; rfl
  have N0 := Fr.nil n0
  show Goes p.tables e below _ (own_R below s (own_Q_own_rmLC3 Z x0 ea kE r1 r2 r3 kk1 kk2 kk3 mr aI h0 n0) own_r_own_rmLC3.cells own_r_own_rmLC3.slots)
  refine Goes.to (fun t k => castTop (own_ef_own_rmLC3 m x0) k) ?_
  refine gx (XS.aloadN X0.here hx rfl (hb hby d17_0) rfl rfl) ?_
  obtain ⟨T1, X1, e1, st1⟩ := instNo X0 hx hZ hown (own_hw hw 113 rfl) e0 Pi0 (own_no hw (own_hw hw 158 rfl) (by decide) (by decide) (by decide) (by decide)) (g := (mkF m 1 #[.val (.ref x0), .unset] [(.ref x0)])) rfl rfl (hb hby d17_1)
  refine Goes.to st1 ?_
  refine gx (XS.ifNo X1.here hx rfl (hb hby d17_4) rfl ((if0 _ _).trans (teq (by decide : (0 : Int32) = (0 : Int32))).2)) ?_
  refine gx (XS.aloadN X1.here hx rfl (hb hby d17_7) rfl rfl) ?_
  obtain ⟨T2, X2, e2, st2⟩ := instNo X1 hx hZ hown (own_hw hw 118 rfl) e1 Pi0 (own_no hw (own_hw hw 281 rfl) (by decide) (by decide) (by decide) (by decide)) (g := (mkF m 8 #[.val (.ref x0), .unset] [(.ref x0)])) rfl rfl (hb hby d17_8)
  refine Goes.to st2 ?_
  refine gx (XS.ifYes X2.here hx rfl (pc0 := 11) (pc' := 31) rfl (hb hby d17_11) rfl ((if0 _ _).trans (teq (by decide : (0 : Int32) = (0 : Int32))).1) (by decide) (by decide)) ?_
  refine gx (XS.aloadN X2.here hx rfl (hb hby d17_31) rfl rfl) ?_
  obtain ⟨cq3, kq3, q3a, q3b, q3c⟩ := isOf hZ e2 Pi0
  obtain ⟨_, _, ⟨T3, L3, k3, n3⟩, -, X3, ⟨Lc3, hQ3, l3, y3, z3⟩, st3⟩ := X2.interfaceBack hx (xi := own_n27) (y := own_n13) hown (mvT hZ (own_hw hw 119 rfl)) (mvT hZ (own_hw hw 120 rfl)) (mvT hZ (own_hw hw 121 rfl)) (mvT hZ (own_hw hw 122 rfl)) (mvT hZ (own_hw hw 100 rfl)) (mvT hZ (own_hw hw 101 rfl)) (mvT hZ (own_hw hw 102 rfl)) (mvT hZ (own_hw hw 123 rfl)) (by decide) (backOf (W := 0) (own_rm15 l Z a0 hw [] x0 (3 : Int32) h0 n0 Z0 Pi1) hZ (own_hw hw 104 rfl) (own_hw hw 7 rfl) (by decide) (by decide)) q3a q3b q3c (g := (mkF m 32 #[.val (.ref x0), .unset] [(.ref x0)])) rfl (by rw [hml]; rfl) (Steps.refl _) (argsL := []) (rest := []) (lenOf own_pd_pqZ rfl) rfl (own_W rfl rfl) (hb hby d17_32) (fun _ _ => ⟨rfl, e2, (by decide : 0 + 0 ≤ _), (by decide : 0 + 0 ≤ _)⟩)
  dsimp only [Pt.U, Pt.locs, Pt.cells, Pt.slots] at X3 l3 y3 z3 st3 hQ3
  subst l3 y3 z3
  obtain ⟨hv3, Nq3, hp3_0⟩ := hQ3
  have N3 := Fr.app N0 Nq3
  rw [if_neg (by decide : ¬ ((3 : Int32) = (0 : Int32)))] at hv3
  subst hv3
  refine Goes.tr st3 ?_
  refine gx (XS.ifYes X3.here hx rfl (pc0 := 37) (pc' := 44) rfl (hb hby d17_37) rfl ((if0 _ _).trans (teq (by decide : (0 : Int32) = (0 : Int32))).1) (by decide) (by decide)) ?_
  refine gx (XS.aloadN X3.here hx rfl (hb hby d17_44) rfl rfl) ?_
  obtain ⟨cq4, kq4, q4a, q4b, q4c⟩ := isOf hZ hp3_0 Pi0
  obtain ⟨_, _, ⟨T4, L4, k4, n4⟩, -, X4, ⟨Lc4, hQ4, l4, y4, z4⟩, st4⟩ := X3.interfaceBack hx (xi := own_n28) (y := own_n21) hown (mvT hZ (own_hw hw 124 rfl)) (mvT hZ (own_hw hw 125 rfl)) (mvT hZ (own_hw hw 126 rfl)) (mvT hZ (own_hw hw 127 rfl)) (mvT hZ (own_hw hw 128 rfl)) (mvT hZ (own_hw hw 129 rfl)) (mvT hZ (own_hw hw 130 rfl)) (mvT hZ (own_hw hw 123 rfl)) (by decide) (backOf (W := 0) (own_rmTA3 l Z a0 hw [] x0 ea kE r1 r2 r3 kk1 kk2 kk3 mr h0 n0 Z0 Pi0 Pi1 Pi2 Pi3 Pi4 Pi5 hco1 Pi7 hco2 Pi9 hco3 Mr) hZ (own_hw hw 131 rfl) (own_hw hw 7 rfl) (by decide) (by decide)) q4a q4b q4c (g := (mkF m 45 #[.val (.ref x0), .unset] [(.ref x0)])) rfl (by rw [hml]; rfl) (Steps.refl _) (argsL := []) (rest := []) (lenOf own_pd_pqaLjavallanglObjects rfl) rfl (own_W rfl rfl) (hb hby d17_45) (fun _ _ => ⟨rfl, hp3_0, (by decide : 0 + 1 ≤ _), (by decide : 0 + 3 ≤ _)⟩)
  dsimp only [Pt.U, Pt.locs, Pt.cells, Pt.slots] at X4 l4 y4 z4 st4 hQ4
  subst l4 y4 z4
  obtain ⟨ca_4, kC_4, hv4, Nq4, sq4_0, Kq4, Qf4_0, Qf4_1, Qf4_2⟩ := hQ4
  have N4 := Fr.app N3 Nq4
  have F15 := Pi5.keep Kq4
  have F16 := Pi7.keep Kq4
  have F17 := Pi9.keep Kq4
  have F18 := own_sta0 Kq4 Pi11
  have Zk4 : n0 ≤ T4.heap.size := Nat.le_trans Z0 Kq4.1
  have Kc4 : Keep h0 T4.heap [] := (Keep.refl h0 []).trans Kq4 all0
  subst hv4
  refine Goes.tr st4 ?_
  obtain ⟨_, _, ⟨T19, L19, k19, n19⟩, -, X19, ⟨Lc19, hQ19, l19, y19, z19⟩, st19⟩ := Jvm.LawKit.callS X4 hx (y := own_n26) hown (mvT hZ (own_hw hw 154 rfl)) (mvT hZ (own_hw hw 155 rfl)) (mvT hZ (own_hw hw 107 rfl)) (mvT hZ (own_hw hw 156 rfl)) (by decide) (backOf (W := 0) (own_rmLO3 l Z a0 hw [] ca_4 kC_4 r1 r2 r3 kk1 kk2 kk3 aI T4.heap n0 Zk4 Qf4_1 Qf4_0 F15 hco1 F16 hco2 F17 hco3 F18) hZ (own_hw hw 156 rfl) (own_hw hw 107 rfl) (by decide) (by decide)) (g := (mkF m 50 #[.val (.ref x0), .unset] [(.ref ca_4)])) rfl (by rw [hml]; rfl) (argsL := [(.ref ca_4)]) (rest := []) (lenOf own_pd_paLjavallanglObjectsqLjavalutillLists rfl) rfl (own_W rfl rfl) (hb hby d17_50) (fun _ _ => ⟨rfl, rfl, (by decide : 1 + 2 ≤ _), (by decide : 3 + 5 ≤ _)⟩)
  dsimp only [Pt.U, Pt.locs, Pt.cells, Pt.slots] at X19 l19 y19 z19 st19 hQ19
  subst l19 y19 z19
  obtain ⟨li_19, el_19, kL_19, hv19, Nq19, sq19_0, sq19_1, np19_0, Kq19, Qf19_0, Qf19_1, Qf19_2, Qf19_3⟩ := hQ19
  have N19 := Fr.app N4 Nq19
  have sz_li_19 : h0.size ≤ li_19 := Nat.le_trans Kc4.1 sq19_0
  have sz_el_19 : h0.size ≤ el_19 := Nat.le_trans Kc4.1 sq19_1
  have Kc19 : Keep h0 T19.heap [] := Kc4.trans Kq19 all0
  subst hv19
  refine Goes.to st19 ?_
  show Goes p.tables e below (T19.setTop (mkF m 53 #[.val (.ref x0), .unset] [(.ref li_19)])) _
  obtain ⟨fs, hr, hrun, hended, hW, hsame⟩ := X19.leave (v := some (.ref li_19)) (fun h => by rw [Bd.returns] at h; cases h)
  exact ⟨_, _, retOut X19 hx Bd.returns rfl (Or.inr (Or.inr (Or.inr (Or.inr ⟨rfl, rfl, rfl⟩)))) (hb hby d17_53) hr, hrun, hended, _, _, rfl, ⟨li_19, el_19, kL_19, rfl, N19, sz_li_19, sz_el_19, np19_0, (by show Keep h0 T19.heap []; exact Kc19), (by show Exa Z T19.heap li_19 "java/util/ImmutableCollections$ListN"; exact Qf19_0), (by show Fld Z T19.heap li_19 "java/util/ImmutableCollections$ListN" "elements" "[Ljava/lang/Object;" (.ref el_19); exact Qf19_1), (by show Exa Z T19.heap el_19 "[Ljava/lang/Object;"; exact Qf19_2), (by show Arv Z T19.heap el_19 kL_19 (.object "java/lang/Object") (3 : Int32) [(.ref r1), (.ref r2), (.ref r3)] .null; exact Qf19_3)⟩, ⟨_, rfl⟩, hW, hsame.mono (by decide) (by decide)⟩

theorem d16_0 : decode jdk_40_method_48_code 0 = .ok (.aload_n 0, 1) := by decide +kernel
theorem d16_1 : decode jdk_40_method_48_code 1 = .ok (.invokestatic 112, 3) := by decide +kernel
theorem d16_4 : decode jdk_40_method_48_code 4 = .ok (.areturn, 1) := by decide +kernel
theorem own_pd_pLjavalutillCollectionsqLjavalutillLists : parseMethodDescriptor "(Ljava/util/Collection;)Ljava/util/List;" = some ⟨[(.object "java/util/Collection")], some (.object "java/util/List")⟩ := by decide +kernel
theorem own_pn_16 : plainName "java/util/List" = true := by first | (simp [plainName, overriddenIn]; done) | decide +kernel
theorem own_ef_own_rmLF1 (m : MethodId) (x0 : Addr) : entryFrame m #[(.ref x0)] 1 = mkF m 0 #[.val (.ref x0)] [] := by first | (simp [entryFrame, mkF, argsToLocals, Value.category]; done) | rfl
def own_Q_own_rmLF1 (Z : State) (x0 : Addr) (ea : Addr) (kE : ClassId) (r1 : Addr) (kk1 : String) (mr : Addr) (aI : Addr) (h0 : Heap) (n0 : Nat) (v : Option Value) (h : Heap) (L : List Loc) : Prop := ∃ (li : Addr), v = some (.ref li) ∧ Fr n0 L ∧ h0.size ≤ li ∧ Keep h0 h [] ∧ Exa Z h li "java/util/ImmutableCollections$List12" ∧ Fld Z h li "java/util/ImmutableCollections$List12" "e0" "Ljava/lang/Object;" (.ref r1) ∧ Fld Z h li "java/util/ImmutableCollections$List12" "e1" "Ljava/lang/Object;" (.ref aI)
abbrev own_r_own_rmLF1 : Room := ({ frames := 7, cells := 2, slots := 3, locals := 88 } : Room)

set_option maxRecDepth 65536 in
set_option maxHeartbeats 40000000 in
theorem own_rmLF1 (l : Launch) (Z : State) (a0 : Array Value) (hw : ∀ d ∈ tables_1, d.before a0 Z = true) (ws : List Jvm.Cond) (x0 : Addr) (ea : Addr) (kE : ClassId) (r1 : Addr) (kk1 : String) (mr : Addr) (aI : Addr) (h0 : Heap) (n0 : Nat) (Z0 : n0 ≤ h0.size) (Pi0 : Exa Z h0 x0 "java/util/ArrayList") (Pi1 : Fld Z h0 x0 "java/util/ArrayList" "size" "I" (.int (1 : Int32))) (Pi2 : Fld Z h0 x0 "java/util/ArrayList" "elementData" "[Ljava/lang/Object;" (.ref ea)) (Pi3 : Exa Z h0 ea "[Ljava/lang/Object;") (Pi4 : Arv Z h0 ea kE (.object "java/lang/Object") (10 : Int32) [(.ref r1), .null, .null, .null, .null, .null, .null, .null, .null, .null] .null) (Pi5 : Exa Z h0 r1 kk1) (hco1 : (Cond.castable kk1 "java/lang/Object").before a0 Z = true) (Pi7 : Sta Z h0 "java/util/ImmutableCollections" "EMPTY" "Ljava/lang/Object;" (.ref aI)) (Mr : (Term.mirror "[Ljava/lang/Object;").eval #[] Z none [] Z = some (.ref mr)) :
    MetFree l own_n30 (head1 (Jvm.Cond.code own_n30 jdk_40_method_48_code 1 (some (.object "java/util/List")) :: ws) own_r_own_rmLF1) (fun a U => a = #[(.ref x0)] ∧ Z.Warmed39 U.vm ∧ U.heap = h0) (fun _ _ _ _ _ => True) (fun _ U o U' => ∃ v L, o = .returned v ∧ own_Q_own_rmLF1 Z x0 ea kE r1 kk1 mr aI h0 n0 v U'.heap L ∧ FrameEnd U o U' L own_r_own_rmLF1.cells own_r_own_rmLF1.slots) := by
  refine MetFree.of_bodySF (plainFor_of_name own_pn_16) hisR ?_
  intro p e s m args below meth c s₁ Bd hml0 hP hK
  obtain ⟨rfl, hZ, hh⟩ := hP
  have hx := Bd.exec
  have hby := Bd.bytes
  have hml : c.maxLocals = 1 := hml0
  have hown : s.vm.findClass "java/util/List" = some m.cls := findClass_of_methodNamed Bd.named
  have hnm := (name_of_methodNamed Bd.named Bd.method).1
  have X0 : Stand p l e own_r_own_rmLF1 s m #[(.ref x0)] below meth c s₁ [] 0 0 := Stand.of_body Bd
  have e0 : s₁.heap = h0 := by rw [← hh, Bd.state]; rfl
  have N0 := Fr.nil n0
  show Goes p.tables e below _ (own_R below s (own_Q_own_rmLF1 Z x0 ea kE r1 kk1 mr aI h0 n0) own_r_own_rmLF1.cells own_r_own_rmLF1.slots)
  refine Goes.to (fun t k => castTop (own_ef_own_rmLF1 m x0) k) ?_
  refine gx (XS.aloadN X0.here hx rfl (hb hby d16_0) rfl rfl) ?_
  obtain ⟨_, _, ⟨T1, L1, k1, n1⟩, -, X1, ⟨Lc1, hQ1, l1, y1, z1⟩, st1⟩ := Jvm.LawKit.callS X0 hx (y := own_n29) hown (mvT hZ (own_hw hw 109 rfl)) (mvT hZ (own_hw hw 110 rfl)) (mvT hZ (own_hw hw 111 rfl)) (mvT hZ (own_hw hw 112 rfl)) (by decide) (backOf (W := 0) (own_rmLC1 l Z a0 hw [] x0 ea kE r1 kk1 mr aI h0 n0 Z0 Pi0 Pi1 Pi2 Pi3 Pi4 Pi5 hco1 Pi7 Mr) hZ (own_hw hw 112 rfl) (own_hw hw 111 rfl) (by decide) (by decide)) (g := (mkF m 1 #[.val (.ref x0)] [(.ref x0)])) rfl (by rw [hml]; rfl) (argsL := [(.ref x0)]) (rest := []) (lenOf own_pd_pLjavalutillCollectionsqLjavalutillLists rfl) rfl (own_W rfl rfl) (hb hby d16_1) (fun _ _ => ⟨rfl, e0, (by decide : 0 + 2 ≤ _), (by decide : 0 + 3 ≤ _)⟩)
  dsimp only [Pt.U, Pt.locs, Pt.cells, Pt.slots] at X1 l1 y1 z1 st1 hQ1
  subst l1 y1 z1
  obtain ⟨li_1, hv1, Nq1, sq1_0, Kq1, Qf1_0, Qf1_1, Qf1_2⟩ := hQ1
  have N1 := Fr.app N0 Nq1
  have sz_li_1 : h0.size ≤ li_1 := Nat.le_trans (Keep.refl h0 []).1 sq1_0
  have Kc1 : Keep h0 T1.heap [] := (Keep.refl h0 []).trans Kq1 all0
  subst hv1
  refine Goes.to st1 ?_
  show Goes p.tables e below (T1.setTop (mkF m 4 #[.val (.ref x0)] [(.ref li_1)])) _
  obtain ⟨fs, hr, hrun, hended, hW, hsame⟩ := X1.leave (v := some (.ref li_1)) (fun h => by rw [Bd.returns] at h; cases h)
  exact ⟨_, _, retOut X1 hx Bd.returns rfl (Or.inr (Or.inr (Or.inr (Or.inr ⟨rfl, rfl, rfl⟩)))) (hb hby d16_4) hr, hrun, hended, _, _, rfl, ⟨li_1, rfl, N1, sz_li_1, (by show Keep h0 T1.heap []; exact Kc1), (by show Exa Z T1.heap li_1 "java/util/ImmutableCollections$List12"; exact Qf1_0), (by show Fld Z T1.heap li_1 "java/util/ImmutableCollections$List12" "e0" "Ljava/lang/Object;" (.ref r1); exact Qf1_1), (by show Fld Z T1.heap li_1 "java/util/ImmutableCollections$List12" "e1" "Ljava/lang/Object;" (.ref aI); exact Qf1_2)⟩, ⟨_, rfl⟩, hW, hsame.mono (by decide) (by decide)⟩

theorem own_ef_own_rmLF2 (m : MethodId) (x0 : Addr) : entryFrame m #[(.ref x0)] 1 = mkF m 0 #[.val (.ref x0)] [] := by first | (simp [entryFrame, mkF, argsToLocals, Value.category]; done) | rfl
def own_Q_own_rmLF2 (Z : State) (x0 : Addr) (ea : Addr) (kE : ClassId) (r1 : Addr) (r2 : Addr) (kk1 : String) (kk2 : String) (mr : Addr) (aI : Addr) (h0 : Heap) (n0 : Nat) (v : Option Value) (h : Heap) (L : List Loc) : Prop := ∃ (li : Addr), v = some (.ref li) ∧ Fr n0 L ∧ h0.size ≤ li ∧ Keep h0 h [] ∧ Exa Z h li "java/util/ImmutableCollections$List12" ∧ Fld Z h li "java/util/ImmutableCollections$List12" "e0" "Ljava/lang/Object;" (.ref r1) ∧ Fld Z h li "java/util/ImmutableCollections$List12" "e1" "Ljava/lang/Object;" (.ref r2)
abbrev own_r_own_rmLF2 : Room := ({ frames := 7, cells := 2, slots := 4, locals := 89 } : Room)

set_option maxRecDepth 65536 in
set_option maxHeartbeats 40000000 in
theorem own_rmLF2 (l : Launch) (Z : State) (a0 : Array Value) (hw : ∀ d ∈ tables_1, d.before a0 Z = true) (ws : List Jvm.Cond) (x0 : Addr) (ea : Addr) (kE : ClassId) (r1 : Addr) (r2 : Addr) (kk1 : String) (kk2 : String) (mr : Addr) (aI : Addr) (h0 : Heap) (n0 : Nat) (Z0 : n0 ≤ h0.size) (Pi0 : Exa Z h0 x0 "java/util/ArrayList") (Pi1 : Fld Z h0 x0 "java/util/ArrayList" "size" "I" (.int (2 : Int32))) (Pi2 : Fld Z h0 x0 "java/util/ArrayList" "elementData" "[Ljava/lang/Object;" (.ref ea)) (Pi3 : Exa Z h0 ea "[Ljava/lang/Object;") (Pi4 : Arv Z h0 ea kE (.object "java/lang/Object") (10 : Int32) [(.ref r1), (.ref r2), .null, .null, .null, .null, .null, .null, .null, .null] .null) (Pi5 : Exa Z h0 r1 kk1) (hco1 : (Cond.castable kk1 "java/lang/Object").before a0 Z = true) (Pi7 : Exa Z h0 r2 kk2) (hco2 : (Cond.castable kk2 "java/lang/Object").before a0 Z = true) (Pi9 : Sta Z h0 "java/util/ImmutableCollections" "EMPTY" "Ljava/lang/Object;" (.ref aI)) (Mr : (Term.mirror "[Ljava/lang/Object;").eval #[] Z none [] Z = some (.ref mr)) :
    MetFree l own_n30 (head1 (Jvm.Cond.code own_n30 jdk_40_method_48_code 1 (some (.object "java/util/List")) :: ws) own_r_own_rmLF2) (fun a U => a = #[(.ref x0)] ∧ Z.Warmed39 U.vm ∧ U.heap = h0) (fun _ _ _ _ _ => True) (fun _ U o U' => ∃ v L, o = .returned v ∧ own_Q_own_rmLF2 Z x0 ea kE r1 r2 kk1 kk2 mr aI h0 n0 v U'.heap L ∧ FrameEnd U o U' L own_r_own_rmLF2.cells own_r_own_rmLF2.slots) := by
  refine MetFree.of_bodySF (plainFor_of_name own_pn_16) hisR ?_
  intro p e s m args below meth c s₁ Bd hml0 hP hK
  obtain ⟨rfl, hZ, hh⟩ := hP
  have hx := Bd.exec
  have hby := Bd.bytes
  have hml : c.maxLocals = 1 := hml0
  have hown : s.vm.findClass "java/util/List" = some m.cls := findClass_of_methodNamed Bd.named
  have hnm := (name_of_methodNamed Bd.named Bd.method).1
  have X0 : Stand p l e own_r_own_rmLF2 s m #[(.ref x0)] below meth c s₁ [] 0 0 := Stand.of_body Bd
  have e0 : s₁.heap = h0 := by rw [← hh, Bd.state]; rfl
  have N0 := Fr.nil n0
  show Goes p.tables e below _ (own_R below s (own_Q_own_rmLF2 Z x0 ea kE r1 r2 kk1 kk2 mr aI h0 n0) own_r_own_rmLF2.cells own_r_own_rmLF2.slots)
  refine Goes.to (fun t k => castTop (own_ef_own_rmLF2 m x0) k) ?_
  refine gx (XS.aloadN X0.here hx rfl (hb hby d16_0) rfl rfl) ?_
  obtain ⟨_, _, ⟨T1, L1, k1, n1⟩, -, X1, ⟨Lc1, hQ1, l1, y1, z1⟩, st1⟩ := Jvm.LawKit.callS X0 hx (y := own_n29) hown (mvT hZ (own_hw hw 109 rfl)) (mvT hZ (own_hw hw 110 rfl)) (mvT hZ (own_hw hw 111 rfl)) (mvT hZ (own_hw hw 112 rfl)) (by decide) (backOf (W := 0) (own_rmLC2 l Z a0 hw [] x0 ea kE r1 r2 kk1 kk2 mr aI h0 n0 Z0 Pi0 Pi1 Pi2 Pi3 Pi4 Pi5 hco1 Pi7 hco2 Pi9 Mr) hZ (own_hw hw 112 rfl) (own_hw hw 111 rfl) (by decide) (by decide)) (g := (mkF m 1 #[.val (.ref x0)] [(.ref x0)])) rfl (by rw [hml]; rfl) (argsL := [(.ref x0)]) (rest := []) (lenOf own_pd_pLjavalutillCollectionsqLjavalutillLists rfl) rfl (own_W rfl rfl) (hb hby d16_1) (fun _ _ => ⟨rfl, e0, (by decide : 0 + 2 ≤ _), (by decide : 0 + 4 ≤ _)⟩)
  dsimp only [Pt.U, Pt.locs, Pt.cells, Pt.slots] at X1 l1 y1 z1 st1 hQ1
  subst l1 y1 z1
  obtain ⟨li_1, hv1, Nq1, sq1_0, Kq1, Qf1_0, Qf1_1, Qf1_2⟩ := hQ1
  have N1 := Fr.app N0 Nq1
  have sz_li_1 : h0.size ≤ li_1 := Nat.le_trans (Keep.refl h0 []).1 sq1_0
  have Kc1 : Keep h0 T1.heap [] := (Keep.refl h0 []).trans Kq1 all0
  subst hv1
  refine Goes.to st1 ?_
  show Goes p.tables e below (T1.setTop (mkF m 4 #[.val (.ref x0)] [(.ref li_1)])) _
  obtain ⟨fs, hr, hrun, hended, hW, hsame⟩ := X1.leave (v := some (.ref li_1)) (fun h => by rw [Bd.returns] at h; cases h)
  exact ⟨_, _, retOut X1 hx Bd.returns rfl (Or.inr (Or.inr (Or.inr (Or.inr ⟨rfl, rfl, rfl⟩)))) (hb hby d16_4) hr, hrun, hended, _, _, rfl, ⟨li_1, rfl, N1, sz_li_1, (by show Keep h0 T1.heap []; exact Kc1), (by show Exa Z T1.heap li_1 "java/util/ImmutableCollections$List12"; exact Qf1_0), (by show Fld Z T1.heap li_1 "java/util/ImmutableCollections$List12" "e0" "Ljava/lang/Object;" (.ref r1); exact Qf1_1), (by show Fld Z T1.heap li_1 "java/util/ImmutableCollections$List12" "e1" "Ljava/lang/Object;" (.ref r2); exact Qf1_2)⟩, ⟨_, rfl⟩, hW, hsame.mono (by decide) (by decide)⟩

theorem own_ef_own_rmLF3 (m : MethodId) (x0 : Addr) : entryFrame m #[(.ref x0)] 1 = mkF m 0 #[.val (.ref x0)] [] := by first | (simp [entryFrame, mkF, argsToLocals, Value.category]; done) | rfl
def own_Q_own_rmLF3 (Z : State) (x0 : Addr) (ea : Addr) (kE : ClassId) (r1 : Addr) (r2 : Addr) (r3 : Addr) (kk1 : String) (kk2 : String) (kk3 : String) (mr : Addr) (aI : Addr) (h0 : Heap) (n0 : Nat) (v : Option Value) (h : Heap) (L : List Loc) : Prop := ∃ (li : Addr) (el : Addr) (kL : ClassId), v = some (.ref li) ∧ Fr n0 L ∧ h0.size ≤ li ∧ h0.size ≤ el ∧ li ≠ el ∧ Keep h0 h [] ∧ Exa Z h li "java/util/ImmutableCollections$ListN" ∧ Fld Z h li "java/util/ImmutableCollections$ListN" "elements" "[Ljava/lang/Object;" (.ref el) ∧ Exa Z h el "[Ljava/lang/Object;" ∧ Arv Z h el kL (.object "java/lang/Object") (3 : Int32) [(.ref r1), (.ref r2), (.ref r3)] .null
abbrev own_r_own_rmLF3 : Room := ({ frames := 8, cells := 3, slots := 8, locals := 103 } : Room)

set_option maxRecDepth 65536 in
set_option maxHeartbeats 40000000 in
theorem own_rmLF3 (l : Launch) (Z : State) (a0 : Array Value) (hw : ∀ d ∈ tables_1, d.before a0 Z = true) (ws : List Jvm.Cond) (x0 : Addr) (ea : Addr) (kE : ClassId) (r1 : Addr) (r2 : Addr) (r3 : Addr) (kk1 : String) (kk2 : String) (kk3 : String) (mr : Addr) (aI : Addr) (h0 : Heap) (n0 : Nat) (Z0 : n0 ≤ h0.size) (Pi0 : Exa Z h0 x0 "java/util/ArrayList") (Pi1 : Fld Z h0 x0 "java/util/ArrayList" "size" "I" (.int (3 : Int32))) (Pi2 : Fld Z h0 x0 "java/util/ArrayList" "elementData" "[Ljava/lang/Object;" (.ref ea)) (Pi3 : Exa Z h0 ea "[Ljava/lang/Object;") (Pi4 : Arv Z h0 ea kE (.object "java/lang/Object") (10 : Int32) [(.ref r1), (.ref r2), (.ref r3), .null, .null, .null, .null, .null, .null, .null] .null) (Pi5 : Exa Z h0 r1 kk1) (hco1 : (Cond.castable kk1 "java/lang/Object").before a0 Z = true) (Pi7 : Exa Z h0 r2 kk2) (hco2 : (Cond.castable kk2 "java/lang/Object").before a0 Z = true) (Pi9 : Exa Z h0 r3 kk3) (hco3 : (Cond.castable kk3 "java/lang/Object").before a0 Z = true) (Pi11 : Sta Z h0 "java/util/ImmutableCollections" "EMPTY" "Ljava/lang/Object;" (.ref aI)) (Mr : (Term.mirror "[Ljava/lang/Object;").eval #[] Z none [] Z = some (.ref mr)) :
    MetFree l own_n30 (head1 (Jvm.Cond.code own_n30 jdk_40_method_48_code 1 (some (.object "java/util/List")) :: ws) own_r_own_rmLF3) (fun a U => a = #[(.ref x0)] ∧ Z.Warmed39 U.vm ∧ U.heap = h0) (fun _ _ _ _ _ => True) (fun _ U o U' => ∃ v L, o = .returned v ∧ own_Q_own_rmLF3 Z x0 ea kE r1 r2 r3 kk1 kk2 kk3 mr aI h0 n0 v U'.heap L ∧ FrameEnd U o U' L own_r_own_rmLF3.cells own_r_own_rmLF3.slots) := by
  refine MetFree.of_bodySF (plainFor_of_name own_pn_16) hisR ?_
  intro p e s m args below meth c s₁ Bd hml0 hP hK
  obtain ⟨rfl, hZ, hh⟩ := hP
  have hx := Bd.exec
  have hby := Bd.bytes
  have hml : c.maxLocals = 1 := hml0
  have hown : s.vm.findClass "java/util/List" = some m.cls := findClass_of_methodNamed Bd.named
  have hnm := (name_of_methodNamed Bd.named Bd.method).1
  have X0 : Stand p l e own_r_own_rmLF3 s m #[(.ref x0)] below meth c s₁ [] 0 0 := Stand.of_body Bd
  have e0 : s₁.heap = h0 := by rw [← hh, Bd.state]; rfl
  have N0 := Fr.nil n0
  show Goes p.tables e below _ (own_R below s (own_Q_own_rmLF3 Z x0 ea kE r1 r2 r3 kk1 kk2 kk3 mr aI h0 n0) own_r_own_rmLF3.cells own_r_own_rmLF3.slots)
  refine Goes.to (fun t k => castTop (own_ef_own_rmLF3 m x0) k) ?_
  refine gx (XS.aloadN X0.here hx rfl (hb hby d16_0) rfl rfl) ?_
  obtain ⟨_, _, ⟨T1, L1, k1, n1⟩, -, X1, ⟨Lc1, hQ1, l1, y1, z1⟩, st1⟩ := Jvm.LawKit.callS X0 hx (y := own_n29) hown (mvT hZ (own_hw hw 109 rfl)) (mvT hZ (own_hw hw 110 rfl)) (mvT hZ (own_hw hw 111 rfl)) (mvT hZ (own_hw hw 112 rfl)) (by decide) (backOf (W := 0) (own_rmLC3 l Z a0 hw [] x0 ea kE r1 r2 r3 kk1 kk2 kk3 mr aI h0 n0 Z0 Pi0 Pi1 Pi2 Pi3 Pi4 Pi5 hco1 Pi7 hco2 Pi9 hco3 Pi11 Mr) hZ (own_hw hw 112 rfl) (own_hw hw 111 rfl) (by decide) (by decide)) (g := (mkF m 1 #[.val (.ref x0)] [(.ref x0)])) rfl (by rw [hml]; rfl) (argsL := [(.ref x0)]) (rest := []) (lenOf own_pd_pLjavalutillCollectionsqLjavalutillLists rfl) rfl (own_W rfl rfl) (hb hby d16_1) (fun _ _ => ⟨rfl, e0, (by decide : 0 + 3 ≤ _), (by decide : 0 + 8 ≤ _)⟩)
  dsimp only [Pt.U, Pt.locs, Pt.cells, Pt.slots] at X1 l1 y1 z1 st1 hQ1
  subst l1 y1 z1
  obtain ⟨li_1, el_1, kL_1, hv1, Nq1, sq1_0, sq1_1, np1_0, Kq1, Qf1_0, Qf1_1, Qf1_2, Qf1_3⟩ := hQ1
  have N1 := Fr.app N0 Nq1
  have sz_li_1 : h0.size ≤ li_1 := Nat.le_trans (Keep.refl h0 []).1 sq1_0
  have sz_el_1 : h0.size ≤ el_1 := Nat.le_trans (Keep.refl h0 []).1 sq1_1
  have Kc1 : Keep h0 T1.heap [] := (Keep.refl h0 []).trans Kq1 all0
  subst hv1
  refine Goes.to st1 ?_
  show Goes p.tables e below (T1.setTop (mkF m 4 #[.val (.ref x0)] [(.ref li_1)])) _
  obtain ⟨fs, hr, hrun, hended, hW, hsame⟩ := X1.leave (v := some (.ref li_1)) (fun h => by rw [Bd.returns] at h; cases h)
  exact ⟨_, _, retOut X1 hx Bd.returns rfl (Or.inr (Or.inr (Or.inr (Or.inr ⟨rfl, rfl, rfl⟩)))) (hb hby d16_4) hr, hrun, hended, _, _, rfl, ⟨li_1, el_1, kL_1, rfl, N1, sz_li_1, sz_el_1, np1_0, (by show Keep h0 T1.heap []; exact Kc1), (by show Exa Z T1.heap li_1 "java/util/ImmutableCollections$ListN"; exact Qf1_0), (by show Fld Z T1.heap li_1 "java/util/ImmutableCollections$ListN" "elements" "[Ljava/lang/Object;" (.ref el_1); exact Qf1_1), (by show Exa Z T1.heap el_1 "[Ljava/lang/Object;"; exact Qf1_2), (by show Arv Z T1.heap el_1 kL_1 (.object "java/lang/Object") (3 : Int32) [(.ref r1), (.ref r2), (.ref r3)] .null; exact Qf1_3)⟩, ⟨_, rfl⟩, hW, hsame.mono (by decide) (by decide)⟩

theorem d14_0 : decode prog_12_method_2_code 0 = .ok (.aload_n 0, 1) := by decide +kernel
theorem d14_1 : decode prog_12_method_2_code 1 = .ok (.invokeinterface 1 1, 5) := by decide +kernel
theorem d14_6 : decode prog_12_method_2_code 6 = .ok (.ifCond .eq 17, 3) := by decide +kernel
theorem d14_23 : decode prog_12_method_2_code 23 = .ok (.aload_n 0, 1) := by decide +kernel
theorem d14_24 : decode prog_12_method_2_code 24 = .ok (.invokestatic 17, 3) := by decide +kernel
theorem d14_27 : decode prog_12_method_2_code 27 = .ok (.areturn, 1) := by decide +kernel
theorem own_pn_14 : plainName "com/example/wee_table/weetable/model/GcRule" = true := by first | (simp [plainName, overriddenIn]; done) | decide +kernel
theorem own_ef_own_rmNE1 (m : MethodId) (x0 : Addr) (x1 : Addr) : entryFrame m #[(.ref x0), (.ref x1)] 2 = mkF m 0 #[.val (.ref x0), .val (.ref x1)] [] := by first | (simp [entryFrame, mkF, argsToLocals, Value.category]; done) | rfl
def own_Q_own_rmNE1 (Z : State) (x0 : Addr) (x1 : Addr) (ea : Addr) (kE : ClassId) (r1 : Addr) (kk1 : String) (mr : Addr) (aI : Addr) (h0 : Heap) (n0 : Nat) (v : Option Value) (h : Heap) (L : List Loc) : Prop := ∃ (li : Addr), v = some (.ref li) ∧ Fr n0 L ∧ h0.size ≤ li ∧ Keep h0 h [] ∧ Exa Z h li "java/util/ImmutableCollections$List12" ∧ Fld Z h li "java/util/ImmutableCollections$List12" "e0" "Ljava/lang/Object;" (.ref r1) ∧ Fld Z h li "java/util/ImmutableCollections$List12" "e1" "Ljava/lang/Object;" (.ref aI)
abbrev own_r_own_rmNE1 : Room := ({ frames := 8, cells := 2, slots := 3, locals := 100 } : Room)

set_option maxRecDepth 65536 in
set_option maxHeartbeats 40000000 in
theorem own_rmNE1 (l : Launch) (Z : State) (a0 : Array Value) (hw : ∀ d ∈ tables_1, d.before a0 Z = true) (ws : List Jvm.Cond) (x0 : Addr) (x1 : Addr) (ea : Addr) (kE : ClassId) (r1 : Addr) (kk1 : String) (mr : Addr) (aI : Addr) (h0 : Heap) (n0 : Nat) (Z0 : n0 ≤ h0.size) (Pi0 : Exa Z h0 x0 "java/util/ArrayList") (Pi1 : Fld Z h0 x0 "java/util/ArrayList" "size" "I" (.int (1 : Int32))) (Pi2 : Fld Z h0 x0 "java/util/ArrayList" "elementData" "[Ljava/lang/Object;" (.ref ea)) (Pi3 : Exa Z h0 ea "[Ljava/lang/Object;") (Pi4 : Arv Z h0 ea kE (.object "java/lang/Object") (10 : Int32) [(.ref r1), .null, .null, .null, .null, .null, .null, .null, .null, .null] .null) (Pi5 : Exa Z h0 r1 kk1) (hco1 : (Cond.castable kk1 "java/lang/Object").before a0 Z = true) (Pi7 : Sta Z h0 "java/util/ImmutableCollections" "EMPTY" "Ljava/lang/Object;" (.ref aI)) (Mr : (Term.mirror "[Ljava/lang/Object;").eval #[] Z none [] Z = some (.ref mr)) :
    MetFree l own_n32 (head1 (Jvm.Cond.code own_n32 prog_12_method_2_code 2 (some (.object "java/util/List")) :: ws) own_r_own_rmNE1) (fun a U => a = #[(.ref x0), (.ref x1)] ∧ Z.Warmed39 U.vm ∧ U.heap = h0) (fun _ _ _ _ _ => True) (fun _ U o U' => ∃ v L, o = .returned v ∧ own_Q_own_rmNE1 Z x0 x1 ea kE r1 kk1 mr aI h0 n0 v U'.heap L ∧ FrameEnd U o U' L own_r_own_rmNE1.cells own_r_own_rmNE1.slots) := by
  refine MetFree.of_bodySF (plainFor_of_name own_pn_14) hisR ?_
  intro p e s m args below meth c s₁ Bd hml0 hP hK
  obtain ⟨rfl, hZ, hh⟩ := hP
  have hx := Bd.exec
  have hby := Bd.bytes
  have hml : c.maxLocals = 2 := hml0
  have hown : s.vm.findClass "com/example/wee_table/weetable/model/GcRule" = some m.cls := findClass_of_methodNamed Bd.named
  have hnm := (name_of_methodNamed Bd.named Bd.method).1
  have X0 : Stand p l e own_r_own_rmNE1 s m #[(.ref x0), (.ref x1)] below meth c s₁ [] 0 0 := Stand.of_body Bd
  have e0 : s₁.heap = h0 := by rw [← hh, Bd.state]; rfl
  have N0 := Fr.nil n0
  show Goes p.tables e below _ (own_R below s (own_Q_own_rmNE1 Z x0 x1 ea kE r1 kk1 mr aI h0 n0) own_r_own_rmNE1.cells own_r_own_rmNE1.slots)
  refine Goes.to (fun t k => castTop (own_ef_own_rmNE1 m x0 x1) k) ?_
  refine gx (XS.aloadN X0.here hx rfl (hb hby d14_0) rfl rfl) ?_
  obtain ⟨cq1, kq1, q1a, q1b, q1c⟩ := isOf hZ e0 Pi0
  obtain ⟨_, _, ⟨T1, L1, k1, n1⟩, -, X1, ⟨Lc1, hQ1, l1, y1, z1⟩, st1⟩ := X0.interfaceBack hx (xi := own_n31) (y := own_n13) hown (mvT hZ (own_hw hw 96 rfl)) (mvT hZ (own_hw hw 97 rfl)) (mvT hZ (own_hw hw 98 rfl)) (mvT hZ (own_hw hw 99 rfl)) (mvT hZ (own_hw hw 100 rfl)) (mvT hZ (own_hw hw 101 rfl)) (mvT hZ (own_hw hw 102 rfl)) (mvT hZ (own_hw hw 103 rfl)) (by decide) (backOf (W := 0) (own_rm15 l Z a0 hw [] x0 (1 : Int32) h0 n0 Z0 Pi1) hZ (own_hw hw 104 rfl) (own_hw hw 7 rfl) (by decide) (by decide)) q1a q1b q1c (g := (mkF m 1 #[.val (.ref x0), .val (.ref x1)] [(.ref x0)])) rfl (by rw [hml]; rfl) (Steps.refl _) (argsL := []) (rest := []) (lenOf own_pd_pqZ rfl) rfl (own_W rfl rfl) (hb hby d14_1) (fun _ _ => ⟨rfl, e0, (by decide : 0 + 0 ≤ _), (by decide : 0 + 0 ≤ _)⟩)
  dsimp only [Pt.U, Pt.locs, Pt.cells, Pt.slots] at X1 l1 y1 z1 st1 hQ1
  subst l1 y1 z1
  obtain ⟨hv1, Nq1, hp1_0⟩ := hQ1
  have N1 := Fr.app N0 Nq1
  rw [if_neg (by decide : ¬ ((1 : Int32) = (0 : Int32)))] at hv1
  subst hv1
  refine Goes.tr st1 ?_
  refine gx (XS.ifYes X1.here hx rfl (pc0 := 6) (pc' := 23) rfl (hb hby d14_6) rfl ((if0 _ _).trans (teq (by decide : (0 : Int32) = (0 : Int32))).1) (by decide) (by decide)) ?_
  refine gx (XS.aloadN X1.here hx rfl (hb hby d14_23) rfl rfl) ?_
  obtain ⟨_, _, ⟨T2, L2, k2, n2⟩, -, X2, ⟨Lc2, hQ2, l2, y2, z2⟩, st2⟩ := Jvm.LawKit.callS X1 hx (y := own_n30) hown (mvT hZ (own_hw hw 105 rfl)) (mvT hZ (own_hw hw 106 rfl)) (mvT hZ (own_hw hw 107 rfl)) (mvT hZ (own_hw hw 108 rfl)) (by decide) (backOf (W := 0) (own_rmLF1 l Z a0 hw [] x0 ea kE r1 kk1 mr aI h0 n0 Z0 Pi0 Pi1 Pi2 Pi3 Pi4 Pi5 hco1 Pi7 Mr) hZ (own_hw hw 108 rfl) (own_hw hw 107 rfl) (by decide) (by decide)) (g := (mkF m 24 #[.val (.ref x0), .val (.ref x1)] [(.ref x0)])) rfl (by rw [hml]; rfl) (argsL := [(.ref x0)]) (rest := []) (lenOf own_pd_pLjavalutillCollectionsqLjavalutillLists rfl) rfl (own_W rfl rfl) (hb hby d14_24) (fun _ _ => ⟨rfl, hp1_0, (by decide : 0 + 2 ≤ _), (by decide : 0 + 3 ≤ _)⟩)
  dsimp only [Pt.U, Pt.locs, Pt.cells, Pt.slots] at X2 l2 y2 z2 st2 hQ2
  subst l2 y2 z2
  obtain ⟨li_2, hv2, Nq2, sq2_0, Kq2, Qf2_0, Qf2_1, Qf2_2⟩ := hQ2
  have N2 := Fr.app N1 Nq2
  have sz_li_2 : h0.size ≤ li_2 := Nat.le_trans (Keep.refl h0 []).1 sq2_0
  have Kc2 : Keep h0 T2.heap [] := (Keep.refl h0 []).trans Kq2 all0
  subst hv2
  refine Goes.to st2 ?_
  show Goes p.tables e below (T2.setTop (mkF m 27 #[.val (.ref x0), .val (.ref x1)] [(.ref li_2)])) _
  obtain ⟨fs, hr, hrun, hended, hW, hsame⟩ := X2.leave (v := some (.ref li_2)) (fun h => by rw [Bd.returns] at h; cases h)
  exact ⟨_, _, retOut X2 hx Bd.returns rfl (Or.inr (Or.inr (Or.inr (Or.inr ⟨rfl, rfl, rfl⟩)))) (hb hby d14_27) hr, hrun, hended, _, _, rfl, ⟨li_2, rfl, N2, sz_li_2, (by show Keep h0 T2.heap []; exact Kc2), (by show Exa Z T2.heap li_2 "java/util/ImmutableCollections$List12"; exact Qf2_0), (by show Fld Z T2.heap li_2 "java/util/ImmutableCollections$List12" "e0" "Ljava/lang/Object;" (.ref r1); exact Qf2_1), (by show Fld Z T2.heap li_2 "java/util/ImmutableCollections$List12" "e1" "Ljava/lang/Object;" (.ref aI); exact Qf2_2)⟩, ⟨_, rfl⟩, hW, hsame.mono (by decide) (by decide)⟩

theorem own_ef_own_rmNE2 (m : MethodId) (x0 : Addr) (x1 : Addr) : entryFrame m #[(.ref x0), (.ref x1)] 2 = mkF m 0 #[.val (.ref x0), .val (.ref x1)] [] := by first | (simp [entryFrame, mkF, argsToLocals, Value.category]; done) | rfl
def own_Q_own_rmNE2 (Z : State) (x0 : Addr) (x1 : Addr) (ea : Addr) (kE : ClassId) (r1 : Addr) (r2 : Addr) (kk1 : String) (kk2 : String) (mr : Addr) (aI : Addr) (h0 : Heap) (n0 : Nat) (v : Option Value) (h : Heap) (L : List Loc) : Prop := ∃ (li : Addr), v = some (.ref li) ∧ Fr n0 L ∧ h0.size ≤ li ∧ Keep h0 h [] ∧ Exa Z h li "java/util/ImmutableCollections$List12" ∧ Fld Z h li "java/util/ImmutableCollections$List12" "e0" "Ljava/lang/Object;" (.ref r1) ∧ Fld Z h li "java/util/ImmutableCollections$List12" "e1" "Ljava/lang/Object;" (.ref r2)
abbrev own_r_own_rmNE2 : Room := ({ frames := 8, cells := 2, slots := 4, locals := 101 } : Room)

set_option maxRecDepth 65536 in
set_option maxHeartbeats 40000000 in
theorem own_rmNE2 (l : Launch) (Z : State) (a0 : Array Value) (hw : ∀ d ∈ tables_1, d.before a0 Z = true) (ws : List Jvm.Cond) (x0 : Addr) (x1 : Addr) (ea : Addr) (kE : ClassId) (r1 : Addr) (r2 : Addr) (kk1 : String) (kk2 : String) (mr : Addr) (aI : Addr) (h0 : Heap) (n0 : Nat) (Z0 : n0 ≤ h0.size) (Pi0 : Exa Z h0 x0 "java/util/ArrayList") (Pi1 : Fld Z h0 x0 "java/util/ArrayList" "size" "I" (.int (2 : Int32))) (Pi2 : Fld Z h0 x0 "java/util/ArrayList" "elementData" "[Ljava/lang/Object;" (.ref ea)) (Pi3 : Exa Z h0 ea "[Ljava/lang/Object;") (Pi4 : Arv Z h0 ea kE (.object "java/lang/Object") (10 : Int32) [(.ref r1), (.ref r2), .null, .null, .null, .null, .null, .null, .null, .null] .null) (Pi5 : Exa Z h0 r1 kk1) (hco1 : (Cond.castable kk1 "java/lang/Object").before a0 Z = true) (Pi7 : Exa Z h0 r2 kk2) (hco2 : (Cond.castable kk2 "java/lang/Object").before a0 Z = true) (Pi9 : Sta Z h0 "java/util/ImmutableCollections" "EMPTY" "Ljava/lang/Object;" (.ref aI)) (Mr : (Term.mirror "[Ljava/lang/Object;").eval #[] Z none [] Z = some (.ref mr)) :
    MetFree l own_n32 (head1 (Jvm.Cond.code own_n32 prog_12_method_2_code 2 (some (.object "java/util/List")) :: ws) own_r_own_rmNE2) (fun a U => a = #[(.ref x0), (.ref x1)] ∧ Z.Warmed39 U.vm ∧ U.heap = h0) (fun _ _ _ _ _ => True) (fun _ U o U' => ∃ v L, o = .returned v ∧ own_Q_own_rmNE2 Z x0 x1 ea kE r1 r2 kk1 kk2 mr aI h0 n0 v U'.heap L ∧ FrameEnd U o U' L own_r_own_rmNE2.cells own_r_own_rmNE2.slots) := by
  refine MetFree.of_bodySF (plainFor_of_name own_pn_14) hisR ?_
  intro p e s m args below meth c s₁ Bd hml0 hP hK
  obtain ⟨rfl, hZ, hh⟩ := hP
  have hx := Bd.exec
  have hby := Bd.bytes
  have hml : c.maxLocals = 2 := hml0
  have hown : s.vm.findClass "com/example/wee_table/weetable/model/GcRule" = some m.cls := findClass_of_methodNamed Bd.named
  have hnm := (name_of_methodNamed Bd.named Bd.method).1
  have X0 : Stand p l e own_r_own_rmNE2 s m #[(.ref x0), (.ref x1)] below meth c s₁ [] 0 0 := Stand.of_body Bd
  have e0 : s₁.heap = h0 := by rw [← hh, Bd.state]; rfl
  have N0 := Fr.nil n0
  show Goes p.tables e below _ (own_R below s (own_Q_own_rmNE2 Z x0 x1 ea kE r1 r2 kk1 kk2 mr aI h0 n0) own_r_own_rmNE2.cells own_r_own_rmNE2.slots)
  refine Goes.to (fun t k => castTop (own_ef_own_rmNE2 m x0 x1) k) ?_
  refine gx (XS.aloadN X0.here hx rfl (hb hby d14_0) rfl rfl) ?_
  obtain ⟨cq1, kq1, q1a, q1b, q1c⟩ := isOf hZ e0 Pi0
  obtain ⟨_, _, ⟨T1, L1, k1, n1⟩, -, X1, ⟨Lc1, hQ1, l1, y1, z1⟩, st1⟩ := X0.interfaceBack hx (xi := own_n31) (y := own_n13) hown (mvT hZ (own_hw hw 96 rfl)) (mvT hZ (own_hw hw 97 rfl)) (mvT hZ (own_hw hw 98 rfl)) (mvT hZ (own_hw hw 99 rfl)) (mvT hZ (own_hw hw 100 rfl)) (mvT hZ (own_hw hw 101 rfl)) (mvT hZ (own_hw hw 102 rfl)) (mvT hZ (own_hw hw 103 rfl)) (by decide) (backOf (W := 0) (own_rm15 l Z a0 hw [] x0 (2 : Int32) h0 n0 Z0 Pi1) hZ (own_hw hw 104 rfl) (own_hw hw 7 rfl) (by decide) (by decide)) q1a q1b q1c (g := (mkF m 1 #[.val (.ref x0), .val (.ref x1)] [(.ref x0)])) rfl (by rw [hml]; rfl) (Steps.refl _) (argsL := []) (rest := []) (lenOf own_pd_pqZ rfl) rfl (own_W rfl rfl) (hb hby d14_1) (fun _ _ => ⟨rfl, e0, (by decide : 0 + 0 ≤ _), (by decide : 0 + 0 ≤ _)⟩)
  dsimp only [Pt.U, Pt.locs, Pt.cells, Pt.slots] at X1 l1 y1 z1 st1 hQ1
  subst l1 y1 z1
  obtain ⟨hv1, Nq1, hp1_0⟩ := hQ1
  have N1 := Fr.app N0 Nq1
  rw [if_neg (by decide : ¬ ((2 : Int32) = (0 : Int32)))] at hv1
  subst hv1
  refine Goes.tr st1 ?_
  refine gx (XS.ifYes X1.here hx rfl (pc0 := 6) (pc' := 23) rfl (hb hby d14_6) rfl ((if0 _ _).trans (teq (by decide : (0 : Int32) = (0 : Int32))).1) (by decide) (by decide)) ?_
  refine gx (XS.aloadN X1.here hx rfl (hb hby d14_23) rfl rfl) ?_
  obtain ⟨_, _, ⟨T2, L2, k2, n2⟩, -, X2, ⟨Lc2, hQ2, l2, y2, z2⟩, st2⟩ := Jvm.LawKit.callS X1 hx (y := own_n30) hown (mvT hZ (own_hw hw 105 rfl)) (mvT hZ (own_hw hw 106 rfl)) (mvT hZ (own_hw hw 107 rfl)) (mvT hZ (own_hw hw 108 rfl)) (by decide) (backOf (W := 0) (own_rmLF2 l Z a0 hw [] x0 ea kE r1 r2 kk1 kk2 mr aI h0 n0 Z0 Pi0 Pi1 Pi2 Pi3 Pi4 Pi5 hco1 Pi7 hco2 Pi9 Mr) hZ (own_hw hw 108 rfl) (own_hw hw 107 rfl) (by decide) (by decide)) (g := (mkF m 24 #[.val (.ref x0), .val (.ref x1)] [(.ref x0)])) rfl (by rw [hml]; rfl) (argsL := [(.ref x0)]) (rest := []) (lenOf own_pd_pLjavalutillCollectionsqLjavalutillLists rfl) rfl (own_W rfl rfl) (hb hby d14_24) (fun _ _ => ⟨rfl, hp1_0, (by decide : 0 + 2 ≤ _), (by decide : 0 + 4 ≤ _)⟩)
  dsimp only [Pt.U, Pt.locs, Pt.cells, Pt.slots] at X2 l2 y2 z2 st2 hQ2
  subst l2 y2 z2
  obtain ⟨li_2, hv2, Nq2, sq2_0, Kq2, Qf2_0, Qf2_1, Qf2_2⟩ := hQ2
  have N2 := Fr.app N1 Nq2
  have sz_li_2 : h0.size ≤ li_2 := Nat.le_trans (Keep.refl h0 []).1 sq2_0
  have Kc2 : Keep h0 T2.heap [] := (Keep.refl h0 []).trans Kq2 all0
  subst hv2
  refine Goes.to st2 ?_
  show Goes p.tables e below (T2.setTop (mkF m 27 #[.val (.ref x0), .val (.ref x1)] [(.ref li_2)])) _
  obtain ⟨fs, hr, hrun, hended, hW, hsame⟩ := X2.leave (v := some (.ref li_2)) (fun h => by rw [Bd.returns] at h; cases h)
  exact ⟨_, _, retOut X2 hx Bd.returns rfl (Or.inr (Or.inr (Or.inr (Or.inr ⟨rfl, rfl, rfl⟩)))) (hb hby d14_27) hr, hrun, hended, _, _, rfl, ⟨li_2, rfl, N2, sz_li_2, (by show Keep h0 T2.heap []; exact Kc2), (by show Exa Z T2.heap li_2 "java/util/ImmutableCollections$List12"; exact Qf2_0), (by show Fld Z T2.heap li_2 "java/util/ImmutableCollections$List12" "e0" "Ljava/lang/Object;" (.ref r1); exact Qf2_1), (by show Fld Z T2.heap li_2 "java/util/ImmutableCollections$List12" "e1" "Ljava/lang/Object;" (.ref r2); exact Qf2_2)⟩, ⟨_, rfl⟩, hW, hsame.mono (by decide) (by decide)⟩

theorem own_ef_own_rmNE3 (m : MethodId) (x0 : Addr) (x1 : Addr) : entryFrame m #[(.ref x0), (.ref x1)] 2 = mkF m 0 #[.val (.ref x0), .val (.ref x1)] [] := by first | (simp [entryFrame, mkF, argsToLocals, Value.category]; done) | rfl
def own_Q_own_rmNE3 (Z : State) (x0 : Addr) (x1 : Addr) (ea : Addr) (kE : ClassId) (r1 : Addr) (r2 : Addr) (r3 : Addr) (kk1 : String) (kk2 : String) (kk3 : String) (mr : Addr) (aI : Addr) (h0 : Heap) (n0 : Nat) (v : Option Value) (h : Heap) (L : List Loc) : Prop := ∃ (li : Addr) (el : Addr) (kL : ClassId), v = some (.ref li) ∧ Fr n0 L ∧ h0.size ≤ li ∧ h0.size ≤ el ∧ li ≠ el ∧ Keep h0 h [] ∧ Exa Z h li "java/util/ImmutableCollections$ListN" ∧ Fld Z h li "java/util/ImmutableCollections$ListN" "elements" "[Ljava/lang/Object;" (.ref el) ∧ Exa Z h el "[Ljava/lang/Object;" ∧ Arv Z h el kL (.object "java/lang/Object") (3 : Int32) [(.ref r1), (.ref r2), (.ref r3)] .null
abbrev own_r_own_rmNE3 : Room := ({ frames := 9, cells := 3, slots := 8, locals := 115 } : Room)

set_option maxRecDepth 65536 in
set_option maxHeartbeats 40000000 in
theorem own_rmNE3 (l : Launch) (Z : State) (a0 : Array Value) (hw : ∀ d ∈ tables_1, d.before a0 Z = true) (ws : List Jvm.Cond) (x0 : Addr) (x1 : Addr) (ea : Addr) (kE : ClassId) (r1 : Addr) (r2 : Addr) (r3 : Addr) (kk1 : String) (kk2 : String) (kk3 : String) (mr : Addr) (aI : Addr) (h0 : Heap) (n0 : Nat) (Z0 : n0 ≤ h0.size) (Pi0 : Exa Z h0 x0 "java/util/ArrayList") (Pi1 : Fld Z h0 x0 "java/util/ArrayList" "size" "I" (.int (3 : Int32))) (Pi2 : Fld Z h0 x0 "java/util/ArrayList" "elementData" "[Ljava/lang/Object;" (.ref ea)) (Pi3 : Exa Z h0 ea "[Ljava/lang/Object;") (Pi4 : Arv Z h0 ea kE (.object "java/lang/Object") (10 : Int32) [(.ref r1), (.ref r2), (.ref r3), .null, .null, .null, .null, .null, .null, .null] .null) (Pi5 : Exa Z h0 r1 kk1) (hco1 : (Cond.castable kk1 "java/lang/Object").before a0 Z = true) (Pi7 : Exa Z h0 r2 kk2) (hco2 : (Cond.castable kk2 "java/lang/Object").before a0 Z = true) (Pi9 : Exa Z h0 r3 kk3) (hco3 : (Cond.castable kk3 "java/lang/Object").before a0 Z = true) (Pi11 : Sta Z h0 "java/util/ImmutableCollections" "EMPTY" "Ljava/lang/Object;" (.ref aI)) (Mr : (Term.mirror "[Ljava/lang/Object;").eval #[] Z none [] Z = some (.ref mr)) :
    MetFree l own_n32 (head1 (Jvm.Cond.code own_n32 prog_12_method_2_code 2 (some (.object "java/util/List")) :: ws) own_r_own_rmNE3) (fun a U => a = #[(.ref x0), (.ref x1)] ∧ Z.Warmed39 U.vm ∧ U.heap = h0) (fun _ _ _ _ _ => True) (fun _ U o U' => ∃ v L, o = .returned v ∧ own_Q_own_rmNE3 Z x0 x1 ea kE r1 r2 r3 kk1 kk2 kk3 mr aI h0 n0 v U'.heap L ∧ FrameEnd U o U' L own_r_own_rmNE3.cells own_r_own_rmNE3.slots) := by
  refine MetFree.of_bodySF (plainFor_of_name own_pn_14) hisR ?_
  intro p e s m args below meth c s₁ Bd hml0 hP hK
  obtain ⟨rfl, hZ, hh⟩ := hP
  have hx := Bd.exec
  have hby := Bd.bytes
  have hml : c.maxLocals = 2 := hml0
  have hown : s.vm.findClass "com/example/wee_table/weetable/model/GcRule" = some m.cls := findClass_of_methodNamed Bd.named
  have hnm := (name_of_methodNamed Bd.named Bd.method).1
  have X0 : Stand p l e own_r_own_rmNE3 s m #[(.ref x0), (.ref x1)] below meth c s₁ [] 0 0 := Stand.of_body Bd
  have e0 : s₁.heap = h0 := by rw [← hh, Bd.state]; rfl
  have N0 := Fr.nil n0
  show Goes p.tables e below _ (own_R below s (own_Q_own_rmNE3 Z x0 x1 ea kE r1 r2 r3 kk1 kk2 kk3 mr aI h0 n0) own_r_own_rmNE3.cells own_r_own_rmNE3.slots)
  refine Goes.to (fun t k => castTop (own_ef_own_rmNE3 m x0 x1) k) ?_
  refine gx (XS.aloadN X0.here hx rfl (hb hby d14_0) rfl rfl) ?_
  obtain ⟨cq1, kq1, q1a, q1b, q1c⟩ := isOf hZ e0 Pi0
  obtain ⟨_, _, ⟨T1, L1, k1, n1⟩, -, X1, ⟨Lc1, hQ1, l1, y1, z1⟩, st1⟩ := X0.interfaceBack hx (xi := own_n31) (y := own_n13) hown (mvT hZ (own_hw hw 96 rfl)) (mvT hZ (own_hw hw 97 rfl)) (mvT hZ (own_hw hw 98 rfl)) (mvT hZ (own_hw hw 99 rfl)) (mvT hZ (own_hw hw 100 rfl)) (mvT hZ (own_hw hw 101 rfl)) (mvT hZ (own_hw hw 102 rfl)) (mvT hZ (own_hw hw 103 rfl)) (by decide) (backOf (W := 0) (own_rm15 l Z a0 hw [] x0 (3 : Int32) h0 n0 Z0 Pi1) hZ (own_hw hw 104 rfl) (own_hw hw 7 rfl) (by decide) (by decide)) q1a q1b q1c (g := (mkF m 1 #[.val (.ref x0), .val (.ref x1)] [(.ref x0)])) rfl (by rw [hml]; rfl) (Steps.refl _) (argsL := []) (rest := []) (lenOf own_pd_pqZ rfl) rfl (own_W rfl rfl) (hb hby d14_1) (fun _ _ => ⟨rfl, e0, (by decide : 0 + 0 ≤ _), (by decide : 0 + 0 ≤ _)⟩)
  dsimp only [Pt.U, Pt.locs, Pt.cells, Pt.slots] at X1 l1 y1 z1 st1 hQ1
  subst l1 y1 z1
  obtain ⟨hv1, Nq1, hp1_0⟩ := hQ1
  have N1 := Fr.app N0 Nq1
  rw [if_neg (by decide : ¬ ((3 : Int32) = (0 : Int32)))] at hv1
  subst hv1
  refine Goes.tr st1 ?_
  refine gx (XS.ifYes X1.here hx rfl (pc0 := 6) (pc' := 23) rfl (hb hby d14_6) rfl ((if0 _ _).trans (teq (by decide : (0 : Int32) = (0 : Int32))).1) (by decide) (by decide)) ?_
  refine gx (XS.aloadN X1.here hx rfl (hb hby d14_23) rfl rfl) ?_
  obtain ⟨_, _, ⟨T2, L2, k2, n2⟩, -, X2, ⟨Lc2, hQ2, l2, y2, z2⟩, st2⟩ := Jvm.LawKit.callS X1 hx (y := own_n30) hown (mvT hZ (own_hw hw 105 rfl)) (mvT hZ (own_hw hw 106 rfl)) (mvT hZ (own_hw hw 107 rfl)) (mvT hZ (own_hw hw 108 rfl)) (by decide) (backOf (W := 0) (own_rmLF3 l Z a0 hw [] x0 ea kE r1 r2 r3 kk1 kk2 kk3 mr aI h0 n0 Z0 Pi0 Pi1 Pi2 Pi3 Pi4 Pi5 hco1 Pi7 hco2 Pi9 hco3 Pi11 Mr) hZ (own_hw hw 108 rfl) (own_hw hw 107 rfl) (by decide) (by decide)) (g := (mkF m 24 #[.val (.ref x0), .val (.ref x1)] [(.ref x0)])) rfl (by rw [hml]; rfl) (argsL := [(.ref x0)]) (rest := []) (lenOf own_pd_pLjavalutillCollectionsqLjavalutillLists rfl) rfl (own_W rfl rfl) (hb hby d14_24) (fun _ _ => ⟨rfl, hp1_0, (by decide : 0 + 3 ≤ _), (by decide : 0 + 8 ≤ _)⟩)
  dsimp only [Pt.U, Pt.locs, Pt.cells, Pt.slots] at X2 l2 y2 z2 st2 hQ2
  subst l2 y2 z2
  obtain ⟨li_2, el_2, kL_2, hv2, Nq2, sq2_0, sq2_1, np2_0, Kq2, Qf2_0, Qf2_1, Qf2_2, Qf2_3⟩ := hQ2
  have N2 := Fr.app N1 Nq2
  have sz_li_2 : h0.size ≤ li_2 := Nat.le_trans (Keep.refl h0 []).1 sq2_0
  have sz_el_2 : h0.size ≤ el_2 := Nat.le_trans (Keep.refl h0 []).1 sq2_1
  have Kc2 : Keep h0 T2.heap [] := (Keep.refl h0 []).trans Kq2 all0
  subst hv2
  refine Goes.to st2 ?_
  show Goes p.tables e below (T2.setTop (mkF m 27 #[.val (.ref x0), .val (.ref x1)] [(.ref li_2)])) _
  obtain ⟨fs, hr, hrun, hended, hW, hsame⟩ := X2.leave (v := some (.ref li_2)) (fun h => by rw [Bd.returns] at h; cases h)
  exact ⟨_, _, retOut X2 hx Bd.returns rfl (Or.inr (Or.inr (Or.inr (Or.inr ⟨rfl, rfl, rfl⟩)))) (hb hby d14_27) hr, hrun, hended, _, _, rfl, ⟨li_2, el_2, kL_2, rfl, N2, sz_li_2, sz_el_2, np2_0, (by show Keep h0 T2.heap []; exact Kc2), (by show Exa Z T2.heap li_2 "java/util/ImmutableCollections$ListN"; exact Qf2_0), (by show Fld Z T2.heap li_2 "java/util/ImmutableCollections$ListN" "elements" "[Ljava/lang/Object;" (.ref el_2); exact Qf2_1), (by show Exa Z T2.heap el_2 "[Ljava/lang/Object;"; exact Qf2_2), (by show Arv Z T2.heap el_2 kL_2 (.object "java/lang/Object") (3 : Int32) [(.ref r1), (.ref r2), (.ref r3)] .null; exact Qf2_3)⟩, ⟨_, rfl⟩, hW, hsame.mono (by decide) (by decide)⟩

theorem d13_0 : decode prog_13_method_1_code 0 = .ok (.aload_n 0, 1) := by decide +kernel
theorem d13_1 : decode prog_13_method_1_code 1 = .ok (.invokespecial 1, 3) := by decide +kernel
theorem d13_4 : decode prog_13_method_1_code 4 = .ok (.aload_n 1, 1) := by decide +kernel
theorem d13_5 : decode prog_13_method_1_code 5 = .ok (.ldc 7, 2) := by decide +kernel
theorem d13_7 : decode prog_13_method_1_code 7 = .ok (.invokestatic 9, 3) := by decide +kernel
theorem d13_10 : decode prog_13_method_1_code 10 = .ok (.astore_n 1, 1) := by decide +kernel
theorem d13_11 : decode prog_13_method_1_code 11 = .ok (.aload_n 0, 1) := by decide +kernel
theorem d13_12 : decode prog_13_method_1_code 12 = .ok (.aload_n 1, 1) := by decide +kernel
theorem d13_13 : decode prog_13_method_1_code 13 = .ok (.putfield 15, 3) := by decide +kernel
theorem d13_16 : decode prog_13_method_1_code 16 = .ok (.return_, 1) := by decide +kernel
theorem own_pd_pLjavalutillListsLjavallanglStringsqLjavalutillLists : parseMethodDescriptor "(Ljava/util/List;Ljava/lang/String;)Ljava/util/List;" = some ⟨[(.object "java/util/List"), (.object "java/lang/String")], some (.object "java/util/List")⟩ := by decide +kernel
theorem own_pn_13 : plainName "com/example/wee_table/weetable/model/GcRule$Intersection" = true := by first | (simp [plainName, overriddenIn]; done) | decide +kernel
theorem own_ef_own_rmIN1 (m : MethodId) (x0 : Addr) (x1 : Addr) : entryFrame m #[(.ref x0), (.ref x1)] 2 = mkF m 0 #[.val (.ref x0), .val (.ref x1)] [] := by first | (simp [entryFrame, mkF, argsToLocals, Value.category]; done) | rfl
def own_Q_own_rmIN1 (Z : State) (x0 : Addr) (x1 : Addr) (ea : Addr) (kE : ClassId) (r1 : Addr) (kk1 : String) (mr : Addr) (aI : Addr) (h0 : Heap) (n0 : Nat) (v : Option Value) (h : Heap) (L : List Loc) : Prop := ∃ (li : Addr), v = none ∧ Fr n0 L ∧ h0.size ≤ li ∧ Keep h0 h [x0] ∧ Exa Z h x0 "com/example/wee_table/weetable/model/GcRule$Intersection" ∧ Fld Z h x0 "com/example/wee_table/weetable/model/GcRule$Intersection" "rules" "Ljava/util/List;" (.ref li) ∧ Exa Z h li "java/util/ImmutableCollections$List12" ∧ Fld Z h li "java/util/ImmutableCollections$List12" "e0" "Ljava/lang/Object;" (.ref r1) ∧ Fld Z h li "java/util/ImmutableCollections$List12" "e1" "Ljava/lang/Object;" (.ref aI)
abbrev own_r_own_rmIN1 : Room := ({ frames := 9, cells := 4, slots := 67, locals := 113 } : Room)

set_option maxRecDepth 65536 in
set_option maxHeartbeats 40000000 in
theorem own_rmIN1 (l : Launch) (Z : State) (a0 : Array Value) (hw : ∀ d ∈ tables_1, d.before a0 Z = true) (ws : List Jvm.Cond) (x0 : Addr) (x1 : Addr) (ea : Addr) (kE : ClassId) (r1 : Addr) (kk1 : String) (mr : Addr) (aI : Addr) (h0 : Heap) (n0 : Nat) (Z0 : n0 ≤ h0.size) (Pi0 : n0 ≤ x0) (Pi1 : Exa Z h0 x0 "com/example/wee_table/weetable/model/GcRule$Intersection") (Pi2 : Fld Z h0 x0 "com/example/wee_table/weetable/model/GcRule$Intersection" "rules" "Ljava/util/List;" .null) (Pi3 : Exa Z h0 x1 "java/util/ArrayList") (Pi4 : Fld Z h0 x1 "java/util/ArrayList" "size" "I" (.int (1 : Int32))) (Pi5 : Fld Z h0 x1 "java/util/ArrayList" "elementData" "[Ljava/lang/Object;" (.ref ea)) (Pi6 : Exa Z h0 ea "[Ljava/lang/Object;") (Pi7 : Arv Z h0 ea kE (.object "java/lang/Object") (10 : Int32) [(.ref r1), .null, .null, .null, .null, .null, .null, .null, .null, .null] .null) (Pi8 : Exa Z h0 r1 kk1) (hco1 : (Cond.castable kk1 "java/lang/Object").before a0 Z = true) (Pi10 : Sta Z h0 "java/util/ImmutableCollections" "EMPTY" "Ljava/lang/Object;" (.ref aI)) (Mr : (Term.mirror "[Ljava/lang/Object;").eval #[] Z none [] Z = some (.ref mr)) :
    MetFree l own_n33 (head1 (Jvm.Cond.code own_n33 prog_13_method_1_code 2 none :: ws) own_r_own_rmIN1) (fun a U => a = #[(.ref x0), (.ref x1)] ∧ Z.Warmed39 U.vm ∧ U.heap = h0 ∧ CHv Z own_EL U.vm h0) (fun _ _ _ _ _ => True) (fun _ U o U' => ∃ v L, o = .returned v ∧ own_Q_own_rmIN1 Z x0 x1 ea kE r1 kk1 mr aI h0 n0 v U'.heap L ∧ CHr Z own_EL U.vm U.heap U'.vm U'.heap ∧ ReturnedEndW U o U' L own_r_own_rmIN1.cells own_r_own_rmIN1.slots) := by
  refine MetFree.of_bodySF (plainFor_of_name own_pn_13) hisR ?_
  intro p e s m args below meth c s₁ Bd hml0 hP hK
  obtain ⟨rfl, hZ, hh, hCH⟩ := hP
  have hx := Bd.exec
  have hby := Bd.bytes
  have hml : c.maxLocals = 2 := hml0
  have hown : s.vm.findClass "com/example/wee_table/weetable/model/GcRule$Intersection" = some m.cls := findClass_of_methodNamed Bd.named
  have hnm := (name_of_methodNamed Bd.named Bd.method).1
  have X0 : Stand p l e own_r_own_rmIN1 (s.setVm s.vm) m #[(.ref x0), (.ref x1)] below meth c s₁ [] 0 0 := Stand.of_body Bd
  have e0 : s₁.heap = h0 := by rw [← hh, Bd.state]; rfl
  have N0 := Fr.nil n0
  have hS0 : s.Since s.vm h0.size := (State.WarmedH.refl s).since _
  have own_wS' : ∀ a ∈ Bundle.stringAtoms, a.before a0 Z = true := own_wS hw
  have hEL := own_EW hw
  have R0 := CHr.refl hCH
  show Goes p.tables e below _ (own_RH Z below s (own_Q_own_rmIN1 Z x0 x1 ea kE r1 kk1 mr aI h0 n0) own_r_own_rmIN1.cells own_r_own_rmIN1.slots)
  refine Goes.to (fun t k => castTop (own_ef_own_rmIN1 m x0 x1) k) ?_
  refine gx (XS.aloadN X0.here hx rfl (hb hby d13_0) rfl rfl) ?_
  obtain ⟨_, _, ⟨T1, L1, k1, n1⟩, -, X1, ⟨Lc1, hQ1, l1, y1, z1⟩, st1⟩ := X0.specialBack hx (y := own_n4) rfl hown (mvT hZ (own_hw hw 83 rfl)) (mvT hZ (own_hw hw 42 rfl)) (mvT hZ (own_hw hw 45 rfl)) (by decide) (backOf (W := 0) (own_rm8 l Z a0 hw [] x0 h0 n0 Z0 ) hZ (own_hw hw 45 rfl) (own_hw hw 44 rfl) (by decide) (by decide)) (g := (mkF m 1 #[.val (.ref x0), .val (.ref x1)] [(.ref x0)])) rfl (by rw [hml]; rfl) (Steps.refl _) (a := x0) (argsL := []) (rest := []) (lenOf own_pd_pqV rfl) rfl (own_W rfl rfl) (hb hby d13_1) (fun _ _ => ⟨rfl, e0, (by decide : 0 + 0 ≤ _), (by decide : 0 + 0 ≤ _)⟩)
  dsimp only [Pt.U, Pt.locs, Pt.cells, Pt.slots] at X1 l1 y1 z1 st1 hQ1
  subst l1 y1 z1
  obtain ⟨hv1, Nq1, hp1_0⟩ := hQ1
  have N1 := Fr.app N0 Nq1
  subst hv1
  refine Goes.tr st1 ?_
  refine gx (XS.aloadN X1.here hx rfl (hb hby d13_4) rfl rfl) ?_
  obtain ⟨a2, T2, h2, kO2, X2, e2, E2, hS2, hk2, hZ2, hown2, Rr2, Lt2, st2⟩ := ldcOH (s := s) X1 hx hZ hown (own_hw hw 84 rfl) own_wS' hp1_0 hS0 (Nat.le_refl _) hEL R0.1 (g := (mkF m 5 #[.val (.ref x0), .val (.ref x1)] [(.ref x1)])) rfl (hb hby d13_5) (n := 60) (by decide) (by decide) (by decide) (by decide)
  subst e2
  have F3 := Pi1.ext E2
  have F4 := Pi2.ext E2
  have F5 := Pi3.ext E2
  have F6 := Pi4.ext E2
  have F7 := Pi5.ext E2
  have F8 := Pi6.ext E2
  have F9 := Pi7.ext E2
  have F10 := Pi8.ext E2
  have F11 := Pi10.ext E2
  have R2 := R0.trans Rr2
  have hZ := hZ2
  have hown := hown2
  have Z2 : n0 ≤ T2.heap.size := Nat.le_trans Z0 E2.1
  have K2 : Keep h0 T2.heap [x0] := (Keep.refl h0 [x0]).ext E2
  refine Goes.to st2 ?_
  obtain ⟨_, _, ⟨T12, L12, k12, n12⟩, -, X12, ⟨Lc12, hQ12, l12, y12, z12⟩, st12⟩ := Jvm.RoadKit.callSN X2 hx (y := own_n32) hown (own_mvM hZ (own_hw hw 92 rfl)) (mvT hZ (own_hw hw 93 rfl)) (mvT hZ (own_hw hw 94 rfl)) (mvT hZ (own_hw hw 95 rfl)) (by decide) (backOf (W := 0) (own_rmNE1 l Z a0 hw [] x1 a2 ea kE r1 kk1 mr aI T2.heap n0 Z2 F5 F6 F7 F8 F9 F10 hco1 F11 Mr) hZ (own_hw hw 95 rfl) (own_hw hw 94 rfl) (by decide) (by decide)) (g := (mkF m 7 #[.val (.ref x0), .val (.ref x1)] [(.ref a2), (.ref x1)])) rfl (by rw [hml]; rfl) (argsL := [(.ref x1), (.ref a2)]) (rest := []) (lenOf own_pd_pLjavalutillListsLjavallanglStringsqLjavalutillLists rfl) rfl (own_W rfl rfl) (hb hby d13_7) (fun _ _ => ⟨rfl, rfl, (by decide : 2 + 2 ≤ _), (by decide : 64 + 3 ≤ _)⟩)
  dsimp only [Pt.U, Pt.locs, Pt.cells, Pt.slots] at X12 l12 y12 z12 st12 hQ12
  subst l12 y12 z12
  obtain ⟨li_12, hv12, Nq12, sq12_0, Kq12, Qf12_0, Qf12_1, Qf12_2⟩ := hQ12
  have N12 := Fr.app N1 Nq12
  have sz_li_12 : h0.size ≤ li_12 := Nat.le_trans K2.1 sq12_0
  have ne13 : x0 ≠ li_12 := Nat.ne_of_lt (Nat.lt_of_lt_of_le F3.lt sq12_0)
  have R17 := R2.trans (CHr.keep Kq12 sf0 R2.1)
  have hk18 := Nat.le_trans hk2 Kq12.1
  have F19 := F3.keep Kq12
  have F20 := F4.keep Kq12 nin0
  have Kc12 : Keep h0 T12.heap [x0] := K2.trans Kq12 all0
  subst hv12
  refine Goes.tr st12 ?_
  refine gx (XS.astoreN X12.here hx rfl (hb hby d13_10) rfl rfl (l' := #[.val (.ref x0), .val (.ref li_12)]) rfl) ?_
  refine gx (XS.aloadN X12.here hx rfl (hb hby d13_11) rfl rfl) ?_
  refine gx (XS.aloadN X12.here hx rfl (hb hby d13_12) rfl rfl) ?_
  obtain ⟨T28, h28, X28, e28, W28, st28⟩ := putF X12 hx hZ hown (host := "") (Or.inl (own_hw hw 187 rfl)) Via.refl rfl F20 F19 (Or.inr ⟨(own_hw hw 188 rfl), rfl, hnm⟩) (own_hw hw 78 rfl) (ty := (.object "java/util/List")) (by decide) rfl rfl (g := (mkF m 13 #[.val (.ref x0), .val (.ref li_12)] [(.ref li_12), (.ref x0)])) rfl rfl (hb hby d13_13)
  subst e28
  have R29 := R17.trans (CHr.wr W28 own_sf0 R17.1)
  have hk30 := Nat.le_trans hk18 (Nat.le_of_eq W28.size.symm)
  have F31 := F19.wr W28
  have F40 := Qf12_0.wr W28
  have F41 := Qf12_1.other W28 (Or.inl (Ne.symm ne13))
  have F42 := Qf12_2.other W28 (Or.inl (Ne.symm ne13))
  have N28 := Fr.snoc X28 N12 Pi0
  have K28 : Keep h0 T28.heap [x0] := Kc12.wr W28 (Or.inl (List.mem_of_getElem? (i := 0) rfl))
  have F43 : Fld Z T28.heap x0 "com/example/wee_table/weetable/model/GcRule$Intersection" "rules" "Ljava/util/List;" (.ref li_12) := F20.same W28
  refine Goes.to st28 ?_
  show Goes p.tables e below (T28.setTop (mkF m 16 #[.val (.ref x0), .val (.ref li_12)] [])) _
  have hkl := Nat.le_trans hk30 (Nat.le_refl T28.heap.size)
  obtain ⟨fs, hr, hrun, hended, hEnd⟩ := X28.leaveW (s := s) hS2 hkl (v := none) (fun _ => rfl)
  have hRl : CHr Z own_EL s.vm s.heap T28.vm T28.heap := by
    rw [hh]
    exact R29.trans (CHv.at (s := s) X28 hZ hEL R29.1)
  exact ⟨_, _, X28.returnOut hx Bd.returns (hb hby d13_16) hr, hrun, hended, _, _, rfl, ⟨li_12, rfl, N28, sz_li_12, (by show Keep h0 T28.heap [x0]; exact K28), (by show Exa Z T28.heap x0 "com/example/wee_table/weetable/model/GcRule$Intersection"; exact F31), (by show Fld Z T28.heap x0 "com/example/wee_table/weetable/model/GcRule$Intersection" "rules" "Ljava/util/List;" (.ref li_12); exact F43), (by show Exa Z T28.heap li_12 "java/util/ImmutableCollections$List12"; exact F40), (by show Fld Z T28.heap li_12 "java/util/ImmutableCollections$List12" "e0" "Ljava/lang/Object;" (.ref r1); exact F41), (by show Fld Z T28.heap li_12 "java/util/ImmutableCollections$List12" "e1" "Ljava/lang/Object;" (.ref aI); exact F42)⟩, hRl, hEnd.1, hEnd.2.1, hEnd.2.2.1, hEnd.2.2.2.mono (by decide) (by decide)⟩

theorem own_ef_own_rmIN2 (m : MethodId) (x0 : Addr) (x1 : Addr) : entryFrame m #[(.ref x0), (.ref x1)] 2 = mkF m 0 #[.val (.ref x0), .val (.ref x1)] [] := by first | (simp [entryFrame, mkF, argsToLocals, Value.category]; done) | rfl
def own_Q_own_rmIN2 (Z : State) (x0 : Addr) (x1 : Addr) (ea : Addr) (kE : ClassId) (r1 : Addr) (r2 : Addr) (kk1 : String) (kk2 : String) (mr : Addr) (aI : Addr) (h0 : Heap) (n0 : Nat) (v : Option Value) (h : Heap) (L : List Loc) : Prop := ∃ (li : Addr), v = none ∧ Fr n0 L ∧ h0.size ≤ li ∧ Keep h0 h [x0] ∧ Exa Z h x0 "com/example/wee_table/weetable/model/GcRule$Intersection" ∧ Fld Z h x0 "com/example/wee_table/weetable/model/GcRule$Intersection" "rules" "Ljava/util/List;" (.ref li) ∧ Exa Z h li "java/util/ImmutableCollections$List12" ∧ Fld Z h li "java/util/ImmutableCollections$List12" "e0" "Ljava/lang/Object;" (.ref r1) ∧ Fld Z h li "java/util/ImmutableCollections$List12" "e1" "Ljava/lang/Object;" (.ref r2)
abbrev own_r_own_rmIN2 : Room := ({ frames := 9, cells := 4, slots := 68, locals := 114 } : Room)

set_option maxRecDepth 65536 in
set_option maxHeartbeats 40000000 in
theorem own_rmIN2 (l : Launch) (Z : State) (a0 : Array Value) (hw : ∀ d ∈ tables_1, d.before a0 Z = true) (ws : List Jvm.Cond) (x0 : Addr) (x1 : Addr) (ea : Addr) (kE : ClassId) (r1 : Addr) (r2 : Addr) (kk1 : String) (kk2 : String) (mr : Addr) (aI : Addr) (h0 : Heap) (n0 : Nat) (Z0 : n0 ≤ h0.size) (Pi0 : n0 ≤ x0) (Pi1 : Exa Z h0 x0 "com/example/wee_table/weetable/model/GcRule$Intersection") (Pi2 : Fld Z h0 x0 "com/example/wee_table/weetable/model/GcRule$Intersection" "rules" "Ljava/util/List;" .null) (Pi3 : Exa Z h0 x1 "java/util/ArrayList") (Pi4 : Fld Z h0 x1 "java/util/ArrayList" "size" "I" (.int (2 : Int32))) (Pi5 : Fld Z h0 x1 "java/util/ArrayList" "elementData" "[Ljava/lang/Object;" (.ref ea)) (Pi6 : Exa Z h0 ea "[Ljava/lang/Object;") (Pi7 : Arv Z h0 ea kE (.object "java/lang/Object") (10 : Int32) [(.ref r1), (.ref r2), .null, .null, .null, .null, .null, .null, .null, .null] .null) (Pi8 : Exa Z h0 r1 kk1) (hco1 : (Cond.castable kk1 "java/lang/Object").before a0 Z = true) (Pi10 : Exa Z h0 r2 kk2) (hco2 : (Cond.castable kk2 "java/lang/Object").before a0 Z = true) (Pi12 : Sta Z h0 "java/util/ImmutableCollections" "EMPTY" "Ljava/lang/Object;" (.ref aI)) (Mr : (Term.mirror "[Ljava/lang/Object;").eval #[] Z none [] Z = some (.ref mr)) :
    MetFree l own_n33 (head1 (Jvm.Cond.code own_n33 prog_13_method_1_code 2 none :: ws) own_r_own_rmIN2) (fun a U => a = #[(.ref x0), (.ref x1)] ∧ Z.Warmed39 U.vm ∧ U.heap = h0 ∧ CHv Z own_EL U.vm h0) (fun _ _ _ _ _ => True) (fun _ U o U' => ∃ v L, o = .returned v ∧ own_Q_own_rmIN2 Z x0 x1 ea kE r1 r2 kk1 kk2 mr aI h0 n0 v U'.heap L ∧ CHr Z own_EL U.vm U.heap U'.vm U'.heap ∧ ReturnedEndW U o U' L own_r_own_rmIN2.cells own_r_own_rmIN2.slots) := by
  refine MetFree.of_bodySF (plainFor_of_name own_pn_13) hisR ?_
  intro p e s m args below meth c s₁ Bd hml0 hP hK
  obtain ⟨rfl, hZ, hh, hCH⟩ := hP
  have hx := Bd.exec
  have hby := Bd.bytes
  have hml : c.maxLocals = 2 := hml0
  have hown : s.vm.findClass "com/example/wee_table/weetable/model/GcRule$Intersection" = some m.cls := findClass_of_methodNamed Bd.named
  have hnm := (name_of_methodNamed Bd.named Bd.method).1
  have X0 : Stand p l e own_r_own_rmIN2 (s.setVm s.vm) m #[(.ref x0), (.ref x1)] below meth c s₁ [] 0 0 := Stand.of_body Bd
  have e0 : s₁.heap = h0 := by rw [← hh, Bd.state]; rfl
  have N0 := Fr.nil n0
  have hS0 : s.Since s.vm h0.size := (State.WarmedH.refl s).since _
  have own_wS' : ∀ a ∈ Bundle.stringAtoms, a.before a0 Z = true := own_wS hw
  have hEL := own_EW hw
  have R0 := CHr.refl hCH
  show Goes p.tables e below _ (own_RH Z below s (own_Q_own_rmIN2 Z x0 x1 ea kE r1 r2 kk1 kk2 mr aI h0 n0) own_r_own_rmIN2.cells own_r_own_rmIN2.slots)
  refine Goes.to (fun t k => castTop (own_ef_own_rmIN2 m x0 x1) k) ?_
  refine gx (XS.aloadN X0.here hx rfl (hb hby d13_0) rfl rfl) ?_
  obtain ⟨_, _, ⟨T1, L1, k1, n1⟩, -, X1, ⟨Lc1, hQ1, l1, y1, z1⟩, st1⟩ := X0.specialBack hx (y := own_n4) rfl hown (mvT hZ (own_hw hw 83 rfl)) (mvT hZ (own_hw hw 42 rfl)) (mvT hZ (own_hw hw 45 rfl)) (by decide) (backOf (W := 0) (own_rm8 l Z a0 hw [] x0 h0 n0 Z0 ) hZ (own_hw hw 45 rfl) (own_hw hw 44 rfl) (by decide) (by decide)) (g := (mkF m 1 #[.val (.ref x0), .val (.ref x1)] [(.ref x0)])) rfl (by rw [hml]; rfl) (Steps.refl _) (a := x0) (argsL := []) (rest := []) (lenOf own_pd_pqV rfl) rfl (own_W rfl rfl) (hb hby d13_1) (fun _ _ => ⟨rfl, e0, (by decide : 0 + 0 ≤ _), (by decide : 0 + 0 ≤ _)⟩)
  dsimp only [Pt.U, Pt.locs, Pt.cells, Pt.slots] at X1 l1 y1 z1 st1 hQ1
  subst l1 y1 z1
  obtain ⟨hv1, Nq1, hp1_0⟩ := hQ1
  have N1 := Fr.app N0 Nq1
  subst hv1
  refine Goes.tr st1 ?_
  refine gx (XS.aloadN X1.here hx rfl (hb hby d13_4) rfl rfl) ?_
  obtain ⟨a2, T2, h2, kO2, X2, e2, E2, hS2, hk2, hZ2, hown2, Rr2, Lt2, st2⟩ := ldcOH (s := s) X1 hx hZ hown (own_hw hw 84 rfl) own_wS' hp1_0 hS0 (Nat.le_refl _) hEL R0.1 (g := (mkF m 5 #[.val (.ref x0), .val (.ref x1)] [(.ref x1)])) rfl (hb hby d13_5) (n := 60) (by decide) (by decide) (by decide) (by decide)
  subst e2
  have F3 := Pi1.ext E2
  have F4 := Pi2.ext E2
  have F5 := Pi3.ext E2
  have F6 := Pi4.ext E2
  have F7 := Pi5.ext E2
  have F8 := Pi6.ext E2
  have F9 := Pi7.ext E2
  have F10 := Pi8.ext E2
  have F11 := Pi10.ext E2
  have F12 := Pi12.ext E2
  have R2 := R0.trans Rr2
  have hZ := hZ2
  have hown := hown2
  have Z2 : n0 ≤ T2.heap.size := Nat.le_trans Z0 E2.1
  have K2 : Keep h0 T2.heap [x0] := (Keep.refl h0 [x0]).ext E2
  refine Goes.to st2 ?_
  obtain ⟨_, _, ⟨T13, L13, k13, n13⟩, -, X13, ⟨Lc13, hQ13, l13, y13, z13⟩, st13⟩ := Jvm.RoadKit.callSN X2 hx (y := own_n32) hown (own_mvM hZ (own_hw hw 92 rfl)) (mvT hZ (own_hw hw 93 rfl)) (mvT hZ (own_hw hw 94 rfl)) (mvT hZ (own_hw hw 95 rfl)) (by decide) (backOf (W := 0) (own_rmNE2 l Z a0 hw [] x1 a2 ea kE r1 r2 kk1 kk2 mr aI T2.heap n0 Z2 F5 F6 F7 F8 F9 F10 hco1 F11 hco2 F12 Mr) hZ (own_hw hw 95 rfl) (own_hw hw 94 rfl) (by decide) (by decide)) (g := (mkF m 7 #[.val (.ref x0), .val (.ref x1)] [(.ref a2), (.ref x1)])) rfl (by rw [hml]; rfl) (argsL := [(.ref x1), (.ref a2)]) (rest := []) (lenOf own_pd_pLjavalutillListsLjavallanglStringsqLjavalutillLists rfl) rfl (own_W rfl rfl) (hb hby d13_7) (fun _ _ => ⟨rfl, rfl, (by decide : 2 + 2 ≤ _), (by decide : 64 + 4 ≤ _)⟩)
  dsimp only [Pt.U, Pt.locs, Pt.cells, Pt.slots] at X13 l13 y13 z13 st13 hQ13
  subst l13 y13 z13
  obtain ⟨li_13, hv13, Nq13, sq13_0, Kq13, Qf13_0, Qf13_1, Qf13_2⟩ := hQ13
  have N13 := Fr.app N1 Nq13
  have sz_li_13 : h0.size ≤ li_13 := Nat.le_trans K2.1 sq13_0
  have ne14 : x0 ≠ li_13 := Nat.ne_of_lt (Nat.lt_of_lt_of_le F3.lt sq13_0)
  have R19 := R2.trans (CHr.keep Kq13 sf0 R2.1)
  have hk20 := Nat.le_trans hk2 Kq13.1
  have F21 := F3.keep Kq13
  have F22 := F4.keep Kq13 nin0
  have Kc13 : Keep h0 T13.heap [x0] := K2.trans Kq13 all0
  subst hv13
  refine Goes.tr st13 ?_
  refine gx (XS.astoreN X13.here hx rfl (hb hby d13_10) rfl rfl (l' := #[.val (.ref x0), .val (.ref li_13)]) rfl) ?_
  refine gx (XS.aloadN X13.here hx rfl (hb hby d13_11) rfl rfl) ?_
  refine gx (XS.aloadN X13.here hx rfl (hb hby d13_12) rfl rfl) ?_
  obtain ⟨T31, h31, X31, e31, W31, st31⟩ := putF X13 hx hZ hown (host := "") (Or.inl (own_hw hw 187 rfl)) Via.refl rfl F22 F21 (Or.inr ⟨(own_hw hw 188 rfl), rfl, hnm⟩) (own_hw hw 78 rfl) (ty := (.object "java/util/List")) (by decide) rfl rfl (g := (mkF m 13 #[.val (.ref x0), .val (.ref li_13)] [(.ref li_13), (.ref x0)])) rfl rfl (hb hby d13_13)
  subst e31
  have R32 := R19.trans (CHr.wr W31 own_sf0 R19.1)
  have hk33 := Nat.le_trans hk20 (Nat.le_of_eq W31.size.symm)
  have F34 := F21.wr W31
  have F44 := Qf13_0.wr W31
  have F45 := Qf13_1.other W31 (Or.inl (Ne.symm ne14))
  have F46 := Qf13_2.other W31 (Or.inl (Ne.symm ne14))
  have N31 := Fr.snoc X31 N13 Pi0
  have K31 : Keep h0 T31.heap [x0] := Kc13.wr W31 (Or.inl (List.mem_of_getElem? (i := 0) rfl))
  have F47 : Fld Z T31.heap x0 "com/example/wee_table/weetable/model/GcRule$Intersection" "rules" "Ljava/util/List;" (.ref li_13) := F22.same W31
  refine Goes.to st31 ?_
  show Goes p.tables e below (T31.setTop (mkF m 16 #[.val (.ref x0), .val (.ref li_13)] [])) _
  have hkl := Nat.le_trans hk33 (Nat.le_refl T31.heap.size)
  obtain ⟨fs, hr, hrun, hended, hEnd⟩ := X31.leaveW (s := s) hS2 hkl (v := none) (fun _ => rfl)
  have hRl : CHr Z own_EL s.vm s.heap T31.vm T31.heap := by
    rw [hh]
    exact R32.trans (CHv.at (s := s) X31 hZ hEL R32.1)
  exact ⟨_, _, X31.returnOut hx Bd.returns (hb hby d13_16) hr, hrun, hended, _, _, rfl, ⟨li_13, rfl, N31, sz_li_13, (by show Keep h0 T31.heap [x0]; exact K31), (by show Exa Z T31.heap x0 "com/example/wee_table/weetable/model/GcRule$Intersection"; exact F34), (by show Fld Z T31.heap x0 "com/example/wee_table/weetable/model/GcRule$Intersection" "rules" "Ljava/util/List;" (.ref li_13); exact F47), (by show Exa Z T31.heap li_13 "java/util/ImmutableCollections$List12"; exact F44), (by show Fld Z T31.heap li_13 "java/util/ImmutableCollections$List12" "e0" "Ljava/lang/Object;" (.ref r1); exact F45), (by show Fld Z T31.heap li_13 "java/util/ImmutableCollections$List12" "e1" "Ljava/lang/Object;" (.ref r2); exact F46)⟩, hRl, hEnd.1, hEnd.2.1, hEnd.2.2.1, hEnd.2.2.2.mono (by decide) (by decide)⟩

theorem own_ef_own_rmIN3 (m : MethodId) (x0 : Addr) (x1 : Addr) : entryFrame m #[(.ref x0), (.ref x1)] 2 = mkF m 0 #[.val (.ref x0), .val (.ref x1)] [] := by first | (simp [entryFrame, mkF, argsToLocals, Value.category]; done) | rfl
def own_Q_own_rmIN3 (Z : State) (x0 : Addr) (x1 : Addr) (ea : Addr) (kE : ClassId) (r1 : Addr) (r2 : Addr) (r3 : Addr) (kk1 : String) (kk2 : String) (kk3 : String) (mr : Addr) (aI : Addr) (h0 : Heap) (n0 : Nat) (v : Option Value) (h : Heap) (L : List Loc) : Prop := ∃ (li : Addr) (el : Addr) (kL : ClassId), v = none ∧ Fr n0 L ∧ h0.size ≤ li ∧ h0.size ≤ el ∧ li ≠ el ∧ Keep h0 h [x0] ∧ Exa Z h x0 "com/example/wee_table/weetable/model/GcRule$Intersection" ∧ Fld Z h x0 "com/example/wee_table/weetable/model/GcRule$Intersection" "rules" "Ljava/util/List;" (.ref li) ∧ Exa Z h li "java/util/ImmutableCollections$ListN" ∧ Fld Z h li "java/util/ImmutableCollections$ListN" "elements" "[Ljava/lang/Object;" (.ref el) ∧ Exa Z h el "[Ljava/lang/Object;" ∧ Arv Z h el kL (.object "java/lang/Object") (3 : Int32) [(.ref r1), (.ref r2), (.ref r3)] .null
abbrev own_r_own_rmIN3 : Room := ({ frames := 10, cells := 5, slots := 72, locals := 128 } : Room)

set_option maxRecDepth 65536 in
set_option maxHeartbeats 40000000 in
theorem own_rmIN3 (l : Launch) (Z : State) (a0 : Array Value) (hw : ∀ d ∈ tables_1, d.before a0 Z = true) (ws : List Jvm.Cond) (x0 : Addr) (x1 : Addr) (ea : Addr) (kE : ClassId) (r1 : Addr) (r2 : Addr) (r3 : Addr) (kk1 : String) (kk2 : String) (kk3 : String) (mr : Addr) (aI : Addr) (h0 : Heap) (n0 : Nat) (Z0 : n0 ≤ h0.size) (Pi0 : n0 ≤ x0) (Pi1 : Exa Z h0 x0 "com/example/wee_table/weetable/model/GcRule$Intersection") (Pi2 : Fld Z h0 x0 "com/example/wee_table/weetable/model/GcRule$Intersection" "rules" "Ljava/util/List;" .null) (Pi3 : Exa Z h0 x1 "java/util/ArrayList") (Pi4 : Fld Z h0 x1 "java/util/ArrayList" "size" "I" (.int (3 : Int32))) (Pi5 : Fld Z h0 x1 "java/util/ArrayList" "elementData" "[Ljava/lang/Object;" (.ref ea)) (Pi6 : Exa Z h0 ea "[Ljava/lang/Object;") (Pi7 : Arv Z h0 ea kE (.object "java/lang/Object") (10 : Int32) [(.ref r1), (.ref r2), (.ref r3), .null, .null, .null, .null, .null, .null, .null] .null) (Pi8 : Exa Z h0 r1 kk1) (hco1 : (Cond.castable kk1 "java/lang/Object").before a0 Z = true) (Pi10 : Exa Z h0 r2 kk2) (hco2 : (Cond.castable kk2 "java/lang/Object").before a0 Z = true) (Pi12 : Exa Z h0 r3 kk3) (hco3 : (Cond.castable kk3 "java/lang/Object").before a0 Z = true) (Pi14 : Sta Z h0 "java/util/ImmutableCollections" "EMPTY" "Ljava/lang/Object;" (.ref aI)) (Mr : (Term.mirror "[Ljava/lang/Object;").eval #[] Z none [] Z = some (.ref mr)) :
    MetFree l own_n33 (head1 (Jvm.Cond.code own_n33 prog_13_method_1_code 2 none :: ws) own_r_own_rmIN3) (fun a U => a = #[(.ref x0), (.ref x1)] ∧ Z.Warmed39 U.vm ∧ U.heap = h0 ∧ CHv Z own_EL U.vm h0) (fun _ _ _ _ _ => True) (fun _ U o U' => ∃ v L, o = .returned v ∧ own_Q_own_rmIN3 Z x0 x1 ea kE r1 r2 r3 kk1 kk2 kk3 mr aI h0 n0 v U'.heap L ∧ CHr Z own_EL U.vm U.heap U'.vm U'.heap ∧ ReturnedEndW U o U' L own_r_own_rmIN3.cells own_r_own_rmIN3.slots) := by
  refine MetFree.of_bodySF (plainFor_of_name own_pn_13) hisR ?_
  intro p e s m args below meth c s₁ Bd hml0 hP hK
  obtain ⟨rfl, hZ, hh, hCH⟩ := hP
  have hx := Bd.exec
  have hby := Bd.bytes
  have hml : c.maxLocals = 2 := hml0
  have hown : s.vm.findClass "com/example/wee_table/weetable/model/GcRule$Intersection" = some m.cls := findClass_of_methodNamed Bd.named
  have hnm := (name_of_methodNamed Bd.named Bd.method).1
  have X0 : Stand p l e own_r_own_rmIN3 (s.setVm s.vm) m #[(.ref x0), (.ref x1)] below meth c s₁ [] 0 0 := Stand.of_body Bd
  have e0 : s₁.heap = h0 := by rw [← hh, Bd.state]; rfl
  have N0 := Fr.nil n0
  have hS0 : s.Since s.vm h0.size := (State.WarmedH.refl s).since _
  have own_wS' : ∀ a ∈ Bundle.stringAtoms, a.before a0 Z = true := own_wS hw
  have hEL := own_EW hw
  have R0 := CHr.refl hCH
  show Goes p.tables e below _ (own_RH Z below s (own_Q_own_rmIN3 Z x0 x1 ea kE r1 r2 r3 kk1 kk2 kk3 mr aI h0 n0) own_r_own_rmIN3.cells own_r_own_rmIN3.slots)
  refine Goes.to (fun t k => castTop (own_ef_own_rmIN3 m x0 x1) k) ?_
  refine gx (XS.aloadN X0.here hx rfl (hb hby d13_0) rfl rfl) ?_
  obtain ⟨_, _, ⟨T1, L1, k1, n1⟩, -, X1, ⟨Lc1, hQ1, l1, y1, z1⟩, st1⟩ := X0.specialBack hx (y := own_n4) rfl hown (mvT hZ (own_hw hw 83 rfl)) (mvT hZ (own_hw hw 42 rfl)) (mvT hZ (own_hw hw 45 rfl)) (by decide) (backOf (W := 0) (own_rm8 l Z a0 hw [] x0 h0 n0 Z0 ) hZ (own_hw hw 45 rfl) (own_hw hw 44 rfl) (by decide) (by decide)) (g := (mkF m 1 #[.val (.ref x0), .val (.ref x1)] [(.ref x0)])) rfl (by rw [hml]; rfl) (Steps.refl _) (a := x0) (argsL := []) (rest := []) (lenOf own_pd_pqV rfl) rfl (own_W rfl rfl) (hb hby d13_1) (fun _ _ => ⟨rfl, e0, (by decide : 0 + 0 ≤ _), (by decide : 0 + 0 ≤ _)⟩)
  dsimp only [Pt.U, Pt.locs, Pt.cells, Pt.slots] at X1 l1 y1 z1 st1 hQ1
  subst l1 y1 z1
  obtain ⟨hv1, Nq1, hp1_0⟩ := hQ1
  have N1 := Fr.app N0 Nq1
  subst hv1
  refine Goes.tr st1 ?_
  refine gx (XS.aloadN X1.here hx rfl (hb hby d13_4) rfl rfl) ?_
  obtain ⟨a2, T2, h2, kO2, X2, e2, E2, hS2, hk2, hZ2, hown2, Rr2, Lt2, st2⟩ := ldcOH (s := s) X1 hx hZ hown (own_hw hw 84 rfl) own_wS' hp1_0 hS0 (Nat.le_refl _) hEL R0.1 (g := (mkF m 5 #[.val (.ref x0), .val (.ref x1)] [(.ref x1)])) rfl (hb hby d13_5) (n := 60) (by decide) (by decide) (by decide) (by decide)
  subst e2
  have F3 := Pi1.ext E2
  have F4 := Pi2.ext E2
  have F5 := Pi3.ext E2
  have F6 := Pi4.ext E2
  have F7 := Pi5.ext E2
  have F8 := Pi6.ext E2
  have F9 := Pi7.ext E2
  have F10 := Pi8.ext E2
  have F11 := Pi10.ext E2
  have F12 := Pi12.ext E2
  have F13 := Pi14.ext E2
  have R2 := R0.trans Rr2
  have hZ := hZ2
  have hown := hown2
  have Z2 : n0 ≤ T2.heap.size := Nat.le_trans Z0 E2.1
  have K2 : Keep h0 T2.heap [x0] := (Keep.refl h0 [x0]).ext E2
  refine Goes.to st2 ?_
  obtain ⟨_, _, ⟨T14, L14, k14, n14⟩, -, X14, ⟨Lc14, hQ14, l14, y14, z14⟩, st14⟩ := Jvm.RoadKit.callSN X2 hx (y := own_n32) hown (own_mvM hZ (own_hw hw 92 rfl)) (mvT hZ (own_hw hw 93 rfl)) (mvT hZ (own_hw hw 94 rfl)) (mvT hZ (own_hw hw 95 rfl)) (by decide) (backOf (W := 0) (own_rmNE3 l Z a0 hw [] x1 a2 ea kE r1 r2 r3 kk1 kk2 kk3 mr aI T2.heap n0 Z2 F5 F6 F7 F8 F9 F10 hco1 F11 hco2 F12 hco3 F13 Mr) hZ (own_hw hw 95 rfl) (own_hw hw 94 rfl) (by decide) (by decide)) (g := (mkF m 7 #[.val (.ref x0), .val (.ref x1)] [(.ref a2), (.ref x1)])) rfl (by rw [hml]; rfl) (argsL := [(.ref x1), (.ref a2)]) (rest := []) (lenOf own_pd_pLjavalutillListsLjavallanglStringsqLjavalutillLists rfl) rfl (own_W rfl rfl) (hb hby d13_7) (fun _ _ => ⟨rfl, rfl, (by decide : 2 + 3 ≤ _), (by decide : 64 + 8 ≤ _)⟩)
  dsimp only [Pt.U, Pt.locs, Pt.cells, Pt.slots] at X14 l14 y14 z14 st14 hQ14
  subst l14 y14 z14
  obtain ⟨li_14, el_14, kL_14, hv14, Nq14, sq14_0, sq14_1, np14_0, Kq14, Qf14_0, Qf14_1, Qf14_2, Qf14_3⟩ := hQ14
  have N14 := Fr.app N1 Nq14
  have sz_li_14 : h0.size ≤ li_14 := Nat.le_trans K2.1 sq14_0
  have ne15 : x0 ≠ li_14 := Nat.ne_of_lt (Nat.lt_of_lt_of_le F3.lt sq14_0)
  have sz_el_14 : h0.size ≤ el_14 := Nat.le_trans K2.1 sq14_1
  have ne21 : x0 ≠ el_14 := Nat.ne_of_lt (Nat.lt_of_lt_of_le F3.lt sq14_1)
  have R27 := R2.trans (CHr.keep Kq14 sf0 R2.1)
  have hk28 := Nat.le_trans hk2 Kq14.1
  have F29 := F3.keep Kq14
  have F30 := F4.keep Kq14 nin0
  have Kc14 : Keep h0 T14.heap [x0] := K2.trans Kq14 all0
  subst hv14
  refine Goes.tr st14 ?_
  refine gx (XS.astoreN X14.here hx rfl (hb hby d13_10) rfl rfl (l' := #[.val (.ref x0), .val (.ref li_14)]) rfl) ?_
  refine gx (XS.aloadN X14.here hx rfl (hb hby d13_11) rfl rfl) ?_
  refine gx (XS.aloadN X14.here hx rfl (hb hby d13_12) rfl rfl) ?_
  obtain ⟨T40, h40, X40, e40, W40, st40⟩ := putF X14 hx hZ hown (host := "") (Or.inl (own_hw hw 187 rfl)) Via.refl rfl F30 F29 (Or.inr ⟨(own_hw hw 188 rfl), rfl, hnm⟩) (own_hw hw 78 rfl) (ty := (.object "java/util/List")) (by decide) rfl rfl (g := (mkF m 13 #[.val (.ref x0), .val (.ref li_14)] [(.ref li_14), (.ref x0)])) rfl rfl (hb hby d13_13)
  subst e40
  have R41 := R27.trans (CHr.wr W40 own_sf0 R27.1)
  have hk42 := Nat.le_trans hk28 (Nat.le_of_eq W40.size.symm)
  have F43 := F29.wr W40
  have F54 := Qf14_0.wr W40
  have F55 := Qf14_1.other W40 (Or.inl (Ne.symm ne15))
  have F56 := Qf14_2.wr W40
  have F57 := Qf14_3.other W40 (Ne.symm ne21)
  have N40 := Fr.snoc X40 N14 Pi0
  have K40 : Keep h0 T40.heap [x0] := Kc14.wr W40 (Or.inl (List.mem_of_getElem? (i := 0) rfl))
  have F58 : Fld Z T40.heap x0 "com/example/wee_table/weetable/model/GcRule$Intersection" "rules" "Ljava/util/List;" (.ref li_14) := F30.same W40
  refine Goes.to st40 ?_
  show Goes p.tables e below (T40.setTop (mkF m 16 #[.val (.ref x0), .val (.ref li_14)] [])) _
  have hkl := Nat.le_trans hk42 (Nat.le_refl T40.heap.size)
  obtain ⟨fs, hr, hrun, hended, hEnd⟩ := X40.leaveW (s := s) hS2 hkl (v := none) (fun _ => rfl)
  have hRl : CHr Z own_EL s.vm s.heap T40.vm T40.heap := by
    rw [hh]
    exact R41.trans (CHv.at (s := s) X40 hZ hEL R41.1)
  exact ⟨_, _, X40.returnOut hx Bd.returns (hb hby d13_16) hr, hrun, hended, _, _, rfl, ⟨li_14, el_14, kL_14, rfl, N40, sz_li_14, sz_el_14, np14_0, (by show Keep h0 T40.heap [x0]; exact K40), (by show Exa Z T40.heap x0 "com/example/wee_table/weetable/model/GcRule$Intersection"; exact F43), (by show Fld Z T40.heap x0 "com/example/wee_table/weetable/model/GcRule$Intersection" "rules" "Ljava/util/List;" (.ref li_14); exact F58), (by show Exa Z T40.heap li_14 "java/util/ImmutableCollections$ListN"; exact F54), (by show Fld Z T40.heap li_14 "java/util/ImmutableCollections$ListN" "elements" "[Ljava/lang/Object;" (.ref el_14); exact F55), (by show Exa Z T40.heap el_14 "[Ljava/lang/Object;"; exact F56), (by show Arv Z T40.heap el_14 kL_14 (.object "java/lang/Object") (3 : Int32) [(.ref r1), (.ref r2), (.ref r3)] .null; exact F57)⟩, hRl, hEnd.1, hEnd.2.1, hEnd.2.2.1, hEnd.2.2.2.mono (by decide) (by decide)⟩

theorem d30_0 : decode jdk_53_method_1_code 0 = .ok (.aload_n 0, 1) := by decide +kernel
theorem d30_1 : decode jdk_53_method_1_code 1 = .ok (.invokespecial 1, 3) := by decide +kernel
theorem d30_4 : decode jdk_53_method_1_code 4 = .ok (.aload_n 0, 1) := by decide +kernel
theorem d30_5 : decode jdk_53_method_1_code 5 = .ok (.aload_n 1, 1) := by decide +kernel
theorem d30_6 : decode jdk_53_method_1_code 6 = .ok (.putfield 7, 3) := by decide +kernel
theorem d30_9 : decode jdk_53_method_1_code 9 = .ok (.aload_n 0, 1) := by decide +kernel
theorem d30_10 : decode jdk_53_method_1_code 10 = .ok (.iload_n 2, 1) := by decide +kernel
theorem d30_11 : decode jdk_53_method_1_code 11 = .ok (.putfield 13, 3) := by decide +kernel
theorem d30_14 : decode jdk_53_method_1_code 14 = .ok (.aload_n 0, 1) := by decide +kernel
theorem d30_15 : decode jdk_53_method_1_code 15 = .ok (.iconst 0, 1) := by decide +kernel
theorem d30_16 : decode jdk_53_method_1_code 16 = .ok (.putfield 17, 3) := by decide +kernel
theorem d30_19 : decode jdk_53_method_1_code 19 = .ok (.aload_n 0, 1) := by decide +kernel
theorem d30_20 : decode jdk_53_method_1_code 20 = .ok (.iconst 0, 1) := by decide +kernel
theorem d30_21 : decode jdk_53_method_1_code 21 = .ok (.putfield 20, 3) := by decide +kernel
theorem d30_24 : decode jdk_53_method_1_code 24 = .ok (.return_, 1) := by decide +kernel
theorem own_pn_30 : plainName "java/util/ImmutableCollections$ListItr" = true := by first | (simp [plainName, overriddenIn]; done) | decide +kernel
theorem own_ef_own_rm30 (m : MethodId) (x0 : Addr) (x1 : Addr) (x2 : Int32) : entryFrame m #[(.ref x0), (.ref x1), (.int x2)] 3 = mkF m 0 #[.val (.ref x0), .val (.ref x1), .val (.int x2)] [] := by first | (simp [entryFrame, mkF, argsToLocals, Value.category]; done) | rfl
def own_Q_own_rm30 (Z : State) (x0 : Addr) (x1 : Addr) (x2 : Int32)  (h0 : Heap) (n0 : Nat) (v : Option Value) (h : Heap) (L : List Loc) : Prop := v = none ∧ Fr n0 L ∧ Keep h0 h [x0] ∧ Exa Z h x0 "java/util/ImmutableCollections$ListItr" ∧ Fld Z h x0 "java/util/ImmutableCollections$ListItr" "list" "Ljava/util/List;" (.ref x1) ∧ Fld Z h x0 "java/util/ImmutableCollections$ListItr" "size" "I" (.int x2) ∧ Fld Z h x0 "java/util/ImmutableCollections$ListItr" "cursor" "I" (.int (0 : Int32))
abbrev own_r_own_rm30 : Room := ({ frames := 1, cells := 0, slots := 0, locals := 12 } : Room)

set_option maxRecDepth 65536 in
set_option maxHeartbeats 40000000 in
theorem own_rm30 (l : Launch) (Z : State) (a0 : Array Value) (hw : ∀ d ∈ tables_1, d.before a0 Z = true) (ws : List Jvm.Cond) (x0 : Addr) (x1 : Addr) (x2 : Int32)  (h0 : Heap) (n0 : Nat) (Z0 : n0 ≤ h0.size) (Pi0 : n0 ≤ x0) (Pi1 : Exa Z h0 x0 "java/util/ImmutableCollections$ListItr") (Pi2 : Fld Z h0 x0 "java/util/ImmutableCollections$ListItr" "list" "Ljava/util/List;" .null) (Pi3 : Fld Z h0 x0 "java/util/ImmutableCollections$ListItr" "size" "I" (.int (0 : Int32))) (Pi4 : Fld Z h0 x0 "java/util/ImmutableCollections$ListItr" "cursor" "I" (.int (0 : Int32))) (Pi5 : Fld Z h0 x0 "java/util/ImmutableCollections$ListItr" "isListIterator" "Z" (.int (0 : Int32))) :
    MetFree l own_n34 (head1 (Jvm.Cond.code own_n34 jdk_53_method_1_code 3 none :: ws) own_r_own_rm30) (fun a U => a = #[(.ref x0), (.ref x1), (.int x2)] ∧ Z.Warmed39 U.vm ∧ U.heap = h0) (fun _ _ _ _ _ => True) (fun _ U o U' => ∃ v L, o = .returned v ∧ own_Q_own_rm30 Z x0 x1 x2 h0 n0 v U'.heap L ∧ FrameEnd U o U' L own_r_own_rm30.cells own_r_own_rm30.slots) := by
  refine MetFree.of_bodySF (plainFor_of_name own_pn_30) hisR ?_
  intro p e s m args below meth c s₁ Bd hml0 hP hK
  obtain ⟨rfl, hZ, hh⟩ := hP
  have hx := Bd.exec
  have hby := Bd.bytes
  have hml : c.maxLocals = 3 := hml0
  have hown : s.vm.findClass "java/util/ImmutableCollections$ListItr" = some m.cls := findClass_of_methodNamed Bd.named
  have hnm := (name_of_methodNamed Bd.named Bd.method).1
  have X0 : Stand p l e own_r_own_rm30 s m #[(.ref x0), (.ref x1), (.int x2)] below meth c s₁ [] 0 0 := Stand.of_body Bd
  have e0 : s₁.heap = h0 := by rw [← hh, Bd.state]; rfl
  have N0 := Fr.nil n0
  show Goes p.tables e below _ (own_R below s (own_Q_own_rm30 Z x0 x1 x2 h0 n0) own_r_own_rm30.cells own_r_own_rm30.slots)
  refine Goes.to (fun t k => castTop (own_ef_own_rm30 m x0 x1 x2) k) ?_
  refine gx (XS.aloadN X0.here hx rfl (hb hby d30_0) rfl rfl) ?_
  obtain ⟨T1, X1, e1, st1⟩ := initO X0 hx hZ hown (own_hw hw 216 rfl) (own_hw hw 24 rfl) (own_hw hw 25 rfl) e0 (g := (mkF m 1 #[.val (.ref x0), .val (.ref x1), .val (.int x2)] [(.ref x0)])) rfl (by rw [hml]; rfl) rfl (hb hby d30_1) (by decide) (W := 0) (own_W rfl rfl) (by decide)
  refine Goes.to st1 ?_
  refine gx (XS.aloadN X1.here hx rfl (hb hby d30_4) rfl rfl) ?_
  refine gx (XS.aloadN X1.here hx rfl (hb hby d30_5) rfl rfl) ?_
  obtain ⟨T2, h2, X2, e2, W2, st2⟩ := putF X1 hx hZ hown (host := "") (Or.inl (own_hw hw 217 rfl)) Via.refl e1 Pi2 Pi1 (Or.inr ⟨(own_hw hw 218 rfl), rfl, hnm⟩) (own_hw hw 204 rfl) (ty := (.object "java/util/List")) (by decide) rfl rfl (g := (mkF m 6 #[.val (.ref x0), .val (.ref x1), .val (.int x2)] [(.ref x1), (.ref x0)])) rfl rfl (hb hby d30_6)
  subst e2
  have F3 := Pi1.wr W2
  have F5 := Pi3.other W2 (Or.inr (slot_ne (Or.inr (own_hw hw 220 rfl)) (Or.inr (own_hw hw 218 rfl)) (by decide) (t := .int) (t' := (.object "java/util/List")) (by decide) (by decide)))
  have F6 := Pi4.other W2 (Or.inr (slot_ne (Or.inl (own_hw hw 222 rfl)) (Or.inr (own_hw hw 218 rfl)) (by decide) (t := .int) (t' := (.object "java/util/List")) (by decide) (by decide)))
  have F7 := Pi5.other W2 (Or.inr (slot_ne (Or.inr (own_hw hw 224 rfl)) (Or.inr (own_hw hw 218 rfl)) (by decide) (t := .boolean) (t' := (.object "java/util/List")) (by decide) (by decide)))
  have N2 := Fr.snoc X2 N0 Pi0
  have K2 : Keep h0 T2.heap [x0] := (Keep.refl h0 [x0]).wr W2 (Or.inl (List.mem_of_getElem? (i := 0) rfl))
  have F8 : Fld Z T2.heap x0 "java/util/ImmutableCollections$ListItr" "list" "Ljava/util/List;" (.ref x1) := Pi2.same W2
  refine Goes.to st2 ?_
  refine gx (XS.aloadN X2.here hx rfl (hb hby d30_9) rfl rfl) ?_
  refine gx (XS.iloadN X2.here hx rfl (hb hby d30_10) rfl) ?_
  obtain ⟨T9, h9, X9, e9, W9, st9⟩ := putF X2 hx hZ hown (host := "") (Or.inl (own_hw hw 219 rfl)) Via.refl rfl F5 F3 (Or.inr ⟨(own_hw hw 220 rfl), rfl, hnm⟩) (own_hw hw 204 rfl) (ty := .int) (by decide) rfl rfl (g := (mkF m 11 #[.val (.ref x0), .val (.ref x1), .val (.int x2)] [(.int x2), (.ref x0)])) rfl rfl (hb hby d30_11)
  subst e9
  have F10 := F3.wr W9
  have F11 := F8.other W9 (Or.inr (slot_ne (Or.inr (own_hw hw 218 rfl)) (Or.inr (own_hw hw 220 rfl)) (by decide) (t := (.object "java/util/List")) (t' := .int) (by decide) (by decide)))
  have F13 := F6.other W9 (Or.inr (slot_ne (Or.inl (own_hw hw 222 rfl)) (Or.inr (own_hw hw 220 rfl)) (by decide) (t := .int) (t' := .int) (by decide) (by decide)))
  have F14 := F7.other W9 (Or.inr (slot_ne (Or.inr (own_hw hw 224 rfl)) (Or.inr (own_hw hw 220 rfl)) (by decide) (t := .boolean) (t' := .int) (by decide) (by decide)))
  have N9 := Fr.snoc X9 N2 Pi0
  have K9 : Keep h0 T9.heap [x0] := K2.wr W9 (Or.inl (List.mem_of_getElem? (i := 0) rfl))
  have F15 : Fld Z T9.heap x0 "java/util/ImmutableCollections$ListItr" "size" "I" (.int x2) := F5.same W9
  refine Goes.to st9 ?_
  refine gx (XS.aloadN X9.here hx rfl (hb hby d30_14) rfl rfl) ?_
  refine gx (XS.iconst X9.here hx rfl (hb hby d30_15)) ?_
  obtain ⟨T16, h16, X16, e16, W16, st16⟩ := putF X9 hx hZ hown (host := "") (Or.inl (own_hw hw 221 rfl)) Via.refl rfl F13 F10 (Or.inl (own_hw hw 222 rfl)) (own_hw hw 204 rfl) (ty := .int) (by decide) rfl rfl (g := (mkF m 16 #[.val (.ref x0), .val (.ref x1), .val (.int x2)] [(.int (0 : Int32)), (.ref x0)])) rfl rfl (hb hby d30_16)
  subst e16
  have F17 := F10.wr W16
  have F18 := F11.other W16 (Or.inr (slot_ne (Or.inr (own_hw hw 218 rfl)) (Or.inl (own_hw hw 222 rfl)) (by decide) (t := (.object "java/util/List")) (t' := .int) (by decide) (by decide)))
  have F19 := F15.other W16 (Or.inr (slot_ne (Or.inr (own_hw hw 220 rfl)) (Or.inl (own_hw hw 222 rfl)) (by decide) (t := .int) (t' := .int) (by decide) (by decide)))
  have F21 := F14.other W16 (Or.inr (slot_ne (Or.inr (own_hw hw 224 rfl)) (Or.inl (own_hw hw 222 rfl)) (by decide) (t := .boolean) (t' := .int) (by decide) (by decide)))
  have N16 := Fr.snoc X16 N9 Pi0
  have K16 : Keep h0 T16.heap [x0] := K9.wr W16 (Or.inl (List.mem_of_getElem? (i := 0) rfl))
  have F22 : Fld Z T16.heap x0 "java/util/ImmutableCollections$ListItr" "cursor" "I" (.int (0 : Int32)) := F13.same W16
  refine Goes.to st16 ?_
  refine gx (XS.aloadN X16.here hx rfl (hb hby d30_19) rfl rfl) ?_
  refine gx (XS.iconst X16.here hx rfl (hb hby d30_20)) ?_
  obtain ⟨T23, h23, X23, e23, W23, st23⟩ := putFN X16 hx hZ hown (own_hw hw 223 rfl) Via.refl rfl F21 F17 (Or.inr ⟨(own_hw hw 224 rfl), rfl, hnm⟩) (own_hw hw 204 rfl) (ty := .boolean) (v' := (.int (nar .boolean (0 : Int32)))) (by decide) rfl (fits_nar_bool _) (g := (mkF m 21 #[.val (.ref x0), .val (.ref x1), .val (.int x2)] [(.int (0 : Int32)), (.ref x0)])) rfl rfl (hb hby d30_21)
  subst e23
  have F24 := F17.wr W23
  have F25 := F18.other W23 (Or.inr (slot_ne (Or.inr (own_hw hw 218 rfl)) (Or.inr (own_hw hw 224 rfl)) (by decide) (t := (.object "java/util/List")) (t' := .boolean) (by decide) (by decide)))
  have F26 := F19.other W23 (Or.inr (slot_ne (Or.inr (own_hw hw 220 rfl)) (Or.inr (own_hw hw 224 rfl)) (by decide) (t := .int) (t' := .boolean) (by decide) (by decide)))
  have F27 := F22.other W23 (Or.inr (slot_ne (Or.inl (own_hw hw 222 rfl)) (Or.inr (own_hw hw 224 rfl)) (by decide) (t := .int) (t' := .boolean) (by decide) (by decide)))
  have N23 := Fr.snoc X23 N16 Pi0
  have K23 : Keep h0 T23.heap [x0] := K16.wr W23 (Or.inl (List.mem_of_getElem? (i := 0) rfl))
  refine Goes.to st23 ?_
  show Goes p.tables e below (T23.setTop (mkF m 24 #[.val (.ref x0), .val (.ref x1), .val (.int x2)] [])) _
  obtain ⟨fs, hr, hrun, hended, hW, hsame⟩ := X23.leave (v := none) (fun _ => rfl)
  exact ⟨_, _, X23.returnOut hx Bd.returns (hb hby d30_24) hr, hrun, hended, _, _, rfl, ⟨rfl, N23, (by show Keep h0 T23.heap [x0]; exact K23), (by show Exa Z T23.heap x0 "java/util/ImmutableCollections$ListItr"; exact F24), (by show Fld Z T23.heap x0 "java/util/ImmutableCollections$ListItr" "list" "Ljava/util/List;" (.ref x1); exact F25), (by show Fld Z T23.heap x0 "java/util/ImmutableCollections$ListItr" "size" "I" (.int x2); exact F26), (by show Fld Z T23.heap x0 "java/util/ImmutableCollections$ListItr" "cursor" "I" (.int (0 : Int32)); exact F27)⟩, ⟨_, rfl⟩, hW, hsame.mono (by decide) (by decide)⟩

theorem d31_0 : decode jdk_53_method_3_code 0 = .ok (.aload_n 0, 1) := by decide +kernel
theorem d31_1 : decode jdk_53_method_3_code 1 = .ok (.getfield 17, 3) := by decide +kernel
theorem d31_4 : decode jdk_53_method_3_code 4 = .ok (.aload_n 0, 1) := by decide +kernel
theorem d31_5 : decode jdk_53_method_3_code 5 = .ok (.getfield 13, 3) := by decide +kernel
theorem d31_8 : decode jdk_53_method_3_code 8 = .ok (.if_icmp .eq 7, 3) := by decide +kernel
theorem d31_11 : decode jdk_53_method_3_code 11 = .ok (.iconst 1, 1) := by decide +kernel
theorem d31_12 : decode jdk_53_method_3_code 12 = .ok (.goto 4, 3) := by decide +kernel
theorem d31_15 : decode jdk_53_method_3_code 15 = .ok (.iconst 0, 1) := by decide +kernel
theorem d31_16 : decode jdk_53_method_3_code 16 = .ok (.ireturn, 1) := by decide +kernel
theorem own_pn_31 : plainName "java/util/ImmutableCollections$ListItr" = true := by first | (simp [plainName, overriddenIn]; done) | decide +kernel
theorem own_ef_own_rm31 (m : MethodId) (x0 : Addr) : entryFrame m #[(.ref x0)] 1 = mkF m 0 #[.val (.ref x0)] [] := by first | (simp [entryFrame, mkF, argsToLocals, Value.category]; done) | rfl
def own_Q_own_rm31 (Z : State) (x0 : Addr) (cu : Int32) (sz : Int32) (h0 : Heap) (n0 : Nat) (v : Option Value) (h : Heap) (L : List Loc) : Prop := v = some (.int (if cu = sz then (0 : Int32) else (1 : Int32))) ∧ Fr n0 L ∧ h = h0
abbrev own_r_own_rm31 : Room := ({ frames := 0, cells := 0, slots := 0, locals := 0 } : Room)

set_option maxRecDepth 65536 in
set_option maxHeartbeats 40000000 in
theorem own_rm31 (l : Launch) (Z : State) (a0 : Array Value) (hw : ∀ d ∈ tables_1, d.before a0 Z = true) (ws : List Jvm.Cond) (x0 : Addr) (cu : Int32) (sz : Int32) (h0 : Heap) (n0 : Nat) (Z0 : n0 ≤ h0.size) (Pi0 : Fld Z h0 x0 "java/util/ImmutableCollections$ListItr" "cursor" "I" (.int cu)) (Pi1 : Fld Z h0 x0 "java/util/ImmutableCollections$ListItr" "size" "I" (.int sz)) :
    MetFree l own_n35 (head1 (Jvm.Cond.code own_n35 jdk_53_method_3_code 1 (some .boolean) :: ws) own_r_own_rm31) (fun a U => a = #[(.ref x0)] ∧ Z.Warmed39 U.vm ∧ U.heap = h0) (fun _ _ _ _ _ => True) (fun _ U o U' => ∃ v L, o = .returned v ∧ own_Q_own_rm31 Z x0 cu sz h0 n0 v U'.heap L ∧ FrameEnd U o U' L own_r_own_rm31.cells own_r_own_rm31.slots) := by
  refine MetFree.of_bodySF (plainFor_of_name own_pn_31) hisR ?_
  intro p e s m args below meth c s₁ Bd hml0 hP hK
  obtain ⟨rfl, hZ, hh⟩ := hP
  have hx := Bd.exec
  have hby := Bd.bytes
  have hml : c.maxLocals = 1 := hml0
  have hown : s.vm.findClass "java/util/ImmutableCollections$ListItr" = some m.cls := findClass_of_methodNamed Bd.named
  have hnm := (name_of_methodNamed Bd.named Bd.method).1
  have X0 : Stand p l e own_r_own_rm31 s m #[(.ref x0)] below meth c s₁ [] 0 0 := Stand.of_body Bd
  have e0 : s₁.heap = h0 := by rw [← hh, Bd.state]; rfl
  have N0 := Fr.nil n0
  show Goes p.tables e below _ (own_R below s (own_Q_own_rm31 Z x0 cu sz h0 n0) own_r_own_rm31.cells own_r_own_rm31.slots)
  refine Goes.to (fun t k => castTop (own_ef_own_rm31 m x0) k) ?_
  refine gx (XS.aloadN X0.here hx rfl (hb hby d31_0) rfl rfl) ?_
  obtain ⟨T1, X1, e1, st1⟩ := getF X0 hx hZ hown (host := "") (Or.inl (own_hw hw 221 rfl)) Via.refl e0 Pi0 (g := (mkF m 1 #[.val (.ref x0)] [(.ref x0)])) rfl rfl (hb hby d31_1)
  refine Goes.to st1 ?_
  refine gx (XS.aloadN X1.here hx rfl (hb hby d31_4) rfl rfl) ?_
  obtain ⟨T2, X2, e2, st2⟩ := getF X1 hx hZ hown (host := "") (Or.inl (own_hw hw 219 rfl)) Via.refl e1 Pi1 (g := (mkF m 5 #[.val (.ref x0)] [(.ref x0), (.int cu)])) rfl rfl (hb hby d31_5)
  refine Goes.to st2 ?_
  by_cases hc3 : cu = sz
  · refine gx (XS.icmpYes X2.here hx rfl (pc0 := 8) (pc' := 15) rfl (hb hby d31_8) rfl (teq hc3).1 (by decide) (by decide)) ?_
    refine gx (XS.iconst X2.here hx rfl (hb hby d31_15)) ?_
    show Goes p.tables e below (T2.setTop (mkF m 16 #[.val (.ref x0)] [(.int (0 : Int32))])) _
    obtain ⟨fs, hr, hrun, hended, hW, hsame⟩ := X2.leave (v := some (.int (0 : Int32))) (fun h => by rw [Bd.returns] at h; cases h)
    have hv : (some (.int (0 : Int32)) : Option Value) = some (.int (if cu = sz then (0 : Int32) else (1 : Int32))) := by
      rw [if_pos hc3]
    exact ⟨_, _, retN X2 hx (t := .boolean) Bd.returns (by simp) (hb hby d31_16) hr, hrun, hended, _, _, rfl, ⟨hv, N0, e2⟩, ⟨_, rfl⟩, hW, hsame.mono (by decide) (by decide)⟩
  · refine gx (XS.icmpNo X2.here hx rfl (hb hby d31_8) rfl (feq hc3).1) ?_
    refine gx (XS.iconst X2.here hx rfl (hb hby d31_11)) ?_
    refine gx (XS.goto X2.here hx rfl (pc0 := 12) (pc' := 16) rfl (hb hby d31_12) (by decide) (by decide)) ?_
    show Goes p.tables e below (T2.setTop (mkF m 16 #[.val (.ref x0)] [(.int (1 : Int32))])) _
    obtain ⟨fs, hr, hrun, hended, hW, hsame⟩ := X2.leave (v := some (.int (1 : Int32))) (fun h => by rw [Bd.returns] at h; cases h)
    have hv : (some (.int (1 : Int32)) : Option Value) = some (.int (if cu = sz then (0 : Int32) else (1 : Int32))) := by
      rw [if_neg hc3]
    exact ⟨_, _, retN X2 hx (t := .boolean) Bd.returns (by simp) (hb hby d31_16) hr, hrun, hended, _, _, rfl, ⟨hv, N0, e2⟩, ⟨_, rfl⟩, hW, hsame.mono (by decide) (by decide)⟩

theorem d29_0 : decode jdk_44_method_3_code 0 = .ok (.aload_n 0, 1) := by decide +kernel
theorem d29_1 : decode jdk_44_method_3_code 1 = .ok (.getfield 24, 3) := by decide +kernel
theorem d29_4 : decode jdk_44_method_3_code 4 = .ok (.getstatic 19, 3) := by decide +kernel
theorem d29_7 : decode jdk_44_method_3_code 7 = .ok (.if_acmp .eq 7, 3) := by decide +kernel
theorem d29_14 : decode jdk_44_method_3_code 14 = .ok (.iconst 1, 1) := by decide +kernel
theorem d29_15 : decode jdk_44_method_3_code 15 = .ok (.ireturn, 1) := by decide +kernel
theorem own_pn_29 : plainName "java/util/ImmutableCollections$List12" = true := by first | (simp [plainName, overriddenIn]; done) | decide +kernel
theorem own_ef_own_rmS1 (m : MethodId) (x0 : Addr) : entryFrame m #[(.ref x0)] 1 = mkF m 0 #[.val (.ref x0)] [] := by first | (simp [entryFrame, mkF, argsToLocals, Value.category]; done) | rfl
def own_Q_own_rmS1 (Z : State) (x0 : Addr) (aI : Addr) (h0 : Heap) (n0 : Nat) (v : Option Value) (h : Heap) (L : List Loc) : Prop := v = some (.int (1 : Int32)) ∧ Fr n0 L ∧ h = h0
abbrev own_r_own_rmS1 : Room := ({ frames := 0, cells := 0, slots := 0, locals := 0 } : Room)

set_option maxRecDepth 65536 in
set_option maxHeartbeats 40000000 in
theorem own_rmS1 (l : Launch) (Z : State) (a0 : Array Value) (hw : ∀ d ∈ tables_1, d.before a0 Z = true) (ws : List Jvm.Cond) (x0 : Addr) (aI : Addr) (h0 : Heap) (n0 : Nat) (Z0 : n0 ≤ h0.size) (Pi0 : Fld Z h0 x0 "java/util/ImmutableCollections$List12" "e1" "Ljava/lang/Object;" (.ref aI)) (Pi1 : Sta Z h0 "java/util/ImmutableCollections" "EMPTY" "Ljava/lang/Object;" (.ref aI)) :
    MetFree l own_n36 (head1 (Jvm.Cond.code own_n36 jdk_44_method_3_code 1 (some .int) :: ws) own_r_own_rmS1) (fun a U => a = #[(.ref x0)] ∧ Z.Warmed39 U.vm ∧ U.heap = h0) (fun _ _ _ _ _ => True) (fun _ U o U' => ∃ v L, o = .returned v ∧ own_Q_own_rmS1 Z x0 aI h0 n0 v U'.heap L ∧ FrameEnd U o U' L own_r_own_rmS1.cells own_r_own_rmS1.slots) := by
  refine MetFree.of_bodySF (plainFor_of_name own_pn_29) hisR ?_
  intro p e s m args below meth c s₁ Bd hml0 hP hK
  obtain ⟨rfl, hZ, hh⟩ := hP
  have hx := Bd.exec
  have hby := Bd.bytes
  have hml : c.maxLocals = 1 := hml0
  have hown : s.vm.findClass "java/util/ImmutableCollections$List12" = some m.cls := findClass_of_methodNamed Bd.named
  have hnm := (name_of_methodNamed Bd.named Bd.method).1
  have X0 : Stand p l e own_r_own_rmS1 s m #[(.ref x0)] below meth c s₁ [] 0 0 := Stand.of_body Bd
  have e0 : s₁.heap = h0 := by rw [← hh, Bd.state]; rfl
  have N0 := Fr.nil n0
  show Goes p.tables e below _ (own_R below s (own_Q_own_rmS1 Z x0 aI h0 n0) own_r_own_rmS1.cells own_r_own_rmS1.slots)
  refine Goes.to (fun t k => castTop (own_ef_own_rmS1 m x0) k) ?_
  refine gx (XS.aloadN X0.here hx rfl (hb hby d29_0) rfl rfl) ?_
  obtain ⟨T1, X1, e1, st1⟩ := getF X0 hx hZ hown (host := "") (Or.inl (own_hw hw 185 rfl)) Via.refl e0 Pi0 (g := (mkF m 1 #[.val (.ref x0)] [(.ref x0)])) rfl rfl (hb hby d29_1)
  refine Goes.to st1 ?_
  obtain ⟨T2, X2, e2, st2⟩ := getS2 X1 hx hZ hown (Or.inr (own_hw hw 184 rfl)) Via.refl e1 Pi1 (g := (mkF m 4 #[.val (.ref x0)] [(.ref aI)])) rfl (hb hby d29_4)
  refine Goes.to st2 ?_
  refine gx (Jvm.RoadKit.acmp (g := (mkF m 7 #[.val (.ref x0)] [(.ref aI), (.ref aI)])) X2 hx rfl rfl rfl (pc0 := 7) (pc' := 14) (same := true) rfl (hb hby d29_7) rfl (decide_eq_true rfl) (by decide) (by decide)) ?_
  refine gx (XS.iconst X2.here hx rfl (hb hby d29_14)) ?_
  show Goes p.tables e below (T2.setTop (mkF m 15 #[.val (.ref x0)] [(.int (1 : Int32))])) _
  obtain ⟨fs, hr, hrun, hended, hW, hsame⟩ := X2.leave (v := some (.int (1 : Int32))) (fun h => by rw [Bd.returns] at h; cases h)
  have hv : (some (.int (1 : Int32)) : Option Value) = some (.int (1 : Int32)) := by
    rfl
  exact ⟨_, _, retI X2 hx Bd.returns (hb hby d29_15) hr, hrun, hended, _, _, rfl, ⟨hv, N0, e2⟩, ⟨_, rfl⟩, hW, hsame.mono (by decide) (by decide)⟩

theorem d29_10 : decode jdk_44_method_3_code 10 = .ok (.iconst 2, 1) := by decide +kernel
theorem d29_11 : decode jdk_44_method_3_code 11 = .ok (.goto 4, 3) := by decide +kernel
theorem own_ef_own_rmS2 (m : MethodId) (x0 : Addr) : entryFrame m #[(.ref x0)] 1 = mkF m 0 #[.val (.ref x0)] [] := by first | (simp [entryFrame, mkF, argsToLocals, Value.category]; done) | rfl
def own_Q_own_rmS2 (Z : State) (x0 : Addr) (r2 : Addr) (aI : Addr) (h0 : Heap) (n0 : Nat) (v : Option Value) (h : Heap) (L : List Loc) : Prop := v = some (.int (2 : Int32)) ∧ Fr n0 L ∧ h = h0
abbrev own_r_own_rmS2 : Room := ({ frames := 0, cells := 0, slots := 0, locals := 0 } : Room)

set_option maxRecDepth 65536 in
set_option maxHeartbeats 40000000 in
theorem own_rmS2 (l : Launch) (Z : State) (a0 : Array Value) (hw : ∀ d ∈ tables_1, d.before a0 Z = true) (ws : List Jvm.Cond) (x0 : Addr) (r2 : Addr) (aI : Addr) (h0 : Heap) (n0 : Nat) (Z0 : n0 ≤ h0.size) (Pi0 : Fld Z h0 x0 "java/util/ImmutableCollections$List12" "e1" "Ljava/lang/Object;" (.ref r2)) (Pi1 : Sta Z h0 "java/util/ImmutableCollections" "EMPTY" "Ljava/lang/Object;" (.ref aI)) (Pi2 : r2 ≠ aI) :
    MetFree l own_n36 (head1 (Jvm.Cond.code own_n36 jdk_44_method_3_code 1 (some .int) :: ws) own_r_own_rmS2) (fun a U => a = #[(.ref x0)] ∧ Z.Warmed39 U.vm ∧ U.heap = h0) (fun _ _ _ _ _ => True) (fun _ U o U' => ∃ v L, o = .returned v ∧ own_Q_own_rmS2 Z x0 r2 aI h0 n0 v U'.heap L ∧ FrameEnd U o U' L own_r_own_rmS2.cells own_r_own_rmS2.slots) := by
  refine MetFree.of_bodySF (plainFor_of_name own_pn_29) hisR ?_
  intro p e s m args below meth c s₁ Bd hml0 hP hK
  obtain ⟨rfl, hZ, hh⟩ := hP
  have hx := Bd.exec
  have hby := Bd.bytes
  have hml : c.maxLocals = 1 := hml0
  have hown : s.vm.findClass "java/util/ImmutableCollections$List12" = some m.cls := findClass_of_methodNamed Bd.named
  have hnm := (name_of_methodNamed Bd.named Bd.method).1
  have X0 : Stand p l e own_r_own_rmS2 s m #[(.ref x0)] below meth c s₁ [] 0 0 := Stand.of_body Bd
  have e0 : s₁.heap = h0 := by rw [← hh, Bd.state]; rfl
  have N0 := Fr.nil n0
  show Goes p.tables e below _ (own_R below s (own_Q_own_rmS2 Z x0 r2 aI h0 n0) own_r_own_rmS2.cells own_r_own_rmS2.slots)
  refine Goes.to (fun t k => castTop (own_ef_own_rmS2 m x0) k) ?_
  refine gx (XS.aloadN X0.here hx rfl (hb hby d29_0) rfl rfl) ?_
  obtain ⟨T1, X1, e1, st1⟩ := getF X0 hx hZ hown (host := "") (Or.inl (own_hw hw 185 rfl)) Via.refl e0 Pi0 (g := (mkF m 1 #[.val (.ref x0)] [(.ref x0)])) rfl rfl (hb hby d29_1)
  refine Goes.to st1 ?_
  obtain ⟨T2, X2, e2, st2⟩ := getS2 X1 hx hZ hown (Or.inr (own_hw hw 184 rfl)) Via.refl e1 Pi1 (g := (mkF m 4 #[.val (.ref x0)] [(.ref r2)])) rfl (hb hby d29_4)
  refine Goes.to st2 ?_
  refine gx (Jvm.RoadKit.acmp (g := (mkF m 7 #[.val (.ref x0)] [(.ref aI), (.ref r2)])) X2 hx rfl rfl rfl (pc0 := 7) (pc' := 10) (same := false) rfl (hb hby d29_7) rfl (decide_eq_false fun q => Pi2 (Value.ref.inj q)) (by decide) (by decide)) ?_
  refine gx (XS.iconst X2.here hx rfl (hb hby d29_10)) ?_
  refine gx (XS.goto X2.here hx rfl (pc0 := 11) (pc' := 15) rfl (hb hby d29_11) (by decide) (by decide)) ?_
  show Goes p.tables e below (T2.setTop (mkF m 15 #[.val (.ref x0)] [(.int (2 : Int32))])) _
  obtain ⟨fs, hr, hrun, hended, hW, hsame⟩ := X2.leave (v := some (.int (2 : Int32))) (fun h => by rw [Bd.returns] at h; cases h)
  have hv : (some (.int (2 : Int32)) : Option Value) = some (.int (2 : Int32)) := by
    rfl
  exact ⟨_, _, retI X2 hx Bd.returns (hb hby d29_15) hr, hrun, hended, _, _, rfl, ⟨hv, N0, e2⟩, ⟨_, rfl⟩, hW, hsame.mono (by decide) (by decide)⟩

theorem d40_0 : decode jdk_45_method_3_code 0 = .ok (.aload_n 0, 1) := by decide +kernel
theorem d40_1 : decode jdk_45_method_3_code 1 = .ok (.getfield 7, 3) := by decide +kernel
theorem d40_4 : decode jdk_45_method_3_code 4 = .ok (.arraylength, 1) := by decide +kernel
theorem d40_5 : decode jdk_45_method_3_code 5 = .ok (.ireturn, 1) := by decide +kernel
theorem own_pn_40 : plainName "java/util/ImmutableCollections$ListN" = true := by first | (simp [plainName, overriddenIn]; done) | decide +kernel
theorem own_ef_own_rm40 (m : MethodId) (x0 : Addr) : entryFrame m #[(.ref x0)] 1 = mkF m 0 #[.val (.ref x0)] [] := by first | (simp [entryFrame, mkF, argsToLocals, Value.category]; done) | rfl
def own_Q_own_rm40 (Z : State) (x0 : Addr) (el : Addr) (kL : ClassId) (r1 : Addr) (r2 : Addr) (r3 : Addr) (h0 : Heap) (n0 : Nat) (v : Option Value) (h : Heap) (L : List Loc) : Prop := v = some (.int (3 : Int32)) ∧ Fr n0 L ∧ h = h0
abbrev own_r_own_rm40 : Room := ({ frames := 0, cells := 0, slots := 0, locals := 0 } : Room)

set_option maxRecDepth 65536 in
set_option maxHeartbeats 40000000 in
theorem own_rm40 (l : Launch) (Z : State) (a0 : Array Value) (hw : ∀ d ∈ tables_1, d.before a0 Z = true) (ws : List Jvm.Cond) (x0 : Addr) (el : Addr) (kL : ClassId) (r1 : Addr) (r2 : Addr) (r3 : Addr) (h0 : Heap) (n0 : Nat) (Z0 : n0 ≤ h0.size) (Pi0 : Fld Z h0 x0 "java/util/ImmutableCollections$ListN" "elements" "[Ljava/lang/Object;" (.ref el)) (Pi1 : Arv Z h0 el kL (.object "java/lang/Object") (3 : Int32) [(.ref r1), (.ref r2), (.ref r3)] .null) :
    MetFree l own_n37 (head1 (Jvm.Cond.code own_n37 jdk_45_method_3_code 1 (some .int) :: ws) own_r_own_rm40) (fun a U => a = #[(.ref x0)] ∧ Z.Warmed39 U.vm ∧ U.heap = h0) (fun _ _ _ _ _ => True) (fun _ U o U' => ∃ v L, o = .returned v ∧ own_Q_own_rm40 Z x0 el kL r1 r2 r3 h0 n0 v U'.heap L ∧ FrameEnd U o U' L own_r_own_rm40.cells own_r_own_rm40.slots) := by
  refine MetFree.of_bodySF (plainFor_of_name own_pn_40) hisR ?_
  intro p e s m args below meth c s₁ Bd hml0 hP hK
  obtain ⟨rfl, hZ, hh⟩ := hP
  have hx := Bd.exec
  have hby := Bd.bytes
  have hml : c.maxLocals = 1 := hml0
  have hown : s.vm.findClass "java/util/ImmutableCollections$ListN" = some m.cls := findClass_of_methodNamed Bd.named
  have hnm := (name_of_methodNamed Bd.named Bd.method).1
  have X0 : Stand p l e own_r_own_rm40 s m #[(.ref x0)] below meth c s₁ [] 0 0 := Stand.of_body Bd
  have e0 : s₁.heap = h0 := by rw [← hh, Bd.state]; rfl
  have N0 := Fr.nil n0
  show Goes p.tables e below _ (own_R below s (own_Q_own_rm40 Z x0 el kL r1 r2 r3 h0 n0) own_r_own_rm40.cells own_r_own_rm40.slots)
  refine Goes.to (fun t k => castTop (own_ef_own_rm40 m x0) k) ?_
  refine gx (XS.aloadN X0.here hx rfl (hb hby d40_0) rfl rfl) ?_
  obtain ⟨T1, X1, e1, st1⟩ := getF X0 hx hZ hown (host := "") (Or.inl (own_hw hw 291 rfl)) Via.refl e0 Pi0 (g := (mkF m 1 #[.val (.ref x0)] [(.ref x0)])) rfl rfl (hb hby d40_1)
  refine Goes.to st1 ?_
  obtain ⟨cl2, Ar2, -, S2, N2, -, -⟩ := id Pi1
  refine Goes.to (fun _ k => X1.arraylength hx (by rw [e1]; exact Ar2.1) (State.isArrayOf_alike hZ.alike Ar2.2.1) (g := (mkF m 4 #[.val (.ref x0)] [(.ref el)])) rfl rfl (hb hby d40_4) _ k) ?_
  rw [len_of S2 N2]
  show Goes p.tables e below (T1.setTop (mkF m 5 #[.val (.ref x0)] [(.int (3 : Int32))])) _
  obtain ⟨fs, hr, hrun, hended, hW, hsame⟩ := X1.leave (v := some (.int (3 : Int32))) (fun h => by rw [Bd.returns] at h; cases h)
  have hv : (some (.int (3 : Int32)) : Option Value) = some (.int (3 : Int32)) := by
    rfl
  exact ⟨_, _, retI X1 hx Bd.returns (hb hby d40_5) hr, hrun, hended, _, _, rfl, ⟨hv, N0, e1⟩, ⟨_, rfl⟩, hW, hsame.mono (by decide) (by decide)⟩

theorem d33_0 : decode jdk_44_method_5_code 0 = .ok (.iload_n 1, 1) := by decide +kernel
theorem d33_1 : decode jdk_44_method_5_code 1 = .ok (.ifCond .ne 8, 3) := by decide +kernel
theorem d33_4 : decode jdk_44_method_5_code 4 = .ok (.aload_n 0, 1) := by decide +kernel
theorem d33_5 : decode jdk_44_method_5_code 5 = .ok (.getfield 13, 3) := by decide +kernel
theorem d33_8 : decode jdk_44_method_5_code 8 = .ok (.areturn, 1) := by decide +kernel
theorem own_pn_33 : plainName "java/util/ImmutableCollections$List12" = true := by first | (simp [plainName, overriddenIn]; done) | decide +kernel
theorem own_ef_own_rmG0 (m : MethodId) (x0 : Addr) : entryFrame m #[(.ref x0), (.int (0 : Int32))] 2 = mkF m 0 #[.val (.ref x0), .val (.int (0 : Int32))] [] := by first | (simp [entryFrame, mkF, argsToLocals, Value.category]; done) | rfl
def own_Q_own_rmG0 (Z : State) (x0 : Addr) (r1 : Addr) (h0 : Heap) (n0 : Nat) (v : Option Value) (h : Heap) (L : List Loc) : Prop := v = some (.ref r1) ∧ Fr n0 L ∧ h = h0
abbrev own_r_own_rmG0 : Room := ({ frames := 0, cells := 0, slots := 0, locals := 0 } : Room)

set_option maxRecDepth 65536 in
set_option maxHeartbeats 40000000 in
theorem own_rmG0 (l : Launch) (Z : State) (a0 : Array Value) (hw : ∀ d ∈ tables_1, d.before a0 Z = true) (ws : List Jvm.Cond) (x0 : Addr) (r1 : Addr) (h0 : Heap) (n0 : Nat) (Z0 : n0 ≤ h0.size) (Pi0 : Fld Z h0 x0 "java/util/ImmutableCollections$List12" "e0" "Ljava/lang/Object;" (.ref r1)) :
    MetFree l own_n38 (head1 (Jvm.Cond.code own_n38 jdk_44_method_5_code 2 (some (.object "java/lang/Object")) :: ws) own_r_own_rmG0) (fun a U => a = #[(.ref x0), (.int (0 : Int32))] ∧ Z.Warmed39 U.vm ∧ U.heap = h0) (fun _ _ _ _ _ => True) (fun _ U o U' => ∃ v L, o = .returned v ∧ own_Q_own_rmG0 Z x0 r1 h0 n0 v U'.heap L ∧ FrameEnd U o U' L own_r_own_rmG0.cells own_r_own_rmG0.slots) := by
  refine MetFree.of_bodySF (plainFor_of_name own_pn_33) hisR ?_
  intro p e s m args below meth c s₁ Bd hml0 hP hK
  obtain ⟨rfl, hZ, hh⟩ := hP
  have hx := Bd.exec
  have hby := Bd.bytes
  have hml : c.maxLocals = 2 := hml0
  have hown : s.vm.findClass "java/util/ImmutableCollections$List12" = some m.cls := findClass_of_methodNamed Bd.named
  have hnm := (name_of_methodNamed Bd.named Bd.method).1
  have X0 : Stand p l e own_r_own_rmG0 s m #[(.ref x0), (.int (0 : Int32))] below meth c s₁ [] 0 0 := Stand.of_body Bd
  have e0 : s₁.heap = h0 := by rw [← hh, Bd.state]; rfl
  have N0 := Fr.nil n0
  show Goes p.tables e below _ (own_R below s (own_Q_own_rmG0 Z x0 r1 h0 n0) own_r_own_rmG0.cells own_r_own_rmG0.slots)
  refine Goes.to (fun t k => castTop (own_ef_own_rmG0 m x0) k) ?_
  refine gx (XS.iloadN X0.here hx rfl (hb hby d33_0) rfl) ?_
  refine gx (XS.ifNo X0.here hx rfl (hb hby d33_1) rfl ((if0 _ _).trans (teq (by decide : (0 : Int32) = (0 : Int32))).2)) ?_
  refine gx (XS.aloadN X0.here hx rfl (hb hby d33_4) rfl rfl) ?_
  obtain ⟨T1, X1, e1, st1⟩ := getF X0 hx hZ hown (host := "") (Or.inl (own_hw hw 182 rfl)) Via.refl e0 Pi0 (g := (mkF m 5 #[.val (.ref x0), .val (.int (0 : Int32))] [(.ref x0)])) rfl rfl (hb hby d33_5)
  refine Goes.to st1 ?_
  show Goes p.tables e below (T1.setTop (mkF m 8 #[.val (.ref x0), .val (.int (0 : Int32))] [(.ref r1)])) _
  obtain ⟨fs, hr, hrun, hended, hW, hsame⟩ := X1.leave (v := some (.ref r1)) (fun h => by rw [Bd.returns] at h; cases h)
  have hv : (some (.ref r1) : Option Value) = some (.ref r1) := by
    rfl
  exact ⟨_, _, retOut X1 hx Bd.returns rfl (Or.inr (Or.inr (Or.inr (Or.inr ⟨rfl, rfl, rfl⟩)))) (hb hby d33_8) hr, hrun, hended, _, _, rfl, ⟨hv, N0, e1⟩, ⟨_, rfl⟩, hW, hsame.mono (by decide) (by decide)⟩

theorem d33_9 : decode jdk_44_method_5_code 9 = .ok (.iload_n 1, 1) := by decide +kernel
theorem d33_10 : decode jdk_44_method_5_code 10 = .ok (.iconst 1, 1) := by decide +kernel
theorem d33_11 : decode jdk_44_method_5_code 11 = .ok (.if_icmp .ne 18, 3) := by decide +kernel
theorem d33_14 : decode jdk_44_method_5_code 14 = .ok (.aload_n 0, 1) := by decide +kernel
theorem d33_15 : decode jdk_44_method_5_code 15 = .ok (.getfield 24, 3) := by decide +kernel
theorem d33_18 : decode jdk_44_method_5_code 18 = .ok (.getstatic 19, 3) := by decide +kernel
theorem d33_21 : decode jdk_44_method_5_code 21 = .ok (.if_acmp .eq 8, 3) := by decide +kernel
theorem d33_24 : decode jdk_44_method_5_code 24 = .ok (.aload_n 0, 1) := by decide +kernel
theorem d33_25 : decode jdk_44_method_5_code 25 = .ok (.getfield 24, 3) := by decide +kernel
theorem d33_28 : decode jdk_44_method_5_code 28 = .ok (.areturn, 1) := by decide +kernel
theorem own_ef_own_rmG1 (m : MethodId) (x0 : Addr) : entryFrame m #[(.ref x0), (.int (1 : Int32))] 2 = mkF m 0 #[.val (.ref x0), .val (.int (1 : Int32))] [] := by first | (simp [entryFrame, mkF, argsToLocals, Value.category]; done) | rfl
def own_Q_own_rmG1 (Z : State) (x0 : Addr) (r2 : Addr) (aI : Addr) (h0 : Heap) (n0 : Nat) (v : Option Value) (h : Heap) (L : List Loc) : Prop := v = some (.ref r2) ∧ Fr n0 L ∧ h = h0
abbrev own_r_own_rmG1 : Room := ({ frames := 0, cells := 0, slots := 0, locals := 0 } : Room)

set_option maxRecDepth 65536 in
set_option maxHeartbeats 40000000 in
theorem own_rmG1 (l : Launch) (Z : State) (a0 : Array Value) (hw : ∀ d ∈ tables_1, d.before a0 Z = true) (ws : List Jvm.Cond) (x0 : Addr) (r2 : Addr) (aI : Addr) (h0 : Heap) (n0 : Nat) (Z0 : n0 ≤ h0.size) (Pi0 : Fld Z h0 x0 "java/util/ImmutableCollections$List12" "e1" "Ljava/lang/Object;" (.ref r2)) (Pi1 : Sta Z h0 "java/util/ImmutableCollections" "EMPTY" "Ljava/lang/Object;" (.ref aI)) (Pi2 : r2 ≠ aI) :
    MetFree l own_n38 (head1 (Jvm.Cond.code own_n38 jdk_44_method_5_code 2 (some (.object "java/lang/Object")) :: ws) own_r_own_rmG1) (fun a U => a = #[(.ref x0), (.int (1 : Int32))] ∧ Z.Warmed39 U.vm ∧ U.heap = h0) (fun _ _ _ _ _ => True) (fun _ U o U' => ∃ v L, o = .returned v ∧ own_Q_own_rmG1 Z x0 r2 aI h0 n0 v U'.heap L ∧ FrameEnd U o U' L own_r_own_rmG1.cells own_r_own_rmG1.slots) := by
  refine MetFree.of_bodySF (plainFor_of_name own_pn_33) hisR ?_
  intro p e s m args below meth c s₁ Bd hml0 hP hK
  obtain ⟨rfl, hZ, hh⟩ := hP
  have hx := Bd.exec
  have hby := Bd.bytes
  have hml : c.maxLocals = 2 := hml0
  have hown : s.vm.findClass "java/util/ImmutableCollections$List12" = some m.cls := findClass_of_methodNamed Bd.named
  have hnm := (name_of_methodNamed Bd.named Bd.method).1
  have X0 : Stand p l e own_r_own_rmG1 s m #[(.ref x0), (.int (1 : Int32))] below meth c s₁ [] 0 0 := Stand.of_body Bd
  have e0 : s₁.heap = h0 := by rw [← hh, Bd.state]; rfl
  have N0 := Fr.nil n0
  show Goes p.tables e below _ (own_R below s (own_Q_own_rmG1 Z x0 r2 aI h0 n0) own_r_own_rmG1.cells own_r_own_rmG1.slots)
  refine Goes.to (fun t k => castTop (own_ef_own_rmG1 m x0) k) ?_
  refine gx (XS.iloadN X0.here hx rfl (hb hby d33_0) rfl) ?_
  refine gx (XS.ifYes X0.here hx rfl (pc0 := 1) (pc' := 9) rfl (hb hby d33_1) rfl ((if0 _ _).trans (feq (by decide : ¬ ((1 : Int32) = (0 : Int32)))).2) (by decide) (by decide)) ?_
  refine gx (XS.iloadN X0.here hx rfl (hb hby d33_9) rfl) ?_
  refine gx (XS.iconst X0.here hx rfl (hb hby d33_10)) ?_
  refine gx (XS.icmpNo X0.here hx rfl (hb hby d33_11) rfl (teq (by decide : (1 : Int32) = (1 : Int32))).2) ?_
  show Goes p.tables e below (s₁.setTop (mkF m 14 #[.val (.ref x0), .val (.int (1 : Int32))] [])) _
  refine gx (XS.aloadN X0.here hx rfl (hb hby d33_14) rfl rfl) ?_
  obtain ⟨T1, X1, e1, st1⟩ := getF X0 hx hZ hown (host := "") (Or.inl (own_hw hw 185 rfl)) Via.refl e0 Pi0 (g := (mkF m 15 #[.val (.ref x0), .val (.int (1 : Int32))] [(.ref x0)])) rfl rfl (hb hby d33_15)
  refine Goes.to st1 ?_
  obtain ⟨T2, X2, e2, st2⟩ := getS2 X1 hx hZ hown (Or.inr (own_hw hw 184 rfl)) Via.refl e1 Pi1 (g := (mkF m 18 #[.val (.ref x0), .val (.int (1 : Int32))] [(.ref r2)])) rfl (hb hby d33_18)
  refine Goes.to st2 ?_
  refine gx (Jvm.RoadKit.acmp (g := (mkF m 21 #[.val (.ref x0), .val (.int (1 : Int32))] [(.ref aI), (.ref r2)])) X2 hx rfl rfl rfl (pc0 := 21) (pc' := 24) (same := false) rfl (hb hby d33_21) rfl (decide_eq_false fun q => Pi2 (Value.ref.inj q)) (by decide) (by decide)) ?_
  refine gx (XS.aloadN X2.here hx rfl (hb hby d33_24) rfl rfl) ?_
  obtain ⟨T3, X3, e3, st3⟩ := getF X2 hx hZ hown (host := "") (Or.inl (own_hw hw 185 rfl)) Via.refl e2 Pi0 (g := (mkF m 25 #[.val (.ref x0), .val (.int (1 : Int32))] [(.ref x0)])) rfl rfl (hb hby d33_25)
  refine Goes.to st3 ?_
  show Goes p.tables e below (T3.setTop (mkF m 28 #[.val (.ref x0), .val (.int (1 : Int32))] [(.ref r2)])) _
  obtain ⟨fs, hr, hrun, hended, hW, hsame⟩ := X3.leave (v := some (.ref r2)) (fun h => by rw [Bd.returns] at h; cases h)
  have hv : (some (.ref r2) : Option Value) = some (.ref r2) := by
    rfl
  exact ⟨_, _, retOut X3 hx Bd.returns rfl (Or.inr (Or.inr (Or.inr (Or.inr ⟨rfl, rfl, rfl⟩)))) (hb hby d33_28) hr, hrun, hended, _, _, rfl, ⟨hv, N0, e3⟩, ⟨_, rfl⟩, hW, hsame.mono (by decide) (by decide)⟩

theorem d41_0 : decode jdk_45_method_4_code 0 = .ok (.aload_n 0, 1) := by decide +kernel
theorem d41_1 : decode jdk_45_method_4_code 1 = .ok (.getfield 7, 3) := by decide +kernel
theorem d41_4 : decode jdk_45_method_4_code 4 = .ok (.iload_n 1, 1) := by decide +kernel
theorem d41_5 : decode jdk_45_method_4_code 5 = .ok (.aaload, 1) := by decide +kernel
theorem d41_6 : decode jdk_45_method_4_code 6 = .ok (.areturn, 1) := by decide +kernel
theorem own_pn_41 : plainName "java/util/ImmutableCollections$ListN" = true := by first | (simp [plainName, overriddenIn]; done) | decide +kernel
theorem own_ef_own_rmGN0 (m : MethodId) (x0 : Addr) : entryFrame m #[(.ref x0), (.int (0 : Int32))] 2 = mkF m 0 #[.val (.ref x0), .val (.int (0 : Int32))] [] := by first | (simp [entryFrame, mkF, argsToLocals, Value.category]; done) | rfl
def own_Q_own_rmGN0 (Z : State) (x0 : Addr) (el : Addr) (kL : ClassId) (r1 : Addr) (r2 : Addr) (r3 : Addr) (h0 : Heap) (n0 : Nat) (v : Option Value) (h : Heap) (L : List Loc) : Prop := v = some (.ref r1) ∧ Fr n0 L ∧ h = h0
abbrev own_r_own_rmGN0 : Room := ({ frames := 0, cells := 0, slots := 0, locals := 0 } : Room)

set_option maxRecDepth 65536 in
set_option maxHeartbeats 40000000 in
theorem own_rmGN0 (l : Launch) (Z : State) (a0 : Array Value) (hw : ∀ d ∈ tables_1, d.before a0 Z = true) (ws : List Jvm.Cond) (x0 : Addr) (el : Addr) (kL : ClassId) (r1 : Addr) (r2 : Addr) (r3 : Addr) (h0 : Heap) (n0 : Nat) (Z0 : n0 ≤ h0.size) (Pi0 : Fld Z h0 x0 "java/util/ImmutableCollections$ListN" "elements" "[Ljava/lang/Object;" (.ref el)) (Pi1 : Arv Z h0 el kL (.object "java/lang/Object") (3 : Int32) [(.ref r1), (.ref r2), (.ref r3)] .null) :
    MetFree l own_n39 (head1 (Jvm.Cond.code own_n39 jdk_45_method_4_code 2 (some (.object "java/lang/Object")) :: ws) own_r_own_rmGN0) (fun a U => a = #[(.ref x0), (.int (0 : Int32))] ∧ Z.Warmed39 U.vm ∧ U.heap = h0) (fun _ _ _ _ _ => True) (fun _ U o U' => ∃ v L, o = .returned v ∧ own_Q_own_rmGN0 Z x0 el kL r1 r2 r3 h0 n0 v U'.heap L ∧ FrameEnd U o U' L own_r_own_rmGN0.cells own_r_own_rmGN0.slots) := by
  refine MetFree.of_bodySF (plainFor_of_name own_pn_41) hisR ?_
  intro p e s m args below meth c s₁ Bd hml0 hP hK
  obtain ⟨rfl, hZ, hh⟩ := hP
  have hx := Bd.exec
  have hby := Bd.bytes
  have hml : c.maxLocals = 2 := hml0
  have hown : s.vm.findClass "java/util/ImmutableCollections$ListN" = some m.cls := findClass_of_methodNamed Bd.named
  have hnm := (name_of_methodNamed Bd.named Bd.method).1
  have X0 : Stand p l e own_r_own_rmGN0 s m #[(.ref x0), (.int (0 : Int32))] below meth c s₁ [] 0 0 := Stand.of_body Bd
  have e0 : s₁.heap = h0 := by rw [← hh, Bd.state]; rfl
  have N0 := Fr.nil n0
  show Goes p.tables e below _ (own_R below s (own_Q_own_rmGN0 Z x0 el kL r1 r2 r3 h0 n0) own_r_own_rmGN0.cells own_r_own_rmGN0.slots)
  refine Goes.to (fun t k => castTop (own_ef_own_rmGN0 m x0) k) ?_
  refine gx (XS.aloadN X0.here hx rfl (hb hby d41_0) rfl rfl) ?_
  obtain ⟨T1, X1, e1, st1⟩ := getF X0 hx hZ hown (host := "") (Or.inl (own_hw hw 291 rfl)) Via.refl e0 Pi0 (g := (mkF m 1 #[.val (.ref x0), .val (.int (0 : Int32))] [(.ref x0)])) rfl rfl (hb hby d41_1)
  refine Goes.to st1 ?_
  refine gx (XS.iloadN X1.here hx rfl (hb hby d41_4) rfl) ?_
  obtain ⟨cl2, Ar2, q2, S2, N2, H2, G2⟩ := id Pi1
  have hin2 : ¬ ((0 : Int32) < 0 ∨ cl2.slots.size ≤ ((0 : Int32)).toNatClampNeg) := inb_of S2 ⟨by decide, by decide⟩
  have hat2 : cl2.slots[((0 : Int32)).toNatClampNeg]? = some (.ref r1) := Has.at H2 hin2 rfl
  refine gx (X1.aaload hx (j := (0 : Int32)) (v := (.ref r1)) (by rw [e1]; exact Ar2.1) (State.isArrayOf_alike hZ.alike Ar2.2.1) rfl Ar2.2.2 hin2 hat2 (g := (mkF m 5 #[.val (.ref x0), .val (.int (0 : Int32))] [(.int (0 : Int32)), (.ref el)])) rfl rfl (hb hby d41_5) _) ?_
  show Goes p.tables e below (T1.setTop (mkF m 6 #[.val (.ref x0), .val (.int (0 : Int32))] [(.ref r1)])) _
  obtain ⟨fs, hr, hrun, hended, hW, hsame⟩ := X1.leave (v := some (.ref r1)) (fun h => by rw [Bd.returns] at h; cases h)
  have hv : (some (.ref r1) : Option Value) = some (.ref r1) := by
    rfl
  exact ⟨_, _, retOut X1 hx Bd.returns rfl (Or.inr (Or.inr (Or.inr (Or.inr ⟨rfl, rfl, rfl⟩)))) (hb hby d41_6) hr, hrun, hended, _, _, rfl, ⟨hv, N0, e1⟩, ⟨_, rfl⟩, hW, hsame.mono (by decide) (by decide)⟩

theorem own_ef_own_rmGN1 (m : MethodId) (x0 : Addr) : entryFrame m #[(.ref x0), (.int (1 : Int32))] 2 = mkF m 0 #[.val (.ref x0), .val (.int (1 : Int32))] [] := by first | (simp [entryFrame, mkF, argsToLocals, Value.category]; done) | rfl
def own_Q_own_rmGN1 (Z : State) (x0 : Addr) (el : Addr) (kL : ClassId) (r1 : Addr) (r2 : Addr) (r3 : Addr) (h0 : Heap) (n0 : Nat) (v : Option Value) (h : Heap) (L : List Loc) : Prop := v = some (.ref r2) ∧ Fr n0 L ∧ h = h0
abbrev own_r_own_rmGN1 : Room := ({ frames := 0, cells := 0, slots := 0, locals := 0 } : Room)

set_option maxRecDepth 65536 in
set_option maxHeartbeats 40000000 in
theorem own_rmGN1 (l : Launch) (Z : State) (a0 : Array Value) (hw : ∀ d ∈ tables_1, d.before a0 Z = true) (ws : List Jvm.Cond) (x0 : Addr) (el : Addr) (kL : ClassId) (r1 : Addr) (r2 : Addr) (r3 : Addr) (h0 : Heap) (n0 : Nat) (Z0 : n0 ≤ h0.size) (Pi0 : Fld Z h0 x0 "java/util/ImmutableCollections$ListN" "elements" "[Ljava/lang/Object;" (.ref el)) (Pi1 : Arv Z h0 el kL (.object "java/lang/Object") (3 : Int32) [(.ref r1), (.ref r2), (.ref r3)] .null) :
    MetFree l own_n39 (head1 (Jvm.Cond.code own_n39 jdk_45_method_4_code 2 (some (.object "java/lang/Object")) :: ws) own_r_own_rmGN1) (fun a U => a = #[(.ref x0), (.int (1 : Int32))] ∧ Z.Warmed39 U.vm ∧ U.heap = h0) (fun _ _ _ _ _ => True) (fun _ U o U' => ∃ v L, o = .returned v ∧ own_Q_own_rmGN1 Z x0 el kL r1 r2 r3 h0 n0 v U'.heap L ∧ FrameEnd U o U' L own_r_own_rmGN1.cells own_r_own_rmGN1.slots) := by
  refine MetFree.of_bodySF (plainFor_of_name own_pn_41) hisR ?_
  intro p e s m args below meth c s₁ Bd hml0 hP hK
  obtain ⟨rfl, hZ, hh⟩ := hP
  have hx := Bd.exec
  have hby := Bd.bytes
  have hml : c.maxLocals = 2 := hml0
  have hown : s.vm.findClass "java/util/ImmutableCollections$ListN" = some m.cls := findClass_of_methodNamed Bd.named
  have hnm := (name_of_methodNamed Bd.named Bd.method).1
  have X0 : Stand p l e own_r_own_rmGN1 s m #[(.ref x0), (.int (1 : Int32))] below meth c s₁ [] 0 0 := Stand.of_body Bd
  have e0 : s₁.heap = h0 := by rw [← hh, Bd.state]; rfl
  have N0 := Fr.nil n0
  show Goes p.tables e below _ (own_R below s (own_Q_own_rmGN1 Z x0 el kL r1 r2 r3 h0 n0) own_r_own_rmGN1.cells own_r_own_rmGN1.slots)
  refine Goes.to (fun t k => castTop (own_ef_own_rmGN1 m x0) k) ?_
  refine gx (XS.aloadN X0.here hx rfl (hb hby d41_0) rfl rfl) ?_
  obtain ⟨T1, X1, e1, st1⟩ := getF X0 hx hZ hown (host := "") (Or.inl (own_hw hw 291 rfl)) Via.refl e0 Pi0 (g := (mkF m 1 #[.val (.ref x0), .val (.int (1 : Int32))] [(.ref x0)])) rfl rfl (hb hby d41_1)
  refine Goes.to st1 ?_
  refine gx (XS.iloadN X1.here hx rfl (hb hby d41_4) rfl) ?_
  obtain ⟨cl2, Ar2, q2, S2, N2, H2, G2⟩ := id Pi1
  have hin2 : ¬ ((1 : Int32) < 0 ∨ cl2.slots.size ≤ ((1 : Int32)).toNatClampNeg) := inb_of S2 ⟨by decide, by decide⟩
  have hat2 : cl2.slots[((1 : Int32)).toNatClampNeg]? = some (.ref r2) := Has.at H2 hin2 rfl
  refine gx (X1.aaload hx (j := (1 : Int32)) (v := (.ref r2)) (by rw [e1]; exact Ar2.1) (State.isArrayOf_alike hZ.alike Ar2.2.1) rfl Ar2.2.2 hin2 hat2 (g := (mkF m 5 #[.val (.ref x0), .val (.int (1 : Int32))] [(.int (1 : Int32)), (.ref el)])) rfl rfl (hb hby d41_5) _) ?_
  show Goes p.tables e below (T1.setTop (mkF m 6 #[.val (.ref x0), .val (.int (1 : Int32))] [(.ref r2)])) _
  obtain ⟨fs, hr, hrun, hended, hW, hsame⟩ := X1.leave (v := some (.ref r2)) (fun h => by rw [Bd.returns] at h; cases h)
  have hv : (some (.ref r2) : Option Value) = some (.ref r2) := by
    rfl
  exact ⟨_, _, retOut X1 hx Bd.returns rfl (Or.inr (Or.inr (Or.inr (Or.inr ⟨rfl, rfl, rfl⟩)))) (hb hby d41_6) hr, hrun, hended, _, _, rfl, ⟨hv, N0, e1⟩, ⟨_, rfl⟩, hW, hsame.mono (by decide) (by decide)⟩

theorem own_ef_own_rmGN2 (m : MethodId) (x0 : Addr) : entryFrame m #[(.ref x0), (.int (2 : Int32))] 2 = mkF m 0 #[.val (.ref x0), .val (.int (2 : Int32))] [] := by first | (simp [entryFrame, mkF, argsToLocals, Value.category]; done) | rfl
def own_Q_own_rmGN2 (Z : State) (x0 : Addr) (el : Addr) (kL : ClassId) (r1 : Addr) (r2 : Addr) (r3 : Addr) (h0 : Heap) (n0 : Nat) (v : Option Value) (h : Heap) (L : List Loc) : Prop := v = some (.ref r3) ∧ Fr n0 L ∧ h = h0
abbrev own_r_own_rmGN2 : Room := ({ frames := 0, cells := 0, slots := 0, locals := 0 } : Room)

set_option maxRecDepth 65536 in
set_option maxHeartbeats 40000000 in
theorem own_rmGN2 (l : Launch) (Z : State) (a0 : Array Value) (hw : ∀ d ∈ tables_1, d.before a0 Z = true) (ws : List Jvm.Cond) (x0 : Addr) (el : Addr) (kL : ClassId) (r1 : Addr) (r2 : Addr) (r3 : Addr) (h0 : Heap) (n0 : Nat) (Z0 : n0 ≤ h0.size) (Pi0 : Fld Z h0 x0 "java/util/ImmutableCollections$ListN" "elements" "[Ljava/lang/Object;" (.ref el)) (Pi1 : Arv Z h0 el kL (.object "java/lang/Object") (3 : Int32) [(.ref r1), (.ref r2), (.ref r3)] .null) :
    MetFree l own_n39 (head1 (Jvm.Cond.code own_n39 jdk_45_method_4_code 2 (some (.object "java/lang/Object")) :: ws) own_r_own_rmGN2) (fun a U => a = #[(.ref x0), (.int (2 : Int32))] ∧ Z.Warmed39 U.vm ∧ U.heap = h0) (fun _ _ _ _ _ => True) (fun _ U o U' => ∃ v L, o = .returned v ∧ own_Q_own_rmGN2 Z x0 el kL r1 r2 r3 h0 n0 v U'.heap L ∧ FrameEnd U o U' L own_r_own_rmGN2.cells own_r_own_rmGN2.slots) := by
  refine MetFree.of_bodySF (plainFor_of_name own_pn_41) hisR ?_
  intro p e s m args below meth c s₁ Bd hml0 hP hK
  obtain ⟨rfl, hZ, hh⟩ := hP
  have hx := Bd.exec
  have hby := Bd.bytes
  have hml : c.maxLocals = 2 := hml0
  have hown : s.vm.findClass "java/util/ImmutableCollections$ListN" = some m.cls := findClass_of_methodNamed Bd.named
  have hnm := (name_of_methodNamed Bd.named Bd.method).1
  have X0 : Stand p l e own_r_own_rmGN2 s m #[(.ref x0), (.int (2 : Int32))] below meth c s₁ [] 0 0 := Stand.of_body Bd
  have e0 : s₁.heap = h0 := by rw [← hh, Bd.state]; rfl
  have N0 := Fr.nil n0
  show Goes p.tables e below _ (own_R below s (own_Q_own_rmGN2 Z x0 el kL r1 r2 r3 h0 n0) own_r_own_rmGN2.cells own_r_own_rmGN2.slots)
  refine Goes.to (fun t k => castTop (own_ef_own_rmGN2 m x0) k) ?_
  refine gx (XS.aloadN X0.here hx rfl (hb hby d41_0) rfl rfl) ?_
  obtain ⟨T1, X1, e1, st1⟩ := getF X0 hx hZ hown (host := "") (Or.inl (own_hw hw 291 rfl)) Via.refl e0 Pi0 (g := (mkF m 1 #[.val (.ref x0), .val (.int (2 : Int32))] [(.ref x0)])) rfl rfl (hb hby d41_1)
  refine Goes.to st1 ?_
  refine gx (XS.iloadN X1.here hx rfl (hb hby d41_4) rfl) ?_
  obtain ⟨cl2, Ar2, q2, S2, N2, H2, G2⟩ := id Pi1
  have hin2 : ¬ ((2 : Int32) < 0 ∨ cl2.slots.size ≤ ((2 : Int32)).toNatClampNeg) := inb_of S2 ⟨by decide, by decide⟩
  have hat2 : cl2.slots[((2 : Int32)).toNatClampNeg]? = some (.ref r3) := Has.at H2 hin2 rfl
  refine gx (X1.aaload hx (j := (2 : Int32)) (v := (.ref r3)) (by rw [e1]; exact Ar2.1) (State.isArrayOf_alike hZ.alike Ar2.2.1) rfl Ar2.2.2 hin2 hat2 (g := (mkF m 5 #[.val (.ref x0), .val (.int (2 : Int32))] [(.int (2 : Int32)), (.ref el)])) rfl rfl (hb hby d41_5) _) ?_
  show Goes p.tables e below (T1.setTop (mkF m 6 #[.val (.ref x0), .val (.int (2 : Int32))] [(.ref r3)])) _
  obtain ⟨fs, hr, hrun, hended, hW, hsame⟩ := X1.leave (v := some (.ref r3)) (fun h => by rw [Bd.returns] at h; cases h)
  have hv : (some (.ref r3) : Option Value) = some (.ref r3) := by
    rfl
  exact ⟨_, _, retOut X1 hx Bd.returns rfl (Or.inr (Or.inr (Or.inr (Or.inr ⟨rfl, rfl, rfl⟩)))) (hb hby d41_6) hr, hrun, hended, _, _, rfl, ⟨hv, N0, e1⟩, ⟨_, rfl⟩, hW, hsame.mono (by decide) (by decide)⟩

theorem d28_0 : decode jdk_46_method_10_code 0 = .ok (.new 61, 3) := by decide +kernel
theorem d28_3 : decode jdk_46_method_10_code 3 = .ok (.dup, 1) := by decide +kernel
theorem d28_4 : decode jdk_46_method_10_code 4 = .ok (.aload_n 0, 1) := by decide +kernel
theorem d28_5 : decode jdk_46_method_10_code 5 = .ok (.aload_n 0, 1) := by decide +kernel
theorem d28_6 : decode jdk_46_method_10_code 6 = .ok (.invokevirtual 13, 3) := by decide +kernel
theorem d28_9 : decode jdk_46_method_10_code 9 = .ok (.invokespecial 63, 3) := by decide +kernel
theorem d28_12 : decode jdk_46_method_10_code 12 = .ok (.areturn, 1) := by decide +kernel
theorem own_pd_pqI : parseMethodDescriptor "()I" = some ⟨[], some .int⟩ := by decide +kernel
theorem own_pd_pLjavalutillListsIqV : parseMethodDescriptor "(Ljava/util/List;I)V" = some ⟨[(.object "java/util/List"), .int], none⟩ := by decide +kernel
theorem own_pn_28 : plainName "java/util/ImmutableCollections$AbstractImmutableList" = true := by first | (simp [plainName, overriddenIn]; done) | decide +kernel
theorem own_ef_own_rmIT1 (m : MethodId) (x0 : Addr) : entryFrame m #[(.ref x0)] 1 = mkF m 0 #[.val (.ref x0)] [] := by first | (simp [entryFrame, mkF, argsToLocals, Value.category]; done) | rfl
def own_Q_own_rmIT1 (Z : State) (x0 : Addr) (r1 : Addr) (aI : Addr) (h0 : Heap) (n0 : Nat) (v : Option Value) (h : Heap) (L : List Loc) : Prop := ∃ (it : Addr), v = some (.ref it) ∧ Fr n0 L ∧ h0.size ≤ it ∧ Keep h0 h [] ∧ Exa Z h it "java/util/ImmutableCollections$ListItr" ∧ Fld Z h it "java/util/ImmutableCollections$ListItr" "list" "Ljava/util/List;" (.ref x0) ∧ Fld Z h it "java/util/ImmutableCollections$ListItr" "size" "I" (.int (1 : Int32)) ∧ Fld Z h it "java/util/ImmutableCollections$ListItr" "cursor" "I" (.int (0 : Int32))
abbrev own_r_own_rmIT1 : Room := ({ frames := 2, cells := 1, slots := 4, locals := 27 } : Room)

set_option maxRecDepth 65536 in
set_option maxHeartbeats 40000000 in
theorem own_rmIT1 (l : Launch) (Z : State) (a0 : Array Value) (hw : ∀ d ∈ tables_1, d.before a0 Z = true) (ws : List Jvm.Cond) (x0 : Addr) (r1 : Addr) (aI : Addr) (h0 : Heap) (n0 : Nat) (Z0 : n0 ≤ h0.size) (Pi0 : Exa Z h0 x0 "java/util/ImmutableCollections$List12") (Pi1 : Fld Z h0 x0 "java/util/ImmutableCollections$List12" "e0" "Ljava/lang/Object;" (.ref r1)) (Pi2 : Fld Z h0 x0 "java/util/ImmutableCollections$List12" "e1" "Ljava/lang/Object;" (.ref aI)) (Pi3 : Sta Z h0 "java/util/ImmutableCollections" "EMPTY" "Ljava/lang/Object;" (.ref aI)) :
    MetFree l own_n41 (head1 (Jvm.Cond.code own_n41 jdk_46_method_10_code 1 (some (.object "java/util/Iterator")) :: ws) own_r_own_rmIT1) (fun a U => a = #[(.ref x0)] ∧ Z.Warmed39 U.vm ∧ U.heap = h0) (fun _ _ _ _ _ => True) (fun _ U o U' => ∃ v L, o = .returned v ∧ own_Q_own_rmIT1 Z x0 r1 aI h0 n0 v U'.heap L ∧ FrameEnd U o U' L own_r_own_rmIT1.cells own_r_own_rmIT1.slots) := by
  refine MetFree.of_bodySF (plainFor_of_name own_pn_28) hisR ?_
  intro p e s m args below meth c s₁ Bd hml0 hP hK
  obtain ⟨rfl, hZ, hh⟩ := hP
  have hx := Bd.exec
  have hby := Bd.bytes
  have hml : c.maxLocals = 1 := hml0
  have hown : s.vm.findClass "java/util/ImmutableCollections$AbstractImmutableList" = some m.cls := findClass_of_methodNamed Bd.named
  have hnm := (name_of_methodNamed Bd.named Bd.method).1
  have X0 : Stand p l e own_r_own_rmIT1 s m #[(.ref x0)] below meth c s₁ [] 0 0 := Stand.of_body Bd
  have e0 : s₁.heap = h0 := by rw [← hh, Bd.state]; rfl
  have N0 := Fr.nil n0
  show Goes p.tables e below _ (own_R below s (own_Q_own_rmIT1 Z x0 r1 aI h0 n0) own_r_own_rmIT1.cells own_r_own_rmIT1.slots)
  refine Goes.to (fun t k => castTop (own_ef_own_rmIT1 m x0) k) ?_
  obtain ⟨T1, h1, X1, e1, E1, A1, D1, -, st1⟩ := newO X0 hx hZ hown (own_hw hw 203 rfl) (own_hw hw 204 rfl) (own_hw hw 205 rfl) e0 (g := (mkF m 0 #[.val (.ref x0)] [])) rfl (hb hby d28_0) (by decide) (by decide)
  obtain ⟨b1, g1⟩ : ∃ z, z = h0.size := ⟨_, rfl⟩
  rw [← g1] at A1 D1 st1
  subst e1
  have F3 := Pi0.ext E1
  have F5 := Pi2.ext E1
  have F6 := Pi3.ext E1
  have g_b1 : n0 ≤ b1 := Nat.le_trans Z0 (Nat.le_of_eq g1.symm)
  have Z1 : n0 ≤ T1.heap.size := Nat.le_trans Z0 E1.1
  have sz_b1 : h0.size ≤ b1 := Nat.le_trans (Keep.refl h0 []).1 (Nat.le_of_eq g1.symm)
  have K1 : Keep h0 T1.heap [] := (Keep.refl h0 []).ext E1
  have F7 : Fld Z T1.heap b1 "java/util/ImmutableCollections$ListItr" "list" "Ljava/util/List;" .null := D1 (Or.inr (own_hw hw 218 rfl)) (ty := (.object "java/util/List")) (by decide)
  have F8 : Fld Z T1.heap b1 "java/util/ImmutableCollections$ListItr" "size" "I" (.int (0 : Int32)) := D1 (Or.inr (own_hw hw 220 rfl)) (ty := .int) (by decide)
  have F9 : Fld Z T1.heap b1 "java/util/ImmutableCollections$ListItr" "cursor" "I" (.int (0 : Int32)) := D1 (Or.inl (own_hw hw 222 rfl)) (ty := .int) (by decide)
  have F10 : Fld Z T1.heap b1 "java/util/ImmutableCollections$ListItr" "isListIterator" "Z" (.int (0 : Int32)) := D1 (Or.inr (own_hw hw 224 rfl)) (ty := .boolean) (by decide)
  refine Goes.to st1 ?_
  refine gx (XS.dup X1.here hx rfl (hb hby d28_3) rfl rfl) ?_
  refine gx (XS.aloadN X1.here hx rfl (hb hby d28_4) rfl rfl) ?_
  refine gx (XS.aloadN X1.here hx rfl (hb hby d28_5) rfl rfl) ?_
  obtain ⟨cq11, kq11, q11a, q11b, q11c⟩ := isOf hZ rfl F3
  obtain ⟨_, _, ⟨T11, L11, k11, n11⟩, -, X11, ⟨Lc11, hQ11, l11, y11, z11⟩, st11⟩ := X1.virtualBackUp hx (x := own_n40) (y := own_n36) (owner := "java/util/AbstractCollection") hown (mvT hZ (own_hw hw 206 rfl)) (mvT hZ (own_hw hw 207 rfl)) (mvT hZ (own_hw hw 208 rfl)) (by decide) (mvT hZ (own_hw hw 209 rfl)) (mvT hZ (own_hw hw 210 rfl)) (backOf (W := 3) (own_rmS1 l Z a0 hw [] x0 aI T1.heap n0 Z1 F5 F6) hZ (own_hw hw 211 rfl) (own_hw hw 159 rfl) (by decide) (by decide)) q11a q11c (g := (mkF m 6 #[.val (.ref x0)] [(.ref x0), (.ref x0), (.ref b1), (.ref b1)])) rfl (by rw [hml]; rfl) (Steps.refl _) (argsL := []) (rest := [(.ref x0), (.ref b1), (.ref b1)]) (lenOf own_pd_pqI rfl) rfl (own_W rfl rfl) (hb hby d28_6) (fun _ _ => ⟨rfl, rfl, (by decide : 1 + 0 ≤ _), (by decide : 4 + 0 ≤ _)⟩)
  dsimp only [Pt.U, Pt.locs, Pt.cells, Pt.slots] at X11 l11 y11 z11 st11 hQ11
  subst l11 y11 z11
  obtain ⟨hv11, Nq11, hp11_0⟩ := hQ11
  have N11 := Fr.app N0 Nq11
  subst hv11
  refine Goes.tr st11 ?_
  obtain ⟨_, _, ⟨T12, L12, k12, n12⟩, -, X12, ⟨Lc12, hQ12, l12, y12, z12⟩, st12⟩ := X11.specialBack hx (y := own_n34) rfl hown (mvT hZ (own_hw hw 212 rfl)) (mvT hZ (own_hw hw 213 rfl)) (mvT hZ (own_hw hw 215 rfl)) (by decide) (backOf (W := 1) (own_rm30 l Z a0 hw [] b1 x0 (1 : Int32) T1.heap n0 Z1 g_b1 A1 F7 F8 F9 F10) hZ (own_hw hw 215 rfl) (own_hw hw 205 rfl) (by decide) (by decide)) (g := (mkF m 9 #[.val (.ref x0)] [(.int (1 : Int32)), (.ref x0), (.ref b1), (.ref b1)])) rfl (by rw [hml]; rfl) (Steps.refl _) (a := b1) (argsL := [(.ref x0), (.int (1 : Int32))]) (rest := [(.ref b1)]) (lenOf own_pd_pLjavalutillListsIqV rfl) rfl (own_W rfl rfl) (hb hby d28_9) (fun _ _ => ⟨rfl, hp11_0, (by decide : 1 + 0 ≤ _), (by decide : 4 + 0 ≤ _)⟩)
  dsimp only [Pt.U, Pt.locs, Pt.cells, Pt.slots] at X12 l12 y12 z12 st12 hQ12
  subst l12 y12 z12
  obtain ⟨hv12, Nq12, Kq12, Qf12_0, Qf12_1, Qf12_2, Qf12_3⟩ := hQ12
  have N12 := Fr.app N11 Nq12
  have Kc12 : Keep h0 T12.heap [] := K1.trans Kq12 (allS (Or.inr sz_b1) all0)
  subst hv12
  refine Goes.tr st12 ?_
  show Goes p.tables e below (T12.setTop (mkF m 12 #[.val (.ref x0)] [(.ref b1)])) _
  obtain ⟨fs, hr, hrun, hended, hW, hsame⟩ := X12.leave (v := some (.ref b1)) (fun h => by rw [Bd.returns] at h; cases h)
  exact ⟨_, _, retOut X12 hx Bd.returns rfl (Or.inr (Or.inr (Or.inr (Or.inr ⟨rfl, rfl, rfl⟩)))) (hb hby d28_12) hr, hrun, hended, _, _, rfl, ⟨b1, rfl, N12, sz_b1, (by show Keep h0 T12.heap []; exact Kc12), (by show Exa Z T12.heap b1 "java/util/ImmutableCollections$ListItr"; exact Qf12_0), (by show Fld Z T12.heap b1 "java/util/ImmutableCollections$ListItr" "list" "Ljava/util/List;" (.ref x0); exact Qf12_1), (by show Fld Z T12.heap b1 "java/util/ImmutableCollections$ListItr" "size" "I" (.int (1 : Int32)); exact Qf12_2), (by show Fld Z T12.heap b1 "java/util/ImmutableCollections$ListItr" "cursor" "I" (.int (0 : Int32)); exact Qf12_3)⟩, ⟨_, rfl⟩, hW, hsame.mono (by decide) (by decide)⟩

theorem own_ef_own_rmIT2 (m : MethodId) (x0 : Addr) : entryFrame m #[(.ref x0)] 1 = mkF m 0 #[.val (.ref x0)] [] := by first | (simp [entryFrame, mkF, argsToLocals, Value.category]; done) | rfl
def own_Q_own_rmIT2 (Z : State) (x0 : Addr) (r1 : Addr) (r2 : Addr) (aI : Addr) (h0 : Heap) (n0 : Nat) (v : Option Value) (h : Heap) (L : List Loc) : Prop := ∃ (it : Addr), v = some (.ref it) ∧ Fr n0 L ∧ h0.size ≤ it ∧ Keep h0 h [] ∧ Exa Z h it "java/util/ImmutableCollections$ListItr" ∧ Fld Z h it "java/util/ImmutableCollections$ListItr" "list" "Ljava/util/List;" (.ref x0) ∧ Fld Z h it "java/util/ImmutableCollections$ListItr" "size" "I" (.int (2 : Int32)) ∧ Fld Z h it "java/util/ImmutableCollections$ListItr" "cursor" "I" (.int (0 : Int32))
abbrev own_r_own_rmIT2 : Room := ({ frames := 2, cells := 1, slots := 4, locals := 27 } : Room)

set_option maxRecDepth 65536 in
set_option maxHeartbeats 40000000 in
theorem own_rmIT2 (l : Launch) (Z : State) (a0 : Array Value) (hw : ∀ d ∈ tables_1, d.before a0 Z = true) (ws : List Jvm.Cond) (x0 : Addr) (r1 : Addr) (r2 : Addr) (aI : Addr) (h0 : Heap) (n0 : Nat) (Z0 : n0 ≤ h0.size) (Pi0 : Exa Z h0 x0 "java/util/ImmutableCollections$List12") (Pi1 : Fld Z h0 x0 "java/util/ImmutableCollections$List12" "e0" "Ljava/lang/Object;" (.ref r1)) (Pi2 : Fld Z h0 x0 "java/util/ImmutableCollections$List12" "e1" "Ljava/lang/Object;" (.ref r2)) (Pi3 : Sta Z h0 "java/util/ImmutableCollections" "EMPTY" "Ljava/lang/Object;" (.ref aI)) (Pi4 : r2 ≠ aI) :
    MetFree l own_n41 (head1 (Jvm.Cond.code own_n41 jdk_46_method_10_code 1 (some (.object "java/util/Iterator")) :: ws) own_r_own_rmIT2) (fun a U => a = #[(.ref x0)] ∧ Z.Warmed39 U.vm ∧ U.heap = h0) (fun _ _ _ _ _ => True) (fun _ U o U' => ∃ v L, o = .returned v ∧ own_Q_own_rmIT2 Z x0 r1 r2 aI h0 n0 v U'.heap L ∧ FrameEnd U o U' L own_r_own_rmIT2.cells own_r_own_rmIT2.slots) := by
  refine MetFree.of_bodySF (plainFor_of_name own_pn_28) hisR ?_
  intro p e s m args below meth c s₁ Bd hml0 hP hK
  obtain ⟨rfl, hZ, hh⟩ := hP
  have hx := Bd.exec
  have hby := Bd.bytes
  have hml : c.maxLocals = 1 := hml0
  have hown : s.vm.findClass "java/util/ImmutableCollections$AbstractImmutableList" = some m.cls := findClass_of_methodNamed Bd.named
  have hnm := (name_of_methodNamed Bd.named Bd.method).1
  have X0 : Stand p l e own_r_own_rmIT2 s m #[(.ref x0)] below meth c s₁ [] 0 0 := Stand.of_body Bd
  have e0 : s₁.heap = h0 := by rw [← hh, Bd.state]; rfl
  have N0 := Fr.nil n0
  show Goes p.tables e below _ (own_R below s (own_Q_own_rmIT2 Z x0 r1 r2 aI h0 n0) own_r_own_rmIT2.cells own_r_own_rmIT2.slots)
  refine Goes.to (fun t k => castTop (own_ef_own_rmIT2 m x0) k) ?_
  obtain ⟨T1, h1, X1, e1, E1, A1, D1, -, st1⟩ := newO X0 hx hZ hown (own_hw hw 203 rfl) (own_hw hw 204 rfl) (own_hw hw 205 rfl) e0 (g := (mkF m 0 #[.val (.ref x0)] [])) rfl (hb hby d28_0) (by decide) (by decide)
  obtain ⟨b1, g1⟩ : ∃ z, z = h0.size := ⟨_, rfl⟩
  rw [← g1] at A1 D1 st1
  subst e1
  have F3 := Pi0.ext E1
  have F5 := Pi2.ext E1
  have F6 := Pi3.ext E1
  have g_b1 : n0 ≤ b1 := Nat.le_trans Z0 (Nat.le_of_eq g1.symm)
  have Z1 : n0 ≤ T1.heap.size := Nat.le_trans Z0 E1.1
  have sz_b1 : h0.size ≤ b1 := Nat.le_trans (Keep.refl h0 []).1 (Nat.le_of_eq g1.symm)
  have K1 : Keep h0 T1.heap [] := (Keep.refl h0 []).ext E1
  have F7 : Fld Z T1.heap b1 "java/util/ImmutableCollections$ListItr" "list" "Ljava/util/List;" .null := D1 (Or.inr (own_hw hw 218 rfl)) (ty := (.object "java/util/List")) (by decide)
  have F8 : Fld Z T1.heap b1 "java/util/ImmutableCollections$ListItr" "size" "I" (.int (0 : Int32)) := D1 (Or.inr (own_hw hw 220 rfl)) (ty := .int) (by decide)
  have F9 : Fld Z T1.heap b1 "java/util/ImmutableCollections$ListItr" "cursor" "I" (.int (0 : Int32)) := D1 (Or.inl (own_hw hw 222 rfl)) (ty := .int) (by decide)
  have F10 : Fld Z T1.heap b1 "java/util/ImmutableCollections$ListItr" "isListIterator" "Z" (.int (0 : Int32)) := D1 (Or.inr (own_hw hw 224 rfl)) (ty := .boolean) (by decide)
  refine Goes.to st1 ?_
  refine gx (XS.dup X1.here hx rfl (hb hby d28_3) rfl rfl) ?_
  refine gx (XS.aloadN X1.here hx rfl (hb hby d28_4) rfl rfl) ?_
  refine gx (XS.aloadN X1.here hx rfl (hb hby d28_5) rfl rfl) ?_
  obtain ⟨cq11, kq11, q11a, q11b, q11c⟩ := isOf hZ rfl F3
  obtain ⟨_, _, ⟨T11, L11, k11, n11⟩, -, X11, ⟨Lc11, hQ11, l11, y11, z11⟩, st11⟩ := X1.virtualBackUp hx (x := own_n40) (y := own_n36) (owner := "java/util/AbstractCollection") hown (mvT hZ (own_hw hw 206 rfl)) (mvT hZ (own_hw hw 207 rfl)) (mvT hZ (own_hw hw 208 rfl)) (by decide) (mvT hZ (own_hw hw 209 rfl)) (mvT hZ (own_hw hw 210 rfl)) (backOf (W := 3) (own_rmS2 l Z a0 hw [] x0 r2 aI T1.heap n0 Z1 F5 F6 Pi4) hZ (own_hw hw 211 rfl) (own_hw hw 159 rfl) (by decide) (by decide)) q11a q11c (g := (mkF m 6 #[.val (.ref x0)] [(.ref x0), (.ref x0), (.ref b1), (.ref b1)])) rfl (by rw [hml]; rfl) (Steps.refl _) (argsL := []) (rest := [(.ref x0), (.ref b1), (.ref b1)]) (lenOf own_pd_pqI rfl) rfl (own_W rfl rfl) (hb hby d28_6) (fun _ _ => ⟨rfl, rfl, (by decide : 1 + 0 ≤ _), (by decide : 4 + 0 ≤ _)⟩)
  dsimp only [Pt.U, Pt.locs, Pt.cells, Pt.slots] at X11 l11 y11 z11 st11 hQ11
  subst l11 y11 z11
  obtain ⟨hv11, Nq11, hp11_0⟩ := hQ11
  have N11 := Fr.app N0 Nq11
  subst hv11
  refine Goes.tr st11 ?_
  obtain ⟨_, _, ⟨T12, L12, k12, n12⟩, -, X12, ⟨Lc12, hQ12, l12, y12, z12⟩, st12⟩ := X11.specialBack hx (y := own_n34) rfl hown (mvT hZ (own_hw hw 212 rfl)) (mvT hZ (own_hw hw 213 rfl)) (mvT hZ (own_hw hw 215 rfl)) (by decide) (backOf (W := 1) (own_rm30 l Z a0 hw [] b1 x0 (2 : Int32) T1.heap n0 Z1 g_b1 A1 F7 F8 F9 F10) hZ (own_hw hw 215 rfl) (own_hw hw 205 rfl) (by decide) (by decide)) (g := (mkF m 9 #[.val (.ref x0)] [(.int (2 : Int32)), (.ref x0), (.ref b1), (.ref b1)])) rfl (by rw [hml]; rfl) (Steps.refl _) (a := b1) (argsL := [(.ref x0), (.int (2 : Int32))]) (rest := [(.ref b1)]) (lenOf own_pd_pLjavalutillListsIqV rfl) rfl (own_W rfl rfl) (hb hby d28_9) (fun _ _ => ⟨rfl, hp11_0, (by decide : 1 + 0 ≤ _), (by decide : 4 + 0 ≤ _)⟩)
  dsimp only [Pt.U, Pt.locs, Pt.cells, Pt.slots] at X12 l12 y12 z12 st12 hQ12
  subst l12 y12 z12
  obtain ⟨hv12, Nq12, Kq12, Qf12_0, Qf12_1, Qf12_2, Qf12_3⟩ := hQ12
  have N12 := Fr.app N11 Nq12
  have Kc12 : Keep h0 T12.heap [] := K1.trans Kq12 (allS (Or.inr sz_b1) all0)
  subst hv12
  refine Goes.tr st12 ?_
  show Goes p.tables e below (T12.setTop (mkF m 12 #[.val (.ref x0)] [(.ref b1)])) _
  obtain ⟨fs, hr, hrun, hended, hW, hsame⟩ := X12.leave (v := some (.ref b1)) (fun h => by rw [Bd.returns] at h; cases h)
  exact ⟨_, _, retOut X12 hx Bd.returns rfl (Or.inr (Or.inr (Or.inr (Or.inr ⟨rfl, rfl, rfl⟩)))) (hb hby d28_12) hr, hrun, hended, _, _, rfl, ⟨b1, rfl, N12, sz_b1, (by show Keep h0 T12.heap []; exact Kc12), (by show Exa Z T12.heap b1 "java/util/ImmutableCollections$ListItr"; exact Qf12_0), (by show Fld Z T12.heap b1 "java/util/ImmutableCollections$ListItr" "list" "Ljava/util/List;" (.ref x0); exact Qf12_1), (by show Fld Z T12.heap b1 "java/util/ImmutableCollections$ListItr" "size" "I" (.int (2 : Int32)); exact Qf12_2), (by show Fld Z T12.heap b1 "java/util/ImmutableCollections$ListItr" "cursor" "I" (.int (0 : Int32)); exact Qf12_3)⟩, ⟨_, rfl⟩, hW, hsame.mono (by decide) (by decide)⟩

theorem own_ef_own_rmIT3 (m : MethodId) (x0 : Addr) : entryFrame m #[(.ref x0)] 1 = mkF m 0 #[.val (.ref x0)] [] := by first | (simp [entryFrame, mkF, argsToLocals, Value.category]; done) | rfl
def own_Q_own_rmIT3 (Z : State) (x0 : Addr) (r1 : Addr) (r2 : Addr) (r3 : Addr) (el : Addr) (kL : ClassId) (aI : Addr) (h0 : Heap) (n0 : Nat) (v : Option Value) (h : Heap) (L : List Loc) : Prop := ∃ (it : Addr), v = some (.ref it) ∧ Fr n0 L ∧ h0.size ≤ it ∧ Keep h0 h [] ∧ Exa Z h it "java/util/ImmutableCollections$ListItr" ∧ Fld Z h it "java/util/ImmutableCollections$ListItr" "list" "Ljava/util/List;" (.ref x0) ∧ Fld Z h it "java/util/ImmutableCollections$ListItr" "size" "I" (.int (3 : Int32)) ∧ Fld Z h it "java/util/ImmutableCollections$ListItr" "cursor" "I" (.int (0 : Int32))
abbrev own_r_own_rmIT3 : Room := ({ frames := 2, cells := 1, slots := 4, locals := 27 } : Room)

set_option maxRecDepth 65536 in
set_option maxHeartbeats 40000000 in
theorem own_rmIT3 (l : Launch) (Z : State) (a0 : Array Value) (hw : ∀ d ∈ tables_1, d.before a0 Z = true) (ws : List Jvm.Cond) (x0 : Addr) (r1 : Addr) (r2 : Addr) (r3 : Addr) (el : Addr) (kL : ClassId) (aI : Addr) (h0 : Heap) (n0 : Nat) (Z0 : n0 ≤ h0.size) (Pi0 : Exa Z h0 x0 "java/util/ImmutableCollections$ListN") (Pi1 : Fld Z h0 x0 "java/util/ImmutableCollections$ListN" "elements" "[Ljava/lang/Object;" (.ref el)) (Pi2 : Exa Z h0 el "[Ljava/lang/Object;") (Pi3 : Arv Z h0 el kL (.object "java/lang/Object") (3 : Int32) [(.ref r1), (.ref r2), (.ref r3)] .null) (Pi4 : Sta Z h0 "java/util/ImmutableCollections" "EMPTY" "Ljava/lang/Object;" (.ref aI)) :
    MetFree l own_n41 (head1 (Jvm.Cond.code own_n41 jdk_46_method_10_code 1 (some (.object "java/util/Iterator")) :: ws) own_r_own_rmIT3) (fun a U => a = #[(.ref x0)] ∧ Z.Warmed39 U.vm ∧ U.heap = h0) (fun _ _ _ _ _ => True) (fun _ U o U' => ∃ v L, o = .returned v ∧ own_Q_own_rmIT3 Z x0 r1 r2 r3 el kL aI h0 n0 v U'.heap L ∧ FrameEnd U o U' L own_r_own_rmIT3.cells own_r_own_rmIT3.slots) := by
  refine MetFree.of_bodySF (plainFor_of_name own_pn_28) hisR ?_
  intro p e s m args below meth c s₁ Bd hml0 hP hK
  obtain ⟨rfl, hZ, hh⟩ := hP
  have hx := Bd.exec
  have hby := Bd.bytes
  have hml : c.maxLocals = 1 := hml0
  have hown : s.vm.findClass "java/util/ImmutableCollections$AbstractImmutableList" = some m.cls := findClass_of_methodNamed Bd.named
  have hnm := (name_of_methodNamed Bd.named Bd.method).1
  have X0 : Stand p l e own_r_own_rmIT3 s m #[(.ref x0)] below meth c s₁ [] 0 0 := Stand.of_body Bd
  have e0 : s₁.heap = h0 := by rw [← hh, Bd.state]; rfl
  have N0 := Fr.nil n0
  show Goes p.tables e below _ (own_R below s (own_Q_own_rmIT3 Z x0 r1 r2 r3 el kL aI h0 n0) own_r_own_rmIT3.cells own_r_own_rmIT3.slots)
  refine Goes.to (fun t k => castTop (own_ef_own_rmIT3 m x0) k) ?_
  obtain ⟨T1, h1, X1, e1, E1, A1, D1, -, st1⟩ := newO X0 hx hZ hown (own_hw hw 203 rfl) (own_hw hw 204 rfl) (own_hw hw 205 rfl) e0 (g := (mkF m 0 #[.val (.ref x0)] [])) rfl (hb hby d28_0) (by decide) (by decide)
  obtain ⟨b1, g1⟩ : ∃ z, z = h0.size := ⟨_, rfl⟩
  rw [← g1] at A1 D1 st1
  subst e1
  have F4 := Pi0.ext E1
  have F5 := Pi1.ext E1
  have F7 := Pi3.ext E1
  have g_b1 : n0 ≤ b1 := Nat.le_trans Z0 (Nat.le_of_eq g1.symm)
  have Z1 : n0 ≤ T1.heap.size := Nat.le_trans Z0 E1.1
  have sz_b1 : h0.size ≤ b1 := Nat.le_trans (Keep.refl h0 []).1 (Nat.le_of_eq g1.symm)
  have K1 : Keep h0 T1.heap [] := (Keep.refl h0 []).ext E1
  have F9 : Fld Z T1.heap b1 "java/util/ImmutableCollections$ListItr" "list" "Ljava/util/List;" .null := D1 (Or.inr (own_hw hw 218 rfl)) (ty := (.object "java/util/List")) (by decide)
  have F10 : Fld Z T1.heap b1 "java/util/ImmutableCollections$ListItr" "size" "I" (.int (0 : Int32)) := D1 (Or.inr (own_hw hw 220 rfl)) (ty := .int) (by decide)
  have F11 : Fld Z T1.heap b1 "java/util/ImmutableCollections$ListItr" "cursor" "I" (.int (0 : Int32)) := D1 (Or.inl (own_hw hw 222 rfl)) (ty := .int) (by decide)
  have F12 : Fld Z T1.heap b1 "java/util/ImmutableCollections$ListItr" "isListIterator" "Z" (.int (0 : Int32)) := D1 (Or.inr (own_hw hw 224 rfl)) (ty := .boolean) (by decide)
  refine Goes.to st1 ?_
  refine gx (XS.dup X1.here hx rfl (hb hby d28_3) rfl rfl) ?_
  refine gx (XS.aloadN X1.here hx rfl (hb hby d28_4) rfl rfl) ?_
  refine gx (XS.aloadN X1.here hx rfl (hb hby d28_5) rfl rfl) ?_
  obtain ⟨cq13, kq13, q13a, q13b, q13c⟩ := isOf hZ rfl F4
  obtain ⟨_, _, ⟨T13, L13, k13, n13⟩, -, X13, ⟨Lc13, hQ13, l13, y13, z13⟩, st13⟩ := X1.virtualBackUp hx (x := own_n40) (y := own_n37) (owner := "java/util/AbstractCollection") hown (mvT hZ (own_hw hw 206 rfl)) (mvT hZ (own_hw hw 207 rfl)) (mvT hZ (own_hw hw 208 rfl)) (by decide) (mvT hZ (own_hw hw 298 rfl)) (mvT hZ (own_hw hw 299 rfl)) (backOf (W := 3) (own_rm40 l Z a0 hw [] x0 el kL r1 r2 r3 T1.heap n0 Z1 F5 F7) hZ (own_hw hw 300 rfl) (own_hw hw 282 rfl) (by decide) (by decide)) q13a q13c (g := (mkF m 6 #[.val (.ref x0)] [(.ref x0), (.ref x0), (.ref b1), (.ref b1)])) rfl (by rw [hml]; rfl) (Steps.refl _) (argsL := []) (rest := [(.ref x0), (.ref b1), (.ref b1)]) (lenOf own_pd_pqI rfl) rfl (own_W rfl rfl) (hb hby d28_6) (fun _ _ => ⟨rfl, rfl, (by decide : 1 + 0 ≤ _), (by decide : 4 + 0 ≤ _)⟩)
  dsimp only [Pt.U, Pt.locs, Pt.cells, Pt.slots] at X13 l13 y13 z13 st13 hQ13
  subst l13 y13 z13
  obtain ⟨hv13, Nq13, hp13_0⟩ := hQ13
  have N13 := Fr.app N0 Nq13
  subst hv13
  refine Goes.tr st13 ?_
  obtain ⟨_, _, ⟨T14, L14, k14, n14⟩, -, X14, ⟨Lc14, hQ14, l14, y14, z14⟩, st14⟩ := X13.specialBack hx (y := own_n34) rfl hown (mvT hZ (own_hw hw 212 rfl)) (mvT hZ (own_hw hw 213 rfl)) (mvT hZ (own_hw hw 215 rfl)) (by decide) (backOf (W := 1) (own_rm30 l Z a0 hw [] b1 x0 (3 : Int32) T1.heap n0 Z1 g_b1 A1 F9 F10 F11 F12) hZ (own_hw hw 215 rfl) (own_hw hw 205 rfl) (by decide) (by decide)) (g := (mkF m 9 #[.val (.ref x0)] [(.int (3 : Int32)), (.ref x0), (.ref b1), (.ref b1)])) rfl (by rw [hml]; rfl) (Steps.refl _) (a := b1) (argsL := [(.ref x0), (.int (3 : Int32))]) (rest := [(.ref b1)]) (lenOf own_pd_pLjavalutillListsIqV rfl) rfl (own_W rfl rfl) (hb hby d28_9) (fun _ _ => ⟨rfl, hp13_0, (by decide : 1 + 0 ≤ _), (by decide : 4 + 0 ≤ _)⟩)
  dsimp only [Pt.U, Pt.locs, Pt.cells, Pt.slots] at X14 l14 y14 z14 st14 hQ14
  subst l14 y14 z14
  obtain ⟨hv14, Nq14, Kq14, Qf14_0, Qf14_1, Qf14_2, Qf14_3⟩ := hQ14
  have N14 := Fr.app N13 Nq14
  have Kc14 : Keep h0 T14.heap [] := K1.trans Kq14 (allS (Or.inr sz_b1) all0)
  subst hv14
  refine Goes.tr st14 ?_
  show Goes p.tables e below (T14.setTop (mkF m 12 #[.val (.ref x0)] [(.ref b1)])) _
  obtain ⟨fs, hr, hrun, hended, hW, hsame⟩ := X14.leave (v := some (.ref b1)) (fun h => by rw [Bd.returns] at h; cases h)
  exact ⟨_, _, retOut X14 hx Bd.returns rfl (Or.inr (Or.inr (Or.inr (Or.inr ⟨rfl, rfl, rfl⟩)))) (hb hby d28_12) hr, hrun, hended, _, _, rfl, ⟨b1, rfl, N14, sz_b1, (by show Keep h0 T14.heap []; exact Kc14), (by show Exa Z T14.heap b1 "java/util/ImmutableCollections$ListItr"; exact Qf14_0), (by show Fld Z T14.heap b1 "java/util/ImmutableCollections$ListItr" "list" "Ljava/util/List;" (.ref x0); exact Qf14_1), (by show Fld Z T14.heap b1 "java/util/ImmutableCollections$ListItr" "size" "I" (.int (3 : Int32)); exact Qf14_2), (by show Fld Z T14.heap b1 "java/util/ImmutableCollections$ListItr" "cursor" "I" (.int (0 : Int32)); exact Qf14_3)⟩, ⟨_, rfl⟩, hW, hsame.mono (by decide) (by decide)⟩

theorem d32_0 : decode jdk_53_method_4_code 0 = .ok (.aload_n 0, 1) := by decide +kernel
theorem d32_1 : decode jdk_53_method_4_code 1 = .ok (.getfield 17, 3) := by decide +kernel
theorem d32_4 : decode jdk_53_method_4_code 4 = .ok (.istore_n 1, 1) := by decide +kernel
theorem d32_5 : decode jdk_53_method_4_code 5 = .ok (.aload_n 0, 1) := by decide +kernel
theorem d32_6 : decode jdk_53_method_4_code 6 = .ok (.getfield 7, 3) := by decide +kernel
theorem d32_9 : decode jdk_53_method_4_code 9 = .ok (.iload_n 1, 1) := by decide +kernel
theorem d32_10 : decode jdk_53_method_4_code 10 = .ok (.invokeinterface 24 2, 5) := by decide +kernel
theorem d32_15 : decode jdk_53_method_4_code 15 = .ok (.astore_n 2, 1) := by decide +kernel
theorem d32_16 : decode jdk_53_method_4_code 16 = .ok (.aload_n 0, 1) := by decide +kernel
theorem d32_17 : decode jdk_53_method_4_code 17 = .ok (.iload_n 1, 1) := by decide +kernel
theorem d32_18 : decode jdk_53_method_4_code 18 = .ok (.iconst 1, 1) := by decide +kernel
theorem d32_19 : decode jdk_53_method_4_code 19 = .ok (.iadd, 1) := by decide +kernel
theorem d32_20 : decode jdk_53_method_4_code 20 = .ok (.putfield 17, 3) := by decide +kernel
theorem d32_23 : decode jdk_53_method_4_code 23 = .ok (.aload_n 2, 1) := by decide +kernel
theorem d32_24 : decode jdk_53_method_4_code 24 = .ok (.areturn, 1) := by decide +kernel
theorem own_pd_pIqLjavallanglObjects : parseMethodDescriptor "(I)Ljava/lang/Object;" = some ⟨[.int], some (.object "java/lang/Object")⟩ := by decide +kernel
theorem own_pn_32 : plainName "java/util/ImmutableCollections$ListItr" = true := by first | (simp [plainName, overriddenIn]; done) | decide +kernel
theorem own_ef_own_rmNX10 (m : MethodId) (x0 : Addr) : entryFrame m #[(.ref x0)] 3 = mkF m 0 #[.val (.ref x0), .unset, .unset] [] := by first | (simp [entryFrame, mkF, argsToLocals, Value.category]; done) | rfl
def own_Q_own_rmNX10 (Z : State) (x0 : Addr) (li : Addr) (r1 : Addr) (aI : Addr) (h0 : Heap) (n0 : Nat) (v : Option Value) (h : Heap) (L : List Loc) : Prop := v = some (.ref r1) ∧ Fr n0 L ∧ Keep h0 h [x0] ∧ Exa Z h x0 "java/util/ImmutableCollections$ListItr" ∧ Fld Z h x0 "java/util/ImmutableCollections$ListItr" "list" "Ljava/util/List;" (.ref li) ∧ Fld Z h x0 "java/util/ImmutableCollections$ListItr" "size" "I" (.int (1 : Int32)) ∧ Fld Z h x0 "java/util/ImmutableCollections$ListItr" "cursor" "I" (.int (1 : Int32))
abbrev own_r_own_rmNX10 : Room := ({ frames := 1, cells := 0, slots := 0, locals := 13 } : Room)

set_option maxRecDepth 65536 in
set_option maxHeartbeats 40000000 in
theorem own_rmNX10 (l : Launch) (Z : State) (a0 : Array Value) (hw : ∀ d ∈ tables_1, d.before a0 Z = true) (ws : List Jvm.Cond) (x0 : Addr) (li : Addr) (r1 : Addr) (aI : Addr) (h0 : Heap) (n0 : Nat) (Z0 : n0 ≤ h0.size) (Pi0 : n0 ≤ x0) (Pi1 : Exa Z h0 x0 "java/util/ImmutableCollections$ListItr") (Pi2 : Fld Z h0 x0 "java/util/ImmutableCollections$ListItr" "list" "Ljava/util/List;" (.ref li)) (Pi3 : Fld Z h0 x0 "java/util/ImmutableCollections$ListItr" "size" "I" (.int (1 : Int32))) (Pi4 : Fld Z h0 x0 "java/util/ImmutableCollections$ListItr" "cursor" "I" (.int (0 : Int32))) (Pi5 : Exa Z h0 li "java/util/ImmutableCollections$List12") (Pi6 : Fld Z h0 li "java/util/ImmutableCollections$List12" "e0" "Ljava/lang/Object;" (.ref r1)) (Pi7 : Fld Z h0 li "java/util/ImmutableCollections$List12" "e1" "Ljava/lang/Object;" (.ref aI)) (Pi8 : Sta Z h0 "java/util/ImmutableCollections" "EMPTY" "Ljava/lang/Object;" (.ref aI)) :
    MetFree l own_n43 (head1 (Jvm.Cond.codeWith own_n43 jdk_53_method_4_code 3 (some (.object "java/lang/Object")) [((0 : Nat), (24 : Nat), (25 : Nat), (30 : Nat))] :: ws) own_r_own_rmNX10) (fun a U => a = #[(.ref x0)] ∧ Z.Warmed39 U.vm ∧ U.heap = h0) (fun _ _ _ _ _ => True) (fun _ U o U' => ∃ v L, o = .returned v ∧ own_Q_own_rmNX10 Z x0 li r1 aI h0 n0 v U'.heap L ∧ FrameEnd U o U' L own_r_own_rmNX10.cells own_r_own_rmNX10.slots) := by
  refine MetFree.of_bodySF (plainFor_of_name own_pn_32) hisWith ?_
  intro p e s m args below meth c s₁ Bd hml0 hP hK
  obtain ⟨rfl, hZ, hh⟩ := hP
  have hx := Bd.exec
  have hby := Bd.bytes
  have hml : c.maxLocals = 3 := hml0
  have hown : s.vm.findClass "java/util/ImmutableCollections$ListItr" = some m.cls := findClass_of_methodNamed Bd.named
  have hnm := (name_of_methodNamed Bd.named Bd.method).1
  have X0 : Stand p l e own_r_own_rmNX10 s m #[(.ref x0)] below meth c s₁ [] 0 0 := Stand.of_body Bd
  have e0 : s₁.heap = h0 := by rw [← hh, Bd.state]; rfl
  have N0 := Fr.nil n0
  show Goes p.tables e below _ (own_R below s (own_Q_own_rmNX10 Z x0 li r1 aI h0 n0) own_r_own_rmNX10.cells own_r_own_rmNX10.slots)
  refine Goes.to (fun t k => castTop (own_ef_own_rmNX10 m x0) k) ?_
  refine gx (XS.aloadN X0.here hx rfl (hb hby d32_0) rfl rfl) ?_
  obtain ⟨T1, X1, e1, st1⟩ := getF X0 hx hZ hown (host := "") (Or.inl (own_hw hw 221 rfl)) Via.refl e0 Pi4 (g := (mkF m 1 #[.val (.ref x0), .unset, .unset] [(.ref x0)])) rfl rfl (hb hby d32_1)
  refine Goes.to st1 ?_
  refine gx (XS.istoreN X1.here hx rfl (hb hby d32_4) rfl (l' := #[.val (.ref x0), .val (.int (0 : Int32)), .unset]) rfl) ?_
  refine gx (XS.aloadN X1.here hx rfl (hb hby d32_5) rfl rfl) ?_
  obtain ⟨T2, X2, e2, st2⟩ := getF X1 hx hZ hown (host := "") (Or.inl (own_hw hw 217 rfl)) Via.refl e1 Pi2 (g := (mkF m 6 #[.val (.ref x0), .val (.int (0 : Int32)), .unset] [(.ref x0)])) rfl rfl (hb hby d32_6)
  refine Goes.to st2 ?_
  refine gx (XS.iloadN X2.here hx rfl (hb hby d32_9) rfl) ?_
  obtain ⟨cq3, kq3, q3a, q3b, q3c⟩ := isOf hZ e2 Pi5
  obtain ⟨_, _, ⟨T3, L3, k3, n3⟩, -, X3, ⟨Lc3, hQ3, l3, y3, z3⟩, st3⟩ := X2.interfaceBack hx (xi := own_n42) (y := own_n38) hown (mvT hZ (own_hw hw 242 rfl)) (mvT hZ (own_hw hw 243 rfl)) (mvT hZ (own_hw hw 244 rfl)) (mvT hZ (own_hw hw 245 rfl)) (mvT hZ (own_hw hw 246 rfl)) (mvT hZ (own_hw hw 247 rfl)) (mvT hZ (own_hw hw 248 rfl)) (mvT hZ (own_hw hw 201 rfl)) (by decide) (backOf (W := 0) (own_rmG0 l Z a0 hw [] li r1 h0 n0 Z0 Pi6) hZ (own_hw hw 249 rfl) (own_hw hw 159 rfl) (by decide) (by decide)) q3a q3b q3c (g := (mkF m 10 #[.val (.ref x0), .val (.int (0 : Int32)), .unset] [(.int (0 : Int32)), (.ref li)])) rfl (by rw [hml]; rfl) (Steps.refl _) (argsL := [(.int (0 : Int32))]) (rest := []) (lenOf own_pd_pIqLjavallanglObjects rfl) rfl (own_W rfl rfl) (hb hby d32_10) (fun _ _ => ⟨rfl, e2, (by decide : 0 + 0 ≤ _), (by decide : 0 + 0 ≤ _)⟩)
  dsimp only [Pt.U, Pt.locs, Pt.cells, Pt.slots] at X3 l3 y3 z3 st3 hQ3
  subst l3 y3 z3
  obtain ⟨hv3, Nq3, hp3_0⟩ := hQ3
  have N3 := Fr.app N0 Nq3
  subst hv3
  refine Goes.tr st3 ?_
  refine gx (XS.astoreN X3.here hx rfl (hb hby d32_15) rfl rfl (l' := #[.val (.ref x0), .val (.int (0 : Int32)), .val (.ref r1)]) rfl) ?_
  refine gx (XS.aloadN X3.here hx rfl (hb hby d32_16) rfl rfl) ?_
  refine gx (XS.iloadN X3.here hx rfl (hb hby d32_17) rfl) ?_
  refine gx (XS.iconst X3.here hx rfl (hb hby d32_18)) ?_
  show Goes p.tables e below (T3.setTop (mkF m 19 #[.val (.ref x0), .val (.int (0 : Int32)), .val (.ref r1)] [(.int (1 : Int32)), (.int (0 : Int32)), (.ref x0)])) _
  refine gx (XS.iadd X3.here hx rfl (hb hby d32_19) rfl) ?_
  obtain ⟨T4, h4, X4, e4, W4, st4⟩ := putF X3 hx hZ hown (host := "") (Or.inl (own_hw hw 221 rfl)) Via.refl hp3_0 Pi4 Pi1 (Or.inl (own_hw hw 222 rfl)) (own_hw hw 204 rfl) (ty := .int) (by decide) rfl rfl (g := (mkF m 20 #[.val (.ref x0), .val (.int (0 : Int32)), .val (.ref r1)] [(.int (1 : Int32)), (.ref x0)])) rfl rfl (hb hby d32_20)
  subst e4
  have F5 := Pi1.wr W4
  have F6 := Pi2.other W4 (Or.inr (slot_ne (Or.inr (own_hw hw 218 rfl)) (Or.inl (own_hw hw 222 rfl)) (by decide) (t := (.object "java/util/List")) (t' := .int) (by decide) (by decide)))
  have F7 := Pi3.other W4 (Or.inr (slot_ne (Or.inr (own_hw hw 220 rfl)) (Or.inl (own_hw hw 222 rfl)) (by decide) (t := .int) (t' := .int) (by decide) (by decide)))
  have N4 := Fr.snoc X4 N3 Pi0
  have K4 : Keep h0 T4.heap [x0] := (Keep.refl h0 [x0]).wr W4 (Or.inl (List.mem_of_getElem? (i := 0) rfl))
  have F13 : Fld Z T4.heap x0 "java/util/ImmutableCollections$ListItr" "cursor" "I" (.int (1 : Int32)) := Pi4.same W4
  refine Goes.to st4 ?_
  refine gx (XS.aloadN X4.here hx rfl (hb hby d32_23) rfl rfl) ?_
  show Goes p.tables e below (T4.setTop (mkF m 24 #[.val (.ref x0), .val (.int (0 : Int32)), .val (.ref r1)] [(.ref r1)])) _
  obtain ⟨fs, hr, hrun, hended, hW, hsame⟩ := X4.leave (v := some (.ref r1)) (fun h => by rw [Bd.returns] at h; cases h)
  exact ⟨_, _, retOut X4 hx Bd.returns rfl (Or.inr (Or.inr (Or.inr (Or.inr ⟨rfl, rfl, rfl⟩)))) (hb hby d32_24) hr, hrun, hended, _, _, rfl, ⟨rfl, N4, (by show Keep h0 T4.heap [x0]; exact K4), (by show Exa Z T4.heap x0 "java/util/ImmutableCollections$ListItr"; exact F5), (by show Fld Z T4.heap x0 "java/util/ImmutableCollections$ListItr" "list" "Ljava/util/List;" (.ref li); exact F6), (by show Fld Z T4.heap x0 "java/util/ImmutableCollections$ListItr" "size" "I" (.int (1 : Int32)); exact F7), (by show Fld Z T4.heap x0 "java/util/ImmutableCollections$ListItr" "cursor" "I" (.int (1 : Int32)); exact F13)⟩, ⟨_, rfl⟩, hW, hsame.mono (by decide) (by decide)⟩

theorem own_ef_own_rmNX20 (m : MethodId) (x0 : Addr) : entryFrame m #[(.ref x0)] 3 = mkF m 0 #[.val (.ref x0), .unset, .unset] [] := by first | (simp [entryFrame, mkF, argsToLocals, Value.category]; done) | rfl
def own_Q_own_rmNX20 (Z : State) (x0 : Addr) (li : Addr) (r1 : Addr) (r2 : Addr) (aI : Addr) (h0 : Heap) (n0 : Nat) (v : Option Value) (h : Heap) (L : List Loc) : Prop := v = some (.ref r1) ∧ Fr n0 L ∧ Keep h0 h [x0] ∧ Exa Z h x0 "java/util/ImmutableCollections$ListItr" ∧ Fld Z h x0 "java/util/ImmutableCollections$ListItr" "list" "Ljava/util/List;" (.ref li) ∧ Fld Z h x0 "java/util/ImmutableCollections$ListItr" "size" "I" (.int (2 : Int32)) ∧ Fld Z h x0 "java/util/ImmutableCollections$ListItr" "cursor" "I" (.int (1 : Int32))
abbrev own_r_own_rmNX20 : Room := ({ frames := 1, cells := 0, slots := 0, locals := 13 } : Room)

set_option maxRecDepth 65536 in
set_option maxHeartbeats 40000000 in
theorem own_rmNX20 (l : Launch) (Z : State) (a0 : Array Value) (hw : ∀ d ∈ tables_1, d.before a0 Z = true) (ws : List Jvm.Cond) (x0 : Addr) (li : Addr) (r1 : Addr) (r2 : Addr) (aI : Addr) (h0 : Heap) (n0 : Nat) (Z0 : n0 ≤ h0.size) (Pi0 : n0 ≤ x0) (Pi1 : Exa Z h0 x0 "java/util/ImmutableCollections$ListItr") (Pi2 : Fld Z h0 x0 "java/util/ImmutableCollections$ListItr" "list" "Ljava/util/List;" (.ref li)) (Pi3 : Fld Z h0 x0 "java/util/ImmutableCollections$ListItr" "size" "I" (.int (2 : Int32))) (Pi4 : Fld Z h0 x0 "java/util/ImmutableCollections$ListItr" "cursor" "I" (.int (0 : Int32))) (Pi5 : Exa Z h0 li "java/util/ImmutableCollections$List12") (Pi6 : Fld Z h0 li "java/util/ImmutableCollections$List12" "e0" "Ljava/lang/Object;" (.ref r1)) (Pi7 : Fld Z h0 li "java/util/ImmutableCollections$List12" "e1" "Ljava/lang/Object;" (.ref r2)) (Pi8 : Sta Z h0 "java/util/ImmutableCollections" "EMPTY" "Ljava/lang/Object;" (.ref aI)) (Pi9 : r2 ≠ aI) :
    MetFree l own_n43 (head1 (Jvm.Cond.codeWith own_n43 jdk_53_method_4_code 3 (some (.object "java/lang/Object")) [((0 : Nat), (24 : Nat), (25 : Nat), (30 : Nat))] :: ws) own_r_own_rmNX20) (fun a U => a = #[(.ref x0)] ∧ Z.Warmed39 U.vm ∧ U.heap = h0) (fun _ _ _ _ _ => True) (fun _ U o U' => ∃ v L, o = .returned v ∧ own_Q_own_rmNX20 Z x0 li r1 r2 aI h0 n0 v U'.heap L ∧ FrameEnd U o U' L own_r_own_rmNX20.cells own_r_own_rmNX20.slots) := by
  refine MetFree.of_bodySF (plainFor_of_name own_pn_32) hisWith ?_
  intro p e s m args below meth c s₁ Bd hml0 hP hK
  obtain ⟨rfl, hZ, hh⟩ := hP
  have hx := Bd.exec
  have hby := Bd.bytes
  have hml : c.maxLocals = 3 := hml0
  have hown : s.vm.findClass "java/util/ImmutableCollections$ListItr" = some m.cls := findClass_of_methodNamed Bd.named
  have hnm := (name_of_methodNamed Bd.named Bd.method).1
  have X0 : Stand p l e own_r_own_rmNX20 s m #[(.ref x0)] below meth c s₁ [] 0 0 := Stand.of_body Bd
  have e0 : s₁.heap = h0 := by rw [← hh, Bd.state]; rfl
  have N0 := Fr.nil n0
  show Goes p.tables e below _ (own_R below s (own_Q_own_rmNX20 Z x0 li r1 r2 aI h0 n0) own_r_own_rmNX20.cells own_r_own_rmNX20.slots)
  refine Goes.to (fun t k => castTop (own_ef_own_rmNX20 m x0) k) ?_
  refine gx (XS.aloadN X0.here hx rfl (hb hby d32_0) rfl rfl) ?_
  obtain ⟨T1, X1, e1, st1⟩ := getF X0 hx hZ hown (host := "") (Or.inl (own_hw hw 221 rfl)) Via.refl e0 Pi4 (g := (mkF m 1 #[.val (.ref x0), .unset, .unset] [(.ref x0)])) rfl rfl (hb hby d32_1)
  refine Goes.to st1 ?_
  refine gx (XS.istoreN X1.here hx rfl (hb hby d32_4) rfl (l' := #[.val (.ref x0), .val (.int (0 : Int32)), .unset]) rfl) ?_
  refine gx (XS.aloadN X1.here hx rfl (hb hby d32_5) rfl rfl) ?_
  obtain ⟨T2, X2, e2, st2⟩ := getF X1 hx hZ hown (host := "") (Or.inl (own_hw hw 217 rfl)) Via.refl e1 Pi2 (g := (mkF m 6 #[.val (.ref x0), .val (.int (0 : Int32)), .unset] [(.ref x0)])) rfl rfl (hb hby d32_6)
  refine Goes.to st2 ?_
  refine gx (XS.iloadN X2.here hx rfl (hb hby d32_9) rfl) ?_
  obtain ⟨cq3, kq3, q3a, q3b, q3c⟩ := isOf hZ e2 Pi5
  obtain ⟨_, _, ⟨T3, L3, k3, n3⟩, -, X3, ⟨Lc3, hQ3, l3, y3, z3⟩, st3⟩ := X2.interfaceBack hx (xi := own_n42) (y := own_n38) hown (mvT hZ (own_hw hw 242 rfl)) (mvT hZ (own_hw hw 243 rfl)) (mvT hZ (own_hw hw 244 rfl)) (mvT hZ (own_hw hw 245 rfl)) (mvT hZ (own_hw hw 246 rfl)) (mvT hZ (own_hw hw 247 rfl)) (mvT hZ (own_hw hw 248 rfl)) (mvT hZ (own_hw hw 201 rfl)) (by decide) (backOf (W := 0) (own_rmG0 l Z a0 hw [] li r1 h0 n0 Z0 Pi6) hZ (own_hw hw 249 rfl) (own_hw hw 159 rfl) (by decide) (by decide)) q3a q3b q3c (g := (mkF m 10 #[.val (.ref x0), .val (.int (0 : Int32)), .unset] [(.int (0 : Int32)), (.ref li)])) rfl (by rw [hml]; rfl) (Steps.refl _) (argsL := [(.int (0 : Int32))]) (rest := []) (lenOf own_pd_pIqLjavallanglObjects rfl) rfl (own_W rfl rfl) (hb hby d32_10) (fun _ _ => ⟨rfl, e2, (by decide : 0 + 0 ≤ _), (by decide : 0 + 0 ≤ _)⟩)
  dsimp only [Pt.U, Pt.locs, Pt.cells, Pt.slots] at X3 l3 y3 z3 st3 hQ3
  subst l3 y3 z3
  obtain ⟨hv3, Nq3, hp3_0⟩ := hQ3
  have N3 := Fr.app N0 Nq3
  subst hv3
  refine Goes.tr st3 ?_
  refine gx (XS.astoreN X3.here hx rfl (hb hby d32_15) rfl rfl (l' := #[.val (.ref x0), .val (.int (0 : Int32)), .val (.ref r1)]) rfl) ?_
  refine gx (XS.aloadN X3.here hx rfl (hb hby d32_16) rfl rfl) ?_
  refine gx (XS.iloadN X3.here hx rfl (hb hby d32_17) rfl) ?_
  refine gx (XS.iconst X3.here hx rfl (hb hby d32_18)) ?_
  show Goes p.tables e below (T3.setTop (mkF m 19 #[.val (.ref x0), .val (.int (0 : Int32)), .val (.ref r1)] [(.int (1 : Int32)), (.int (0 : Int32)), (.ref x0)])) _
  refine gx (XS.iadd X3.here hx rfl (hb hby d32_19) rfl) ?_
  obtain ⟨T4, h4, X4, e4, W4, st4⟩ := putF X3 hx hZ hown (host := "") (Or.inl (own_hw hw 221 rfl)) Via.refl hp3_0 Pi4 Pi1 (Or.inl (own_hw hw 222 rfl)) (own_hw hw 204 rfl) (ty := .int) (by decide) rfl rfl (g := (mkF m 20 #[.val (.ref x0), .val (.int (0 : Int32)), .val (.ref r1)] [(.int (1 : Int32)), (.ref x0)])) rfl rfl (hb hby d32_20)
  subst e4
  have F5 := Pi1.wr W4
  have F6 := Pi2.other W4 (Or.inr (slot_ne (Or.inr (own_hw hw 218 rfl)) (Or.inl (own_hw hw 222 rfl)) (by decide) (t := (.object "java/util/List")) (t' := .int) (by decide) (by decide)))
  have F7 := Pi3.other W4 (Or.inr (slot_ne (Or.inr (own_hw hw 220 rfl)) (Or.inl (own_hw hw 222 rfl)) (by decide) (t := .int) (t' := .int) (by decide) (by decide)))
  have N4 := Fr.snoc X4 N3 Pi0
  have K4 : Keep h0 T4.heap [x0] := (Keep.refl h0 [x0]).wr W4 (Or.inl (List.mem_of_getElem? (i := 0) rfl))
  have F13 : Fld Z T4.heap x0 "java/util/ImmutableCollections$ListItr" "cursor" "I" (.int (1 : Int32)) := Pi4.same W4
  refine Goes.to st4 ?_
  refine gx (XS.aloadN X4.here hx rfl (hb hby d32_23) rfl rfl) ?_
  show Goes p.tables e below (T4.setTop (mkF m 24 #[.val (.ref x0), .val (.int (0 : Int32)), .val (.ref r1)] [(.ref r1)])) _
  obtain ⟨fs, hr, hrun, hended, hW, hsame⟩ := X4.leave (v := some (.ref r1)) (fun h => by rw [Bd.returns] at h; cases h)
  exact ⟨_, _, retOut X4 hx Bd.returns rfl (Or.inr (Or.inr (Or.inr (Or.inr ⟨rfl, rfl, rfl⟩)))) (hb hby d32_24) hr, hrun, hended, _, _, rfl, ⟨rfl, N4, (by show Keep h0 T4.heap [x0]; exact K4), (by show Exa Z T4.heap x0 "java/util/ImmutableCollections$ListItr"; exact F5), (by show Fld Z T4.heap x0 "java/util/ImmutableCollections$ListItr" "list" "Ljava/util/List;" (.ref li); exact F6), (by show Fld Z T4.heap x0 "java/util/ImmutableCollections$ListItr" "size" "I" (.int (2 : Int32)); exact F7), (by show Fld Z T4.heap x0 "java/util/ImmutableCollections$ListItr" "cursor" "I" (.int (1 : Int32)); exact F13)⟩, ⟨_, rfl⟩, hW, hsame.mono (by decide) (by decide)⟩

theorem own_ef_own_rmNX21 (m : MethodId) (x0 : Addr) : entryFrame m #[(.ref x0)] 3 = mkF m 0 #[.val (.ref x0), .unset, .unset] [] := by first | (simp [entryFrame, mkF, argsToLocals, Value.category]; done) | rfl
def own_Q_own_rmNX21 (Z : State) (x0 : Addr) (li : Addr) (r1 : Addr) (r2 : Addr) (aI : Addr) (h0 : Heap) (n0 : Nat) (v : Option Value) (h : Heap) (L : List Loc) : Prop := v = some (.ref r2) ∧ Fr n0 L ∧ Keep h0 h [x0] ∧ Exa Z h x0 "java/util/ImmutableCollections$ListItr" ∧ Fld Z h x0 "java/util/ImmutableCollections$ListItr" "list" "Ljava/util/List;" (.ref li) ∧ Fld Z h x0 "java/util/ImmutableCollections$ListItr" "size" "I" (.int (2 : Int32)) ∧ Fld Z h x0 "java/util/ImmutableCollections$ListItr" "cursor" "I" (.int (2 : Int32))
abbrev own_r_own_rmNX21 : Room := ({ frames := 1, cells := 0, slots := 0, locals := 13 } : Room)

set_option maxRecDepth 65536 in
set_option maxHeartbeats 40000000 in
theorem own_rmNX21 (l : Launch) (Z : State) (a0 : Array Value) (hw : ∀ d ∈ tables_1, d.before a0 Z = true) (ws : List Jvm.Cond) (x0 : Addr) (li : Addr) (r1 : Addr) (r2 : Addr) (aI : Addr) (h0 : Heap) (n0 : Nat) (Z0 : n0 ≤ h0.size) (Pi0 : n0 ≤ x0) (Pi1 : Exa Z h0 x0 "java/util/ImmutableCollections$ListItr") (Pi2 : Fld Z h0 x0 "java/util/ImmutableCollections$ListItr" "list" "Ljava/util/List;" (.ref li)) (Pi3 : Fld Z h0 x0 "java/util/ImmutableCollections$ListItr" "size" "I" (.int (2 : Int32))) (Pi4 : Fld Z h0 x0 "java/util/ImmutableCollections$ListItr" "cursor" "I" (.int (1 : Int32))) (Pi5 : Exa Z h0 li "java/util/ImmutableCollections$List12") (Pi6 : Fld Z h0 li "java/util/ImmutableCollections$List12" "e0" "Ljava/lang/Object;" (.ref r1)) (Pi7 : Fld Z h0 li "java/util/ImmutableCollections$List12" "e1" "Ljava/lang/Object;" (.ref r2)) (Pi8 : Sta Z h0 "java/util/ImmutableCollections" "EMPTY" "Ljava/lang/Object;" (.ref aI)) (Pi9 : r2 ≠ aI) :
    MetFree l own_n43 (head1 (Jvm.Cond.codeWith own_n43 jdk_53_method_4_code 3 (some (.object "java/lang/Object")) [((0 : Nat), (24 : Nat), (25 : Nat), (30 : Nat))] :: ws) own_r_own_rmNX21) (fun a U => a = #[(.ref x0)] ∧ Z.Warmed39 U.vm ∧ U.heap = h0) (fun _ _ _ _ _ => True) (fun _ U o U' => ∃ v L, o = .returned v ∧ own_Q_own_rmNX21 Z x0 li r1 r2 aI h0 n0 v U'.heap L ∧ FrameEnd U o U' L own_r_own_rmNX21.cells own_r_own_rmNX21.slots) := by
  refine MetFree.of_bodySF (plainFor_of_name own_pn_32) hisWith ?_
  intro p e s m args below meth c s₁ Bd hml0 hP hK
  obtain ⟨rfl, hZ, hh⟩ := hP
  have hx := Bd.exec
  have hby := Bd.bytes
  have hml : c.maxLocals = 3 := hml0
  have hown : s.vm.findClass "java/util/ImmutableCollections$ListItr" = some m.cls := findClass_of_methodNamed Bd.named
  have hnm := (name_of_methodNamed Bd.named Bd.method).1
  have X0 : Stand p l e own_r_own_rmNX21 s m #[(.ref x0)] below meth c s₁ [] 0 0 := Stand.of_body Bd
  have e0 : s₁.heap = h0 := by rw [← hh, Bd.state]; rfl
  have N0 := Fr.nil n0
  show Goes p.tables e below _ (own_R below s (own_Q_own_rmNX21 Z x0 li r1 r2 aI h0 n0) own_r_own_rmNX21.cells own_r_own_rmNX21.slots)
  refine Goes.to (fun t k => castTop (own_ef_own_rmNX21 m x0) k) ?_
  refine gx (XS.aloadN X0.here hx rfl (hb hby d32_0) rfl rfl) ?_
  obtain ⟨T1, X1, e1, st1⟩ := getF X0 hx hZ hown (host := "") (Or.inl (own_hw hw 221 rfl)) Via.refl e0 Pi4 (g := (mkF m 1 #[.val (.ref x0), .unset, .unset] [(.ref x0)])) rfl rfl (hb hby d32_1)
  refine Goes.to st1 ?_
  refine gx (XS.istoreN X1.here hx rfl (hb hby d32_4) rfl (l' := #[.val (.ref x0), .val (.int (1 : Int32)), .unset]) rfl) ?_
  refine gx (XS.aloadN X1.here hx rfl (hb hby d32_5) rfl rfl) ?_
  obtain ⟨T2, X2, e2, st2⟩ := getF X1 hx hZ hown (host := "") (Or.inl (own_hw hw 217 rfl)) Via.refl e1 Pi2 (g := (mkF m 6 #[.val (.ref x0), .val (.int (1 : Int32)), .unset] [(.ref x0)])) rfl rfl (hb hby d32_6)
  refine Goes.to st2 ?_
  refine gx (XS.iloadN X2.here hx rfl (hb hby d32_9) rfl) ?_
  obtain ⟨cq3, kq3, q3a, q3b, q3c⟩ := isOf hZ e2 Pi5
  obtain ⟨_, _, ⟨T3, L3, k3, n3⟩, -, X3, ⟨Lc3, hQ3, l3, y3, z3⟩, st3⟩ := X2.interfaceBack hx (xi := own_n42) (y := own_n38) hown (mvT hZ (own_hw hw 242 rfl)) (mvT hZ (own_hw hw 243 rfl)) (mvT hZ (own_hw hw 244 rfl)) (mvT hZ (own_hw hw 245 rfl)) (mvT hZ (own_hw hw 246 rfl)) (mvT hZ (own_hw hw 247 rfl)) (mvT hZ (own_hw hw 248 rfl)) (mvT hZ (own_hw hw 201 rfl)) (by decide) (backOf (W := 0) (own_rmG1 l Z a0 hw [] li r2 aI h0 n0 Z0 Pi7 Pi8 Pi9) hZ (own_hw hw 249 rfl) (own_hw hw 159 rfl) (by decide) (by decide)) q3a q3b q3c (g := (mkF m 10 #[.val (.ref x0), .val (.int (1 : Int32)), .unset] [(.int (1 : Int32)), (.ref li)])) rfl (by rw [hml]; rfl) (Steps.refl _) (argsL := [(.int (1 : Int32))]) (rest := []) (lenOf own_pd_pIqLjavallanglObjects rfl) rfl (own_W rfl rfl) (hb hby d32_10) (fun _ _ => ⟨rfl, e2, (by decide : 0 + 0 ≤ _), (by decide : 0 + 0 ≤ _)⟩)
  dsimp only [Pt.U, Pt.locs, Pt.cells, Pt.slots] at X3 l3 y3 z3 st3 hQ3
  subst l3 y3 z3
  obtain ⟨hv3, Nq3, hp3_0⟩ := hQ3
  have N3 := Fr.app N0 Nq3
  subst hv3
  refine Goes.tr st3 ?_
  refine gx (XS.astoreN X3.here hx rfl (hb hby d32_15) rfl rfl (l' := #[.val (.ref x0), .val (.int (1 : Int32)), .val (.ref r2)]) rfl) ?_
  refine gx (XS.aloadN X3.here hx rfl (hb hby d32_16) rfl rfl) ?_
  refine gx (XS.iloadN X3.here hx rfl (hb hby d32_17) rfl) ?_
  refine gx (XS.iconst X3.here hx rfl (hb hby d32_18)) ?_
  show Goes p.tables e below (T3.setTop (mkF m 19 #[.val (.ref x0), .val (.int (1 : Int32)), .val (.ref r2)] [(.int (1 : Int32)), (.int (1 : Int32)), (.ref x0)])) _
  refine gx (XS.iadd X3.here hx rfl (hb hby d32_19) rfl) ?_
  obtain ⟨T4, h4, X4, e4, W4, st4⟩ := putF X3 hx hZ hown (host := "") (Or.inl (own_hw hw 221 rfl)) Via.refl hp3_0 Pi4 Pi1 (Or.inl (own_hw hw 222 rfl)) (own_hw hw 204 rfl) (ty := .int) (by decide) rfl rfl (g := (mkF m 20 #[.val (.ref x0), .val (.int (1 : Int32)), .val (.ref r2)] [(.int (2 : Int32)), (.ref x0)])) rfl rfl (hb hby d32_20)
  subst e4
  have F5 := Pi1.wr W4
  have F6 := Pi2.other W4 (Or.inr (slot_ne (Or.inr (own_hw hw 218 rfl)) (Or.inl (own_hw hw 222 rfl)) (by decide) (t := (.object "java/util/List")) (t' := .int) (by decide) (by decide)))
  have F7 := Pi3.other W4 (Or.inr (slot_ne (Or.inr (own_hw hw 220 rfl)) (Or.inl (own_hw hw 222 rfl)) (by decide) (t := .int) (t' := .int) (by decide) (by decide)))
  have N4 := Fr.snoc X4 N3 Pi0
  have K4 : Keep h0 T4.heap [x0] := (Keep.refl h0 [x0]).wr W4 (Or.inl (List.mem_of_getElem? (i := 0) rfl))
  have F13 : Fld Z T4.heap x0 "java/util/ImmutableCollections$ListItr" "cursor" "I" (.int (2 : Int32)) := Pi4.same W4
  refine Goes.to st4 ?_
  refine gx (XS.aloadN X4.here hx rfl (hb hby d32_23) rfl rfl) ?_
  show Goes p.tables e below (T4.setTop (mkF m 24 #[.val (.ref x0), .val (.int (1 : Int32)), .val (.ref r2)] [(.ref r2)])) _
  obtain ⟨fs, hr, hrun, hended, hW, hsame⟩ := X4.leave (v := some (.ref r2)) (fun h => by rw [Bd.returns] at h; cases h)
  exact ⟨_, _, retOut X4 hx Bd.returns rfl (Or.inr (Or.inr (Or.inr (Or.inr ⟨rfl, rfl, rfl⟩)))) (hb hby d32_24) hr, hrun, hended, _, _, rfl, ⟨rfl, N4, (by show Keep h0 T4.heap [x0]; exact K4), (by show Exa Z T4.heap x0 "java/util/ImmutableCollections$ListItr"; exact F5), (by show Fld Z T4.heap x0 "java/util/ImmutableCollections$ListItr" "list" "Ljava/util/List;" (.ref li); exact F6), (by show Fld Z T4.heap x0 "java/util/ImmutableCollections$ListItr" "size" "I" (.int (2 : Int32)); exact F7), (by show Fld Z T4.heap x0 "java/util/ImmutableCollections$ListItr" "cursor" "I" (.int (2 : Int32)); exact F13)⟩, ⟨_, rfl⟩, hW, hsame.mono (by decide) (by decide)⟩

theorem own_ef_own_rmNX30 (m : MethodId) (x0 : Addr) : entryFrame m #[(.ref x0)] 3 = mkF m 0 #[.val (.ref x0), .unset, .unset] [] := by first | (simp [entryFrame, mkF, argsToLocals, Value.category]; done) | rfl
def own_Q_own_rmNX30 (Z : State) (x0 : Addr) (li : Addr) (r1 : Addr) (r2 : Addr) (r3 : Addr) (el : Addr) (kL : ClassId) (aI : Addr) (h0 : Heap) (n0 : Nat) (v : Option Value) (h : Heap) (L : List Loc) : Prop := v = some (.ref r1) ∧ Fr n0 L ∧ Keep h0 h [x0] ∧ Exa Z h x0 "java/util/ImmutableCollections$ListItr" ∧ Fld Z h x0 "java/util/ImmutableCollections$ListItr" "list" "Ljava/util/List;" (.ref li) ∧ Fld Z h x0 "java/util/ImmutableCollections$ListItr" "size" "I" (.int (3 : Int32)) ∧ Fld Z h x0 "java/util/ImmutableCollections$ListItr" "cursor" "I" (.int (1 : Int32))
abbrev own_r_own_rmNX30 : Room := ({ frames := 1, cells := 0, slots := 0, locals := 13 } : Room)

set_option maxRecDepth 65536 in
set_option maxHeartbeats 40000000 in
theorem own_rmNX30 (l : Launch) (Z : State) (a0 : Array Value) (hw : ∀ d ∈ tables_1, d.before a0 Z = true) (ws : List Jvm.Cond) (x0 : Addr) (li : Addr) (r1 : Addr) (r2 : Addr) (r3 : Addr) (el : Addr) (kL : ClassId) (aI : Addr) (h0 : Heap) (n0 : Nat) (Z0 : n0 ≤ h0.size) (Pi0 : n0 ≤ x0) (Pi1 : Exa Z h0 x0 "java/util/ImmutableCollections$ListItr") (Pi2 : Fld Z h0 x0 "java/util/ImmutableCollections$ListItr" "list" "Ljava/util/List;" (.ref li)) (Pi3 : Fld Z h0 x0 "java/util/ImmutableCollections$ListItr" "size" "I" (.int (3 : Int32))) (Pi4 : Fld Z h0 x0 "java/util/ImmutableCollections$ListItr" "cursor" "I" (.int (0 : Int32))) (Pi5 : Exa Z h0 li "java/util/ImmutableCollections$ListN") (Pi6 : Fld Z h0 li "java/util/ImmutableCollections$ListN" "elements" "[Ljava/lang/Object;" (.ref el)) (Pi7 : Exa Z h0 el "[Ljava/lang/Object;") (Pi8 : Arv Z h0 el kL (.object "java/lang/Object") (3 : Int32) [(.ref r1), (.ref r2), (.ref r3)] .null) (Pi9 : Sta Z h0 "java/util/ImmutableCollections" "EMPTY" "Ljava/lang/Object;" (.ref aI)) :
    MetFree l own_n43 (head1 (Jvm.Cond.codeWith own_n43 jdk_53_method_4_code 3 (some (.object "java/lang/Object")) [((0 : Nat), (24 : Nat), (25 : Nat), (30 : Nat))] :: ws) own_r_own_rmNX30) (fun a U => a = #[(.ref x0)] ∧ Z.Warmed39 U.vm ∧ U.heap = h0) (fun _ _ _ _ _ => True) (fun _ U o U' => ∃ v L, o = .returned v ∧ own_Q_own_rmNX30 Z x0 li r1 r2 r3 el kL aI h0 n0 v U'.heap L ∧ FrameEnd U o U' L own_r_own_rmNX30.cells own_r_own_rmNX30.slots) := by
  refine MetFree.of_bodySF (plainFor_of_name own_pn_32) hisWith ?_
  intro p e s m args below meth c s₁ Bd hml0 hP hK
  obtain ⟨rfl, hZ, hh⟩ := hP
  have hx := Bd.exec
  have hby := Bd.bytes
  have hml : c.maxLocals = 3 := hml0
  have hown : s.vm.findClass "java/util/ImmutableCollections$ListItr" = some m.cls := findClass_of_methodNamed Bd.named
  have hnm := (name_of_methodNamed Bd.named Bd.method).1
  have X0 : Stand p l e own_r_own_rmNX30 s m #[(.ref x0)] below meth c s₁ [] 0 0 := Stand.of_body Bd
  have e0 : s₁.heap = h0 := by rw [← hh, Bd.state]; rfl
  have N0 := Fr.nil n0
  show Goes p.tables e below _ (own_R below s (own_Q_own_rmNX30 Z x0 li r1 r2 r3 el kL aI h0 n0) own_r_own_rmNX30.cells own_r_own_rmNX30.slots)
  refine Goes.to (fun t k => castTop (own_ef_own_rmNX30 m x0) k) ?_
  refine gx (XS.aloadN X0.here hx rfl (hb hby d32_0) rfl rfl) ?_
  obtain ⟨T1, X1, e1, st1⟩ := getF X0 hx hZ hown (host := "") (Or.inl (own_hw hw 221 rfl)) Via.refl e0 Pi4 (g := (mkF m 1 #[.val (.ref x0), .unset, .unset] [(.ref x0)])) rfl rfl (hb hby d32_1)
  refine Goes.to st1 ?_
  refine gx (XS.istoreN X1.here hx rfl (hb hby d32_4) rfl (l' := #[.val (.ref x0), .val (.int (0 : Int32)), .unset]) rfl) ?_
  refine gx (XS.aloadN X1.here hx rfl (hb hby d32_5) rfl rfl) ?_
  obtain ⟨T2, X2, e2, st2⟩ := getF X1 hx hZ hown (host := "") (Or.inl (own_hw hw 217 rfl)) Via.refl e1 Pi2 (g := (mkF m 6 #[.val (.ref x0), .val (.int (0 : Int32)), .unset] [(.ref x0)])) rfl rfl (hb hby d32_6)
  refine Goes.to st2 ?_
  refine gx (XS.iloadN X2.here hx rfl (hb hby d32_9) rfl) ?_
  obtain ⟨cq3, kq3, q3a, q3b, q3c⟩ := isOf hZ e2 Pi5
  obtain ⟨_, _, ⟨T3, L3, k3, n3⟩, -, X3, ⟨Lc3, hQ3, l3, y3, z3⟩, st3⟩ := X2.interfaceBack hx (xi := own_n42) (y := own_n39) hown (mvT hZ (own_hw hw 242 rfl)) (mvT hZ (own_hw hw 243 rfl)) (mvT hZ (own_hw hw 244 rfl)) (mvT hZ (own_hw hw 301 rfl)) (mvT hZ (own_hw hw 302 rfl)) (mvT hZ (own_hw hw 303 rfl)) (mvT hZ (own_hw hw 304 rfl)) (mvT hZ (own_hw hw 297 rfl)) (by decide) (backOf (W := 0) (own_rmGN0 l Z a0 hw [] li el kL r1 r2 r3 h0 n0 Z0 Pi6 Pi8) hZ (own_hw hw 305 rfl) (own_hw hw 282 rfl) (by decide) (by decide)) q3a q3b q3c (g := (mkF m 10 #[.val (.ref x0), .val (.int (0 : Int32)), .unset] [(.int (0 : Int32)), (.ref li)])) rfl (by rw [hml]; rfl) (Steps.refl _) (argsL := [(.int (0 : Int32))]) (rest := []) (lenOf own_pd_pIqLjavallanglObjects rfl) rfl (own_W rfl rfl) (hb hby d32_10) (fun _ _ => ⟨rfl, e2, (by decide : 0 + 0 ≤ _), (by decide : 0 + 0 ≤ _)⟩)
  dsimp only [Pt.U, Pt.locs, Pt.cells, Pt.slots] at X3 l3 y3 z3 st3 hQ3
  subst l3 y3 z3
  obtain ⟨hv3, Nq3, hp3_0⟩ := hQ3
  have N3 := Fr.app N0 Nq3
  subst hv3
  refine Goes.tr st3 ?_
  refine gx (XS.astoreN X3.here hx rfl (hb hby d32_15) rfl rfl (l' := #[.val (.ref x0), .val (.int (0 : Int32)), .val (.ref r1)]) rfl) ?_
  refine gx (XS.aloadN X3.here hx rfl (hb hby d32_16) rfl rfl) ?_
  refine gx (XS.iloadN X3.here hx rfl (hb hby d32_17) rfl) ?_
  refine gx (XS.iconst X3.here hx rfl (hb hby d32_18)) ?_
  show Goes p.tables e below (T3.setTop (mkF m 19 #[.val (.ref x0), .val (.int (0 : Int32)), .val (.ref r1)] [(.int (1 : Int32)), (.int (0 : Int32)), (.ref x0)])) _
  refine gx (XS.iadd X3.here hx rfl (hb hby d32_19) rfl) ?_
  obtain ⟨T4, h4, X4, e4, W4, st4⟩ := putF X3 hx hZ hown (host := "") (Or.inl (own_hw hw 221 rfl)) Via.refl hp3_0 Pi4 Pi1 (Or.inl (own_hw hw 222 rfl)) (own_hw hw 204 rfl) (ty := .int) (by decide) rfl rfl (g := (mkF m 20 #[.val (.ref x0), .val (.int (0 : Int32)), .val (.ref r1)] [(.int (1 : Int32)), (.ref x0)])) rfl rfl (hb hby d32_20)
  subst e4
  have F5 := Pi1.wr W4
  have F6 := Pi2.other W4 (Or.inr (slot_ne (Or.inr (own_hw hw 218 rfl)) (Or.inl (own_hw hw 222 rfl)) (by decide) (t := (.object "java/util/List")) (t' := .int) (by decide) (by decide)))
  have F7 := Pi3.other W4 (Or.inr (slot_ne (Or.inr (own_hw hw 220 rfl)) (Or.inl (own_hw hw 222 rfl)) (by decide) (t := .int) (t' := .int) (by decide) (by decide)))
  have N4 := Fr.snoc X4 N3 Pi0
  have K4 : Keep h0 T4.heap [x0] := (Keep.refl h0 [x0]).wr W4 (Or.inl (List.mem_of_getElem? (i := 0) rfl))
  have F14 : Fld Z T4.heap x0 "java/util/ImmutableCollections$ListItr" "cursor" "I" (.int (1 : Int32)) := Pi4.same W4
  refine Goes.to st4 ?_
  refine gx (XS.aloadN X4.here hx rfl (hb hby d32_23) rfl rfl) ?_
  show Goes p.tables e below (T4.setTop (mkF m 24 #[.val (.ref x0), .val (.int (0 : Int32)), .val (.ref r1)] [(.ref r1)])) _
  obtain ⟨fs, hr, hrun, hended, hW, hsame⟩ := X4.leave (v := some (.ref r1)) (fun h => by rw [Bd.returns] at h; cases h)
  exact ⟨_, _, retOut X4 hx Bd.returns rfl (Or.inr (Or.inr (Or.inr (Or.inr ⟨rfl, rfl, rfl⟩)))) (hb hby d32_24) hr, hrun, hended, _, _, rfl, ⟨rfl, N4, (by show Keep h0 T4.heap [x0]; exact K4), (by show Exa Z T4.heap x0 "java/util/ImmutableCollections$ListItr"; exact F5), (by show Fld Z T4.heap x0 "java/util/ImmutableCollections$ListItr" "list" "Ljava/util/List;" (.ref li); exact F6), (by show Fld Z T4.heap x0 "java/util/ImmutableCollections$ListItr" "size" "I" (.int (3 : Int32)); exact F7), (by show Fld Z T4.heap x0 "java/util/ImmutableCollections$ListItr" "cursor" "I" (.int (1 : Int32)); exact F14)⟩, ⟨_, rfl⟩, hW, hsame.mono (by decide) (by decide)⟩

theorem own_ef_own_rmNX31 (m : MethodId) (x0 : Addr) : entryFrame m #[(.ref x0)] 3 = mkF m 0 #[.val (.ref x0), .unset, .unset] [] := by first | (simp [entryFrame, mkF, argsToLocals, Value.category]; done) | rfl
def own_Q_own_rmNX31 (Z : State) (x0 : Addr) (li : Addr) (r1 : Addr) (r2 : Addr) (r3 : Addr) (el : Addr) (kL : ClassId) (aI : Addr) (h0 : Heap) (n0 : Nat) (v : Option Value) (h : Heap) (L : List Loc) : Prop := v = some (.ref r2) ∧ Fr n0 L ∧ Keep h0 h [x0] ∧ Exa Z h x0 "java/util/ImmutableCollections$ListItr" ∧ Fld Z h x0 "java/util/ImmutableCollections$ListItr" "list" "Ljava/util/List;" (.ref li) ∧ Fld Z h x0 "java/util/ImmutableCollections$ListItr" "size" "I" (.int (3 : Int32)) ∧ Fld Z h x0 "java/util/ImmutableCollections$ListItr" "cursor" "I" (.int (2 : Int32))
abbrev own_r_own_rmNX31 : Room := ({ frames := 1, cells := 0, slots := 0, locals := 13 } : Room)

set_option maxRecDepth 65536 in
set_option maxHeartbeats 40000000 in
theorem own_rmNX31 (l : Launch) (Z : State) (a0 : Array Value) (hw : ∀ d ∈ tables_1, d.before a0 Z = true) (ws : List Jvm.Cond) (x0 : Addr) (li : Addr) (r1 : Addr) (r2 : Addr) (r3 : Addr) (el : Addr) (kL : ClassId) (aI : Addr) (h0 : Heap) (n0 : Nat) (Z0 : n0 ≤ h0.size) (Pi0 : n0 ≤ x0) (Pi1 : Exa Z h0 x0 "java/util/ImmutableCollections$ListItr") (Pi2 : Fld Z h0 x0 "java/util/ImmutableCollections$ListItr" "list" "Ljava/util/List;" (.ref li)) (Pi3 : Fld Z h0 x0 "java/util/ImmutableCollections$ListItr" "size" "I" (.int (3 : Int32))) (Pi4 : Fld Z h0 x0 "java/util/ImmutableCollections$ListItr" "cursor" "I" (.int (1 : Int32))) (Pi5 : Exa Z h0 li "java/util/ImmutableCollections$ListN") (Pi6 : Fld Z h0 li "java/util/ImmutableCollections$ListN" "elements" "[Ljava/lang/Object;" (.ref el)) (Pi7 : Exa Z h0 el "[Ljava/lang/Object;") (Pi8 : Arv Z h0 el kL (.object "java/lang/Object") (3 : Int32) [(.ref r1), (.ref r2), (.ref r3)] .null) (Pi9 : Sta Z h0 "java/util/ImmutableCollections" "EMPTY" "Ljava/lang/Object;" (.ref aI)) :
    MetFree l own_n43 (head1 (Jvm.Cond.codeWith own_n43 jdk_53_method_4_code 3 (some (.object "java/lang/Object")) [((0 : Nat), (24 : Nat), (25 : Nat), (30 : Nat))] :: ws) own_r_own_rmNX31) (fun a U => a = #[(.ref x0)] ∧ Z.Warmed39 U.vm ∧ U.heap = h0) (fun _ _ _ _ _ => True) (fun _ U o U' => ∃ v L, o = .returned v ∧ own_Q_own_rmNX31 Z x0 li r1 r2 r3 el kL aI h0 n0 v U'.heap L ∧ FrameEnd U o U' L own_r_own_rmNX31.cells own_r_own_rmNX31.slots) := by
  refine MetFree.of_bodySF (plainFor_of_name own_pn_32) hisWith ?_
  intro p e s m args below meth c s₁ Bd hml0 hP hK
  obtain ⟨rfl, hZ, hh⟩ := hP
  have hx := Bd.exec
  have hby := Bd.bytes
  have hml : c.maxLocals = 3 := hml0
  have hown : s.vm.findClass "java/util/ImmutableCollections$ListItr" = some m.cls := findClass_of_methodNamed Bd.named
  have hnm := (name_of_methodNamed Bd.named Bd.method).1
  have X0 : Stand p l e own_r_own_rmNX31 s m #[(.ref x0)] below meth c s₁ [] 0 0 := Stand.of_body Bd
  have e0 : s₁.heap = h0 := by rw [← hh, Bd.state]; rfl
  have N0 := Fr.nil n0
  show Goes p.tables e below _ (own_R below s (own_Q_own_rmNX31 Z x0 li r1 r2 r3 el kL aI h0 n0) own_r_own_rmNX31.cells own_r_own_rmNX31.slots)
  refine Goes.to (fun t k => castTop (own_ef_own_rmNX31 m x0) k) ?_
  refine gx (XS.aloadN X0.here hx rfl (hb hby d32_0) rfl rfl) ?_
  obtain ⟨T1, X1, e1, st1⟩ := getF X0 hx hZ hown (host := "") (Or.inl (own_hw hw 221 rfl)) Via.refl e0 Pi4 (g := (mkF m 1 #[.val (.ref x0), .unset, .unset] [(.ref x0)])) rfl rfl (hb hby d32_1)
  refine Goes.to st1 ?_
  refine gx (XS.istoreN X1.here hx rfl (hb hby d32_4) rfl (l' := #[.val (.ref x0), .val (.int (1 : Int32)), .unset]) rfl) ?_
  refine gx (XS.aloadN X1.here hx rfl (hb hby d32_5) rfl rfl) ?_
  obtain ⟨T2, X2, e2, st2⟩ := getF X1 hx hZ hown (host := "") (Or.inl (own_hw hw 217 rfl)) Via.refl e1 Pi2 (g := (mkF m 6 #[.val (.ref x0), .val (.int (1 : Int32)), .unset] [(.ref x0)])) rfl rfl (hb hby d32_6)
  refine Goes.to st2 ?_
  refine gx (XS.iloadN X2.here hx rfl (hb hby d32_9) rfl) ?_
  obtain ⟨cq3, kq3, q3a, q3b, q3c⟩ := isOf hZ e2 Pi5
  obtain ⟨_, _, ⟨T3, L3, k3, n3⟩, -, X3, ⟨Lc3, hQ3, l3, y3, z3⟩, st3⟩ := X2.interfaceBack hx (xi := own_n42) (y := own_n39) hown (mvT hZ (own_hw hw 242 rfl)) (mvT hZ (own_hw hw 243 rfl)) (mvT hZ (own_hw hw 244 rfl)) (mvT hZ (own_hw hw 301 rfl)) (mvT hZ (own_hw hw 302 rfl)) (mvT hZ (own_hw hw 303 rfl)) (mvT hZ (own_hw hw 304 rfl)) (mvT hZ (own_hw hw 297 rfl)) (by decide) (backOf (W := 0) (own_rmGN1 l Z a0 hw [] li el kL r1 r2 r3 h0 n0 Z0 Pi6 Pi8) hZ (own_hw hw 305 rfl) (own_hw hw 282 rfl) (by decide) (by decide)) q3a q3b q3c (g := (mkF m 10 #[.val (.ref x0), .val (.int (1 : Int32)), .unset] [(.int (1 : Int32)), (.ref li)])) rfl (by rw [hml]; rfl) (Steps.refl _) (argsL := [(.int (1 : Int32))]) (rest := []) (lenOf own_pd_pIqLjavallanglObjects rfl) rfl (own_W rfl rfl) (hb hby d32_10) (fun _ _ => ⟨rfl, e2, (by decide : 0 + 0 ≤ _), (by decide : 0 + 0 ≤ _)⟩)
  dsimp only [Pt.U, Pt.locs, Pt.cells, Pt.slots] at X3 l3 y3 z3 st3 hQ3
  subst l3 y3 z3
  obtain ⟨hv3, Nq3, hp3_0⟩ := hQ3
  have N3 := Fr.app N0 Nq3
  subst hv3
  refine Goes.tr st3 ?_
  refine gx (XS.astoreN X3.here hx rfl (hb hby d32_15) rfl rfl (l' := #[.val (.ref x0), .val (.int (1 : Int32)), .val (.ref r2)]) rfl) ?_
  refine gx (XS.aloadN X3.here hx rfl (hb hby d32_16) rfl rfl) ?_
  refine gx (XS.iloadN X3.here hx rfl (hb hby d32_17) rfl) ?_
  refine gx (XS.iconst X3.here hx rfl (hb hby d32_18)) ?_
  show Goes p.tables e below (T3.setTop (mkF m 19 #[.val (.ref x0), .val (.int (1 : Int32)), .val (.ref r2)] [(.int (1 : Int32)), (.int (1 : Int32)), (.ref x0)])) _
  refine gx (XS.iadd X3.here hx rfl (hb hby d32_19) rfl) ?_
  obtain ⟨T4, h4, X4, e4, W4, st4⟩ := putF X3 hx hZ hown (host := "") (Or.inl (own_hw hw 221 rfl)) Via.refl hp3_0 Pi4 Pi1 (Or.inl (own_hw hw 222 rfl)) (own_hw hw 204 rfl) (ty := .int) (by decide) rfl rfl (g := (mkF m 20 #[.val (.ref x0), .val (.int (1 : Int32)), .val (.ref r2)] [(.int (2 : Int32)), (.ref x0)])) rfl rfl (hb hby d32_20)
  subst e4
  have F5 := Pi1.wr W4
  have F6 := Pi2.other W4 (Or.inr (slot_ne (Or.inr (own_hw hw 218 rfl)) (Or.inl (own_hw hw 222 rfl)) (by decide) (t := (.object "java/util/List")) (t' := .int) (by decide) (by decide)))
  have F7 := Pi3.other W4 (Or.inr (slot_ne (Or.inr (own_hw hw 220 rfl)) (Or.inl (own_hw hw 222 rfl)) (by decide) (t := .int) (t' := .int) (by decide) (by decide)))
  have N4 := Fr.snoc X4 N3 Pi0
  have K4 : Keep h0 T4.heap [x0] := (Keep.refl h0 [x0]).wr W4 (Or.inl (List.mem_of_getElem? (i := 0) rfl))
  have F14 : Fld Z T4.heap x0 "java/util/ImmutableCollections$ListItr" "cursor" "I" (.int (2 : Int32)) := Pi4.same W4
  refine Goes.to st4 ?_
  refine gx (XS.aloadN X4.here hx rfl (hb hby d32_23) rfl rfl) ?_
  show Goes p.tables e below (T4.setTop (mkF m 24 #[.val (.ref x0), .val (.int (1 : Int32)), .val (.ref r2)] [(.ref r2)])) _
  obtain ⟨fs, hr, hrun, hended, hW, hsame⟩ := X4.leave (v := some (.ref r2)) (fun h => by rw [Bd.returns] at h; cases h)
  exact ⟨_, _, retOut X4 hx Bd.returns rfl (Or.inr (Or.inr (Or.inr (Or.inr ⟨rfl, rfl, rfl⟩)))) (hb hby d32_24) hr, hrun, hended, _, _, rfl, ⟨rfl, N4, (by show Keep h0 T4.heap [x0]; exact K4), (by show Exa Z T4.heap x0 "java/util/ImmutableCollections$ListItr"; exact F5), (by show Fld Z T4.heap x0 "java/util/ImmutableCollections$ListItr" "list" "Ljava/util/List;" (.ref li); exact F6), (by show Fld Z T4.heap x0 "java/util/ImmutableCollections$ListItr" "size" "I" (.int (3 : Int32)); exact F7), (by show Fld Z T4.heap x0 "java/util/ImmutableCollections$ListItr" "cursor" "I" (.int (2 : Int32)); exact F14)⟩, ⟨_, rfl⟩, hW, hsame.mono (by decide) (by decide)⟩

theorem own_ef_own_rmNX32 (m : MethodId) (x0 : Addr) : entryFrame m #[(.ref x0)] 3 = mkF m 0 #[.val (.ref x0), .unset, .unset] [] := by first | (simp [entryFrame, mkF, argsToLocals, Value.category]; done) | rfl
def own_Q_own_rmNX32 (Z : State) (x0 : Addr) (li : Addr) (r1 : Addr) (r2 : Addr) (r3 : Addr) (el : Addr) (kL : ClassId) (aI : Addr) (h0 : Heap) (n0 : Nat) (v : Option Value) (h : Heap) (L : List Loc) : Prop := v = some (.ref r3) ∧ Fr n0 L ∧ Keep h0 h [x0] ∧ Exa Z h x0 "java/util/ImmutableCollections$ListItr" ∧ Fld Z h x0 "java/util/ImmutableCollections$ListItr" "list" "Ljava/util/List;" (.ref li) ∧ Fld Z h x0 "java/util/ImmutableCollections$ListItr" "size" "I" (.int (3 : Int32)) ∧ Fld Z h x0 "java/util/ImmutableCollections$ListItr" "cursor" "I" (.int (3 : Int32))
abbrev own_r_own_rmNX32 : Room := ({ frames := 1, cells := 0, slots := 0, locals := 13 } : Room)

set_option maxRecDepth 65536 in
set_option maxHeartbeats 40000000 in
theorem own_rmNX32 (l : Launch) (Z : State) (a0 : Array Value) (hw : ∀ d ∈ tables_1, d.before a0 Z = true) (ws : List Jvm.Cond) (x0 : Addr) (li : Addr) (r1 : Addr) (r2 : Addr) (r3 : Addr) (el : Addr) (kL : ClassId) (aI : Addr) (h0 : Heap) (n0 : Nat) (Z0 : n0 ≤ h0.size) (Pi0 : n0 ≤ x0) (Pi1 : Exa Z h0 x0 "java/util/ImmutableCollections$ListItr") (Pi2 : Fld Z h0 x0 "java/util/ImmutableCollections$ListItr" "list" "Ljava/util/List;" (.ref li)) (Pi3 : Fld Z h0 x0 "java/util/ImmutableCollections$ListItr" "size" "I" (.int (3 : Int32))) (Pi4 : Fld Z h0 x0 "java/util/ImmutableCollections$ListItr" "cursor" "I" (.int (2 : Int32))) (Pi5 : Exa Z h0 li "java/util/ImmutableCollections$ListN") (Pi6 : Fld Z h0 li "java/util/ImmutableCollections$ListN" "elements" "[Ljava/lang/Object;" (.ref el)) (Pi7 : Exa Z h0 el "[Ljava/lang/Object;") (Pi8 : Arv Z h0 el kL (.object "java/lang/Object") (3 : Int32) [(.ref r1), (.ref r2), (.ref r3)] .null) (Pi9 : Sta Z h0 "java/util/ImmutableCollections" "EMPTY" "Ljava/lang/Object;" (.ref aI)) :
    MetFree l own_n43 (head1 (Jvm.Cond.codeWith own_n43 jdk_53_method_4_code 3 (some (.object "java/lang/Object")) [((0 : Nat), (24 : Nat), (25 : Nat), (30 : Nat))] :: ws) own_r_own_rmNX32) (fun a U => a = #[(.ref x0)] ∧ Z.Warmed39 U.vm ∧ U.heap = h0) (fun _ _ _ _ _ => True) (fun _ U o U' => ∃ v L, o = .returned v ∧ own_Q_own_rmNX32 Z x0 li r1 r2 r3 el kL aI h0 n0 v U'.heap L ∧ FrameEnd U o U' L own_r_own_rmNX32.cells own_r_own_rmNX32.slots) := by
  refine MetFree.of_bodySF (plainFor_of_name own_pn_32) hisWith ?_
  intro p e s m args below meth c s₁ Bd hml0 hP hK
  obtain ⟨rfl, hZ, hh⟩ := hP
  have hx := Bd.exec
  have hby := Bd.bytes
  have hml : c.maxLocals = 3 := hml0
  have hown : s.vm.findClass "java/util/ImmutableCollections$ListItr" = some m.cls := findClass_of_methodNamed Bd.named
  have hnm := (name_of_methodNamed Bd.named Bd.method).1
  have X0 : Stand p l e own_r_own_rmNX32 s m #[(.ref x0)] below meth c s₁ [] 0 0 := Stand.of_body Bd
  have e0 : s₁.heap = h0 := by rw [← hh, Bd.state]; rfl
  have N0 := Fr.nil n0
  show Goes p.tables e below _ (own_R below s (own_Q_own_rmNX32 Z x0 li r1 r2 r3 el kL aI h0 n0) own_r_own_rmNX32.cells own_r_own_rmNX32.slots)
  refine Goes.to (fun t k => castTop (own_ef_own_rmNX32 m x0) k) ?_
  refine gx (XS.aloadN X0.here hx rfl (hb hby d32_0) rfl rfl) ?_
  obtain ⟨T1, X1, e1, st1⟩ := getF X0 hx hZ hown (host := "") (Or.inl (own_hw hw 221 rfl)) Via.refl e0 Pi4 (g := (mkF m 1 #[.val (.ref x0), .unset, .unset] [(.ref x0)])) rfl rfl (hb hby d32_1)
  refine Goes.to st1 ?_
  refine gx (XS.istoreN X1.here hx rfl (hb hby d32_4) rfl (l' := #[.val (.ref x0), .val (.int (2 : Int32)), .unset]) rfl) ?_
  refine gx (XS.aloadN X1.here hx rfl (hb hby d32_5) rfl rfl) ?_
  obtain ⟨T2, X2, e2, st2⟩ := getF X1 hx hZ hown (host := "") (Or.inl (own_hw hw 217 rfl)) Via.refl e1 Pi2 (g := (mkF m 6 #[.val (.ref x0), .val (.int (2 : Int32)), .unset] [(.ref x0)])) rfl rfl (hb hby d32_6)
  refine Goes.to st2 ?_
  refine gx (XS.iloadN X2.here hx rfl (hb hby d32_9) rfl) ?_
  obtain ⟨cq3, kq3, q3a, q3b, q3c⟩ := isOf hZ e2 Pi5
  obtain ⟨_, _, ⟨T3, L3, k3, n3⟩, -, X3, ⟨Lc3, hQ3, l3, y3, z3⟩, st3⟩ := X2.interfaceBack hx (xi := own_n42) (y := own_n39) hown (mvT hZ (own_hw hw 242 rfl)) (mvT hZ (own_hw hw 243 rfl)) (mvT hZ (own_hw hw 244 rfl)) (mvT hZ (own_hw hw 301 rfl)) (mvT hZ (own_hw hw 302 rfl)) (mvT hZ (own_hw hw 303 rfl)) (mvT hZ (own_hw hw 304 rfl)) (mvT hZ (own_hw hw 297 rfl)) (by decide) (backOf (W := 0) (own_rmGN2 l Z a0 hw [] li el kL r1 r2 r3 h0 n0 Z0 Pi6 Pi8) hZ (own_hw hw 305 rfl) (own_hw hw 282 rfl) (by decide) (by decide)) q3a q3b q3c (g := (mkF m 10 #[.val (.ref x0), .val (.int (2 : Int32)), .unset] [(.int (2 : Int32)), (.ref li)])) rfl (by rw [hml]; rfl) (Steps.refl _) (argsL := [(.int (2 : Int32))]) (rest := []) (lenOf own_pd_pIqLjavallanglObjects rfl) rfl (own_W rfl rfl) (hb hby d32_10) (fun _ _ => ⟨rfl, e2, (by decide : 0 + 0 ≤ _), (by decide : 0 + 0 ≤ _)⟩)
  dsimp only [Pt.U, Pt.locs, Pt.cells, Pt.slots] at X3 l3 y3 z3 st3 hQ3
  subst l3 y3 z3
  obtain ⟨hv3, Nq3, hp3_0⟩ := hQ3
  have N3 := Fr.app N0 Nq3
  subst hv3
  refine Goes.tr st3 ?_
  refine gx (XS.astoreN X3.here hx rfl (hb hby d32_15) rfl rfl (l' := #[.val (.ref x0), .val (.int (2 : Int32)), .val (.ref r3)]) rfl) ?_
  refine gx (XS.aloadN X3.here hx rfl (hb hby d32_16) rfl rfl) ?_
  refine gx (XS.iloadN X3.here hx rfl (hb hby d32_17) rfl) ?_
  refine gx (XS.iconst X3.here hx rfl (hb hby d32_18)) ?_
  show Goes p.tables e below (T3.setTop (mkF m 19 #[.val (.ref x0), .val (.int (2 : Int32)), .val (.ref r3)] [(.int (1 : Int32)), (.int (2 : Int32)), (.ref x0)])) _
  refine gx (XS.iadd X3.here hx rfl (hb hby d32_19) rfl) ?_
  obtain ⟨T4, h4, X4, e4, W4, st4⟩ := putF X3 hx hZ hown (host := "") (Or.inl (own_hw hw 221 rfl)) Via.refl hp3_0 Pi4 Pi1 (Or.inl (own_hw hw 222 rfl)) (own_hw hw 204 rfl) (ty := .int) (by decide) rfl rfl (g := (mkF m 20 #[.val (.ref x0), .val (.int (2 : Int32)), .val (.ref r3)] [(.int (3 : Int32)), (.ref x0)])) rfl rfl (hb hby d32_20)
  subst e4
  have F5 := Pi1.wr W4
  have F6 := Pi2.other W4 (Or.inr (slot_ne (Or.inr (own_hw hw 218 rfl)) (Or.inl (own_hw hw 222 rfl)) (by decide) (t := (.object "java/util/List")) (t' := .int) (by decide) (by decide)))
  have F7 := Pi3.other W4 (Or.inr (slot_ne (Or.inr (own_hw hw 220 rfl)) (Or.inl (own_hw hw 222 rfl)) (by decide) (t := .int) (t' := .int) (by decide) (by decide)))
  have N4 := Fr.snoc X4 N3 Pi0
  have K4 : Keep h0 T4.heap [x0] := (Keep.refl h0 [x0]).wr W4 (Or.inl (List.mem_of_getElem? (i := 0) rfl))
  have F14 : Fld Z T4.heap x0 "java/util/ImmutableCollections$ListItr" "cursor" "I" (.int (3 : Int32)) := Pi4.same W4
  refine Goes.to st4 ?_
  refine gx (XS.aloadN X4.here hx rfl (hb hby d32_23) rfl rfl) ?_
  show Goes p.tables e below (T4.setTop (mkF m 24 #[.val (.ref x0), .val (.int (2 : Int32)), .val (.ref r3)] [(.ref r3)])) _
  obtain ⟨fs, hr, hrun, hended, hW, hsame⟩ := X4.leave (v := some (.ref r3)) (fun h => by rw [Bd.returns] at h; cases h)
  exact ⟨_, _, retOut X4 hx Bd.returns rfl (Or.inr (Or.inr (Or.inr (Or.inr ⟨rfl, rfl, rfl⟩)))) (hb hby d32_24) hr, hrun, hended, _, _, rfl, ⟨rfl, N4, (by show Keep h0 T4.heap [x0]; exact K4), (by show Exa Z T4.heap x0 "java/util/ImmutableCollections$ListItr"; exact F5), (by show Fld Z T4.heap x0 "java/util/ImmutableCollections$ListItr" "list" "Ljava/util/List;" (.ref li); exact F6), (by show Fld Z T4.heap x0 "java/util/ImmutableCollections$ListItr" "size" "I" (.int (3 : Int32)); exact F7), (by show Fld Z T4.heap x0 "java/util/ImmutableCollections$ListItr" "cursor" "I" (.int (3 : Int32)); exact F14)⟩, ⟨_, rfl⟩, hW, hsame.mono (by decide) (by decide)⟩

theorem d27_0 : decode prog_13_method_2_code 0 = .ok (.aload_n 0, 1) := by decide +kernel
theorem d27_1 : decode prog_13_method_2_code 1 = .ok (.getfield 15, 3) := by decide +kernel
theorem d27_4 : decode prog_13_method_2_code 4 = .ok (.invokeinterface 21 1, 5) := by decide +kernel
theorem d27_9 : decode prog_13_method_2_code 9 = .ok (.astore 6, 2) := by decide +kernel
theorem d27_11 : decode prog_13_method_2_code 11 = .ok (.aload 6, 2) := by decide +kernel
theorem d27_13 : decode prog_13_method_2_code 13 = .ok (.invokeinterface 27 1, 5) := by decide +kernel
theorem d27_18 : decode prog_13_method_2_code 18 = .ok (.ifCond .eq 34, 3) := by decide +kernel
theorem d27_21 : decode prog_13_method_2_code 21 = .ok (.aload 6, 2) := by decide +kernel
theorem d27_23 : decode prog_13_method_2_code 23 = .ok (.invokeinterface 33 1, 5) := by decide +kernel
theorem d27_28 : decode prog_13_method_2_code 28 = .ok (.checkcast 10, 3) := by decide +kernel
theorem d27_31 : decode prog_13_method_2_code 31 = .ok (.astore 7, 2) := by decide +kernel
theorem d27_33 : decode prog_13_method_2_code 33 = .ok (.aload 7, 2) := by decide +kernel
theorem d27_35 : decode prog_13_method_2_code 35 = .ok (.iload_n 1, 1) := by decide +kernel
theorem d27_36 : decode prog_13_method_2_code 36 = .ok (.lload_n 2, 1) := by decide +kernel
theorem d27_37 : decode prog_13_method_2_code 37 = .ok (.lload 4, 2) := by decide +kernel
theorem d27_39 : decode prog_13_method_2_code 39 = .ok (.invokeinterface 37 6, 5) := by decide +kernel
theorem d27_44 : decode prog_13_method_2_code 44 = .ok (.ifCond .ne 5, 3) := by decide +kernel
theorem d27_47 : decode prog_13_method_2_code 47 = .ok (.iconst 0, 1) := by decide +kernel
theorem d27_48 : decode prog_13_method_2_code 48 = .ok (.ireturn, 1) := by decide +kernel
theorem d27_49 : decode prog_13_method_2_code 49 = .ok (.goto (-38), 3) := by decide +kernel
theorem d27_52 : decode prog_13_method_2_code 52 = .ok (.iconst 1, 1) := by decide +kernel
theorem d27_53 : decode prog_13_method_2_code 53 = .ok (.ireturn, 1) := by decide +kernel
theorem own_pd_pqLjavalutillIterators : parseMethodDescriptor "()Ljava/util/Iterator;" = some ⟨[], some (.object "java/util/Iterator")⟩ := by decide +kernel
theorem own_pd_pqLjavallanglObjects : parseMethodDescriptor "()Ljava/lang/Object;" = some ⟨[], some (.object "java/lang/Object")⟩ := by decide +kernel
theorem own_pd_pIJJqZ : parseMethodDescriptor "(IJJ)Z" = some ⟨[.int, .long, .long], some .boolean⟩ := by decide +kernel
theorem own_pn_27 : plainName "com/example/wee_table/weetable/model/GcRule$Intersection" = true := by first | (simp [plainName, overriddenIn]; done) | decide +kernel
theorem own_ef_own_rmEX1 (m : MethodId) (x0 : Addr) (x1 : Int32) (x2 : Int64) (x3 : Int64) : entryFrame m #[(.ref x0), (.int x1), (.long x2), (.long x3)] 8 = mkF m 0 #[.val (.ref x0), .val (.int x1), .val (.long x2), .second, .val (.long x3), .second, .unset, .unset] [] := by first | (simp [entryFrame, mkF, argsToLocals, Value.category]; done) | rfl
def own_Q_own_rmEX1 (Z : State) (x0 : Addr) (x1 : Int32) (x2 : Int64) (x3 : Int64) (li : Addr) (r1 : Addr) (aI : Addr) (o1 : Option Int32) (h0 : Heap) (n0 : Nat) (v : Option Value) (h : Heap) (L : List Loc) : Prop := v = some (.int (own_exp [o1] x1)) ∧ Fr n0 L ∧ Keep h0 h []
abbrev own_r_own_rmEX1 : Room := ({ frames := 3, cells := 1, slots := 4, locals := 39 } : Room)

set_option maxRecDepth 65536 in
set_option maxHeartbeats 40000000 in
theorem own_rmEX1 (l : Launch) (Z : State) (a0 : Array Value) (hw : ∀ d ∈ tables_1, d.before a0 Z = true) (ws : List Jvm.Cond) (x0 : Addr) (x1 : Int32) (x2 : Int64) (x3 : Int64) (li : Addr) (r1 : Addr) (aI : Addr) (o1 : Option Int32) (h0 : Heap) (n0 : Nat) (Z0 : n0 ≤ h0.size) (Pi0 : Exa Z h0 x0 "com/example/wee_table/weetable/model/GcRule$Intersection") (Pi1 : Fld Z h0 x0 "com/example/wee_table/weetable/model/GcRule$Intersection" "rules" "Ljava/util/List;" (.ref li)) (Pi2 : Exa Z h0 li "java/util/ImmutableCollections$List12") (Pi3 : Fld Z h0 li "java/util/ImmutableCollections$List12" "e0" "Ljava/lang/Object;" (.ref r1)) (Pi4 : Fld Z h0 li "java/util/ImmutableCollections$List12" "e1" "Ljava/lang/Object;" (.ref aI)) (Pi5 : Sta Z h0 "java/util/ImmutableCollections" "EMPTY" "Ljava/lang/Object;" (.ref aI)) (Hr1 : own_ru Z h0 r1 o1) :
    MetFree l own_n48 (head1 (Jvm.Cond.code own_n48 prog_13_method_2_code 8 (some .boolean) :: ws) own_r_own_rmEX1) (fun a U => a = #[(.ref x0), (.int x1), (.long x2), (.long x3)] ∧ Z.Warmed39 U.vm ∧ U.heap = h0) (fun _ _ _ _ _ => True) (fun _ U o U' => ∃ v L, o = .returned v ∧ own_Q_own_rmEX1 Z x0 x1 x2 x3 li r1 aI o1 h0 n0 v U'.heap L ∧ FrameEnd U o U' L own_r_own_rmEX1.cells own_r_own_rmEX1.slots) := by
  refine MetFree.of_bodySF (plainFor_of_name own_pn_27) hisR ?_
  intro p e s m args below meth c s₁ Bd hml0 hP hK
  obtain ⟨rfl, hZ, hh⟩ := hP
  have hx := Bd.exec
  have hby := Bd.bytes
  have hml : c.maxLocals = 8 := hml0
  have hown : s.vm.findClass "com/example/wee_table/weetable/model/GcRule$Intersection" = some m.cls := findClass_of_methodNamed Bd.named
  have hnm := (name_of_methodNamed Bd.named Bd.method).1
  have X0 : Stand p l e own_r_own_rmEX1 s m #[(.ref x0), (.int x1), (.long x2), (.long x3)] below meth c s₁ [] 0 0 := Stand.of_body Bd
  have e0 : s₁.heap = h0 := by rw [← hh, Bd.state]; rfl
  have N0 := Fr.nil n0
  show Goes p.tables e below _ (own_R below s (own_Q_own_rmEX1 Z x0 x1 x2 x3 li r1 aI o1 h0 n0) own_r_own_rmEX1.cells own_r_own_rmEX1.slots)
  refine Goes.to (fun t k => castTop (own_ef_own_rmEX1 m x0 x1 x2 x3) k) ?_
  refine gx (XS.aloadN X0.here hx rfl (hb hby d27_0) rfl rfl) ?_
  obtain ⟨T1, X1, e1, st1⟩ := getF X0 hx hZ hown (host := "") (Or.inl (own_hw hw 187 rfl)) Via.refl e0 Pi1 (g := (mkF m 1 #[.val (.ref x0), .val (.int x1), .val (.long x2), .second, .val (.long x3), .second, .unset, .unset] [(.ref x0)])) rfl rfl (hb hby d27_1)
  refine Goes.to st1 ?_
  obtain ⟨cq2, kq2, q2a, q2b, q2c⟩ := isOf hZ e1 Pi2
  obtain ⟨_, _, ⟨T2, L2, k2, n2⟩, -, X2, ⟨Lc2, hQ2, l2, y2, z2⟩, st2⟩ := X1.interfaceBack hx (xi := own_n44) (y := own_n41) hown (mvT hZ (own_hw hw 194 rfl)) (mvT hZ (own_hw hw 195 rfl)) (mvT hZ (own_hw hw 196 rfl)) (mvT hZ (own_hw hw 197 rfl)) (mvT hZ (own_hw hw 198 rfl)) (mvT hZ (own_hw hw 199 rfl)) (mvT hZ (own_hw hw 200 rfl)) (mvT hZ (own_hw hw 201 rfl)) (by decide) (backOf (W := 0) (own_rmIT1 l Z a0 hw [] li r1 aI h0 n0 Z0 Pi2 Pi3 Pi4 Pi5) hZ (own_hw hw 202 rfl) (own_hw hw 168 rfl) (by decide) (by decide)) q2a q2b q2c (g := (mkF m 4 #[.val (.ref x0), .val (.int x1), .val (.long x2), .second, .val (.long x3), .second, .unset, .unset] [(.ref li)])) rfl (by rw [hml]; rfl) (Steps.refl _) (argsL := []) (rest := []) (lenOf own_pd_pqLjavalutillIterators rfl) rfl (own_W rfl rfl) (hb hby d27_4) (fun _ _ => ⟨rfl, e1, (by decide : 0 + 1 ≤ _), (by decide : 0 + 4 ≤ _)⟩)
  dsimp only [Pt.U, Pt.locs, Pt.cells, Pt.slots] at X2 l2 y2 z2 st2 hQ2
  subst l2 y2 z2
  obtain ⟨it_2, hv2, Nq2, sq2_0, Kq2, Qf2_0, Qf2_1, Qf2_2, Qf2_3⟩ := hQ2
  have N2 := Fr.app N0 Nq2
  have g_it_2 : n0 ≤ it_2 := Nat.le_trans Z0 sq2_0
  have sz_it_2 : h0.size ≤ it_2 := Nat.le_trans (Keep.refl h0 []).1 sq2_0
  have F7 := Pi2.keep Kq2
  have F8 := Pi3.keep Kq2 nin0
  have F9 := Pi4.keep Kq2 nin0
  have F10 := own_sta0 Kq2 Pi5
  have Zk2 : n0 ≤ T2.heap.size := Nat.le_trans Z0 Kq2.1
  have Kc2 : Keep h0 T2.heap [] := (Keep.refl h0 []).trans Kq2 all0
  subst hv2
  refine Goes.tr st2 ?_
  refine gx (XS.astore X2.here hx rfl (hb hby d27_9) rfl rfl (l' := #[.val (.ref x0), .val (.int x1), .val (.long x2), .second, .val (.long x3), .second, .val (.ref it_2), .unset]) rfl) ?_
  refine gx (XS.aload X2.here hx rfl (hb hby d27_11) rfl rfl) ?_
  obtain ⟨cq11, kq11, q11a, q11b, q11c⟩ := isOf hZ rfl Qf2_0
  obtain ⟨_, _, ⟨T11, L11, k11, n11⟩, -, X11, ⟨Lc11, hQ11, l11, y11, z11⟩, st11⟩ := X2.interfaceBack hx (xi := own_n45) (y := own_n35) hown (mvT hZ (own_hw hw 225 rfl)) (mvT hZ (own_hw hw 226 rfl)) (mvT hZ (own_hw hw 227 rfl)) (mvT hZ (own_hw hw 228 rfl)) (mvT hZ (own_hw hw 229 rfl)) (mvT hZ (own_hw hw 230 rfl)) (mvT hZ (own_hw hw 231 rfl)) (mvT hZ (own_hw hw 232 rfl)) (by decide) (backOf (W := 0) (own_rm31 l Z a0 hw [] it_2 (0 : Int32) (1 : Int32) T2.heap n0 Zk2 Qf2_3 Qf2_2) hZ (own_hw hw 233 rfl) (own_hw hw 205 rfl) (by decide) (by decide)) q11a q11b q11c (g := (mkF m 13 #[.val (.ref x0), .val (.int x1), .val (.long x2), .second, .val (.long x3), .second, .val (.ref it_2), .unset] [(.ref it_2)])) rfl (by rw [hml]; rfl) (Steps.refl _) (argsL := []) (rest := []) (lenOf own_pd_pqZ rfl) rfl (own_W rfl rfl) (hb hby d27_13) (fun _ _ => ⟨rfl, rfl, (by decide : 1 + 0 ≤ _), (by decide : 4 + 0 ≤ _)⟩)
  dsimp only [Pt.U, Pt.locs, Pt.cells, Pt.slots] at X11 l11 y11 z11 st11 hQ11
  subst l11 y11 z11
  obtain ⟨hv11, Nq11, hp11_0⟩ := hQ11
  have N11 := Fr.app N2 Nq11
  rw [if_neg (by decide : ¬ ((0 : Int32) = (1 : Int32)))] at hv11
  subst hv11
  refine Goes.tr st11 ?_
  refine gx (XS.ifNo X11.here hx rfl (hb hby d27_18) rfl ((if0 _ _).trans (feq (by decide : ¬ ((1 : Int32) = (0 : Int32)))).1)) ?_
  refine gx (XS.aload X11.here hx rfl (hb hby d27_21) rfl rfl) ?_
  obtain ⟨cq12, kq12, q12a, q12b, q12c⟩ := isOf hZ hp11_0 Qf2_0
  obtain ⟨_, _, ⟨T12, L12, k12, n12⟩, -, X12, ⟨Lc12, hQ12, l12, y12, z12⟩, st12⟩ := X11.interfaceBack hx (xi := own_n46) (y := own_n43) hown (mvT hZ (own_hw hw 234 rfl)) (mvT hZ (own_hw hw 235 rfl)) (mvT hZ (own_hw hw 236 rfl)) (mvT hZ (own_hw hw 237 rfl)) (mvT hZ (own_hw hw 238 rfl)) (mvT hZ (own_hw hw 239 rfl)) (mvT hZ (own_hw hw 240 rfl)) (mvT hZ (own_hw hw 232 rfl)) (by decide) (backOfWith (W := 0) (own_rmNX10 l Z a0 hw [] it_2 li r1 aI T2.heap n0 Zk2 g_it_2 Qf2_0 Qf2_1 Qf2_2 Qf2_3 F7 F8 F9 F10) hZ (own_hw hw 241 rfl) (own_hw hw 205 rfl) (by decide) (by decide)) q12a q12b q12c (g := (mkF m 23 #[.val (.ref x0), .val (.int x1), .val (.long x2), .second, .val (.long x3), .second, .val (.ref it_2), .unset] [(.ref it_2)])) rfl (by rw [hml]; rfl) (Steps.refl _) (argsL := []) (rest := []) (lenOf own_pd_pqLjavallanglObjects rfl) rfl (own_W rfl rfl) (hb hby d27_23) (fun _ _ => ⟨rfl, hp11_0, (by decide : 1 + 0 ≤ _), (by decide : 4 + 0 ≤ _)⟩)
  dsimp only [Pt.U, Pt.locs, Pt.cells, Pt.slots] at X12 l12 y12 z12 st12 hQ12
  subst l12 y12 z12
  obtain ⟨hv12, Nq12, Kq12, Qf12_0, Qf12_1, Qf12_2, Qf12_3⟩ := hQ12
  have N12 := Fr.app N11 Nq12
  have Zk12 : n0 ≤ T12.heap.size := Nat.le_trans Zk2 Kq12.1
  have Kc12 : Keep h0 T12.heap [] := Kc2.trans Kq12 (allS (Or.inr sz_it_2) all0)
  subst hv12
  refine Goes.tr st12 ?_
  obtain ⟨ho1, Er1⟩ | ⟨c1, ho1, Er1, Fr1⟩ := Hr1
  · have E1r := Er1.keep Kc12
    obtain ⟨T23, X23, e23, st23⟩ := castY X12 hx hZ hown (own_hw hw 250 rfl) rfl (Ins.of_exa E1r (own_hw hw 269 rfl)) (g := (mkF m 28 #[.val (.ref x0), .val (.int x1), .val (.long x2), .second, .val (.long x3), .second, .val (.ref it_2), .unset] [(.ref r1)])) rfl rfl (hb hby d27_28)
    refine Goes.to st23 ?_
    refine gx (XS.astore X23.here hx rfl (hb hby d27_31) rfl rfl (l' := #[.val (.ref x0), .val (.int x1), .val (.long x2), .second, .val (.long x3), .second, .val (.ref it_2), .val (.ref r1)]) rfl) ?_
    refine gx (XS.aload X23.here hx rfl (hb hby d27_33) rfl rfl) ?_
    refine gx (XS.iloadN X23.here hx rfl (hb hby d27_35) rfl) ?_
    refine gx (XS.lloadN X23.here hx rfl (hb hby d27_36) rfl) ?_
    show Goes p.tables e below (T23.setTop (mkF m 37 #[.val (.ref x0), .val (.int x1), .val (.long x2), .second, .val (.long x3), .second, .val (.ref it_2), .val (.ref r1)] [(.long x2), (.int x1), (.ref r1)])) _
    refine gx (XS.lload X23.here hx rfl (hb hby d27_37) rfl) ?_
    obtain ⟨cq24, kq24, q24a, q24b, q24c⟩ := isOf hZ e23 E1r
    obtain ⟨_, _, ⟨T24, L24, k24, n24⟩, -, X24, ⟨Lc24, hQ24, l24, y24, z24⟩, st24⟩ := X23.interfaceBack hx (xi := own_n47) (y := own_n17) hown (mvT hZ (own_hw hw 252 rfl)) (mvT hZ (own_hw hw 253 rfl)) (mvT hZ (own_hw hw 254 rfl)) (mvT hZ (own_hw hw 270 rfl)) (mvT hZ (own_hw hw 271 rfl)) (mvT hZ (own_hw hw 272 rfl)) (mvT hZ (own_hw hw 273 rfl)) (mvT hZ (own_hw hw 269 rfl)) (by decide) (backOf (W := 0) (own_rm37 l Z a0 hw [] r1 x1 x2 x3 T12.heap n0 Zk12 ) hZ (own_hw hw 275 rfl) (own_hw hw 274 rfl) (by decide) (by decide)) q24a q24b q24c (g := (mkF m 39 #[.val (.ref x0), .val (.int x1), .val (.long x2), .second, .val (.long x3), .second, .val (.ref it_2), .val (.ref r1)] [(.long x3), (.long x2), (.int x1), (.ref r1)])) rfl (by rw [hml]; rfl) (Steps.refl _) (argsL := [(.int x1), (.long x2), (.long x3)]) (rest := []) (lenOf own_pd_pIJJqZ rfl) rfl (own_W rfl rfl) (hb hby d27_39) (fun _ _ => ⟨rfl, e23, (by decide : 1 + 0 ≤ _), (by decide : 4 + 0 ≤ _)⟩)
    dsimp only [Pt.U, Pt.locs, Pt.cells, Pt.slots] at X24 l24 y24 z24 st24 hQ24
    subst l24 y24 z24
    obtain ⟨hv24, Nq24, hp24_0⟩ := hQ24
    have N24 := Fr.app N12 Nq24
    subst hv24
    refine Goes.tr st24 ?_
    refine gx (XS.ifNo X24.here hx rfl (hb hby d27_44) rfl ((if0 _ _).trans (teq (by decide : (0 : Int32) = (0 : Int32))).2)) ?_
    refine gx (XS.iconst X24.here hx rfl (hb hby d27_47)) ?_
    show Goes p.tables e below (T24.setTop (mkF m 48 #[.val (.ref x0), .val (.int x1), .val (.long x2), .second, .val (.long x3), .second, .val (.ref it_2), .val (.ref r1)] [(.int (0 : Int32))])) _
    obtain ⟨fs, hr, hrun, hended, hW, hsame⟩ := X24.leave (v := some (.int (0 : Int32))) (fun h => by rw [Bd.returns] at h; cases h)
    exact ⟨_, _, retN X24 hx (t := .boolean) Bd.returns (by simp) (hb hby d27_48) hr, hrun, hended, _, _, rfl, ⟨(by show (some (.int (0 : Int32)) : Option Value) = _; simp [own_exp, ho1]), N24, (by show Keep h0 T24.heap []; rw [hp24_0]; exact Kc12)⟩, ⟨_, rfl⟩, hW, hsame.mono (by decide) (by decide)⟩
  · have E1r := Er1.keep Kc12
    have F1r := Fr1.keep Kc12 nin0
    obtain ⟨T25, X25, e25, st25⟩ := castY X12 hx hZ hown (own_hw hw 250 rfl) rfl (Ins.of_exa E1r (own_hw hw 251 rfl)) (g := (mkF m 28 #[.val (.ref x0), .val (.int x1), .val (.long x2), .second, .val (.long x3), .second, .val (.ref it_2), .unset] [(.ref r1)])) rfl rfl (hb hby d27_28)
    refine Goes.to st25 ?_
    refine gx (XS.astore X25.here hx rfl (hb hby d27_31) rfl rfl (l' := #[.val (.ref x0), .val (.int x1), .val (.long x2), .second, .val (.long x3), .second, .val (.ref it_2), .val (.ref r1)]) rfl) ?_
    refine gx (XS.aload X25.here hx rfl (hb hby d27_33) rfl rfl) ?_
    refine gx (XS.iloadN X25.here hx rfl (hb hby d27_35) rfl) ?_
    refine gx (XS.lloadN X25.here hx rfl (hb hby d27_36) rfl) ?_
    show Goes p.tables e below (T25.setTop (mkF m 37 #[.val (.ref x0), .val (.int x1), .val (.long x2), .second, .val (.long x3), .second, .val (.ref it_2), .val (.ref r1)] [(.long x2), (.int x1), (.ref r1)])) _
    refine gx (XS.lload X25.here hx rfl (hb hby d27_37) rfl) ?_
    obtain ⟨cq26, kq26, q26a, q26b, q26c⟩ := isOf hZ e25 E1r
    obtain ⟨_, _, ⟨T26, L26, k26, n26⟩, -, X26, ⟨Lc26, hQ26, l26, y26, z26⟩, st26⟩ := X25.interfaceBack hx (xi := own_n47) (y := own_n16) hown (mvT hZ (own_hw hw 252 rfl)) (mvT hZ (own_hw hw 253 rfl)) (mvT hZ (own_hw hw 254 rfl)) (mvT hZ (own_hw hw 255 rfl)) (mvT hZ (own_hw hw 256 rfl)) (mvT hZ (own_hw hw 257 rfl)) (mvT hZ (own_hw hw 258 rfl)) (mvT hZ (own_hw hw 251 rfl)) (by decide) (backOf (W := 0) (own_rm34 l Z a0 hw [] r1 x1 x2 x3 c1 T12.heap n0 Zk12 F1r) hZ (own_hw hw 259 rfl) (own_hw hw 37 rfl) (by decide) (by decide)) q26a q26b q26c (g := (mkF m 39 #[.val (.ref x0), .val (.int x1), .val (.long x2), .second, .val (.long x3), .second, .val (.ref it_2), .val (.ref r1)] [(.long x3), (.long x2), (.int x1), (.ref r1)])) rfl (by rw [hml]; rfl) (Steps.refl _) (argsL := [(.int x1), (.long x2), (.long x3)]) (rest := []) (lenOf own_pd_pIJJqZ rfl) rfl (own_W rfl rfl) (hb hby d27_39) (fun _ _ => ⟨rfl, e25, (by decide : 1 + 0 ≤ _), (by decide : 4 + 0 ≤ _)⟩)
    dsimp only [Pt.U, Pt.locs, Pt.cells, Pt.slots] at X26 l26 y26 z26 st26 hQ26
    subst l26 y26 z26
    obtain ⟨hv26, Nq26, hp26_0⟩ := hQ26
    have N26 := Fr.app N12 Nq26
    by_cases hc27 : x1 < c1
    · rw [if_pos hc27] at hv26
      subst hv26
      refine Goes.tr st26 ?_
      refine gx (XS.ifNo X26.here hx rfl (hb hby d27_44) rfl ((if0 _ _).trans (teq (by decide : (0 : Int32) = (0 : Int32))).2)) ?_
      refine gx (XS.iconst X26.here hx rfl (hb hby d27_47)) ?_
      show Goes p.tables e below (T26.setTop (mkF m 48 #[.val (.ref x0), .val (.int x1), .val (.long x2), .second, .val (.long x3), .second, .val (.ref it_2), .val (.ref r1)] [(.int (0 : Int32))])) _
      obtain ⟨fs, hr, hrun, hended, hW, hsame⟩ := X26.leave (v := some (.int (0 : Int32))) (fun h => by rw [Bd.returns] at h; cases h)
      exact ⟨_, _, retN X26 hx (t := .boolean) Bd.returns (by simp) (hb hby d27_48) hr, hrun, hended, _, _, rfl, ⟨(by show (some (.int (0 : Int32)) : Option Value) = _; simp [own_exp, ho1, hc27]), N26, (by show Keep h0 T26.heap []; rw [hp26_0]; exact Kc12)⟩, ⟨_, rfl⟩, hW, hsame.mono (by decide) (by decide)⟩
    · rw [if_neg hc27] at hv26
      subst hv26
      refine Goes.tr st26 ?_
      refine gx (XS.ifYes X26.here hx rfl (pc0 := 44) (pc' := 49) rfl (hb hby d27_44) rfl ((if0 _ _).trans (feq (by decide : ¬ ((1 : Int32) = (0 : Int32)))).2) (by decide) (by decide)) ?_
      refine gx (XS.goto X26.here hx rfl (pc0 := 49) (pc' := 11) rfl (hb hby d27_49) (by decide) (by decide)) ?_
      refine gx (XS.aload X26.here hx rfl (hb hby d27_11) rfl rfl) ?_
      obtain ⟨cq28, kq28, q28a, q28b, q28c⟩ := isOf hZ hp26_0 Qf12_0
      obtain ⟨_, _, ⟨T28, L28, k28, n28⟩, -, X28, ⟨Lc28, hQ28, l28, y28, z28⟩, st28⟩ := X26.interfaceBack hx (xi := own_n45) (y := own_n35) hown (mvT hZ (own_hw hw 225 rfl)) (mvT hZ (own_hw hw 226 rfl)) (mvT hZ (own_hw hw 227 rfl)) (mvT hZ (own_hw hw 228 rfl)) (mvT hZ (own_hw hw 229 rfl)) (mvT hZ (own_hw hw 230 rfl)) (mvT hZ (own_hw hw 231 rfl)) (mvT hZ (own_hw hw 232 rfl)) (by decide) (backOf (W := 0) (own_rm31 l Z a0 hw [] it_2 (1 : Int32) (1 : Int32) T12.heap n0 Zk12 Qf12_3 Qf12_2) hZ (own_hw hw 233 rfl) (own_hw hw 205 rfl) (by decide) (by decide)) q28a q28b q28c (g := (mkF m 13 #[.val (.ref x0), .val (.int x1), .val (.long x2), .second, .val (.long x3), .second, .val (.ref it_2), .val (.ref r1)] [(.ref it_2)])) rfl (by rw [hml]; rfl) (Steps.refl _) (argsL := []) (rest := []) (lenOf own_pd_pqZ rfl) rfl (own_W rfl rfl) (hb hby d27_13) (fun _ _ => ⟨rfl, hp26_0, (by decide : 1 + 0 ≤ _), (by decide : 4 + 0 ≤ _)⟩)
      dsimp only [Pt.U, Pt.locs, Pt.cells, Pt.slots] at X28 l28 y28 z28 st28 hQ28
      subst l28 y28 z28
      obtain ⟨hv28, Nq28, hp28_0⟩ := hQ28
      have N28 := Fr.app N26 Nq28
      rw [if_pos (by decide : (1 : Int32) = (1 : Int32))] at hv28
      subst hv28
      refine Goes.tr st28 ?_
      refine gx (XS.ifYes X28.here hx rfl (pc0 := 18) (pc' := 52) rfl (hb hby d27_18) rfl ((if0 _ _).trans (teq (by decide : (0 : Int32) = (0 : Int32))).1) (by decide) (by decide)) ?_
      refine gx (XS.iconst X28.here hx rfl (hb hby d27_52)) ?_
      show Goes p.tables e below (T28.setTop (mkF m 53 #[.val (.ref x0), .val (.int x1), .val (.long x2), .second, .val (.long x3), .second, .val (.ref it_2), .val (.ref r1)] [(.int (1 : Int32))])) _
      obtain ⟨fs, hr, hrun, hended, hW, hsame⟩ := X28.leave (v := some (.int (1 : Int32))) (fun h => by rw [Bd.returns] at h; cases h)
      exact ⟨_, _, retN X28 hx (t := .boolean) Bd.returns (by simp) (hb hby d27_53) hr, hrun, hended, _, _, rfl, ⟨(by show (some (.int (1 : Int32)) : Option Value) = _; simp [own_exp, ho1, hc27]), N28, (by show Keep h0 T28.heap []; rw [hp28_0]; exact Kc12)⟩, ⟨_, rfl⟩, hW, hsame.mono (by decide) (by decide)⟩

theorem own_ef_own_rmEX2 (m : MethodId) (x0 : Addr) (x1 : Int32) (x2 : Int64) (x3 : Int64) : entryFrame m #[(.ref x0), (.int x1), (.long x2), (.long x3)] 8 = mkF m 0 #[.val (.ref x0), .val (.int x1), .val (.long x2), .second, .val (.long x3), .second, .unset, .unset] [] := by first | (simp [entryFrame, mkF, argsToLocals, Value.category]; done) | rfl
def own_Q_own_rmEX2 (Z : State) (x0 : Addr) (x1 : Int32) (x2 : Int64) (x3 : Int64) (li : Addr) (r1 : Addr) (r2 : Addr) (aI : Addr) (o1 : Option Int32) (o2 : Option Int32) (h0 : Heap) (n0 : Nat) (v : Option Value) (h : Heap) (L : List Loc) : Prop := v = some (.int (own_exp [o1, o2] x1)) ∧ Fr n0 L ∧ Keep h0 h []
abbrev own_r_own_rmEX2 : Room := ({ frames := 3, cells := 1, slots := 4, locals := 39 } : Room)

set_option maxRecDepth 65536 in
set_option maxHeartbeats 40000000 in
theorem own_rmEX2 (l : Launch) (Z : State) (a0 : Array Value) (hw : ∀ d ∈ tables_1, d.before a0 Z = true) (ws : List Jvm.Cond) (x0 : Addr) (x1 : Int32) (x2 : Int64) (x3 : Int64) (li : Addr) (r1 : Addr) (r2 : Addr) (aI : Addr) (o1 : Option Int32) (o2 : Option Int32) (h0 : Heap) (n0 : Nat) (Z0 : n0 ≤ h0.size) (Pi0 : Exa Z h0 x0 "com/example/wee_table/weetable/model/GcRule$Intersection") (Pi1 : Fld Z h0 x0 "com/example/wee_table/weetable/model/GcRule$Intersection" "rules" "Ljava/util/List;" (.ref li)) (Pi2 : Exa Z h0 li "java/util/ImmutableCollections$List12") (Pi3 : Fld Z h0 li "java/util/ImmutableCollections$List12" "e0" "Ljava/lang/Object;" (.ref r1)) (Pi4 : Fld Z h0 li "java/util/ImmutableCollections$List12" "e1" "Ljava/lang/Object;" (.ref r2)) (Pi5 : Sta Z h0 "java/util/ImmutableCollections" "EMPTY" "Ljava/lang/Object;" (.ref aI)) (Pi6 : r2 ≠ aI) (Hr1 : own_ru Z h0 r1 o1) (Hr2 : own_ru Z h0 r2 o2) :
    MetFree l own_n48 (head1 (Jvm.Cond.code own_n48 prog_13_method_2_code 8 (some .boolean) :: ws) own_r_own_rmEX2) (fun a U => a = #[(.ref x0), (.int x1), (.long x2), (.long x3)] ∧ Z.Warmed39 U.vm ∧ U.heap = h0) (fun _ _ _ _ _ => True) (fun _ U o U' => ∃ v L, o = .returned v ∧ own_Q_own_rmEX2 Z x0 x1 x2 x3 li r1 r2 aI o1 o2 h0 n0 v U'.heap L ∧ FrameEnd U o U' L own_r_own_rmEX2.cells own_r_own_rmEX2.slots) := by
  refine MetFree.of_bodySF (plainFor_of_name own_pn_27) hisR ?_
  intro p e s m args below meth c s₁ Bd hml0 hP hK
  obtain ⟨rfl, hZ, hh⟩ := hP
  have hx := Bd.exec
  have hby := Bd.bytes
  have hml : c.maxLocals = 8 := hml0
  have hown : s.vm.findClass "com/example/wee_table/weetable/model/GcRule$Intersection" = some m.cls := findClass_of_methodNamed Bd.named
  have hnm := (name_of_methodNamed Bd.named Bd.method).1
  have X0 : Stand p l e own_r_own_rmEX2 s m #[(.ref x0), (.int x1), (.long x2), (.long x3)] below meth c s₁ [] 0 0 := Stand.of_body Bd
  have e0 : s₁.heap = h0 := by rw [← hh, Bd.state]; rfl
  have N0 := Fr.nil n0
  show Goes p.tables e below _ (own_R below s (own_Q_own_rmEX2 Z x0 x1 x2 x3 li r1 r2 aI o1 o2 h0 n0) own_r_own_rmEX2.cells own_r_own_rmEX2.slots)
  refine Goes.to (fun t k => castTop (own_ef_own_rmEX2 m x0 x1 x2 x3) k) ?_
  refine gx (XS.aloadN X0.here hx rfl (hb hby d27_0) rfl rfl) ?_
  obtain ⟨T1, X1, e1, st1⟩ := getF X0 hx hZ hown (host := "") (Or.inl (own_hw hw 187 rfl)) Via.refl e0 Pi1 (g := (mkF m 1 #[.val (.ref x0), .val (.int x1), .val (.long x2), .second, .val (.long x3), .second, .unset, .unset] [(.ref x0)])) rfl rfl (hb hby d27_1)
  refine Goes.to st1 ?_
  obtain ⟨cq2, kq2, q2a, q2b, q2c⟩ := isOf hZ e1 Pi2
  obtain ⟨_, _, ⟨T2, L2, k2, n2⟩, -, X2, ⟨Lc2, hQ2, l2, y2, z2⟩, st2⟩ := X1.interfaceBack hx (xi := own_n44) (y := own_n41) hown (mvT hZ (own_hw hw 194 rfl)) (mvT hZ (own_hw hw 195 rfl)) (mvT hZ (own_hw hw 196 rfl)) (mvT hZ (own_hw hw 197 rfl)) (mvT hZ (own_hw hw 198 rfl)) (mvT hZ (own_hw hw 199 rfl)) (mvT hZ (own_hw hw 200 rfl)) (mvT hZ (own_hw hw 201 rfl)) (by decide) (backOf (W := 0) (own_rmIT2 l Z a0 hw [] li r1 r2 aI h0 n0 Z0 Pi2 Pi3 Pi4 Pi5 Pi6) hZ (own_hw hw 202 rfl) (own_hw hw 168 rfl) (by decide) (by decide)) q2a q2b q2c (g := (mkF m 4 #[.val (.ref x0), .val (.int x1), .val (.long x2), .second, .val (.long x3), .second, .unset, .unset] [(.ref li)])) rfl (by rw [hml]; rfl) (Steps.refl _) (argsL := []) (rest := []) (lenOf own_pd_pqLjavalutillIterators rfl) rfl (own_W rfl rfl) (hb hby d27_4) (fun _ _ => ⟨rfl, e1, (by decide : 0 + 1 ≤ _), (by decide : 0 + 4 ≤ _)⟩)
  dsimp only [Pt.U, Pt.locs, Pt.cells, Pt.slots] at X2 l2 y2 z2 st2 hQ2
  subst l2 y2 z2
  obtain ⟨it_2, hv2, Nq2, sq2_0, Kq2, Qf2_0, Qf2_1, Qf2_2, Qf2_3⟩ := hQ2
  have N2 := Fr.app N0 Nq2
  have g_it_2 : n0 ≤ it_2 := Nat.le_trans Z0 sq2_0
  have sz_it_2 : h0.size ≤ it_2 := Nat.le_trans (Keep.refl h0 []).1 sq2_0
  have ne4 : li ≠ it_2 := Nat.ne_of_lt (Nat.lt_of_lt_of_le Pi2.lt sq2_0)
  have F7 := Pi2.keep Kq2
  have F8 := Pi3.keep Kq2 nin0
  have F9 := Pi4.keep Kq2 nin0
  have F10 := own_sta0 Kq2 Pi5
  have Zk2 : n0 ≤ T2.heap.size := Nat.le_trans Z0 Kq2.1
  have Kc2 : Keep h0 T2.heap [] := (Keep.refl h0 []).trans Kq2 all0
  subst hv2
  refine Goes.tr st2 ?_
  refine gx (XS.astore X2.here hx rfl (hb hby d27_9) rfl rfl (l' := #[.val (.ref x0), .val (.int x1), .val (.long x2), .second, .val (.long x3), .second, .val (.ref it_2), .unset]) rfl) ?_
  refine gx (XS.aload X2.here hx rfl (hb hby d27_11) rfl rfl) ?_
  obtain ⟨cq11, kq11, q11a, q11b, q11c⟩ := isOf hZ rfl Qf2_0
  obtain ⟨_, _, ⟨T11, L11, k11, n11⟩, -, X11, ⟨Lc11, hQ11, l11, y11, z11⟩, st11⟩ := X2.interfaceBack hx (xi := own_n45) (y := own_n35) hown (mvT hZ (own_hw hw 225 rfl)) (mvT hZ (own_hw hw 226 rfl)) (mvT hZ (own_hw hw 227 rfl)) (mvT hZ (own_hw hw 228 rfl)) (mvT hZ (own_hw hw 229 rfl)) (mvT hZ (own_hw hw 230 rfl)) (mvT hZ (own_hw hw 231 rfl)) (mvT hZ (own_hw hw 232 rfl)) (by decide) (backOf (W := 0) (own_rm31 l Z a0 hw [] it_2 (0 : Int32) (2 : Int32) T2.heap n0 Zk2 Qf2_3 Qf2_2) hZ (own_hw hw 233 rfl) (own_hw hw 205 rfl) (by decide) (by decide)) q11a q11b q11c (g := (mkF m 13 #[.val (.ref x0), .val (.int x1), .val (.long x2), .second, .val (.long x3), .second, .val (.ref it_2), .unset] [(.ref it_2)])) rfl (by rw [hml]; rfl) (Steps.refl _) (argsL := []) (rest := []) (lenOf own_pd_pqZ rfl) rfl (own_W rfl rfl) (hb hby d27_13) (fun _ _ => ⟨rfl, rfl, (by decide : 1 + 0 ≤ _), (by decide : 4 + 0 ≤ _)⟩)
  dsimp only [Pt.U, Pt.locs, Pt.cells, Pt.slots] at X11 l11 y11 z11 st11 hQ11
  subst l11 y11 z11
  obtain ⟨hv11, Nq11, hp11_0⟩ := hQ11
  have N11 := Fr.app N2 Nq11
  rw [if_neg (by decide : ¬ ((0 : Int32) = (2 : Int32)))] at hv11
  subst hv11
  refine Goes.tr st11 ?_
  refine gx (XS.ifNo X11.here hx rfl (hb hby d27_18) rfl ((if0 _ _).trans (feq (by decide : ¬ ((1 : Int32) = (0 : Int32)))).1)) ?_
  refine gx (XS.aload X11.here hx rfl (hb hby d27_21) rfl rfl) ?_
  obtain ⟨cq12, kq12, q12a, q12b, q12c⟩ := isOf hZ hp11_0 Qf2_0
  obtain ⟨_, _, ⟨T12, L12, k12, n12⟩, -, X12, ⟨Lc12, hQ12, l12, y12, z12⟩, st12⟩ := X11.interfaceBack hx (xi := own_n46) (y := own_n43) hown (mvT hZ (own_hw hw 234 rfl)) (mvT hZ (own_hw hw 235 rfl)) (mvT hZ (own_hw hw 236 rfl)) (mvT hZ (own_hw hw 237 rfl)) (mvT hZ (own_hw hw 238 rfl)) (mvT hZ (own_hw hw 239 rfl)) (mvT hZ (own_hw hw 240 rfl)) (mvT hZ (own_hw hw 232 rfl)) (by decide) (backOfWith (W := 0) (own_rmNX20 l Z a0 hw [] it_2 li r1 r2 aI T2.heap n0 Zk2 g_it_2 Qf2_0 Qf2_1 Qf2_2 Qf2_3 F7 F8 F9 F10 Pi6) hZ (own_hw hw 241 rfl) (own_hw hw 205 rfl) (by decide) (by decide)) q12a q12b q12c (g := (mkF m 23 #[.val (.ref x0), .val (.int x1), .val (.long x2), .second, .val (.long x3), .second, .val (.ref it_2), .unset] [(.ref it_2)])) rfl (by rw [hml]; rfl) (Steps.refl _) (argsL := []) (rest := []) (lenOf own_pd_pqLjavallanglObjects rfl) rfl (own_W rfl rfl) (hb hby d27_23) (fun _ _ => ⟨rfl, hp11_0, (by decide : 1 + 0 ≤ _), (by decide : 4 + 0 ≤ _)⟩)
  dsimp only [Pt.U, Pt.locs, Pt.cells, Pt.slots] at X12 l12 y12 z12 st12 hQ12
  subst l12 y12 z12
  obtain ⟨hv12, Nq12, Kq12, Qf12_0, Qf12_1, Qf12_2, Qf12_3⟩ := hQ12
  have N12 := Fr.app N11 Nq12
  have F15 := F7.keep Kq12
  have F16 := F8.keep Kq12 (ninS ne4 nin0)
  have F17 := F9.keep Kq12 (ninS ne4 nin0)
  have F18 := own_staK Kq12 Qf2_0 F10
  have Zk12 : n0 ≤ T12.heap.size := Nat.le_trans Zk2 Kq12.1
  have Kc12 : Keep h0 T12.heap [] := Kc2.trans Kq12 (allS (Or.inr sz_it_2) all0)
  subst hv12
  refine Goes.tr st12 ?_
  obtain ⟨ho1, Er1⟩ | ⟨c1, ho1, Er1, Fr1⟩ := Hr1
  · have E1r := Er1.keep Kc12
    obtain ⟨T23, X23, e23, st23⟩ := castY X12 hx hZ hown (own_hw hw 250 rfl) rfl (Ins.of_exa E1r (own_hw hw 269 rfl)) (g := (mkF m 28 #[.val (.ref x0), .val (.int x1), .val (.long x2), .second, .val (.long x3), .second, .val (.ref it_2), .unset] [(.ref r1)])) rfl rfl (hb hby d27_28)
    refine Goes.to st23 ?_
    refine gx (XS.astore X23.here hx rfl (hb hby d27_31) rfl rfl (l' := #[.val (.ref x0), .val (.int x1), .val (.long x2), .second, .val (.long x3), .second, .val (.ref it_2), .val (.ref r1)]) rfl) ?_
    refine gx (XS.aload X23.here hx rfl (hb hby d27_33) rfl rfl) ?_
    refine gx (XS.iloadN X23.here hx rfl (hb hby d27_35) rfl) ?_
    refine gx (XS.lloadN X23.here hx rfl (hb hby d27_36) rfl) ?_
    show Goes p.tables e below (T23.setTop (mkF m 37 #[.val (.ref x0), .val (.int x1), .val (.long x2), .second, .val (.long x3), .second, .val (.ref it_2), .val (.ref r1)] [(.long x2), (.int x1), (.ref r1)])) _
    refine gx (XS.lload X23.here hx rfl (hb hby d27_37) rfl) ?_
    obtain ⟨cq24, kq24, q24a, q24b, q24c⟩ := isOf hZ e23 E1r
    obtain ⟨_, _, ⟨T24, L24, k24, n24⟩, -, X24, ⟨Lc24, hQ24, l24, y24, z24⟩, st24⟩ := X23.interfaceBack hx (xi := own_n47) (y := own_n17) hown (mvT hZ (own_hw hw 252 rfl)) (mvT hZ (own_hw hw 253 rfl)) (mvT hZ (own_hw hw 254 rfl)) (mvT hZ (own_hw hw 270 rfl)) (mvT hZ (own_hw hw 271 rfl)) (mvT hZ (own_hw hw 272 rfl)) (mvT hZ (own_hw hw 273 rfl)) (mvT hZ (own_hw hw 269 rfl)) (by decide) (backOf (W := 0) (own_rm37 l Z a0 hw [] r1 x1 x2 x3 T12.heap n0 Zk12 ) hZ (own_hw hw 275 rfl) (own_hw hw 274 rfl) (by decide) (by decide)) q24a q24b q24c (g := (mkF m 39 #[.val (.ref x0), .val (.int x1), .val (.long x2), .second, .val (.long x3), .second, .val (.ref it_2), .val (.ref r1)] [(.long x3), (.long x2), (.int x1), (.ref r1)])) rfl (by rw [hml]; rfl) (Steps.refl _) (argsL := [(.int x1), (.long x2), (.long x3)]) (rest := []) (lenOf own_pd_pIJJqZ rfl) rfl (own_W rfl rfl) (hb hby d27_39) (fun _ _ => ⟨rfl, e23, (by decide : 1 + 0 ≤ _), (by decide : 4 + 0 ≤ _)⟩)
    dsimp only [Pt.U, Pt.locs, Pt.cells, Pt.slots] at X24 l24 y24 z24 st24 hQ24
    subst l24 y24 z24
    obtain ⟨hv24, Nq24, hp24_0⟩ := hQ24
    have N24 := Fr.app N12 Nq24
    subst hv24
    refine Goes.tr st24 ?_
    refine gx (XS.ifNo X24.here hx rfl (hb hby d27_44) rfl ((if0 _ _).trans (teq (by decide : (0 : Int32) = (0 : Int32))).2)) ?_
    refine gx (XS.iconst X24.here hx rfl (hb hby d27_47)) ?_
    show Goes p.tables e below (T24.setTop (mkF m 48 #[.val (.ref x0), .val (.int x1), .val (.long x2), .second, .val (.long x3), .second, .val (.ref it_2), .val (.ref r1)] [(.int (0 : Int32))])) _
    obtain ⟨fs, hr, hrun, hended, hW, hsame⟩ := X24.leave (v := some (.int (0 : Int32))) (fun h => by rw [Bd.returns] at h; cases h)
    exact ⟨_, _, retN X24 hx (t := .boolean) Bd.returns (by simp) (hb hby d27_48) hr, hrun, hended, _, _, rfl, ⟨(by show (some (.int (0 : Int32)) : Option Value) = _; simp [own_exp, ho1]), N24, (by show Keep h0 T24.heap []; rw [hp24_0]; exact Kc12)⟩, ⟨_, rfl⟩, hW, hsame.mono (by decide) (by decide)⟩
  · have E1r := Er1.keep Kc12
    have F1r := Fr1.keep Kc12 nin0
    obtain ⟨T25, X25, e25, st25⟩ := castY X12 hx hZ hown (own_hw hw 250 rfl) rfl (Ins.of_exa E1r (own_hw hw 251 rfl)) (g := (mkF m 28 #[.val (.ref x0), .val (.int x1), .val (.long x2), .second, .val (.long x3), .second, .val (.ref it_2), .unset] [(.ref r1)])) rfl rfl (hb hby d27_28)
    refine Goes.to st25 ?_
    refine gx (XS.astore X25.here hx rfl (hb hby d27_31) rfl rfl (l' := #[.val (.ref x0), .val (.int x1), .val (.long x2), .second, .val (.long x3), .second, .val (.ref it_2), .val (.ref r1)]) rfl) ?_
    refine gx (XS.aload X25.here hx rfl (hb hby d27_33) rfl rfl) ?_
    refine gx (XS.iloadN X25.here hx rfl (hb hby d27_35) rfl) ?_
    refine gx (XS.lloadN X25.here hx rfl (hb hby d27_36) rfl) ?_
    show Goes p.tables e below (T25.setTop (mkF m 37 #[.val (.ref x0), .val (.int x1), .val (.long x2), .second, .val (.long x3), .second, .val (.ref it_2), .val (.ref r1)] [(.long x2), (.int x1), (.ref r1)])) _
    refine gx (XS.lload X25.here hx rfl (hb hby d27_37) rfl) ?_
    obtain ⟨cq26, kq26, q26a, q26b, q26c⟩ := isOf hZ e25 E1r
    obtain ⟨_, _, ⟨T26, L26, k26, n26⟩, -, X26, ⟨Lc26, hQ26, l26, y26, z26⟩, st26⟩ := X25.interfaceBack hx (xi := own_n47) (y := own_n16) hown (mvT hZ (own_hw hw 252 rfl)) (mvT hZ (own_hw hw 253 rfl)) (mvT hZ (own_hw hw 254 rfl)) (mvT hZ (own_hw hw 255 rfl)) (mvT hZ (own_hw hw 256 rfl)) (mvT hZ (own_hw hw 257 rfl)) (mvT hZ (own_hw hw 258 rfl)) (mvT hZ (own_hw hw 251 rfl)) (by decide) (backOf (W := 0) (own_rm34 l Z a0 hw [] r1 x1 x2 x3 c1 T12.heap n0 Zk12 F1r) hZ (own_hw hw 259 rfl) (own_hw hw 37 rfl) (by decide) (by decide)) q26a q26b q26c (g := (mkF m 39 #[.val (.ref x0), .val (.int x1), .val (.long x2), .second, .val (.long x3), .second, .val (.ref it_2), .val (.ref r1)] [(.long x3), (.long x2), (.int x1), (.ref r1)])) rfl (by rw [hml]; rfl) (Steps.refl _) (argsL := [(.int x1), (.long x2), (.long x3)]) (rest := []) (lenOf own_pd_pIJJqZ rfl) rfl (own_W rfl rfl) (hb hby d27_39) (fun _ _ => ⟨rfl, e25, (by decide : 1 + 0 ≤ _), (by decide : 4 + 0 ≤ _)⟩)
    dsimp only [Pt.U, Pt.locs, Pt.cells, Pt.slots] at X26 l26 y26 z26 st26 hQ26
    subst l26 y26 z26
    obtain ⟨hv26, Nq26, hp26_0⟩ := hQ26
    have N26 := Fr.app N12 Nq26
    by_cases hc27 : x1 < c1
    · rw [if_pos hc27] at hv26
      subst hv26
      refine Goes.tr st26 ?_
      refine gx (XS.ifNo X26.here hx rfl (hb hby d27_44) rfl ((if0 _ _).trans (teq (by decide : (0 : Int32) = (0 : Int32))).2)) ?_
      refine gx (XS.iconst X26.here hx rfl (hb hby d27_47)) ?_
      show Goes p.tables e below (T26.setTop (mkF m 48 #[.val (.ref x0), .val (.int x1), .val (.long x2), .second, .val (.long x3), .second, .val (.ref it_2), .val (.ref r1)] [(.int (0 : Int32))])) _
      obtain ⟨fs, hr, hrun, hended, hW, hsame⟩ := X26.leave (v := some (.int (0 : Int32))) (fun h => by rw [Bd.returns] at h; cases h)
      exact ⟨_, _, retN X26 hx (t := .boolean) Bd.returns (by simp) (hb hby d27_48) hr, hrun, hended, _, _, rfl, ⟨(by show (some (.int (0 : Int32)) : Option Value) = _; simp [own_exp, ho1, hc27]), N26, (by show Keep h0 T26.heap []; rw [hp26_0]; exact Kc12)⟩, ⟨_, rfl⟩, hW, hsame.mono (by decide) (by decide)⟩
    · rw [if_neg hc27] at hv26
      subst hv26
      refine Goes.tr st26 ?_
      refine gx (XS.ifYes X26.here hx rfl (pc0 := 44) (pc' := 49) rfl (hb hby d27_44) rfl ((if0 _ _).trans (feq (by decide : ¬ ((1 : Int32) = (0 : Int32)))).2) (by decide) (by decide)) ?_
      refine gx (XS.goto X26.here hx rfl (pc0 := 49) (pc' := 11) rfl (hb hby d27_49) (by decide) (by decide)) ?_
      refine gx (XS.aload X26.here hx rfl (hb hby d27_11) rfl rfl) ?_
      obtain ⟨cq28, kq28, q28a, q28b, q28c⟩ := isOf hZ hp26_0 Qf12_0
      obtain ⟨_, _, ⟨T28, L28, k28, n28⟩, -, X28, ⟨Lc28, hQ28, l28, y28, z28⟩, st28⟩ := X26.interfaceBack hx (xi := own_n45) (y := own_n35) hown (mvT hZ (own_hw hw 225 rfl)) (mvT hZ (own_hw hw 226 rfl)) (mvT hZ (own_hw hw 227 rfl)) (mvT hZ (own_hw hw 228 rfl)) (mvT hZ (own_hw hw 229 rfl)) (mvT hZ (own_hw hw 230 rfl)) (mvT hZ (own_hw hw 231 rfl)) (mvT hZ (own_hw hw 232 rfl)) (by decide) (backOf (W := 0) (own_rm31 l Z a0 hw [] it_2 (1 : Int32) (2 : Int32) T12.heap n0 Zk12 Qf12_3 Qf12_2) hZ (own_hw hw 233 rfl) (own_hw hw 205 rfl) (by decide) (by decide)) q28a q28b q28c (g := (mkF m 13 #[.val (.ref x0), .val (.int x1), .val (.long x2), .second, .val (.long x3), .second, .val (.ref it_2), .val (.ref r1)] [(.ref it_2)])) rfl (by rw [hml]; rfl) (Steps.refl _) (argsL := []) (rest := []) (lenOf own_pd_pqZ rfl) rfl (own_W rfl rfl) (hb hby d27_13) (fun _ _ => ⟨rfl, hp26_0, (by decide : 1 + 0 ≤ _), (by decide : 4 + 0 ≤ _)⟩)
      dsimp only [Pt.U, Pt.locs, Pt.cells, Pt.slots] at X28 l28 y28 z28 st28 hQ28
      subst l28 y28 z28
      obtain ⟨hv28, Nq28, hp28_0⟩ := hQ28
      have N28 := Fr.app N26 Nq28
      rw [if_neg (by decide : ¬ ((1 : Int32) = (2 : Int32)))] at hv28
      subst hv28
      refine Goes.tr st28 ?_
      refine gx (XS.ifNo X28.here hx rfl (hb hby d27_18) rfl ((if0 _ _).trans (feq (by decide : ¬ ((1 : Int32) = (0 : Int32)))).1)) ?_
      refine gx (XS.aload X28.here hx rfl (hb hby d27_21) rfl rfl) ?_
      obtain ⟨cq29, kq29, q29a, q29b, q29c⟩ := isOf hZ hp28_0 Qf12_0
      obtain ⟨_, _, ⟨T29, L29, k29, n29⟩, -, X29, ⟨Lc29, hQ29, l29, y29, z29⟩, st29⟩ := X28.interfaceBack hx (xi := own_n46) (y := own_n43) hown (mvT hZ (own_hw hw 234 rfl)) (mvT hZ (own_hw hw 235 rfl)) (mvT hZ (own_hw hw 236 rfl)) (mvT hZ (own_hw hw 237 rfl)) (mvT hZ (own_hw hw 238 rfl)) (mvT hZ (own_hw hw 239 rfl)) (mvT hZ (own_hw hw 240 rfl)) (mvT hZ (own_hw hw 232 rfl)) (by decide) (backOfWith (W := 0) (own_rmNX21 l Z a0 hw [] it_2 li r1 r2 aI T12.heap n0 Zk12 g_it_2 Qf12_0 Qf12_1 Qf12_2 Qf12_3 F15 F16 F17 F18 Pi6) hZ (own_hw hw 241 rfl) (own_hw hw 205 rfl) (by decide) (by decide)) q29a q29b q29c (g := (mkF m 23 #[.val (.ref x0), .val (.int x1), .val (.long x2), .second, .val (.long x3), .second, .val (.ref it_2), .val (.ref r1)] [(.ref it_2)])) rfl (by rw [hml]; rfl) (Steps.refl _) (argsL := []) (rest := []) (lenOf own_pd_pqLjavallanglObjects rfl) rfl (own_W rfl rfl) (hb hby d27_23) (fun _ _ => ⟨rfl, hp28_0, (by decide : 1 + 0 ≤ _), (by decide : 4 + 0 ≤ _)⟩)
      dsimp only [Pt.U, Pt.locs, Pt.cells, Pt.slots] at X29 l29 y29 z29 st29 hQ29
      subst l29 y29 z29
      obtain ⟨hv29, Nq29, Kq29, Qf29_0, Qf29_1, Qf29_2, Qf29_3⟩ := hQ29
      have N29 := Fr.app N28 Nq29
      have Zk29 : n0 ≤ T29.heap.size := Nat.le_trans Zk12 Kq29.1
      have Kc29 : Keep h0 T29.heap [] := Kc12.trans Kq29 (allS (Or.inr sz_it_2) all0)
      subst hv29
      refine Goes.tr st29 ?_
      obtain ⟨ho2, Er2⟩ | ⟨c2, ho2, Er2, Fr2⟩ := Hr2
      · have E2r := Er2.keep Kc29
        obtain ⟨T42, X42, e42, st42⟩ := castY X29 hx hZ hown (own_hw hw 250 rfl) rfl (Ins.of_exa E2r (own_hw hw 269 rfl)) (g := (mkF m 28 #[.val (.ref x0), .val (.int x1), .val (.long x2), .second, .val (.long x3), .second, .val (.ref it_2), .val (.ref r1)] [(.ref r2)])) rfl rfl (hb hby d27_28)
        refine Goes.to st42 ?_
        refine gx (XS.astore X42.here hx rfl (hb hby d27_31) rfl rfl (l' := #[.val (.ref x0), .val (.int x1), .val (.long x2), .second, .val (.long x3), .second, .val (.ref it_2), .val (.ref r2)]) rfl) ?_
        refine gx (XS.aload X42.here hx rfl (hb hby d27_33) rfl rfl) ?_
        refine gx (XS.iloadN X42.here hx rfl (hb hby d27_35) rfl) ?_
        refine gx (XS.lloadN X42.here hx rfl (hb hby d27_36) rfl) ?_
        show Goes p.tables e below (T42.setTop (mkF m 37 #[.val (.ref x0), .val (.int x1), .val (.long x2), .second, .val (.long x3), .second, .val (.ref it_2), .val (.ref r2)] [(.long x2), (.int x1), (.ref r2)])) _
        refine gx (XS.lload X42.here hx rfl (hb hby d27_37) rfl) ?_
        obtain ⟨cq43, kq43, q43a, q43b, q43c⟩ := isOf hZ e42 E2r
        obtain ⟨_, _, ⟨T43, L43, k43, n43⟩, -, X43, ⟨Lc43, hQ43, l43, y43, z43⟩, st43⟩ := X42.interfaceBack hx (xi := own_n47) (y := own_n17) hown (mvT hZ (own_hw hw 252 rfl)) (mvT hZ (own_hw hw 253 rfl)) (mvT hZ (own_hw hw 254 rfl)) (mvT hZ (own_hw hw 270 rfl)) (mvT hZ (own_hw hw 271 rfl)) (mvT hZ (own_hw hw 272 rfl)) (mvT hZ (own_hw hw 273 rfl)) (mvT hZ (own_hw hw 269 rfl)) (by decide) (backOf (W := 0) (own_rm37 l Z a0 hw [] r2 x1 x2 x3 T29.heap n0 Zk29 ) hZ (own_hw hw 275 rfl) (own_hw hw 274 rfl) (by decide) (by decide)) q43a q43b q43c (g := (mkF m 39 #[.val (.ref x0), .val (.int x1), .val (.long x2), .second, .val (.long x3), .second, .val (.ref it_2), .val (.ref r2)] [(.long x3), (.long x2), (.int x1), (.ref r2)])) rfl (by rw [hml]; rfl) (Steps.refl _) (argsL := [(.int x1), (.long x2), (.long x3)]) (rest := []) (lenOf own_pd_pIJJqZ rfl) rfl (own_W rfl rfl) (hb hby d27_39) (fun _ _ => ⟨rfl, e42, (by decide : 1 + 0 ≤ _), (by decide : 4 + 0 ≤ _)⟩)
        dsimp only [Pt.U, Pt.locs, Pt.cells, Pt.slots] at X43 l43 y43 z43 st43 hQ43
        subst l43 y43 z43
        obtain ⟨hv43, Nq43, hp43_0⟩ := hQ43
        have N43 := Fr.app N29 Nq43
        subst hv43
        refine Goes.tr st43 ?_
        refine gx (XS.ifNo X43.here hx rfl (hb hby d27_44) rfl ((if0 _ _).trans (teq (by decide : (0 : Int32) = (0 : Int32))).2)) ?_
        refine gx (XS.iconst X43.here hx rfl (hb hby d27_47)) ?_
        show Goes p.tables e below (T43.setTop (mkF m 48 #[.val (.ref x0), .val (.int x1), .val (.long x2), .second, .val (.long x3), .second, .val (.ref it_2), .val (.ref r2)] [(.int (0 : Int32))])) _
        obtain ⟨fs, hr, hrun, hended, hW, hsame⟩ := X43.leave (v := some (.int (0 : Int32))) (fun h => by rw [Bd.returns] at h; cases h)
        exact ⟨_, _, retN X43 hx (t := .boolean) Bd.returns (by simp) (hb hby d27_48) hr, hrun, hended, _, _, rfl, ⟨(by show (some (.int (0 : Int32)) : Option Value) = _; simp [own_exp, ho1, ho2, hc27]), N43, (by show Keep h0 T43.heap []; rw [hp43_0]; exact Kc29)⟩, ⟨_, rfl⟩, hW, hsame.mono (by decide) (by decide)⟩
      · have E2r := Er2.keep Kc29
        have F2r := Fr2.keep Kc29 nin0
        obtain ⟨T44, X44, e44, st44⟩ := castY X29 hx hZ hown (own_hw hw 250 rfl) rfl (Ins.of_exa E2r (own_hw hw 251 rfl)) (g := (mkF m 28 #[.val (.ref x0), .val (.int x1), .val (.long x2), .second, .val (.long x3), .second, .val (.ref it_2), .val (.ref r1)] [(.ref r2)])) rfl rfl (hb hby d27_28)
        refine Goes.to st44 ?_
        refine gx (XS.astore X44.here hx rfl (hb hby d27_31) rfl rfl (l' := #[.val (.ref x0), .val (.int x1), .val (.long x2), .second, .val (.long x3), .second, .val (.ref it_2), .val (.ref r2)]) rfl) ?_
        refine gx (XS.aload X44.here hx rfl (hb hby d27_33) rfl rfl) ?_
        refine gx (XS.iloadN X44.here hx rfl (hb hby d27_35) rfl) ?_
        refine gx (XS.lloadN X44.here hx rfl (hb hby d27_36) rfl) ?_
        show Goes p.tables e below (T44.setTop (mkF m 37 #[.val (.ref x0), .val (.int x1), .val (.long x2), .second, .val (.long x3), .second, .val (.ref it_2), .val (.ref r2)] [(.long x2), (.int x1), (.ref r2)])) _
        refine gx (XS.lload X44.here hx rfl (hb hby d27_37) rfl) ?_
        obtain ⟨cq45, kq45, q45a, q45b, q45c⟩ := isOf hZ e44 E2r
        obtain ⟨_, _, ⟨T45, L45, k45, n45⟩, -, X45, ⟨Lc45, hQ45, l45, y45, z45⟩, st45⟩ := X44.interfaceBack hx (xi := own_n47) (y := own_n16) hown (mvT hZ (own_hw hw 252 rfl)) (mvT hZ (own_hw hw 253 rfl)) (mvT hZ (own_hw hw 254 rfl)) (mvT hZ (own_hw hw 255 rfl)) (mvT hZ (own_hw hw 256 rfl)) (mvT hZ (own_hw hw 257 rfl)) (mvT hZ (own_hw hw 258 rfl)) (mvT hZ (own_hw hw 251 rfl)) (by decide) (backOf (W := 0) (own_rm34 l Z a0 hw [] r2 x1 x2 x3 c2 T29.heap n0 Zk29 F2r) hZ (own_hw hw 259 rfl) (own_hw hw 37 rfl) (by decide) (by decide)) q45a q45b q45c (g := (mkF m 39 #[.val (.ref x0), .val (.int x1), .val (.long x2), .second, .val (.long x3), .second, .val (.ref it_2), .val (.ref r2)] [(.long x3), (.long x2), (.int x1), (.ref r2)])) rfl (by rw [hml]; rfl) (Steps.refl _) (argsL := [(.int x1), (.long x2), (.long x3)]) (rest := []) (lenOf own_pd_pIJJqZ rfl) rfl (own_W rfl rfl) (hb hby d27_39) (fun _ _ => ⟨rfl, e44, (by decide : 1 + 0 ≤ _), (by decide : 4 + 0 ≤ _)⟩)
        dsimp only [Pt.U, Pt.locs, Pt.cells, Pt.slots] at X45 l45 y45 z45 st45 hQ45
        subst l45 y45 z45
        obtain ⟨hv45, Nq45, hp45_0⟩ := hQ45
        have N45 := Fr.app N29 Nq45
        by_cases hc46 : x1 < c2
        · rw [if_pos hc46] at hv45
          subst hv45
          refine Goes.tr st45 ?_
          refine gx (XS.ifNo X45.here hx rfl (hb hby d27_44) rfl ((if0 _ _).trans (teq (by decide : (0 : Int32) = (0 : Int32))).2)) ?_
          refine gx (XS.iconst X45.here hx rfl (hb hby d27_47)) ?_
          show Goes p.tables e below (T45.setTop (mkF m 48 #[.val (.ref x0), .val (.int x1), .val (.long x2), .second, .val (.long x3), .second, .val (.ref it_2), .val (.ref r2)] [(.int (0 : Int32))])) _
          obtain ⟨fs, hr, hrun, hended, hW, hsame⟩ := X45.leave (v := some (.int (0 : Int32))) (fun h => by rw [Bd.returns] at h; cases h)
          exact ⟨_, _, retN X45 hx (t := .boolean) Bd.returns (by simp) (hb hby d27_48) hr, hrun, hended, _, _, rfl, ⟨(by show (some (.int (0 : Int32)) : Option Value) = _; simp [own_exp, ho1, ho2, hc27, hc46]), N45, (by show Keep h0 T45.heap []; rw [hp45_0]; exact Kc29)⟩, ⟨_, rfl⟩, hW, hsame.mono (by decide) (by decide)⟩
        · rw [if_neg hc46] at hv45
          subst hv45
          refine Goes.tr st45 ?_
          refine gx (XS.ifYes X45.here hx rfl (pc0 := 44) (pc' := 49) rfl (hb hby d27_44) rfl ((if0 _ _).trans (feq (by decide : ¬ ((1 : Int32) = (0 : Int32)))).2) (by decide) (by decide)) ?_
          refine gx (XS.goto X45.here hx rfl (pc0 := 49) (pc' := 11) rfl (hb hby d27_49) (by decide) (by decide)) ?_
          refine gx (XS.aload X45.here hx rfl (hb hby d27_11) rfl rfl) ?_
          obtain ⟨cq47, kq47, q47a, q47b, q47c⟩ := isOf hZ hp45_0 Qf29_0
          obtain ⟨_, _, ⟨T47, L47, k47, n47⟩, -, X47, ⟨Lc47, hQ47, l47, y47, z47⟩, st47⟩ := X45.interfaceBack hx (xi := own_n45) (y := own_n35) hown (mvT hZ (own_hw hw 225 rfl)) (mvT hZ (own_hw hw 226 rfl)) (mvT hZ (own_hw hw 227 rfl)) (mvT hZ (own_hw hw 228 rfl)) (mvT hZ (own_hw hw 229 rfl)) (mvT hZ (own_hw hw 230 rfl)) (mvT hZ (own_hw hw 231 rfl)) (mvT hZ (own_hw hw 232 rfl)) (by decide) (backOf (W := 0) (own_rm31 l Z a0 hw [] it_2 (2 : Int32) (2 : Int32) T29.heap n0 Zk29 Qf29_3 Qf29_2) hZ (own_hw hw 233 rfl) (own_hw hw 205 rfl) (by decide) (by decide)) q47a q47b q47c (g := (mkF m 13 #[.val (.ref x0), .val (.int x1), .val (.long x2), .second, .val (.long x3), .second, .val (.ref it_2), .val (.ref r2)] [(.ref it_2)])) rfl (by rw [hml]; rfl) (Steps.refl _) (argsL := []) (rest := []) (lenOf own_pd_pqZ rfl) rfl (own_W rfl rfl) (hb hby d27_13) (fun _ _ => ⟨rfl, hp45_0, (by decide : 1 + 0 ≤ _), (by decide : 4 + 0 ≤ _)⟩)
          dsimp only [Pt.U, Pt.locs, Pt.cells, Pt.slots] at X47 l47 y47 z47 st47 hQ47
          subst l47 y47 z47
          obtain ⟨hv47, Nq47, hp47_0⟩ := hQ47
          have N47 := Fr.app N45 Nq47
          rw [if_pos (by decide : (2 : Int32) = (2 : Int32))] at hv47
          subst hv47
          refine Goes.tr st47 ?_
          refine gx (XS.ifYes X47.here hx rfl (pc0 := 18) (pc' := 52) rfl (hb hby d27_18) rfl ((if0 _ _).trans (teq (by decide : (0 : Int32) = (0 : Int32))).1) (by decide) (by decide)) ?_
          refine gx (XS.iconst X47.here hx rfl (hb hby d27_52)) ?_
          show Goes p.tables e below (T47.setTop (mkF m 53 #[.val (.ref x0), .val (.int x1), .val (.long x2), .second, .val (.long x3), .second, .val (.ref it_2), .val (.ref r2)] [(.int (1 : Int32))])) _
          obtain ⟨fs, hr, hrun, hended, hW, hsame⟩ := X47.leave (v := some (.int (1 : Int32))) (fun h => by rw [Bd.returns] at h; cases h)
          exact ⟨_, _, retN X47 hx (t := .boolean) Bd.returns (by simp) (hb hby d27_53) hr, hrun, hended, _, _, rfl, ⟨(by show (some (.int (1 : Int32)) : Option Value) = _; simp [own_exp, ho1, ho2, hc27, hc46]), N47, (by show Keep h0 T47.heap []; rw [hp47_0]; exact Kc29)⟩, ⟨_, rfl⟩, hW, hsame.mono (by decide) (by decide)⟩

theorem own_ef_own_rmEX3 (m : MethodId) (x0 : Addr) (x1 : Int32) (x2 : Int64) (x3 : Int64) : entryFrame m #[(.ref x0), (.int x1), (.long x2), (.long x3)] 8 = mkF m 0 #[.val (.ref x0), .val (.int x1), .val (.long x2), .second, .val (.long x3), .second, .unset, .unset] [] := by first | (simp [entryFrame, mkF, argsToLocals, Value.category]; done) | rfl
def own_Q_own_rmEX3 (Z : State) (x0 : Addr) (x1 : Int32) (x2 : Int64) (x3 : Int64) (li : Addr) (r1 : Addr) (r2 : Addr) (r3 : Addr) (el : Addr) (kL : ClassId) (aI : Addr) (o1 : Option Int32) (o2 : Option Int32) (o3 : Option Int32) (h0 : Heap) (n0 : Nat) (v : Option Value) (h : Heap) (L : List Loc) : Prop := v = some (.int (own_exp [o1, o2, o3] x1)) ∧ Fr n0 L ∧ Keep h0 h []
abbrev own_r_own_rmEX3 : Room := ({ frames := 3, cells := 1, slots := 4, locals := 39 } : Room)
def own_P_own_rmEX3 (Z : State) (a0 : Array Value) (x0 : Addr) (x1 : Int32) (x2 : Int64) (x3 : Int64) (li : Addr) (r1 : Addr) (r2 : Addr) (r3 : Addr) (el : Addr) (kL : ClassId) (aI : Addr) (o1 : Option Int32) (o2 : Option Int32) (o3 : Option Int32) (h0 : Heap) (n0 : Nat) : Prop := (Exa Z h0 x0 "com/example/wee_table/weetable/model/GcRule$Intersection") ∧ (Fld Z h0 x0 "com/example/wee_table/weetable/model/GcRule$Intersection" "rules" "Ljava/util/List;" (.ref li)) ∧ (Exa Z h0 li "java/util/ImmutableCollections$ListN") ∧ (Fld Z h0 li "java/util/ImmutableCollections$ListN" "elements" "[Ljava/lang/Object;" (.ref el)) ∧ (Exa Z h0 el "[Ljava/lang/Object;") ∧ (Arv Z h0 el kL (.object "java/lang/Object") (3 : Int32) [(.ref r1), (.ref r2), (.ref r3)] .null) ∧ (Sta Z h0 "java/util/ImmutableCollections" "EMPTY" "Ljava/lang/Object;" (.ref aI)) ∧ (own_ru Z h0 r1 o1) ∧ (own_ru Z h0 r2 o2) ∧ (own_ru Z h0 r3 o3)
set_option maxRecDepth 65536 in
set_option maxHeartbeats 40000000 in
theorem own_pt_own_rmEX3_68 (l : Launch) (Z : State) (a0 : Array Value) (hw : ∀ d ∈ tables_1, d.before a0 Z = true) (ws : List Jvm.Cond) (x0 : Addr) (x1 : Int32) (x2 : Int64) (x3 : Int64) (li : Addr) (r1 : Addr) (r2 : Addr) (r3 : Addr) (el : Addr) (kL : ClassId) (aI : Addr) (o1 : Option Int32) (o2 : Option Int32) (o3 : Option Int32) (h0 : Heap) (n0 : Nat) (Z0 : n0 ≤ h0.size) (hPm : own_P_own_rmEX3 Z a0 x0 x1 x2 x3 li r1 r2 r3 el kL aI o1 o2 o3 h0 n0)
    {p : Program} {e : Env} {s : State} {m : MethodId} {below : List Frame} {meth : Method} {c : Code} {s₁ : State} (Bd : BodyLoose p l own_n48 (head1 (Jvm.Cond.code own_n48 prog_13_method_2_code 8 (some .boolean) :: ws) own_r_own_rmEX3) prog_13_method_2_code 8 (some .boolean) e s m #[(.ref x0), (.int x1), (.long x2), (.long x3)] below meth c s₁) (hml0 : c.maxLocals = 8) (hh : s.heap = h0) (hZ : Z.Warmed39 s.vm)
    (it_2 : Addr) (c1 : Int32) (c2 : Int32)
    (Tpt : State) (lpt : List Loc)  (hpt : Heap)
    (Xpt : Stand p l e own_r_own_rmEX3 s m #[(.ref x0), (.int x1), (.long x2), (.long x3)] below meth c Tpt lpt 1 4) (Ept : Tpt.heap = hpt) (Npt : Fr n0 lpt) (Zpt : n0 ≤ hpt.size) 
    (Pf68_15 : Exa Z hpt r3 "com/example/wee_table/weetable/model/GcRule$None")
    (ho1 : o1 = some c1)
    (Ph68_22 : ¬ (x1 < c1))
    (ho2 : o2 = some c2)
    (Ph68_24 : ¬ (x1 < c2))
    (ho3 : o3 = none)
    (Kpt68 : Keep h0 hpt [])
    : Goes p.tables e below (Tpt.setTop (mkF m 28 #[.val (.ref x0), .val (.int x1), .val (.long x2), .second, .val (.long x3), .second, .val (.ref it_2), .val (.ref r2)] [(.ref r3)])) (own_R below s (own_Q_own_rmEX3 Z x0 x1 x2 x3 li r1 r2 r3 el kL aI o1 o2 o3 h0 n0) own_r_own_rmEX3.cells own_r_own_rmEX3.slots) := by
  obtain ⟨Pi0, Pi1, Pi2, Pi3, Pi4, Pi5, Pi6, Hr1, Hr2, Hr3⟩ := id hPm
  have hx := Bd.exec
  have hby := Bd.bytes
  have hml : c.maxLocals = 8 := hml0
  have hnm := (name_of_methodNamed Bd.named Bd.method).1
  have hown : s.vm.findClass "com/example/wee_table/weetable/model/GcRule$Intersection" = some m.cls := findClass_of_methodNamed Bd.named
  obtain ⟨T69, X69, e69, st69⟩ := castY Xpt hx hZ hown (own_hw hw 250 rfl) Ept (Ins.of_exa Pf68_15 (own_hw hw 269 rfl)) (g := (mkF m 28 #[.val (.ref x0), .val (.int x1), .val (.long x2), .second, .val (.long x3), .second, .val (.ref it_2), .val (.ref r2)] [(.ref r3)])) rfl rfl (hb hby d27_28)
  refine Goes.to st69 ?_
  refine gx (XS.astore X69.here hx rfl (hb hby d27_31) rfl rfl (l' := #[.val (.ref x0), .val (.int x1), .val (.long x2), .second, .val (.long x3), .second, .val (.ref it_2), .val (.ref r3)]) rfl) ?_
  refine gx (XS.aload X69.here hx rfl (hb hby d27_33) rfl rfl) ?_
  refine gx (XS.iloadN X69.here hx rfl (hb hby d27_35) rfl) ?_
  refine gx (XS.lloadN X69.here hx rfl (hb hby d27_36) rfl) ?_
  show Goes p.tables e below (T69.setTop (mkF m 37 #[.val (.ref x0), .val (.int x1), .val (.long x2), .second, .val (.long x3), .second, .val (.ref it_2), .val (.ref r3)] [(.long x2), (.int x1), (.ref r3)])) _
  refine gx (XS.lload X69.here hx rfl (hb hby d27_37) rfl) ?_
  obtain ⟨cq70, kq70, q70a, q70b, q70c⟩ := isOf hZ e69 Pf68_15
  obtain ⟨_, _, ⟨T70, L70, k70, n70⟩, -, X70, ⟨Lc70, hQ70, l70, y70, z70⟩, st70⟩ := X69.interfaceBack hx (xi := own_n47) (y := own_n17) hown (mvT hZ (own_hw hw 252 rfl)) (mvT hZ (own_hw hw 253 rfl)) (mvT hZ (own_hw hw 254 rfl)) (mvT hZ (own_hw hw 270 rfl)) (mvT hZ (own_hw hw 271 rfl)) (mvT hZ (own_hw hw 272 rfl)) (mvT hZ (own_hw hw 273 rfl)) (mvT hZ (own_hw hw 269 rfl)) (by decide) (backOf (W := 0) (own_rm37 l Z a0 hw [] r3 x1 x2 x3 hpt n0 Zpt ) hZ (own_hw hw 275 rfl) (own_hw hw 274 rfl) (by decide) (by decide)) q70a q70b q70c (g := (mkF m 39 #[.val (.ref x0), .val (.int x1), .val (.long x2), .second, .val (.long x3), .second, .val (.ref it_2), .val (.ref r3)] [(.long x3), (.long x2), (.int x1), (.ref r3)])) rfl (by rw [hml]; rfl) (Steps.refl _) (argsL := [(.int x1), (.long x2), (.long x3)]) (rest := []) (lenOf own_pd_pIJJqZ rfl) rfl (own_W rfl rfl) (hb hby d27_39) (fun _ _ => ⟨rfl, e69, (by decide : 1 + 0 ≤ _), (by decide : 4 + 0 ≤ _)⟩)
  dsimp only [Pt.U, Pt.locs, Pt.cells, Pt.slots] at X70 l70 y70 z70 st70 hQ70
  subst l70 y70 z70
  obtain ⟨hv70, Nq70, hp70_0⟩ := hQ70
  have N70 := Fr.app Npt Nq70
  subst hv70
  refine Goes.tr st70 ?_
  refine gx (XS.ifNo X70.here hx rfl (hb hby d27_44) rfl ((if0 _ _).trans (teq (by decide : (0 : Int32) = (0 : Int32))).2)) ?_
  refine gx (XS.iconst X70.here hx rfl (hb hby d27_47)) ?_
  show Goes p.tables e below (T70.setTop (mkF m 48 #[.val (.ref x0), .val (.int x1), .val (.long x2), .second, .val (.long x3), .second, .val (.ref it_2), .val (.ref r3)] [(.int (0 : Int32))])) _
  obtain ⟨fs, hr, hrun, hended, hW, hsame⟩ := X70.leave (v := some (.int (0 : Int32))) (fun h => by rw [Bd.returns] at h; cases h)
  exact ⟨_, _, retN X70 hx (t := .boolean) Bd.returns (by simp) (hb hby d27_48) hr, hrun, hended, _, _, rfl, ⟨(by show (some (.int (0 : Int32)) : Option Value) = _; simp [own_exp, ho1, ho2, ho3, Ph68_22, Ph68_24]), N70, (by show Keep h0 T70.heap []; rw [hp70_0]; exact Kpt68)⟩, ⟨_, rfl⟩, hW, hsame.mono (by decide) (by decide)⟩
set_option maxRecDepth 65536 in
set_option maxHeartbeats 40000000 in
theorem own_pt_own_rmEX3_71 (l : Launch) (Z : State) (a0 : Array Value) (hw : ∀ d ∈ tables_1, d.before a0 Z = true) (ws : List Jvm.Cond) (x0 : Addr) (x1 : Int32) (x2 : Int64) (x3 : Int64) (li : Addr) (r1 : Addr) (r2 : Addr) (r3 : Addr) (el : Addr) (kL : ClassId) (aI : Addr) (o1 : Option Int32) (o2 : Option Int32) (o3 : Option Int32) (h0 : Heap) (n0 : Nat) (Z0 : n0 ≤ h0.size) (hPm : own_P_own_rmEX3 Z a0 x0 x1 x2 x3 li r1 r2 r3 el kL aI o1 o2 o3 h0 n0)
    {p : Program} {e : Env} {s : State} {m : MethodId} {below : List Frame} {meth : Method} {c : Code} {s₁ : State} (Bd : BodyLoose p l own_n48 (head1 (Jvm.Cond.code own_n48 prog_13_method_2_code 8 (some .boolean) :: ws) own_r_own_rmEX3) prog_13_method_2_code 8 (some .boolean) e s m #[(.ref x0), (.int x1), (.long x2), (.long x3)] below meth c s₁) (hml0 : c.maxLocals = 8) (hh : s.heap = h0) (hZ : Z.Warmed39 s.vm)
    (it_2 : Addr) (c1 : Int32) (c2 : Int32) (c3 : Int32)
    (Tpt : State) (lpt : List Loc)  (hpt : Heap)
    (Xpt : Stand p l e own_r_own_rmEX3 s m #[(.ref x0), (.int x1), (.long x2), (.long x3)] below meth c Tpt lpt 1 4) (Ept : Tpt.heap = hpt) (Npt : Fr n0 lpt) (Zpt : n0 ≤ hpt.size) 
    (Pf71_7 : Exa Z hpt it_2 "java/util/ImmutableCollections$ListItr")
    (Pf71_13 : Fld Z hpt it_2 "java/util/ImmutableCollections$ListItr" "size" "I" (.int (3 : Int32)))
    (Pf71_14 : Fld Z hpt it_2 "java/util/ImmutableCollections$ListItr" "cursor" "I" (.int (3 : Int32)))
    (Pf71_15 : Exa Z hpt r3 "com/example/wee_table/weetable/model/GcRule$MaxVersions")
    (Pf71_16 : Fld Z hpt r3 "com/example/wee_table/weetable/model/GcRule$MaxVersions" "count" "I" (.int c3))
    (ho1 : o1 = some c1)
    (Ph71_23 : ¬ (x1 < c1))
    (ho2 : o2 = some c2)
    (Ph71_25 : ¬ (x1 < c2))
    (ho3 : o3 = some c3)
    (Kpt71 : Keep h0 hpt [])
    : Goes p.tables e below (Tpt.setTop (mkF m 28 #[.val (.ref x0), .val (.int x1), .val (.long x2), .second, .val (.long x3), .second, .val (.ref it_2), .val (.ref r2)] [(.ref r3)])) (own_R below s (own_Q_own_rmEX3 Z x0 x1 x2 x3 li r1 r2 r3 el kL aI o1 o2 o3 h0 n0) own_r_own_rmEX3.cells own_r_own_rmEX3.slots) := by
  obtain ⟨Pi0, Pi1, Pi2, Pi3, Pi4, Pi5, Pi6, Hr1, Hr2, Hr3⟩ := id hPm
  have hx := Bd.exec
  have hby := Bd.bytes
  have hml : c.maxLocals = 8 := hml0
  have hnm := (name_of_methodNamed Bd.named Bd.method).1
  have hown : s.vm.findClass "com/example/wee_table/weetable/model/GcRule$Intersection" = some m.cls := findClass_of_methodNamed Bd.named
  obtain ⟨T72, X72, e72, st72⟩ := castY Xpt hx hZ hown (own_hw hw 250 rfl) Ept (Ins.of_exa Pf71_15 (own_hw hw 251 rfl)) (g := (mkF m 28 #[.val (.ref x0), .val (.int x1), .val (.long x2), .second, .val (.long x3), .second, .val (.ref it_2), .val (.ref r2)] [(.ref r3)])) rfl rfl (hb hby d27_28)
  refine Goes.to st72 ?_
  refine gx (XS.astore X72.here hx rfl (hb hby d27_31) rfl rfl (l' := #[.val (.ref x0), .val (.int x1), .val (.long x2), .second, .val (.long x3), .second, .val (.ref it_2), .val (.ref r3)]) rfl) ?_
  refine gx (XS.aload X72.here hx rfl (hb hby d27_33) rfl rfl) ?_
  refine gx (XS.iloadN X72.here hx rfl (hb hby d27_35) rfl) ?_
  refine gx (XS.lloadN X72.here hx rfl (hb hby d27_36) rfl) ?_
  show Goes p.tables e below (T72.setTop (mkF m 37 #[.val (.ref x0), .val (.int x1), .val (.long x2), .second, .val (.long x3), .second, .val (.ref it_2), .val (.ref r3)] [(.long x2), (.int x1), (.ref r3)])) _
  refine gx (XS.lload X72.here hx rfl (hb hby d27_37) rfl) ?_
  obtain ⟨cq73, kq73, q73a, q73b, q73c⟩ := isOf hZ e72 Pf71_15
  obtain ⟨_, _, ⟨T73, L73, k73, n73⟩, -, X73, ⟨Lc73, hQ73, l73, y73, z73⟩, st73⟩ := X72.interfaceBack hx (xi := own_n47) (y := own_n16) hown (mvT hZ (own_hw hw 252 rfl)) (mvT hZ (own_hw hw 253 rfl)) (mvT hZ (own_hw hw 254 rfl)) (mvT hZ (own_hw hw 255 rfl)) (mvT hZ (own_hw hw 256 rfl)) (mvT hZ (own_hw hw 257 rfl)) (mvT hZ (own_hw hw 258 rfl)) (mvT hZ (own_hw hw 251 rfl)) (by decide) (backOf (W := 0) (own_rm34 l Z a0 hw [] r3 x1 x2 x3 c3 hpt n0 Zpt Pf71_16) hZ (own_hw hw 259 rfl) (own_hw hw 37 rfl) (by decide) (by decide)) q73a q73b q73c (g := (mkF m 39 #[.val (.ref x0), .val (.int x1), .val (.long x2), .second, .val (.long x3), .second, .val (.ref it_2), .val (.ref r3)] [(.long x3), (.long x2), (.int x1), (.ref r3)])) rfl (by rw [hml]; rfl) (Steps.refl _) (argsL := [(.int x1), (.long x2), (.long x3)]) (rest := []) (lenOf own_pd_pIJJqZ rfl) rfl (own_W rfl rfl) (hb hby d27_39) (fun _ _ => ⟨rfl, e72, (by decide : 1 + 0 ≤ _), (by decide : 4 + 0 ≤ _)⟩)
  dsimp only [Pt.U, Pt.locs, Pt.cells, Pt.slots] at X73 l73 y73 z73 st73 hQ73
  subst l73 y73 z73
  obtain ⟨hv73, Nq73, hp73_0⟩ := hQ73
  have N73 := Fr.app Npt Nq73
  by_cases hc74 : x1 < c3
  · rw [if_pos hc74] at hv73
    subst hv73
    refine Goes.tr st73 ?_
    refine gx (XS.ifNo X73.here hx rfl (hb hby d27_44) rfl ((if0 _ _).trans (teq (by decide : (0 : Int32) = (0 : Int32))).2)) ?_
    refine gx (XS.iconst X73.here hx rfl (hb hby d27_47)) ?_
    show Goes p.tables e below (T73.setTop (mkF m 48 #[.val (.ref x0), .val (.int x1), .val (.long x2), .second, .val (.long x3), .second, .val (.ref it_2), .val (.ref r3)] [(.int (0 : Int32))])) _
    obtain ⟨fs, hr, hrun, hended, hW, hsame⟩ := X73.leave (v := some (.int (0 : Int32))) (fun h => by rw [Bd.returns] at h; cases h)
    exact ⟨_, _, retN X73 hx (t := .boolean) Bd.returns (by simp) (hb hby d27_48) hr, hrun, hended, _, _, rfl, ⟨(by show (some (.int (0 : Int32)) : Option Value) = _; simp [own_exp, ho1, ho2, ho3, Ph71_23, Ph71_25, hc74]), N73, (by show Keep h0 T73.heap []; rw [hp73_0]; exact Kpt71)⟩, ⟨_, rfl⟩, hW, hsame.mono (by decide) (by decide)⟩
  · rw [if_neg hc74] at hv73
    subst hv73
    refine Goes.tr st73 ?_
    refine gx (XS.ifYes X73.here hx rfl (pc0 := 44) (pc' := 49) rfl (hb hby d27_44) rfl ((if0 _ _).trans (feq (by decide : ¬ ((1 : Int32) = (0 : Int32)))).2) (by decide) (by decide)) ?_
    refine gx (XS.goto X73.here hx rfl (pc0 := 49) (pc' := 11) rfl (hb hby d27_49) (by decide) (by decide)) ?_
    refine gx (XS.aload X73.here hx rfl (hb hby d27_11) rfl rfl) ?_
    obtain ⟨cq75, kq75, q75a, q75b, q75c⟩ := isOf hZ hp73_0 Pf71_7
    obtain ⟨_, _, ⟨T75, L75, k75, n75⟩, -, X75, ⟨Lc75, hQ75, l75, y75, z75⟩, st75⟩ := X73.interfaceBack hx (xi := own_n45) (y := own_n35) hown (mvT hZ (own_hw hw 225 rfl)) (mvT hZ (own_hw hw 226 rfl)) (mvT hZ (own_hw hw 227 rfl)) (mvT hZ (own_hw hw 228 rfl)) (mvT hZ (own_hw hw 229 rfl)) (mvT hZ (own_hw hw 230 rfl)) (mvT hZ (own_hw hw 231 rfl)) (mvT hZ (own_hw hw 232 rfl)) (by decide) (backOf (W := 0) (own_rm31 l Z a0 hw [] it_2 (3 : Int32) (3 : Int32) hpt n0 Zpt Pf71_14 Pf71_13) hZ (own_hw hw 233 rfl) (own_hw hw 205 rfl) (by decide) (by decide)) q75a q75b q75c (g := (mkF m 13 #[.val (.ref x0), .val (.int x1), .val (.long x2), .second, .val (.long x3), .second, .val (.ref it_2), .val (.ref r3)] [(.ref it_2)])) rfl (by rw [hml]; rfl) (Steps.refl _) (argsL := []) (rest := []) (lenOf own_pd_pqZ rfl) rfl (own_W rfl rfl) (hb hby d27_13) (fun _ _ => ⟨rfl, hp73_0, (by decide : 1 + 0 ≤ _), (by decide : 4 + 0 ≤ _)⟩)
    dsimp only [Pt.U, Pt.locs, Pt.cells, Pt.slots] at X75 l75 y75 z75 st75 hQ75
    subst l75 y75 z75
    obtain ⟨hv75, Nq75, hp75_0⟩ := hQ75
    have N75 := Fr.app N73 Nq75
    rw [if_pos (by decide : (3 : Int32) = (3 : Int32))] at hv75
    subst hv75
    refine Goes.tr st75 ?_
    refine gx (XS.ifYes X75.here hx rfl (pc0 := 18) (pc' := 52) rfl (hb hby d27_18) rfl ((if0 _ _).trans (teq (by decide : (0 : Int32) = (0 : Int32))).1) (by decide) (by decide)) ?_
    refine gx (XS.iconst X75.here hx rfl (hb hby d27_52)) ?_
    show Goes p.tables e below (T75.setTop (mkF m 53 #[.val (.ref x0), .val (.int x1), .val (.long x2), .second, .val (.long x3), .second, .val (.ref it_2), .val (.ref r3)] [(.int (1 : Int32))])) _
    obtain ⟨fs, hr, hrun, hended, hW, hsame⟩ := X75.leave (v := some (.int (1 : Int32))) (fun h => by rw [Bd.returns] at h; cases h)
    exact ⟨_, _, retN X75 hx (t := .boolean) Bd.returns (by simp) (hb hby d27_53) hr, hrun, hended, _, _, rfl, ⟨(by show (some (.int (1 : Int32)) : Option Value) = _; simp [own_exp, ho1, ho2, ho3, Ph71_23, Ph71_25, hc74]), N75, (by show Keep h0 T75.heap []; rw [hp75_0]; exact Kpt71)⟩, ⟨_, rfl⟩, hW, hsame.mono (by decide) (by decide)⟩
set_option maxRecDepth 65536 in
set_option maxHeartbeats 40000000 in
theorem own_rmEX3 (l : Launch) (Z : State) (a0 : Array Value) (hw : ∀ d ∈ tables_1, d.before a0 Z = true) (ws : List Jvm.Cond) (x0 : Addr) (x1 : Int32) (x2 : Int64) (x3 : Int64) (li : Addr) (r1 : Addr) (r2 : Addr) (r3 : Addr) (el : Addr) (kL : ClassId) (aI : Addr) (o1 : Option Int32) (o2 : Option Int32) (o3 : Option Int32) (h0 : Heap) (n0 : Nat) (Z0 : n0 ≤ h0.size) (Pi0 : Exa Z h0 x0 "com/example/wee_table/weetable/model/GcRule$Intersection") (Pi1 : Fld Z h0 x0 "com/example/wee_table/weetable/model/GcRule$Intersection" "rules" "Ljava/util/List;" (.ref li)) (Pi2 : Exa Z h0 li "java/util/ImmutableCollections$ListN") (Pi3 : Fld Z h0 li "java/util/ImmutableCollections$ListN" "elements" "[Ljava/lang/Object;" (.ref el)) (Pi4 : Exa Z h0 el "[Ljava/lang/Object;") (Pi5 : Arv Z h0 el kL (.object "java/lang/Object") (3 : Int32) [(.ref r1), (.ref r2), (.ref r3)] .null) (Pi6 : Sta Z h0 "java/util/ImmutableCollections" "EMPTY" "Ljava/lang/Object;" (.ref aI)) (Hr1 : own_ru Z h0 r1 o1) (Hr2 : own_ru Z h0 r2 o2) (Hr3 : own_ru Z h0 r3 o3) :
    MetFree l own_n48 (head1 (Jvm.Cond.code own_n48 prog_13_method_2_code 8 (some .boolean) :: ws) own_r_own_rmEX3) (fun a U => a = #[(.ref x0), (.int x1), (.long x2), (.long x3)] ∧ Z.Warmed39 U.vm ∧ U.heap = h0) (fun _ _ _ _ _ => True) (fun _ U o U' => ∃ v L, o = .returned v ∧ own_Q_own_rmEX3 Z x0 x1 x2 x3 li r1 r2 r3 el kL aI o1 o2 o3 h0 n0 v U'.heap L ∧ FrameEnd U o U' L own_r_own_rmEX3.cells own_r_own_rmEX3.slots) := by
  refine MetFree.of_bodySF (plainFor_of_name own_pn_27) hisR ?_
  intro p e s m args below meth c s₁ Bd hml0 hP hK
  obtain ⟨rfl, hZ, hh⟩ := hP
  have hx := Bd.exec
  have hby := Bd.bytes
  have hml : c.maxLocals = 8 := hml0
  have hown : s.vm.findClass "com/example/wee_table/weetable/model/GcRule$Intersection" = some m.cls := findClass_of_methodNamed Bd.named
  have hnm := (name_of_methodNamed Bd.named Bd.method).1
  have X0 : Stand p l e own_r_own_rmEX3 s m #[(.ref x0), (.int x1), (.long x2), (.long x3)] below meth c s₁ [] 0 0 := Stand.of_body Bd
  have e0 : s₁.heap = h0 := by rw [← hh, Bd.state]; rfl
  have N0 := Fr.nil n0
  have hPm : own_P_own_rmEX3 Z a0 x0 x1 x2 x3 li r1 r2 r3 el kL aI o1 o2 o3 h0 n0 := ⟨Pi0, Pi1, Pi2, Pi3, Pi4, Pi5, Pi6, Hr1, Hr2, Hr3⟩
  show Goes p.tables e below _ (own_R below s (own_Q_own_rmEX3 Z x0 x1 x2 x3 li r1 r2 r3 el kL aI o1 o2 o3 h0 n0) own_r_own_rmEX3.cells own_r_own_rmEX3.slots)
  refine Goes.to (fun t k => castTop (own_ef_own_rmEX3 m x0 x1 x2 x3) k) ?_
  refine gx (XS.aloadN X0.here hx rfl (hb hby d27_0) rfl rfl) ?_
  obtain ⟨T1, X1, e1, st1⟩ := getF X0 hx hZ hown (host := "") (Or.inl (own_hw hw 187 rfl)) Via.refl e0 Pi1 (g := (mkF m 1 #[.val (.ref x0), .val (.int x1), .val (.long x2), .second, .val (.long x3), .second, .unset, .unset] [(.ref x0)])) rfl rfl (hb hby d27_1)
  refine Goes.to st1 ?_
  obtain ⟨cq2, kq2, q2a, q2b, q2c⟩ := isOf hZ e1 Pi2
  obtain ⟨_, _, ⟨T2, L2, k2, n2⟩, -, X2, ⟨Lc2, hQ2, l2, y2, z2⟩, st2⟩ := X1.interfaceBack hx (xi := own_n44) (y := own_n41) hown (mvT hZ (own_hw hw 194 rfl)) (mvT hZ (own_hw hw 195 rfl)) (mvT hZ (own_hw hw 196 rfl)) (mvT hZ (own_hw hw 295 rfl)) (mvT hZ (own_hw hw 198 rfl)) (mvT hZ (own_hw hw 199 rfl)) (mvT hZ (own_hw hw 296 rfl)) (mvT hZ (own_hw hw 297 rfl)) (by decide) (backOf (W := 0) (own_rmIT3 l Z a0 hw [] li r1 r2 r3 el kL aI h0 n0 Z0 Pi2 Pi3 Pi4 Pi5 Pi6) hZ (own_hw hw 202 rfl) (own_hw hw 168 rfl) (by decide) (by decide)) q2a q2b q2c (g := (mkF m 4 #[.val (.ref x0), .val (.int x1), .val (.long x2), .second, .val (.long x3), .second, .unset, .unset] [(.ref li)])) rfl (by rw [hml]; rfl) (Steps.refl _) (argsL := []) (rest := []) (lenOf own_pd_pqLjavalutillIterators rfl) rfl (own_W rfl rfl) (hb hby d27_4) (fun _ _ => ⟨rfl, e1, (by decide : 0 + 1 ≤ _), (by decide : 0 + 4 ≤ _)⟩)
  dsimp only [Pt.U, Pt.locs, Pt.cells, Pt.slots] at X2 l2 y2 z2 st2 hQ2
  subst l2 y2 z2
  obtain ⟨it_2, hv2, Nq2, sq2_0, Kq2, Qf2_0, Qf2_1, Qf2_2, Qf2_3⟩ := hQ2
  have N2 := Fr.app N0 Nq2
  have g_it_2 : n0 ≤ it_2 := Nat.le_trans Z0 sq2_0
  have sz_it_2 : h0.size ≤ it_2 := Nat.le_trans (Keep.refl h0 []).1 sq2_0
  have ne4 : li ≠ it_2 := Nat.ne_of_lt (Nat.lt_of_lt_of_le Pi2.lt sq2_0)
  have ne5 : el ≠ it_2 := Nat.ne_of_lt (Nat.lt_of_lt_of_le Pi4.lt sq2_0)
  have F8 := Pi2.keep Kq2
  have F9 := Pi3.keep Kq2 nin0
  have F10 := Pi4.keep Kq2
  have F11 := Pi5.keep Kq2 nin0
  have F12 := own_sta0 Kq2 Pi6
  have Zk2 : n0 ≤ T2.heap.size := Nat.le_trans Z0 Kq2.1
  have Kc2 : Keep h0 T2.heap [] := (Keep.refl h0 []).trans Kq2 all0
  subst hv2
  refine Goes.tr st2 ?_
  refine gx (XS.astore X2.here hx rfl (hb hby d27_9) rfl rfl (l' := #[.val (.ref x0), .val (.int x1), .val (.long x2), .second, .val (.long x3), .second, .val (.ref it_2), .unset]) rfl) ?_
  refine gx (XS.aload X2.here hx rfl (hb hby d27_11) rfl rfl) ?_
  obtain ⟨cq13, kq13, q13a, q13b, q13c⟩ := isOf hZ rfl Qf2_0
  obtain ⟨_, _, ⟨T13, L13, k13, n13⟩, -, X13, ⟨Lc13, hQ13, l13, y13, z13⟩, st13⟩ := X2.interfaceBack hx (xi := own_n45) (y := own_n35) hown (mvT hZ (own_hw hw 225 rfl)) (mvT hZ (own_hw hw 226 rfl)) (mvT hZ (own_hw hw 227 rfl)) (mvT hZ (own_hw hw 228 rfl)) (mvT hZ (own_hw hw 229 rfl)) (mvT hZ (own_hw hw 230 rfl)) (mvT hZ (own_hw hw 231 rfl)) (mvT hZ (own_hw hw 232 rfl)) (by decide) (backOf (W := 0) (own_rm31 l Z a0 hw [] it_2 (0 : Int32) (3 : Int32) T2.heap n0 Zk2 Qf2_3 Qf2_2) hZ (own_hw hw 233 rfl) (own_hw hw 205 rfl) (by decide) (by decide)) q13a q13b q13c (g := (mkF m 13 #[.val (.ref x0), .val (.int x1), .val (.long x2), .second, .val (.long x3), .second, .val (.ref it_2), .unset] [(.ref it_2)])) rfl (by rw [hml]; rfl) (Steps.refl _) (argsL := []) (rest := []) (lenOf own_pd_pqZ rfl) rfl (own_W rfl rfl) (hb hby d27_13) (fun _ _ => ⟨rfl, rfl, (by decide : 1 + 0 ≤ _), (by decide : 4 + 0 ≤ _)⟩)
  dsimp only [Pt.U, Pt.locs, Pt.cells, Pt.slots] at X13 l13 y13 z13 st13 hQ13
  subst l13 y13 z13
  obtain ⟨hv13, Nq13, hp13_0⟩ := hQ13
  have N13 := Fr.app N2 Nq13
  rw [if_neg (by decide : ¬ ((0 : Int32) = (3 : Int32)))] at hv13
  subst hv13
  refine Goes.tr st13 ?_
  refine gx (XS.ifNo X13.here hx rfl (hb hby d27_18) rfl ((if0 _ _).trans (feq (by decide : ¬ ((1 : Int32) = (0 : Int32)))).1)) ?_
  refine gx (XS.aload X13.here hx rfl (hb hby d27_21) rfl rfl) ?_
  obtain ⟨cq14, kq14, q14a, q14b, q14c⟩ := isOf hZ hp13_0 Qf2_0
  obtain ⟨_, _, ⟨T14, L14, k14, n14⟩, -, X14, ⟨Lc14, hQ14, l14, y14, z14⟩, st14⟩ := X13.interfaceBack hx (xi := own_n46) (y := own_n43) hown (mvT hZ (own_hw hw 234 rfl)) (mvT hZ (own_hw hw 235 rfl)) (mvT hZ (own_hw hw 236 rfl)) (mvT hZ (own_hw hw 237 rfl)) (mvT hZ (own_hw hw 238 rfl)) (mvT hZ (own_hw hw 239 rfl)) (mvT hZ (own_hw hw 240 rfl)) (mvT hZ (own_hw hw 232 rfl)) (by decide) (backOfWith (W := 0) (own_rmNX30 l Z a0 hw [] it_2 li r1 r2 r3 el kL aI T2.heap n0 Zk2 g_it_2 Qf2_0 Qf2_1 Qf2_2 Qf2_3 F8 F9 F10 F11 F12) hZ (own_hw hw 241 rfl) (own_hw hw 205 rfl) (by decide) (by decide)) q14a q14b q14c (g := (mkF m 23 #[.val (.ref x0), .val (.int x1), .val (.long x2), .second, .val (.long x3), .second, .val (.ref it_2), .unset] [(.ref it_2)])) rfl (by rw [hml]; rfl) (Steps.refl _) (argsL := []) (rest := []) (lenOf own_pd_pqLjavallanglObjects rfl) rfl (own_W rfl rfl) (hb hby d27_23) (fun _ _ => ⟨rfl, hp13_0, (by decide : 1 + 0 ≤ _), (by decide : 4 + 0 ≤ _)⟩)
  dsimp only [Pt.U, Pt.locs, Pt.cells, Pt.slots] at X14 l14 y14 z14 st14 hQ14
  subst l14 y14 z14
  obtain ⟨hv14, Nq14, Kq14, Qf14_0, Qf14_1, Qf14_2, Qf14_3⟩ := hQ14
  have N14 := Fr.app N13 Nq14
  have F17 := F8.keep Kq14
  have F18 := F9.keep Kq14 (ninS ne4 nin0)
  have F19 := F10.keep Kq14
  have F20 := F11.keep Kq14 (ninS ne5 nin0)
  have F21 := own_staK Kq14 Qf2_0 F12
  have Zk14 : n0 ≤ T14.heap.size := Nat.le_trans Zk2 Kq14.1
  have Kc14 : Keep h0 T14.heap [] := Kc2.trans Kq14 (allS (Or.inr sz_it_2) all0)
  subst hv14
  refine Goes.tr st14 ?_
  obtain ⟨ho1, Er1⟩ | ⟨c1, ho1, Er1, Fr1⟩ := Hr1
  · have E1r := Er1.keep Kc14
    obtain ⟨T26, X26, e26, st26⟩ := castY X14 hx hZ hown (own_hw hw 250 rfl) rfl (Ins.of_exa E1r (own_hw hw 269 rfl)) (g := (mkF m 28 #[.val (.ref x0), .val (.int x1), .val (.long x2), .second, .val (.long x3), .second, .val (.ref it_2), .unset] [(.ref r1)])) rfl rfl (hb hby d27_28)
    refine Goes.to st26 ?_
    refine gx (XS.astore X26.here hx rfl (hb hby d27_31) rfl rfl (l' := #[.val (.ref x0), .val (.int x1), .val (.long x2), .second, .val (.long x3), .second, .val (.ref it_2), .val (.ref r1)]) rfl) ?_
    refine gx (XS.aload X26.here hx rfl (hb hby d27_33) rfl rfl) ?_
    refine gx (XS.iloadN X26.here hx rfl (hb hby d27_35) rfl) ?_
    refine gx (XS.lloadN X26.here hx rfl (hb hby d27_36) rfl) ?_
    show Goes p.tables e below (T26.setTop (mkF m 37 #[.val (.ref x0), .val (.int x1), .val (.long x2), .second, .val (.long x3), .second, .val (.ref it_2), .val (.ref r1)] [(.long x2), (.int x1), (.ref r1)])) _
    refine gx (XS.lload X26.here hx rfl (hb hby d27_37) rfl) ?_
    obtain ⟨cq27, kq27, q27a, q27b, q27c⟩ := isOf hZ e26 E1r
    obtain ⟨_, _, ⟨T27, L27, k27, n27⟩, -, X27, ⟨Lc27, hQ27, l27, y27, z27⟩, st27⟩ := X26.interfaceBack hx (xi := own_n47) (y := own_n17) hown (mvT hZ (own_hw hw 252 rfl)) (mvT hZ (own_hw hw 253 rfl)) (mvT hZ (own_hw hw 254 rfl)) (mvT hZ (own_hw hw 270 rfl)) (mvT hZ (own_hw hw 271 rfl)) (mvT hZ (own_hw hw 272 rfl)) (mvT hZ (own_hw hw 273 rfl)) (mvT hZ (own_hw hw 269 rfl)) (by decide) (backOf (W := 0) (own_rm37 l Z a0 hw [] r1 x1 x2 x3 T14.heap n0 Zk14 ) hZ (own_hw hw 275 rfl) (own_hw hw 274 rfl) (by decide) (by decide)) q27a q27b q27c (g := (mkF m 39 #[.val (.ref x0), .val (.int x1), .val (.long x2), .second, .val (.long x3), .second, .val (.ref it_2), .val (.ref r1)] [(.long x3), (.long x2), (.int x1), (.ref r1)])) rfl (by rw [hml]; rfl) (Steps.refl _) (argsL := [(.int x1), (.long x2), (.long x3)]) (rest := []) (lenOf own_pd_pIJJqZ rfl) rfl (own_W rfl rfl) (hb hby d27_39) (fun _ _ => ⟨rfl, e26, (by decide : 1 + 0 ≤ _), (by decide : 4 + 0 ≤ _)⟩)
    dsimp only [Pt.U, Pt.locs, Pt.cells, Pt.slots] at X27 l27 y27 z27 st27 hQ27
    subst l27 y27 z27
    obtain ⟨hv27, Nq27, hp27_0⟩ := hQ27
    have N27 := Fr.app N14 Nq27
    subst hv27
    refine Goes.tr st27 ?_
    refine gx (XS.ifNo X27.here hx rfl (hb hby d27_44) rfl ((if0 _ _).trans (teq (by decide : (0 : Int32) = (0 : Int32))).2)) ?_
    refine gx (XS.iconst X27.here hx rfl (hb hby d27_47)) ?_
    show Goes p.tables e below (T27.setTop (mkF m 48 #[.val (.ref x0), .val (.int x1), .val (.long x2), .second, .val (.long x3), .second, .val (.ref it_2), .val (.ref r1)] [(.int (0 : Int32))])) _
    obtain ⟨fs, hr, hrun, hended, hW, hsame⟩ := X27.leave (v := some (.int (0 : Int32))) (fun h => by rw [Bd.returns] at h; cases h)
    exact ⟨_, _, retN X27 hx (t := .boolean) Bd.returns (by simp) (hb hby d27_48) hr, hrun, hended, _, _, rfl, ⟨(by show (some (.int (0 : Int32)) : Option Value) = _; simp [own_exp, ho1]), N27, (by show Keep h0 T27.heap []; rw [hp27_0]; exact Kc14)⟩, ⟨_, rfl⟩, hW, hsame.mono (by decide) (by decide)⟩
  · have E1r := Er1.keep Kc14
    have F1r := Fr1.keep Kc14 nin0
    obtain ⟨T28, X28, e28, st28⟩ := castY X14 hx hZ hown (own_hw hw 250 rfl) rfl (Ins.of_exa E1r (own_hw hw 251 rfl)) (g := (mkF m 28 #[.val (.ref x0), .val (.int x1), .val (.long x2), .second, .val (.long x3), .second, .val (.ref it_2), .unset] [(.ref r1)])) rfl rfl (hb hby d27_28)
    refine Goes.to st28 ?_
    refine gx (XS.astore X28.here hx rfl (hb hby d27_31) rfl rfl (l' := #[.val (.ref x0), .val (.int x1), .val (.long x2), .second, .val (.long x3), .second, .val (.ref it_2), .val (.ref r1)]) rfl) ?_
    refine gx (XS.aload X28.here hx rfl (hb hby d27_33) rfl rfl) ?_
    refine gx (XS.iloadN X28.here hx rfl (hb hby d27_35) rfl) ?_
    refine gx (XS.lloadN X28.here hx rfl (hb hby d27_36) rfl) ?_
    show Goes p.tables e below (T28.setTop (mkF m 37 #[.val (.ref x0), .val (.int x1), .val (.long x2), .second, .val (.long x3), .second, .val (.ref it_2), .val (.ref r1)] [(.long x2), (.int x1), (.ref r1)])) _
    refine gx (XS.lload X28.here hx rfl (hb hby d27_37) rfl) ?_
    obtain ⟨cq29, kq29, q29a, q29b, q29c⟩ := isOf hZ e28 E1r
    obtain ⟨_, _, ⟨T29, L29, k29, n29⟩, -, X29, ⟨Lc29, hQ29, l29, y29, z29⟩, st29⟩ := X28.interfaceBack hx (xi := own_n47) (y := own_n16) hown (mvT hZ (own_hw hw 252 rfl)) (mvT hZ (own_hw hw 253 rfl)) (mvT hZ (own_hw hw 254 rfl)) (mvT hZ (own_hw hw 255 rfl)) (mvT hZ (own_hw hw 256 rfl)) (mvT hZ (own_hw hw 257 rfl)) (mvT hZ (own_hw hw 258 rfl)) (mvT hZ (own_hw hw 251 rfl)) (by decide) (backOf (W := 0) (own_rm34 l Z a0 hw [] r1 x1 x2 x3 c1 T14.heap n0 Zk14 F1r) hZ (own_hw hw 259 rfl) (own_hw hw 37 rfl) (by decide) (by decide)) q29a q29b q29c (g := (mkF m 39 #[.val (.ref x0), .val (.int x1), .val (.long x2), .second, .val (.long x3), .second, .val (.ref it_2), .val (.ref r1)] [(.long x3), (.long x2), (.int x1), (.ref r1)])) rfl (by rw [hml]; rfl) (Steps.refl _) (argsL := [(.int x1), (.long x2), (.long x3)]) (rest := []) (lenOf own_pd_pIJJqZ rfl) rfl (own_W rfl rfl) (hb hby d27_39) (fun _ _ => ⟨rfl, e28, (by decide : 1 + 0 ≤ _), (by decide : 4 + 0 ≤ _)⟩)
    dsimp only [Pt.U, Pt.locs, Pt.cells, Pt.slots] at X29 l29 y29 z29 st29 hQ29
    subst l29 y29 z29
    obtain ⟨hv29, Nq29, hp29_0⟩ := hQ29
    have N29 := Fr.app N14 Nq29
    by_cases hc30 : x1 < c1
    · rw [if_pos hc30] at hv29
      subst hv29
      refine Goes.tr st29 ?_
      refine gx (XS.ifNo X29.here hx rfl (hb hby d27_44) rfl ((if0 _ _).trans (teq (by decide : (0 : Int32) = (0 : Int32))).2)) ?_
      refine gx (XS.iconst X29.here hx rfl (hb hby d27_47)) ?_
      show Goes p.tables e below (T29.setTop (mkF m 48 #[.val (.ref x0), .val (.int x1), .val (.long x2), .second, .val (.long x3), .second, .val (.ref it_2), .val (.ref r1)] [(.int (0 : Int32))])) _
      obtain ⟨fs, hr, hrun, hended, hW, hsame⟩ := X29.leave (v := some (.int (0 : Int32))) (fun h => by rw [Bd.returns] at h; cases h)
      exact ⟨_, _, retN X29 hx (t := .boolean) Bd.returns (by simp) (hb hby d27_48) hr, hrun, hended, _, _, rfl, ⟨(by show (some (.int (0 : Int32)) : Option Value) = _; simp [own_exp, ho1, hc30]), N29, (by show Keep h0 T29.heap []; rw [hp29_0]; exact Kc14)⟩, ⟨_, rfl⟩, hW, hsame.mono (by decide) (by decide)⟩
    · rw [if_neg hc30] at hv29
      subst hv29
      refine Goes.tr st29 ?_
      refine gx (XS.ifYes X29.here hx rfl (pc0 := 44) (pc' := 49) rfl (hb hby d27_44) rfl ((if0 _ _).trans (feq (by decide : ¬ ((1 : Int32) = (0 : Int32)))).2) (by decide) (by decide)) ?_
      refine gx (XS.goto X29.here hx rfl (pc0 := 49) (pc' := 11) rfl (hb hby d27_49) (by decide) (by decide)) ?_
      refine gx (XS.aload X29.here hx rfl (hb hby d27_11) rfl rfl) ?_
      obtain ⟨cq31, kq31, q31a, q31b, q31c⟩ := isOf hZ hp29_0 Qf14_0
      obtain ⟨_, _, ⟨T31, L31, k31, n31⟩, -, X31, ⟨Lc31, hQ31, l31, y31, z31⟩, st31⟩ := X29.interfaceBack hx (xi := own_n45) (y := own_n35) hown (mvT hZ (own_hw hw 225 rfl)) (mvT hZ (own_hw hw 226 rfl)) (mvT hZ (own_hw hw 227 rfl)) (mvT hZ (own_hw hw 228 rfl)) (mvT hZ (own_hw hw 229 rfl)) (mvT hZ (own_hw hw 230 rfl)) (mvT hZ (own_hw hw 231 rfl)) (mvT hZ (own_hw hw 232 rfl)) (by decide) (backOf (W := 0) (own_rm31 l Z a0 hw [] it_2 (1 : Int32) (3 : Int32) T14.heap n0 Zk14 Qf14_3 Qf14_2) hZ (own_hw hw 233 rfl) (own_hw hw 205 rfl) (by decide) (by decide)) q31a q31b q31c (g := (mkF m 13 #[.val (.ref x0), .val (.int x1), .val (.long x2), .second, .val (.long x3), .second, .val (.ref it_2), .val (.ref r1)] [(.ref it_2)])) rfl (by rw [hml]; rfl) (Steps.refl _) (argsL := []) (rest := []) (lenOf own_pd_pqZ rfl) rfl (own_W rfl rfl) (hb hby d27_13) (fun _ _ => ⟨rfl, hp29_0, (by decide : 1 + 0 ≤ _), (by decide : 4 + 0 ≤ _)⟩)
      dsimp only [Pt.U, Pt.locs, Pt.cells, Pt.slots] at X31 l31 y31 z31 st31 hQ31
      subst l31 y31 z31
      obtain ⟨hv31, Nq31, hp31_0⟩ := hQ31
      have N31 := Fr.app N29 Nq31
      rw [if_neg (by decide : ¬ ((1 : Int32) = (3 : Int32)))] at hv31
      subst hv31
      refine Goes.tr st31 ?_
      refine gx (XS.ifNo X31.here hx rfl (hb hby d27_18) rfl ((if0 _ _).trans (feq (by decide : ¬ ((1 : Int32) = (0 : Int32)))).1)) ?_
      refine gx (XS.aload X31.here hx rfl (hb hby d27_21) rfl rfl) ?_
      obtain ⟨cq32, kq32, q32a, q32b, q32c⟩ := isOf hZ hp31_0 Qf14_0
      obtain ⟨_, _, ⟨T32, L32, k32, n32⟩, -, X32, ⟨Lc32, hQ32, l32, y32, z32⟩, st32⟩ := X31.interfaceBack hx (xi := own_n46) (y := own_n43) hown (mvT hZ (own_hw hw 234 rfl)) (mvT hZ (own_hw hw 235 rfl)) (mvT hZ (own_hw hw 236 rfl)) (mvT hZ (own_hw hw 237 rfl)) (mvT hZ (own_hw hw 238 rfl)) (mvT hZ (own_hw hw 239 rfl)) (mvT hZ (own_hw hw 240 rfl)) (mvT hZ (own_hw hw 232 rfl)) (by decide) (backOfWith (W := 0) (own_rmNX31 l Z a0 hw [] it_2 li r1 r2 r3 el kL aI T14.heap n0 Zk14 g_it_2 Qf14_0 Qf14_1 Qf14_2 Qf14_3 F17 F18 F19 F20 F21) hZ (own_hw hw 241 rfl) (own_hw hw 205 rfl) (by decide) (by decide)) q32a q32b q32c (g := (mkF m 23 #[.val (.ref x0), .val (.int x1), .val (.long x2), .second, .val (.long x3), .second, .val (.ref it_2), .val (.ref r1)] [(.ref it_2)])) rfl (by rw [hml]; rfl) (Steps.refl _) (argsL := []) (rest := []) (lenOf own_pd_pqLjavallanglObjects rfl) rfl (own_W rfl rfl) (hb hby d27_23) (fun _ _ => ⟨rfl, hp31_0, (by decide : 1 + 0 ≤ _), (by decide : 4 + 0 ≤ _)⟩)
      dsimp only [Pt.U, Pt.locs, Pt.cells, Pt.slots] at X32 l32 y32 z32 st32 hQ32
      subst l32 y32 z32
      obtain ⟨hv32, Nq32, Kq32, Qf32_0, Qf32_1, Qf32_2, Qf32_3⟩ := hQ32
      have N32 := Fr.app N31 Nq32
      have F35 := F17.keep Kq32
      have F36 := F18.keep Kq32 (ninS ne4 nin0)
      have F37 := F19.keep Kq32
      have F38 := F20.keep Kq32 (ninS ne5 nin0)
      have F39 := own_staK Kq32 Qf14_0 F21
      have Zk32 : n0 ≤ T32.heap.size := Nat.le_trans Zk14 Kq32.1
      have Kc32 : Keep h0 T32.heap [] := Kc14.trans Kq32 (allS (Or.inr sz_it_2) all0)
      subst hv32
      refine Goes.tr st32 ?_
      obtain ⟨ho2, Er2⟩ | ⟨c2, ho2, Er2, Fr2⟩ := Hr2
      · have E2r := Er2.keep Kc32
        obtain ⟨T46, X46, e46, st46⟩ := castY X32 hx hZ hown (own_hw hw 250 rfl) rfl (Ins.of_exa E2r (own_hw hw 269 rfl)) (g := (mkF m 28 #[.val (.ref x0), .val (.int x1), .val (.long x2), .second, .val (.long x3), .second, .val (.ref it_2), .val (.ref r1)] [(.ref r2)])) rfl rfl (hb hby d27_28)
        refine Goes.to st46 ?_
        refine gx (XS.astore X46.here hx rfl (hb hby d27_31) rfl rfl (l' := #[.val (.ref x0), .val (.int x1), .val (.long x2), .second, .val (.long x3), .second, .val (.ref it_2), .val (.ref r2)]) rfl) ?_
        refine gx (XS.aload X46.here hx rfl (hb hby d27_33) rfl rfl) ?_
        refine gx (XS.iloadN X46.here hx rfl (hb hby d27_35) rfl) ?_
        refine gx (XS.lloadN X46.here hx rfl (hb hby d27_36) rfl) ?_
        show Goes p.tables e below (T46.setTop (mkF m 37 #[.val (.ref x0), .val (.int x1), .val (.long x2), .second, .val (.long x3), .second, .val (.ref it_2), .val (.ref r2)] [(.long x2), (.int x1), (.ref r2)])) _
        refine gx (XS.lload X46.here hx rfl (hb hby d27_37) rfl) ?_
        obtain ⟨cq47, kq47, q47a, q47b, q47c⟩ := isOf hZ e46 E2r
        obtain ⟨_, _, ⟨T47, L47, k47, n47⟩, -, X47, ⟨Lc47, hQ47, l47, y47, z47⟩, st47⟩ := X46.interfaceBack hx (xi := own_n47) (y := own_n17) hown (mvT hZ (own_hw hw 252 rfl)) (mvT hZ (own_hw hw 253 rfl)) (mvT hZ (own_hw hw 254 rfl)) (mvT hZ (own_hw hw 270 rfl)) (mvT hZ (own_hw hw 271 rfl)) (mvT hZ (own_hw hw 272 rfl)) (mvT hZ (own_hw hw 273 rfl)) (mvT hZ (own_hw hw 269 rfl)) (by decide) (backOf (W := 0) (own_rm37 l Z a0 hw [] r2 x1 x2 x3 T32.heap n0 Zk32 ) hZ (own_hw hw 275 rfl) (own_hw hw 274 rfl) (by decide) (by decide)) q47a q47b q47c (g := (mkF m 39 #[.val (.ref x0), .val (.int x1), .val (.long x2), .second, .val (.long x3), .second, .val (.ref it_2), .val (.ref r2)] [(.long x3), (.long x2), (.int x1), (.ref r2)])) rfl (by rw [hml]; rfl) (Steps.refl _) (argsL := [(.int x1), (.long x2), (.long x3)]) (rest := []) (lenOf own_pd_pIJJqZ rfl) rfl (own_W rfl rfl) (hb hby d27_39) (fun _ _ => ⟨rfl, e46, (by decide : 1 + 0 ≤ _), (by decide : 4 + 0 ≤ _)⟩)
        dsimp only [Pt.U, Pt.locs, Pt.cells, Pt.slots] at X47 l47 y47 z47 st47 hQ47
        subst l47 y47 z47
        obtain ⟨hv47, Nq47, hp47_0⟩ := hQ47
        have N47 := Fr.app N32 Nq47
        subst hv47
        refine Goes.tr st47 ?_
        refine gx (XS.ifNo X47.here hx rfl (hb hby d27_44) rfl ((if0 _ _).trans (teq (by decide : (0 : Int32) = (0 : Int32))).2)) ?_
        refine gx (XS.iconst X47.here hx rfl (hb hby d27_47)) ?_
        show Goes p.tables e below (T47.setTop (mkF m 48 #[.val (.ref x0), .val (.int x1), .val (.long x2), .second, .val (.long x3), .second, .val (.ref it_2), .val (.ref r2)] [(.int (0 : Int32))])) _
        obtain ⟨fs, hr, hrun, hended, hW, hsame⟩ := X47.leave (v := some (.int (0 : Int32))) (fun h => by rw [Bd.returns] at h; cases h)
        exact ⟨_, _, retN X47 hx (t := .boolean) Bd.returns (by simp) (hb hby d27_48) hr, hrun, hended, _, _, rfl, ⟨(by show (some (.int (0 : Int32)) : Option Value) = _; simp [own_exp, ho1, ho2, hc30]), N47, (by show Keep h0 T47.heap []; rw [hp47_0]; exact Kc32)⟩, ⟨_, rfl⟩, hW, hsame.mono (by decide) (by decide)⟩
      · have E2r := Er2.keep Kc32
        have F2r := Fr2.keep Kc32 nin0
        obtain ⟨T48, X48, e48, st48⟩ := castY X32 hx hZ hown (own_hw hw 250 rfl) rfl (Ins.of_exa E2r (own_hw hw 251 rfl)) (g := (mkF m 28 #[.val (.ref x0), .val (.int x1), .val (.long x2), .second, .val (.long x3), .second, .val (.ref it_2), .val (.ref r1)] [(.ref r2)])) rfl rfl (hb hby d27_28)
        refine Goes.to st48 ?_
        refine gx (XS.astore X48.here hx rfl (hb hby d27_31) rfl rfl (l' := #[.val (.ref x0), .val (.int x1), .val (.long x2), .second, .val (.long x3), .second, .val (.ref it_2), .val (.ref r2)]) rfl) ?_
        refine gx (XS.aload X48.here hx rfl (hb hby d27_33) rfl rfl) ?_
        refine gx (XS.iloadN X48.here hx rfl (hb hby d27_35) rfl) ?_
        refine gx (XS.lloadN X48.here hx rfl (hb hby d27_36) rfl) ?_
        show Goes p.tables e below (T48.setTop (mkF m 37 #[.val (.ref x0), .val (.int x1), .val (.long x2), .second, .val (.long x3), .second, .val (.ref it_2), .val (.ref r2)] [(.long x2), (.int x1), (.ref r2)])) _
        refine gx (XS.lload X48.here hx rfl (hb hby d27_37) rfl) ?_
        obtain ⟨cq49, kq49, q49a, q49b, q49c⟩ := isOf hZ e48 E2r
        obtain ⟨_, _, ⟨T49, L49, k49, n49⟩, -, X49, ⟨Lc49, hQ49, l49, y49, z49⟩, st49⟩ := X48.interfaceBack hx (xi := own_n47) (y := own_n16) hown (mvT hZ (own_hw hw 252 rfl)) (mvT hZ (own_hw hw 253 rfl)) (mvT hZ (own_hw hw 254 rfl)) (mvT hZ (own_hw hw 255 rfl)) (mvT hZ (own_hw hw 256 rfl)) (mvT hZ (own_hw hw 257 rfl)) (mvT hZ (own_hw hw 258 rfl)) (mvT hZ (own_hw hw 251 rfl)) (by decide) (backOf (W := 0) (own_rm34 l Z a0 hw [] r2 x1 x2 x3 c2 T32.heap n0 Zk32 F2r) hZ (own_hw hw 259 rfl) (own_hw hw 37 rfl) (by decide) (by decide)) q49a q49b q49c (g := (mkF m 39 #[.val (.ref x0), .val (.int x1), .val (.long x2), .second, .val (.long x3), .second, .val (.ref it_2), .val (.ref r2)] [(.long x3), (.long x2), (.int x1), (.ref r2)])) rfl (by rw [hml]; rfl) (Steps.refl _) (argsL := [(.int x1), (.long x2), (.long x3)]) (rest := []) (lenOf own_pd_pIJJqZ rfl) rfl (own_W rfl rfl) (hb hby d27_39) (fun _ _ => ⟨rfl, e48, (by decide : 1 + 0 ≤ _), (by decide : 4 + 0 ≤ _)⟩)
        dsimp only [Pt.U, Pt.locs, Pt.cells, Pt.slots] at X49 l49 y49 z49 st49 hQ49
        subst l49 y49 z49
        obtain ⟨hv49, Nq49, hp49_0⟩ := hQ49
        have N49 := Fr.app N32 Nq49
        by_cases hc50 : x1 < c2
        · rw [if_pos hc50] at hv49
          subst hv49
          refine Goes.tr st49 ?_
          refine gx (XS.ifNo X49.here hx rfl (hb hby d27_44) rfl ((if0 _ _).trans (teq (by decide : (0 : Int32) = (0 : Int32))).2)) ?_
          refine gx (XS.iconst X49.here hx rfl (hb hby d27_47)) ?_
          show Goes p.tables e below (T49.setTop (mkF m 48 #[.val (.ref x0), .val (.int x1), .val (.long x2), .second, .val (.long x3), .second, .val (.ref it_2), .val (.ref r2)] [(.int (0 : Int32))])) _
          obtain ⟨fs, hr, hrun, hended, hW, hsame⟩ := X49.leave (v := some (.int (0 : Int32))) (fun h => by rw [Bd.returns] at h; cases h)
          exact ⟨_, _, retN X49 hx (t := .boolean) Bd.returns (by simp) (hb hby d27_48) hr, hrun, hended, _, _, rfl, ⟨(by show (some (.int (0 : Int32)) : Option Value) = _; simp [own_exp, ho1, ho2, hc30, hc50]), N49, (by show Keep h0 T49.heap []; rw [hp49_0]; exact Kc32)⟩, ⟨_, rfl⟩, hW, hsame.mono (by decide) (by decide)⟩
        · rw [if_neg hc50] at hv49
          subst hv49
          refine Goes.tr st49 ?_
          refine gx (XS.ifYes X49.here hx rfl (pc0 := 44) (pc' := 49) rfl (hb hby d27_44) rfl ((if0 _ _).trans (feq (by decide : ¬ ((1 : Int32) = (0 : Int32)))).2) (by decide) (by decide)) ?_
          refine gx (XS.goto X49.here hx rfl (pc0 := 49) (pc' := 11) rfl (hb hby d27_49) (by decide) (by decide)) ?_
          refine gx (XS.aload X49.here hx rfl (hb hby d27_11) rfl rfl) ?_
          obtain ⟨cq51, kq51, q51a, q51b, q51c⟩ := isOf hZ hp49_0 Qf32_0
          obtain ⟨_, _, ⟨T51, L51, k51, n51⟩, -, X51, ⟨Lc51, hQ51, l51, y51, z51⟩, st51⟩ := X49.interfaceBack hx (xi := own_n45) (y := own_n35) hown (mvT hZ (own_hw hw 225 rfl)) (mvT hZ (own_hw hw 226 rfl)) (mvT hZ (own_hw hw 227 rfl)) (mvT hZ (own_hw hw 228 rfl)) (mvT hZ (own_hw hw 229 rfl)) (mvT hZ (own_hw hw 230 rfl)) (mvT hZ (own_hw hw 231 rfl)) (mvT hZ (own_hw hw 232 rfl)) (by decide) (backOf (W := 0) (own_rm31 l Z a0 hw [] it_2 (2 : Int32) (3 : Int32) T32.heap n0 Zk32 Qf32_3 Qf32_2) hZ (own_hw hw 233 rfl) (own_hw hw 205 rfl) (by decide) (by decide)) q51a q51b q51c (g := (mkF m 13 #[.val (.ref x0), .val (.int x1), .val (.long x2), .second, .val (.long x3), .second, .val (.ref it_2), .val (.ref r2)] [(.ref it_2)])) rfl (by rw [hml]; rfl) (Steps.refl _) (argsL := []) (rest := []) (lenOf own_pd_pqZ rfl) rfl (own_W rfl rfl) (hb hby d27_13) (fun _ _ => ⟨rfl, hp49_0, (by decide : 1 + 0 ≤ _), (by decide : 4 + 0 ≤ _)⟩)
          dsimp only [Pt.U, Pt.locs, Pt.cells, Pt.slots] at X51 l51 y51 z51 st51 hQ51
          subst l51 y51 z51
          obtain ⟨hv51, Nq51, hp51_0⟩ := hQ51
          have N51 := Fr.app N49 Nq51
          rw [if_neg (by decide : ¬ ((2 : Int32) = (3 : Int32)))] at hv51
          subst hv51
          refine Goes.tr st51 ?_
          refine gx (XS.ifNo X51.here hx rfl (hb hby d27_18) rfl ((if0 _ _).trans (feq (by decide : ¬ ((1 : Int32) = (0 : Int32)))).1)) ?_
          refine gx (XS.aload X51.here hx rfl (hb hby d27_21) rfl rfl) ?_
          obtain ⟨cq52, kq52, q52a, q52b, q52c⟩ := isOf hZ hp51_0 Qf32_0
          obtain ⟨_, _, ⟨T52, L52, k52, n52⟩, -, X52, ⟨Lc52, hQ52, l52, y52, z52⟩, st52⟩ := X51.interfaceBack hx (xi := own_n46) (y := own_n43) hown (mvT hZ (own_hw hw 234 rfl)) (mvT hZ (own_hw hw 235 rfl)) (mvT hZ (own_hw hw 236 rfl)) (mvT hZ (own_hw hw 237 rfl)) (mvT hZ (own_hw hw 238 rfl)) (mvT hZ (own_hw hw 239 rfl)) (mvT hZ (own_hw hw 240 rfl)) (mvT hZ (own_hw hw 232 rfl)) (by decide) (backOfWith (W := 0) (own_rmNX32 l Z a0 hw [] it_2 li r1 r2 r3 el kL aI T32.heap n0 Zk32 g_it_2 Qf32_0 Qf32_1 Qf32_2 Qf32_3 F35 F36 F37 F38 F39) hZ (own_hw hw 241 rfl) (own_hw hw 205 rfl) (by decide) (by decide)) q52a q52b q52c (g := (mkF m 23 #[.val (.ref x0), .val (.int x1), .val (.long x2), .second, .val (.long x3), .second, .val (.ref it_2), .val (.ref r2)] [(.ref it_2)])) rfl (by rw [hml]; rfl) (Steps.refl _) (argsL := []) (rest := []) (lenOf own_pd_pqLjavallanglObjects rfl) rfl (own_W rfl rfl) (hb hby d27_23) (fun _ _ => ⟨rfl, hp51_0, (by decide : 1 + 0 ≤ _), (by decide : 4 + 0 ≤ _)⟩)
          dsimp only [Pt.U, Pt.locs, Pt.cells, Pt.slots] at X52 l52 y52 z52 st52 hQ52
          subst l52 y52 z52
          obtain ⟨hv52, Nq52, Kq52, Qf52_0, Qf52_1, Qf52_2, Qf52_3⟩ := hQ52
          have N52 := Fr.app N51 Nq52
          have Zk52 : n0 ≤ T52.heap.size := Nat.le_trans Zk32 Kq52.1
          have Kc52 : Keep h0 T52.heap [] := Kc32.trans Kq52 (allS (Or.inr sz_it_2) all0)
          subst hv52
          refine Goes.tr st52 ?_
          obtain ⟨ho3, Er3⟩ | ⟨c3, ho3, Er3, Fr3⟩ := Hr3
          · have E3r := Er3.keep Kc52
            exact own_pt_own_rmEX3_68 l Z a0 hw ws x0 x1 x2 x3 li r1 r2 r3 el kL aI o1 o2 o3 h0 n0 Z0 hPm Bd hml0 hh hZ it_2 c1 c2 T52 _  T52.heap X52 rfl N52 Zk52  E3r ho1 hc30 ho2 hc50 ho3 Kc52
          · have E3r := Er3.keep Kc52
            have F3r := Fr3.keep Kc52 nin0
            exact own_pt_own_rmEX3_71 l Z a0 hw ws x0 x1 x2 x3 li r1 r2 r3 el kL aI o1 o2 o3 h0 n0 Z0 hPm Bd hml0 hh hZ it_2 c1 c2 c3 T52 _  T52.heap X52 rfl N52 Zk52  Qf52_0 Qf52_2 Qf52_3 E3r F3r ho1 hc30 ho2 hc50 ho3 Kc52

theorem own_pd_pZIqLcomlexamplelwee_tablelweetablelmodellGcRules : parseMethodDescriptor "(ZI)Lcom/example/wee_table/weetable/model/GcRule;" = some ⟨[.boolean, .int], some (.object "com/example/wee_table/weetable/model/GcRule")⟩ := by decide +kernel
theorem own_pd_pLjavallanglObjectsqZ : parseMethodDescriptor "(Ljava/lang/Object;)Z" = some ⟨[(.object "java/lang/Object")], some .boolean⟩ := by decide +kernel
theorem own_pd_pLjavalutillListsqV : parseMethodDescriptor "(Ljava/util/List;)V" = some ⟨[(.object "java/util/List")], none⟩ := by decide +kernel
theorem own_pd_pZIIqZ : parseMethodDescriptor "(ZII)Z" = some ⟨[.boolean, .int, .int], some .boolean⟩ := by decide +kernel
theorem own_pn_0 : plainName "com/example/wee_table/weetable/model/IntersectionExpiresPinLaw" = true := by first | (simp [plainName, overriddenIn]; done) | decide +kernel
theorem own_ef_own_rm0 (m : MethodId) (x0 : Int32) (x1 : Int64) (x2 : Int64) (x3 : Int32) (x4 : Int32) (x5 : Int32) : entryFrame m #[(.int x0), (.long x1), (.long x2), (.int x3), (.int x4), (.int x5)] maxLocals = mkF m 0 #[.val (.int x0), .val (.long x1), .second, .val (.long x2), .second, .val (.int x3), .val (.int x4), .val (.int x5), .unset, .unset, .unset, .unset, .unset, .unset, .unset, .unset, .unset, .unset, .unset] [] := by first | (simp [entryFrame, mkF, argsToLocals, Value.category, maxLocals]; done) | rfl
def own_Q_own_rm0 (Z : State) (x0 : Int32) (x1 : Int64) (x2 : Int64) (x3 : Int32) (x4 : Int32) (x5 : Int32) (aN : Addr) (aD : Addr) (kD : ClassId) (aI : Addr) (mr : Addr) (h0 : Heap) (n0 : Nat) (v : Option Value) (h : Heap) (L : List Loc) : Prop := v = some (.int (1 : Int32)) ∧ Fr n0 L
def own_P_own_rm0 (Z : State) (a0 : Array Value) (x0 : Int32) (x1 : Int64) (x2 : Int64) (x3 : Int32) (x4 : Int32) (x5 : Int32) (aN : Addr) (aD : Addr) (kD : ClassId) (aI : Addr) (mr : Addr) (h0 : Heap) (n0 : Nat) : Prop := (Old Z n0 h0) ∧ (CHv Z own_EL Z.vm Z.heap) ∧ (Sta Z Z.heap "com/example/wee_table/weetable/model/GcRule" "NONE" "Lcom/example/wee_table/weetable/model/GcRule;" (.ref aN)) ∧ (Sta Z Z.heap "java/util/ArrayList" "DEFAULTCAPACITY_EMPTY_ELEMENTDATA" "[Ljava/lang/Object;" (.ref aD)) ∧ (Sta Z Z.heap "java/util/ImmutableCollections" "EMPTY" "Ljava/lang/Object;" (.ref aI)) ∧ (Exa Z Z.heap aN "com/example/wee_table/weetable/model/GcRule$None") ∧ (Exa Z Z.heap aD "[Ljava/lang/Object;") ∧ (Arv Z Z.heap aD kD (.object "java/lang/Object") (0 : Int32) [] .null) ∧ (Exa Z Z.heap aI "java/lang/Object") ∧ ((Term.mirror "[Ljava/lang/Object;").eval #[] Z none [] Z = some (.ref mr))
set_option maxRecDepth 65536 in
set_option maxHeartbeats 40000000 in
theorem own_pt_own_rm0_96 (l : Launch) (Z : State) (a0 : Array Value) (hw : ∀ d ∈ tables_1, d.before a0 Z = true) (ws : List Jvm.Cond) (x0 : Int32) (x1 : Int64) (x2 : Int64) (x3 : Int32) (x4 : Int32) (x5 : Int32) (aN : Addr) (aD : Addr) (kD : ClassId) (aI : Addr) (mr : Addr) (h0 : Heap) (n0 : Nat) (Z0 : n0 ≤ h0.size) (hPm : own_P_own_rm0 Z a0 x0 x1 x2 x3 x4 x5 aN aD kD aI mr h0 n0)
    {p : Program} {e : Env} {s : State} {m : MethodId} {below : List Frame} {meth : Method} {c : Code} {s₁ : State} (Bd : BodyLoose p l x (head1 (Jvm.Cond.code x code maxLocals ret :: ws) room_1) code maxLocals ret e s m #[(.int x0), (.long x1), (.long x2), (.int x3), (.int x4), (.int x5)] below meth c s₁) (hml0 : c.maxLocals = maxLocals) (hh : s.heap = h0) 
    (got : Int32) (u15 : Slot) (u16 : Slot) (k1 : Int32) (k2 : Int32) (k3 : Int32) (nn : Int32) (c1 : Int32) (c2 : Int32) (c3 : Int32)
    (Tpt : State) (lpt : List Loc) (vmpt : Vm) (hZ : Z.Warmed39 vmpt) (hown : vmpt.findClass "com/example/wee_table/weetable/model/IntersectionExpiresPinLaw" = some m.cls) (hpt : Heap)
    (Xpt : Stand p l e room_1 (s.setVm vmpt) m #[(.int x0), (.long x1), (.long x2), (.int x3), (.int x4), (.int x5)] below meth c Tpt lpt 32 1152) (Ept : Tpt.heap = hpt) (Npt : Fr n0 lpt) (Zpt : n0 ≤ hpt.size) (kpt : Nat) (hSpt : s.Since vmpt kpt) (hkpt : kpt ≤ hpt.size) (Rpt : CHr Z own_EL s.vm h0 vmpt hpt)
    (hk1 : k1 = (0 : Int32) ∨ k1 = (1 : Int32))
    (hk2 : k2 = (0 : Int32) ∨ k2 = (1 : Int32))
    (hk3 : k3 = (0 : Int32) ∨ k3 = (1 : Int32))
    (hg : got = own_got nn k1 k2 k3 c1 c2 c3 x0)
    : Goes p.tables e below (Tpt.setTop (mkF m 167 #[.val (.int x0), .val (.long x1), .second, .val (.long x2), .second, .val (.int x3), .val (.int x4), .val (.int x5), .val (.int nn), .val (.int k1), .val (.int k2), .val (.int k3), .val (.int c1), .val (.int c2), .val (.int c3), u15, u16, .val (.int got), .unset] [])) (own_RW below s (own_Q_own_rm0 Z x0 x1 x2 x3 x4 x5 aN aD kD aI mr h0 n0) 32 1152) := by
  obtain ⟨O0, hCH0, SN, SD, SE, EN, XD, VD, EI, Mr⟩ := id hPm
  have hx := Bd.exec
  have hby := Bd.bytes
  have hml : c.maxLocals = 19 := hml0
  have hnm := (name_of_methodNamed Bd.named Bd.method).1
  have own_wS' : ∀ a ∈ Bundle.stringAtoms, a.before a0 Z = true := own_wS hw
  have hEL := own_EW hw
  rcases hk1 with rfl | rfl
  · refine gx (XS.iload Xpt.here hx rfl (hb hby at_167) rfl) ?_
    refine gx (XS.iload Xpt.here hx rfl (hb hby at_169) rfl) ?_
    refine gx (XS.iloadN Xpt.here hx rfl (hb hby at_171) rfl) ?_
    obtain ⟨_, _, ⟨T97, L97, k97, n97⟩, -, X97, ⟨Lc97, hQ97, l97, y97, z97⟩, st97⟩ := Jvm.LawKit.callS Xpt hx (y := own_n18) hown (mvT hZ (own_hw hw 260 rfl)) (mvT hZ (own_hw hw 261 rfl)) (mvT hZ (own_hw hw 33 rfl)) (mvT hZ (own_hw hw 262 rfl)) (by decide) (backOf (W := 0) (own_rmRF0 l Z a0 hw [] c1 x0 hpt n0 Zpt ) hZ (own_hw hw 262 rfl) (own_hw hw 33 rfl) (by decide) (by decide)) (g := (mkF m 172 #[.val (.int x0), .val (.long x1), .second, .val (.long x2), .second, .val (.int x3), .val (.int x4), .val (.int x5), .val (.int nn), .val (.int (0 : Int32)), .val (.int k2), .val (.int k3), .val (.int c1), .val (.int c2), .val (.int c3), u15, u16, .val (.int got), .unset] [(.int x0), (.int c1), (.int (0 : Int32))])) rfl (by rw [hml]; rfl) (argsL := [(.int (0 : Int32)), (.int c1), (.int x0)]) (rest := []) (lenOf own_pd_pZIIqZ rfl) rfl (own_W rfl rfl) (hb hby at_172) (fun _ _ => ⟨rfl, Ept, (by decide : 32 + 0 ≤ _), (by decide : 1152 + 0 ≤ _)⟩)
    dsimp only [Pt.U, Pt.locs, Pt.cells, Pt.slots] at X97 l97 y97 z97 st97 hQ97
    subst l97 y97 z97
    obtain ⟨hv97, Nq97, hp97_0⟩ := hQ97
    have N97 := Fr.app Npt Nq97
    by_cases hc98 : x0 < c1
    · rw [if_pos hc98] at hv97
      subst hv97
      refine Goes.to st97 ?_
      refine gx (XS.ifYes X97.here hx rfl (pc0 := 175) (pc' := 216) rfl (hb hby at_175) rfl ((if0 _ _).trans (teq (by decide : (0 : Int32) = (0 : Int32))).1) (by decide) (by decide)) ?_
      refine gx (XS.iconst X97.here hx rfl (hb hby at_216)) ?_
      refine gx (XS.istore X97.here hx rfl (hb hby at_217) rfl (l' := #[.val (.int x0), .val (.long x1), .second, .val (.long x2), .second, .val (.int x3), .val (.int x4), .val (.int x5), .val (.int nn), .val (.int (0 : Int32)), .val (.int k2), .val (.int k3), .val (.int c1), .val (.int c2), .val (.int c3), u15, u16, .val (.int got), .val (.int (0 : Int32))]) rfl) ?_
      refine gx (XS.iload X97.here hx rfl (hb hby at_219) rfl) ?_
      show Goes p.tables e below (T97.setTop (mkF m 221 #[.val (.int x0), .val (.long x1), .second, .val (.long x2), .second, .val (.int x3), .val (.int x4), .val (.int x5), .val (.int nn), .val (.int (0 : Int32)), .val (.int k2), .val (.int k3), .val (.int c1), .val (.int c2), .val (.int c3), u15, u16, .val (.int got), .val (.int (0 : Int32))] [(.int got)])) _
      refine gx (XS.iload X97.here hx rfl (hb hby at_221) rfl) ?_
      by_cases hc99 : got = (0 : Int32)
      · refine gx (XS.icmpNo X97.here hx rfl (hb hby at_223) rfl (teq hc99).2) ?_
        refine gx (XS.iconst X97.here hx rfl (hb hby at_226)) ?_
        refine gx (XS.goto X97.here hx rfl (pc0 := 227) (pc' := 231) rfl (hb hby at_227) (by decide) (by decide)) ?_
        show Goes p.tables e below (T97.setTop (mkF m 231 #[.val (.int x0), .val (.long x1), .second, .val (.long x2), .second, .val (.int x3), .val (.int x4), .val (.int x5), .val (.int nn), .val (.int (0 : Int32)), .val (.int k2), .val (.int k3), .val (.int c1), .val (.int c2), .val (.int c3), u15, u16, .val (.int got), .val (.int (0 : Int32))] [(.int (1 : Int32))])) _
        have hkl := Nat.le_trans hkpt (Nat.le_of_eq (congrArg Array.size (hp97_0).symm))
        obtain ⟨fs, hr, hrun, hended, hEnd⟩ := X97.leaveW (s := s) hSpt hkl (v := some (.int (1 : Int32))) (fun h => by rw [Bd.returns] at h; cases h)
        have hv : (some (.int (1 : Int32)) : Option Value) = some (.int (1 : Int32)) := by
          rfl
        exact ⟨_, _, retN X97 hx (t := .boolean) Bd.returns (by simp) (hb hby at_231) hr, hrun, hended, _, _, rfl, ⟨hv, N97⟩, hEnd.1, hEnd.2.1, hEnd.2.2.1, hEnd.2.2.2.mono (by decide) (by decide)⟩
      · exact absurd (by rw [hg]; simp [own_got, own_sp0, own_sp1, own_exp, hc98]) hc99
    · rw [if_neg hc98] at hv97
      subst hv97
      refine Goes.to st97 ?_
      refine gx (XS.ifNo X97.here hx rfl (hb hby at_175) rfl ((if0 _ _).trans (feq (by decide : ¬ ((1 : Int32) = (0 : Int32)))).1)) ?_
      refine gx (XS.iload X97.here hx rfl (hb hby at_178) rfl) ?_
      refine gx (XS.iconst X97.here hx rfl (hb hby at_180)) ?_
      by_cases hc100 : nn < (2 : Int32)
      · refine gx (XS.icmpYes X97.here hx rfl (pc0 := 181) (pc' := 195) rfl (hb hby at_181) rfl (tlt hc100).1 (by decide) (by decide)) ?_
        show Goes p.tables e below (T97.setTop (mkF m 195 #[.val (.int x0), .val (.long x1), .second, .val (.long x2), .second, .val (.int x3), .val (.int x4), .val (.int x5), .val (.int nn), .val (.int (0 : Int32)), .val (.int k2), .val (.int k3), .val (.int c1), .val (.int c2), .val (.int c3), u15, u16, .val (.int got), .unset] [])) _
        refine gx (XS.iload X97.here hx rfl (hb hby at_195) rfl) ?_
        refine gx (XS.iconst X97.here hx rfl (hb hby at_197)) ?_
        by_cases hc101 : nn < (3 : Int32)
        · refine gx (XS.icmpYes X97.here hx rfl (pc0 := 198) (pc' := 212) rfl (hb hby at_198) rfl (tlt hc101).1 (by decide) (by decide)) ?_
          refine gx (XS.iconst X97.here hx rfl (hb hby at_212)) ?_
          refine gx (XS.goto X97.here hx rfl (pc0 := 213) (pc' := 217) rfl (hb hby at_213) (by decide) (by decide)) ?_
          show Goes p.tables e below (T97.setTop (mkF m 217 #[.val (.int x0), .val (.long x1), .second, .val (.long x2), .second, .val (.int x3), .val (.int x4), .val (.int x5), .val (.int nn), .val (.int (0 : Int32)), .val (.int k2), .val (.int k3), .val (.int c1), .val (.int c2), .val (.int c3), u15, u16, .val (.int got), .unset] [(.int (1 : Int32))])) _
          refine gx (XS.istore X97.here hx rfl (hb hby at_217) rfl (l' := #[.val (.int x0), .val (.long x1), .second, .val (.long x2), .second, .val (.int x3), .val (.int x4), .val (.int x5), .val (.int nn), .val (.int (0 : Int32)), .val (.int k2), .val (.int k3), .val (.int c1), .val (.int c2), .val (.int c3), u15, u16, .val (.int got), .val (.int (1 : Int32))]) rfl) ?_
          refine gx (XS.iload X97.here hx rfl (hb hby at_219) rfl) ?_
          refine gx (XS.iload X97.here hx rfl (hb hby at_221) rfl) ?_
          by_cases hc102 : got = (1 : Int32)
          · refine gx (XS.icmpNo X97.here hx rfl (hb hby at_223) rfl (teq hc102).2) ?_
            refine gx (XS.iconst X97.here hx rfl (hb hby at_226)) ?_
            show Goes p.tables e below (T97.setTop (mkF m 227 #[.val (.int x0), .val (.long x1), .second, .val (.long x2), .second, .val (.int x3), .val (.int x4), .val (.int x5), .val (.int nn), .val (.int (0 : Int32)), .val (.int k2), .val (.int k3), .val (.int c1), .val (.int c2), .val (.int c3), u15, u16, .val (.int got), .val (.int (1 : Int32))] [(.int (1 : Int32))])) _
            refine gx (XS.goto X97.here hx rfl (pc0 := 227) (pc' := 231) rfl (hb hby at_227) (by decide) (by decide)) ?_
            show Goes p.tables e below (T97.setTop (mkF m 231 #[.val (.int x0), .val (.long x1), .second, .val (.long x2), .second, .val (.int x3), .val (.int x4), .val (.int x5), .val (.int nn), .val (.int (0 : Int32)), .val (.int k2), .val (.int k3), .val (.int c1), .val (.int c2), .val (.int c3), u15, u16, .val (.int got), .val (.int (1 : Int32))] [(.int (1 : Int32))])) _
            have hkl := Nat.le_trans hkpt (Nat.le_of_eq (congrArg Array.size (hp97_0).symm))
            obtain ⟨fs, hr, hrun, hended, hEnd⟩ := X97.leaveW (s := s) hSpt hkl (v := some (.int (1 : Int32))) (fun h => by rw [Bd.returns] at h; cases h)
            have hv : (some (.int (1 : Int32)) : Option Value) = some (.int (1 : Int32)) := by
              rfl
            exact ⟨_, _, retN X97 hx (t := .boolean) Bd.returns (by simp) (hb hby at_231) hr, hrun, hended, _, _, rfl, ⟨hv, N97⟩, hEnd.1, hEnd.2.1, hEnd.2.2.1, hEnd.2.2.2.mono (by decide) (by decide)⟩
          · exact absurd (by rw [hg]; simp [own_got, own_sp0, own_sp1, own_exp, hc98, hc100, hc101]) hc102
        · exact (own_lt23 hc100 hc101).elim
      · refine gx (XS.icmpNo X97.here hx rfl (hb hby at_181) rfl (flt hc100).1) ?_
        rcases hk2 with rfl | rfl
        · show Goes p.tables e below (T97.setTop (mkF m 184 #[.val (.int x0), .val (.long x1), .second, .val (.long x2), .second, .val (.int x3), .val (.int x4), .val (.int x5), .val (.int nn), .val (.int (0 : Int32)), .val (.int (0 : Int32)), .val (.int k3), .val (.int c1), .val (.int c2), .val (.int c3), u15, u16, .val (.int got), .unset] [])) _
          refine gx (XS.iload X97.here hx rfl (hb hby at_184) rfl) ?_
          refine gx (XS.iload X97.here hx rfl (hb hby at_186) rfl) ?_
          refine gx (XS.iloadN X97.here hx rfl (hb hby at_188) rfl) ?_
          obtain ⟨_, _, ⟨T103, L103, k103, n103⟩, -, X103, ⟨Lc103, hQ103, l103, y103, z103⟩, st103⟩ := Jvm.LawKit.callS X97 hx (y := own_n18) hown (mvT hZ (own_hw hw 260 rfl)) (mvT hZ (own_hw hw 261 rfl)) (mvT hZ (own_hw hw 33 rfl)) (mvT hZ (own_hw hw 262 rfl)) (by decide) (backOf (W := 0) (own_rmRF0 l Z a0 hw [] c2 x0 hpt n0 Zpt ) hZ (own_hw hw 262 rfl) (own_hw hw 33 rfl) (by decide) (by decide)) (g := (mkF m 189 #[.val (.int x0), .val (.long x1), .second, .val (.long x2), .second, .val (.int x3), .val (.int x4), .val (.int x5), .val (.int nn), .val (.int (0 : Int32)), .val (.int (0 : Int32)), .val (.int k3), .val (.int c1), .val (.int c2), .val (.int c3), u15, u16, .val (.int got), .unset] [(.int x0), (.int c2), (.int (0 : Int32))])) rfl (by rw [hml]; rfl) (argsL := [(.int (0 : Int32)), (.int c2), (.int x0)]) (rest := []) (lenOf own_pd_pZIIqZ rfl) rfl (own_W rfl rfl) (hb hby at_189) (fun _ _ => ⟨rfl, hp97_0, (by decide : 32 + 0 ≤ _), (by decide : 1152 + 0 ≤ _)⟩)
          dsimp only [Pt.U, Pt.locs, Pt.cells, Pt.slots] at X103 l103 y103 z103 st103 hQ103
          subst l103 y103 z103
          obtain ⟨hv103, Nq103, hp103_0⟩ := hQ103
          have N103 := Fr.app N97 Nq103
          by_cases hc104 : x0 < c2
          · rw [if_pos hc104] at hv103
            subst hv103
            refine Goes.to st103 ?_
            refine gx (XS.ifYes X103.here hx rfl (pc0 := 192) (pc' := 216) rfl (hb hby at_192) rfl ((if0 _ _).trans (teq (by decide : (0 : Int32) = (0 : Int32))).1) (by decide) (by decide)) ?_
            refine gx (XS.iconst X103.here hx rfl (hb hby at_216)) ?_
            refine gx (XS.istore X103.here hx rfl (hb hby at_217) rfl (l' := #[.val (.int x0), .val (.long x1), .second, .val (.long x2), .second, .val (.int x3), .val (.int x4), .val (.int x5), .val (.int nn), .val (.int (0 : Int32)), .val (.int (0 : Int32)), .val (.int k3), .val (.int c1), .val (.int c2), .val (.int c3), u15, u16, .val (.int got), .val (.int (0 : Int32))]) rfl) ?_
            refine gx (XS.iload X103.here hx rfl (hb hby at_219) rfl) ?_
            show Goes p.tables e below (T103.setTop (mkF m 221 #[.val (.int x0), .val (.long x1), .second, .val (.long x2), .second, .val (.int x3), .val (.int x4), .val (.int x5), .val (.int nn), .val (.int (0 : Int32)), .val (.int (0 : Int32)), .val (.int k3), .val (.int c1), .val (.int c2), .val (.int c3), u15, u16, .val (.int got), .val (.int (0 : Int32))] [(.int got)])) _
            refine gx (XS.iload X103.here hx rfl (hb hby at_221) rfl) ?_
            by_cases hc105 : got = (0 : Int32)
            · refine gx (XS.icmpNo X103.here hx rfl (hb hby at_223) rfl (teq hc105).2) ?_
              refine gx (XS.iconst X103.here hx rfl (hb hby at_226)) ?_
              refine gx (XS.goto X103.here hx rfl (pc0 := 227) (pc' := 231) rfl (hb hby at_227) (by decide) (by decide)) ?_
              show Goes p.tables e below (T103.setTop (mkF m 231 #[.val (.int x0), .val (.long x1), .second, .val (.long x2), .second, .val (.int x3), .val (.int x4), .val (.int x5), .val (.int nn), .val (.int (0 : Int32)), .val (.int (0 : Int32)), .val (.int k3), .val (.int c1), .val (.int c2), .val (.int c3), u15, u16, .val (.int got), .val (.int (0 : Int32))] [(.int (1 : Int32))])) _
              have hkl := Nat.le_trans hkpt (Nat.le_of_eq (congrArg Array.size (hp103_0).symm))
              obtain ⟨fs, hr, hrun, hended, hEnd⟩ := X103.leaveW (s := s) hSpt hkl (v := some (.int (1 : Int32))) (fun h => by rw [Bd.returns] at h; cases h)
              have hv : (some (.int (1 : Int32)) : Option Value) = some (.int (1 : Int32)) := by
                rfl
              exact ⟨_, _, retN X103 hx (t := .boolean) Bd.returns (by simp) (hb hby at_231) hr, hrun, hended, _, _, rfl, ⟨hv, N103⟩, hEnd.1, hEnd.2.1, hEnd.2.2.1, hEnd.2.2.2.mono (by decide) (by decide)⟩
            · exact absurd (by rw [hg]; simp [own_got, own_sp0, own_sp1, own_exp, hc98, hc100, hc104]) hc105
          · rw [if_neg hc104] at hv103
            subst hv103
            refine Goes.to st103 ?_
            refine gx (XS.ifNo X103.here hx rfl (hb hby at_192) rfl ((if0 _ _).trans (feq (by decide : ¬ ((1 : Int32) = (0 : Int32)))).1)) ?_
            refine gx (XS.iload X103.here hx rfl (hb hby at_195) rfl) ?_
            refine gx (XS.iconst X103.here hx rfl (hb hby at_197)) ?_
            by_cases hc106 : nn < (3 : Int32)
            · refine gx (XS.icmpYes X103.here hx rfl (pc0 := 198) (pc' := 212) rfl (hb hby at_198) rfl (tlt hc106).1 (by decide) (by decide)) ?_
              show Goes p.tables e below (T103.setTop (mkF m 212 #[.val (.int x0), .val (.long x1), .second, .val (.long x2), .second, .val (.int x3), .val (.int x4), .val (.int x5), .val (.int nn), .val (.int (0 : Int32)), .val (.int (0 : Int32)), .val (.int k3), .val (.int c1), .val (.int c2), .val (.int c3), u15, u16, .val (.int got), .unset] [])) _
              refine gx (XS.iconst X103.here hx rfl (hb hby at_212)) ?_
              refine gx (XS.goto X103.here hx rfl (pc0 := 213) (pc' := 217) rfl (hb hby at_213) (by decide) (by decide)) ?_
              refine gx (XS.istore X103.here hx rfl (hb hby at_217) rfl (l' := #[.val (.int x0), .val (.long x1), .second, .val (.long x2), .second, .val (.int x3), .val (.int x4), .val (.int x5), .val (.int nn), .val (.int (0 : Int32)), .val (.int (0 : Int32)), .val (.int k3), .val (.int c1), .val (.int c2), .val (.int c3), u15, u16, .val (.int got), .val (.int (1 : Int32))]) rfl) ?_
              refine gx (XS.iload X103.here hx rfl (hb hby at_219) rfl) ?_
              refine gx (XS.iload X103.here hx rfl (hb hby at_221) rfl) ?_
              show Goes p.tables e below (T103.setTop (mkF m 223 #[.val (.int x0), .val (.long x1), .second, .val (.long x2), .second, .val (.int x3), .val (.int x4), .val (.int x5), .val (.int nn), .val (.int (0 : Int32)), .val (.int (0 : Int32)), .val (.int k3), .val (.int c1), .val (.int c2), .val (.int c3), u15, u16, .val (.int got), .val (.int (1 : Int32))] [(.int (1 : Int32)), (.int got)])) _
              by_cases hc107 : got = (1 : Int32)
              · refine gx (XS.icmpNo X103.here hx rfl (hb hby at_223) rfl (teq hc107).2) ?_
                refine gx (XS.iconst X103.here hx rfl (hb hby at_226)) ?_
                refine gx (XS.goto X103.here hx rfl (pc0 := 227) (pc' := 231) rfl (hb hby at_227) (by decide) (by decide)) ?_
                show Goes p.tables e below (T103.setTop (mkF m 231 #[.val (.int x0), .val (.long x1), .second, .val (.long x2), .second, .val (.int x3), .val (.int x4), .val (.int x5), .val (.int nn), .val (.int (0 : Int32)), .val (.int (0 : Int32)), .val (.int k3), .val (.int c1), .val (.int c2), .val (.int c3), u15, u16, .val (.int got), .val (.int (1 : Int32))] [(.int (1 : Int32))])) _
                have hkl := Nat.le_trans hkpt (Nat.le_of_eq (congrArg Array.size (hp103_0).symm))
                obtain ⟨fs, hr, hrun, hended, hEnd⟩ := X103.leaveW (s := s) hSpt hkl (v := some (.int (1 : Int32))) (fun h => by rw [Bd.returns] at h; cases h)
                have hv : (some (.int (1 : Int32)) : Option Value) = some (.int (1 : Int32)) := by
                  rfl
                exact ⟨_, _, retN X103 hx (t := .boolean) Bd.returns (by simp) (hb hby at_231) hr, hrun, hended, _, _, rfl, ⟨hv, N103⟩, hEnd.1, hEnd.2.1, hEnd.2.2.1, hEnd.2.2.2.mono (by decide) (by decide)⟩
              · exact absurd (by rw [hg]; simp [own_got, own_sp0, own_sp1, own_exp, hc98, hc100, hc104, hc106]) hc107
            · refine gx (XS.icmpNo X103.here hx rfl (hb hby at_198) rfl (flt hc106).1) ?_
              rcases hk3 with rfl | rfl
              · show Goes p.tables e below (T103.setTop (mkF m 201 #[.val (.int x0), .val (.long x1), .second, .val (.long x2), .second, .val (.int x3), .val (.int x4), .val (.int x5), .val (.int nn), .val (.int (0 : Int32)), .val (.int (0 : Int32)), .val (.int (0 : Int32)), .val (.int c1), .val (.int c2), .val (.int c3), u15, u16, .val (.int got), .unset] [])) _
                refine gx (XS.iload X103.here hx rfl (hb hby at_201) rfl) ?_
                refine gx (XS.iload X103.here hx rfl (hb hby at_203) rfl) ?_
                refine gx (XS.iloadN X103.here hx rfl (hb hby at_205) rfl) ?_
                obtain ⟨_, _, ⟨T108, L108, k108, n108⟩, -, X108, ⟨Lc108, hQ108, l108, y108, z108⟩, st108⟩ := Jvm.LawKit.callS X103 hx (y := own_n18) hown (mvT hZ (own_hw hw 260 rfl)) (mvT hZ (own_hw hw 261 rfl)) (mvT hZ (own_hw hw 33 rfl)) (mvT hZ (own_hw hw 262 rfl)) (by decide) (backOf (W := 0) (own_rmRF0 l Z a0 hw [] c3 x0 hpt n0 Zpt ) hZ (own_hw hw 262 rfl) (own_hw hw 33 rfl) (by decide) (by decide)) (g := (mkF m 206 #[.val (.int x0), .val (.long x1), .second, .val (.long x2), .second, .val (.int x3), .val (.int x4), .val (.int x5), .val (.int nn), .val (.int (0 : Int32)), .val (.int (0 : Int32)), .val (.int (0 : Int32)), .val (.int c1), .val (.int c2), .val (.int c3), u15, u16, .val (.int got), .unset] [(.int x0), (.int c3), (.int (0 : Int32))])) rfl (by rw [hml]; rfl) (argsL := [(.int (0 : Int32)), (.int c3), (.int x0)]) (rest := []) (lenOf own_pd_pZIIqZ rfl) rfl (own_W rfl rfl) (hb hby at_206) (fun _ _ => ⟨rfl, hp103_0, (by decide : 32 + 0 ≤ _), (by decide : 1152 + 0 ≤ _)⟩)
                dsimp only [Pt.U, Pt.locs, Pt.cells, Pt.slots] at X108 l108 y108 z108 st108 hQ108
                subst l108 y108 z108
                obtain ⟨hv108, Nq108, hp108_0⟩ := hQ108
                have N108 := Fr.app N103 Nq108
                by_cases hc109 : x0 < c3
                · rw [if_pos hc109] at hv108
                  subst hv108
                  refine Goes.to st108 ?_
                  refine gx (XS.ifYes X108.here hx rfl (pc0 := 209) (pc' := 216) rfl (hb hby at_209) rfl ((if0 _ _).trans (teq (by decide : (0 : Int32) = (0 : Int32))).1) (by decide) (by decide)) ?_
                  refine gx (XS.iconst X108.here hx rfl (hb hby at_216)) ?_
                  refine gx (XS.istore X108.here hx rfl (hb hby at_217) rfl (l' := #[.val (.int x0), .val (.long x1), .second, .val (.long x2), .second, .val (.int x3), .val (.int x4), .val (.int x5), .val (.int nn), .val (.int (0 : Int32)), .val (.int (0 : Int32)), .val (.int (0 : Int32)), .val (.int c1), .val (.int c2), .val (.int c3), u15, u16, .val (.int got), .val (.int (0 : Int32))]) rfl) ?_
                  refine gx (XS.iload X108.here hx rfl (hb hby at_219) rfl) ?_
                  show Goes p.tables e below (T108.setTop (mkF m 221 #[.val (.int x0), .val (.long x1), .second, .val (.long x2), .second, .val (.int x3), .val (.int x4), .val (.int x5), .val (.int nn), .val (.int (0 : Int32)), .val (.int (0 : Int32)), .val (.int (0 : Int32)), .val (.int c1), .val (.int c2), .val (.int c3), u15, u16, .val (.int got), .val (.int (0 : Int32))] [(.int got)])) _
                  refine gx (XS.iload X108.here hx rfl (hb hby at_221) rfl) ?_
                  by_cases hc110 : got = (0 : Int32)
                  · refine gx (XS.icmpNo X108.here hx rfl (hb hby at_223) rfl (teq hc110).2) ?_
                    refine gx (XS.iconst X108.here hx rfl (hb hby at_226)) ?_
                    refine gx (XS.goto X108.here hx rfl (pc0 := 227) (pc' := 231) rfl (hb hby at_227) (by decide) (by decide)) ?_
                    show Goes p.tables e below (T108.setTop (mkF m 231 #[.val (.int x0), .val (.long x1), .second, .val (.long x2), .second, .val (.int x3), .val (.int x4), .val (.int x5), .val (.int nn), .val (.int (0 : Int32)), .val (.int (0 : Int32)), .val (.int (0 : Int32)), .val (.int c1), .val (.int c2), .val (.int c3), u15, u16, .val (.int got), .val (.int (0 : Int32))] [(.int (1 : Int32))])) _
                    have hkl := Nat.le_trans hkpt (Nat.le_of_eq (congrArg Array.size (hp108_0).symm))
                    obtain ⟨fs, hr, hrun, hended, hEnd⟩ := X108.leaveW (s := s) hSpt hkl (v := some (.int (1 : Int32))) (fun h => by rw [Bd.returns] at h; cases h)
                    have hv : (some (.int (1 : Int32)) : Option Value) = some (.int (1 : Int32)) := by
                      rfl
                    exact ⟨_, _, retN X108 hx (t := .boolean) Bd.returns (by simp) (hb hby at_231) hr, hrun, hended, _, _, rfl, ⟨hv, N108⟩, hEnd.1, hEnd.2.1, hEnd.2.2.1, hEnd.2.2.2.mono (by decide) (by decide)⟩
                  · exact absurd (by rw [hg]; simp [own_got, own_sp0, own_sp1, own_exp, hc98, hc100, hc104, hc106, hc109]) hc110
                · rw [if_neg hc109] at hv108
                  subst hv108
                  refine Goes.to st108 ?_
                  refine gx (XS.ifNo X108.here hx rfl (hb hby at_209) rfl ((if0 _ _).trans (feq (by decide : ¬ ((1 : Int32) = (0 : Int32)))).1)) ?_
                  refine gx (XS.iconst X108.here hx rfl (hb hby at_212)) ?_
                  refine gx (XS.goto X108.here hx rfl (pc0 := 213) (pc' := 217) rfl (hb hby at_213) (by decide) (by decide)) ?_
                  refine gx (XS.istore X108.here hx rfl (hb hby at_217) rfl (l' := #[.val (.int x0), .val (.long x1), .second, .val (.long x2), .second, .val (.int x3), .val (.int x4), .val (.int x5), .val (.int nn), .val (.int (0 : Int32)), .val (.int (0 : Int32)), .val (.int (0 : Int32)), .val (.int c1), .val (.int c2), .val (.int c3), u15, u16, .val (.int got), .val (.int (1 : Int32))]) rfl) ?_
                  show Goes p.tables e below (T108.setTop (mkF m 219 #[.val (.int x0), .val (.long x1), .second, .val (.long x2), .second, .val (.int x3), .val (.int x4), .val (.int x5), .val (.int nn), .val (.int (0 : Int32)), .val (.int (0 : Int32)), .val (.int (0 : Int32)), .val (.int c1), .val (.int c2), .val (.int c3), u15, u16, .val (.int got), .val (.int (1 : Int32))] [])) _
                  refine gx (XS.iload X108.here hx rfl (hb hby at_219) rfl) ?_
                  refine gx (XS.iload X108.here hx rfl (hb hby at_221) rfl) ?_
                  by_cases hc111 : got = (1 : Int32)
                  · refine gx (XS.icmpNo X108.here hx rfl (hb hby at_223) rfl (teq hc111).2) ?_
                    refine gx (XS.iconst X108.here hx rfl (hb hby at_226)) ?_
                    refine gx (XS.goto X108.here hx rfl (pc0 := 227) (pc' := 231) rfl (hb hby at_227) (by decide) (by decide)) ?_
                    show Goes p.tables e below (T108.setTop (mkF m 231 #[.val (.int x0), .val (.long x1), .second, .val (.long x2), .second, .val (.int x3), .val (.int x4), .val (.int x5), .val (.int nn), .val (.int (0 : Int32)), .val (.int (0 : Int32)), .val (.int (0 : Int32)), .val (.int c1), .val (.int c2), .val (.int c3), u15, u16, .val (.int got), .val (.int (1 : Int32))] [(.int (1 : Int32))])) _
                    have hkl := Nat.le_trans hkpt (Nat.le_of_eq (congrArg Array.size (hp108_0).symm))
                    obtain ⟨fs, hr, hrun, hended, hEnd⟩ := X108.leaveW (s := s) hSpt hkl (v := some (.int (1 : Int32))) (fun h => by rw [Bd.returns] at h; cases h)
                    have hv : (some (.int (1 : Int32)) : Option Value) = some (.int (1 : Int32)) := by
                      rfl
                    exact ⟨_, _, retN X108 hx (t := .boolean) Bd.returns (by simp) (hb hby at_231) hr, hrun, hended, _, _, rfl, ⟨hv, N108⟩, hEnd.1, hEnd.2.1, hEnd.2.2.1, hEnd.2.2.2.mono (by decide) (by decide)⟩
                  · exact absurd (by rw [hg]; simp [own_got, own_sp0, own_sp1, own_exp, hc98, hc100, hc104, hc106, hc109]) hc111
              · show Goes p.tables e below (T103.setTop (mkF m 201 #[.val (.int x0), .val (.long x1), .second, .val (.long x2), .second, .val (.int x3), .val (.int x4), .val (.int x5), .val (.int nn), .val (.int (0 : Int32)), .val (.int (0 : Int32)), .val (.int (1 : Int32)), .val (.int c1), .val (.int c2), .val (.int c3), u15, u16, .val (.int got), .unset] [])) _
                refine gx (XS.iload X103.here hx rfl (hb hby at_201) rfl) ?_
                refine gx (XS.iload X103.here hx rfl (hb hby at_203) rfl) ?_
                refine gx (XS.iloadN X103.here hx rfl (hb hby at_205) rfl) ?_
                obtain ⟨_, _, ⟨T112, L112, k112, n112⟩, -, X112, ⟨Lc112, hQ112, l112, y112, z112⟩, st112⟩ := Jvm.LawKit.callS X103 hx (y := own_n18) hown (mvT hZ (own_hw hw 260 rfl)) (mvT hZ (own_hw hw 261 rfl)) (mvT hZ (own_hw hw 33 rfl)) (mvT hZ (own_hw hw 262 rfl)) (by decide) (backOf (W := 0) (own_rmRF1 l Z a0 hw [] c3 x0 hpt n0 Zpt ) hZ (own_hw hw 262 rfl) (own_hw hw 33 rfl) (by decide) (by decide)) (g := (mkF m 206 #[.val (.int x0), .val (.long x1), .second, .val (.long x2), .second, .val (.int x3), .val (.int x4), .val (.int x5), .val (.int nn), .val (.int (0 : Int32)), .val (.int (0 : Int32)), .val (.int (1 : Int32)), .val (.int c1), .val (.int c2), .val (.int c3), u15, u16, .val (.int got), .unset] [(.int x0), (.int c3), (.int (1 : Int32))])) rfl (by rw [hml]; rfl) (argsL := [(.int (1 : Int32)), (.int c3), (.int x0)]) (rest := []) (lenOf own_pd_pZIIqZ rfl) rfl (own_W rfl rfl) (hb hby at_206) (fun _ _ => ⟨rfl, hp103_0, (by decide : 32 + 0 ≤ _), (by decide : 1152 + 0 ≤ _)⟩)
                dsimp only [Pt.U, Pt.locs, Pt.cells, Pt.slots] at X112 l112 y112 z112 st112 hQ112
                subst l112 y112 z112
                obtain ⟨hv112, Nq112, hp112_0⟩ := hQ112
                have N112 := Fr.app N103 Nq112
                subst hv112
                refine Goes.to st112 ?_
                refine gx (XS.ifYes X112.here hx rfl (pc0 := 209) (pc' := 216) rfl (hb hby at_209) rfl ((if0 _ _).trans (teq (by decide : (0 : Int32) = (0 : Int32))).1) (by decide) (by decide)) ?_
                refine gx (XS.iconst X112.here hx rfl (hb hby at_216)) ?_
                refine gx (XS.istore X112.here hx rfl (hb hby at_217) rfl (l' := #[.val (.int x0), .val (.long x1), .second, .val (.long x2), .second, .val (.int x3), .val (.int x4), .val (.int x5), .val (.int nn), .val (.int (0 : Int32)), .val (.int (0 : Int32)), .val (.int (1 : Int32)), .val (.int c1), .val (.int c2), .val (.int c3), u15, u16, .val (.int got), .val (.int (0 : Int32))]) rfl) ?_
                refine gx (XS.iload X112.here hx rfl (hb hby at_219) rfl) ?_
                show Goes p.tables e below (T112.setTop (mkF m 221 #[.val (.int x0), .val (.long x1), .second, .val (.long x2), .second, .val (.int x3), .val (.int x4), .val (.int x5), .val (.int nn), .val (.int (0 : Int32)), .val (.int (0 : Int32)), .val (.int (1 : Int32)), .val (.int c1), .val (.int c2), .val (.int c3), u15, u16, .val (.int got), .val (.int (0 : Int32))] [(.int got)])) _
                refine gx (XS.iload X112.here hx rfl (hb hby at_221) rfl) ?_
                by_cases hc113 : got = (0 : Int32)
                · refine gx (XS.icmpNo X112.here hx rfl (hb hby at_223) rfl (teq hc113).2) ?_
                  refine gx (XS.iconst X112.here hx rfl (hb hby at_226)) ?_
                  refine gx (XS.goto X112.here hx rfl (pc0 := 227) (pc' := 231) rfl (hb hby at_227) (by decide) (by decide)) ?_
                  show Goes p.tables e below (T112.setTop (mkF m 231 #[.val (.int x0), .val (.long x1), .second, .val (.long x2), .second, .val (.int x3), .val (.int x4), .val (.int x5), .val (.int nn), .val (.int (0 : Int32)), .val (.int (0 : Int32)), .val (.int (1 : Int32)), .val (.int c1), .val (.int c2), .val (.int c3), u15, u16, .val (.int got), .val (.int (0 : Int32))] [(.int (1 : Int32))])) _
                  have hkl := Nat.le_trans hkpt (Nat.le_of_eq (congrArg Array.size (hp112_0).symm))
                  obtain ⟨fs, hr, hrun, hended, hEnd⟩ := X112.leaveW (s := s) hSpt hkl (v := some (.int (1 : Int32))) (fun h => by rw [Bd.returns] at h; cases h)
                  have hv : (some (.int (1 : Int32)) : Option Value) = some (.int (1 : Int32)) := by
                    rfl
                  exact ⟨_, _, retN X112 hx (t := .boolean) Bd.returns (by simp) (hb hby at_231) hr, hrun, hended, _, _, rfl, ⟨hv, N112⟩, hEnd.1, hEnd.2.1, hEnd.2.2.1, hEnd.2.2.2.mono (by decide) (by decide)⟩
                · exact absurd (by rw [hg]; simp [own_got, own_sp0, own_sp1, own_exp, hc98, hc100, hc104, hc106]) hc113
        · show Goes p.tables e below (T97.setTop (mkF m 184 #[.val (.int x0), .val (.long x1), .second, .val (.long x2), .second, .val (.int x3), .val (.int x4), .val (.int x5), .val (.int nn), .val (.int (0 : Int32)), .val (.int (1 : Int32)), .val (.int k3), .val (.int c1), .val (.int c2), .val (.int c3), u15, u16, .val (.int got), .unset] [])) _
          refine gx (XS.iload X97.here hx rfl (hb hby at_184) rfl) ?_
          refine gx (XS.iload X97.here hx rfl (hb hby at_186) rfl) ?_
          refine gx (XS.iloadN X97.here hx rfl (hb hby at_188) rfl) ?_
          obtain ⟨_, _, ⟨T114, L114, k114, n114⟩, -, X114, ⟨Lc114, hQ114, l114, y114, z114⟩, st114⟩ := Jvm.LawKit.callS X97 hx (y := own_n18) hown (mvT hZ (own_hw hw 260 rfl)) (mvT hZ (own_hw hw 261 rfl)) (mvT hZ (own_hw hw 33 rfl)) (mvT hZ (own_hw hw 262 rfl)) (by decide) (backOf (W := 0) (own_rmRF1 l Z a0 hw [] c2 x0 hpt n0 Zpt ) hZ (own_hw hw 262 rfl) (own_hw hw 33 rfl) (by decide) (by decide)) (g := (mkF m 189 #[.val (.int x0), .val (.long x1), .second, .val (.long x2), .second, .val (.int x3), .val (.int x4), .val (.int x5), .val (.int nn), .val (.int (0 : Int32)), .val (.int (1 : Int32)), .val (.int k3), .val (.int c1), .val (.int c2), .val (.int c3), u15, u16, .val (.int got), .unset] [(.int x0), (.int c2), (.int (1 : Int32))])) rfl (by rw [hml]; rfl) (argsL := [(.int (1 : Int32)), (.int c2), (.int x0)]) (rest := []) (lenOf own_pd_pZIIqZ rfl) rfl (own_W rfl rfl) (hb hby at_189) (fun _ _ => ⟨rfl, hp97_0, (by decide : 32 + 0 ≤ _), (by decide : 1152 + 0 ≤ _)⟩)
          dsimp only [Pt.U, Pt.locs, Pt.cells, Pt.slots] at X114 l114 y114 z114 st114 hQ114
          subst l114 y114 z114
          obtain ⟨hv114, Nq114, hp114_0⟩ := hQ114
          have N114 := Fr.app N97 Nq114
          subst hv114
          refine Goes.to st114 ?_
          refine gx (XS.ifYes X114.here hx rfl (pc0 := 192) (pc' := 216) rfl (hb hby at_192) rfl ((if0 _ _).trans (teq (by decide : (0 : Int32) = (0 : Int32))).1) (by decide) (by decide)) ?_
          refine gx (XS.iconst X114.here hx rfl (hb hby at_216)) ?_
          refine gx (XS.istore X114.here hx rfl (hb hby at_217) rfl (l' := #[.val (.int x0), .val (.long x1), .second, .val (.long x2), .second, .val (.int x3), .val (.int x4), .val (.int x5), .val (.int nn), .val (.int (0 : Int32)), .val (.int (1 : Int32)), .val (.int k3), .val (.int c1), .val (.int c2), .val (.int c3), u15, u16, .val (.int got), .val (.int (0 : Int32))]) rfl) ?_
          refine gx (XS.iload X114.here hx rfl (hb hby at_219) rfl) ?_
          show Goes p.tables e below (T114.setTop (mkF m 221 #[.val (.int x0), .val (.long x1), .second, .val (.long x2), .second, .val (.int x3), .val (.int x4), .val (.int x5), .val (.int nn), .val (.int (0 : Int32)), .val (.int (1 : Int32)), .val (.int k3), .val (.int c1), .val (.int c2), .val (.int c3), u15, u16, .val (.int got), .val (.int (0 : Int32))] [(.int got)])) _
          refine gx (XS.iload X114.here hx rfl (hb hby at_221) rfl) ?_
          by_cases hc115 : got = (0 : Int32)
          · refine gx (XS.icmpNo X114.here hx rfl (hb hby at_223) rfl (teq hc115).2) ?_
            refine gx (XS.iconst X114.here hx rfl (hb hby at_226)) ?_
            refine gx (XS.goto X114.here hx rfl (pc0 := 227) (pc' := 231) rfl (hb hby at_227) (by decide) (by decide)) ?_
            show Goes p.tables e below (T114.setTop (mkF m 231 #[.val (.int x0), .val (.long x1), .second, .val (.long x2), .second, .val (.int x3), .val (.int x4), .val (.int x5), .val (.int nn), .val (.int (0 : Int32)), .val (.int (1 : Int32)), .val (.int k3), .val (.int c1), .val (.int c2), .val (.int c3), u15, u16, .val (.int got), .val (.int (0 : Int32))] [(.int (1 : Int32))])) _
            have hkl := Nat.le_trans hkpt (Nat.le_of_eq (congrArg Array.size (hp114_0).symm))
            obtain ⟨fs, hr, hrun, hended, hEnd⟩ := X114.leaveW (s := s) hSpt hkl (v := some (.int (1 : Int32))) (fun h => by rw [Bd.returns] at h; cases h)
            have hv : (some (.int (1 : Int32)) : Option Value) = some (.int (1 : Int32)) := by
              rfl
            exact ⟨_, _, retN X114 hx (t := .boolean) Bd.returns (by simp) (hb hby at_231) hr, hrun, hended, _, _, rfl, ⟨hv, N114⟩, hEnd.1, hEnd.2.1, hEnd.2.2.1, hEnd.2.2.2.mono (by decide) (by decide)⟩
          · exact absurd (by rw [hg]; simp [own_got, own_sp0, own_sp1, own_exp, hc98, hc100]) hc115
  · refine gx (XS.iload Xpt.here hx rfl (hb hby at_167) rfl) ?_
    refine gx (XS.iload Xpt.here hx rfl (hb hby at_169) rfl) ?_
    refine gx (XS.iloadN Xpt.here hx rfl (hb hby at_171) rfl) ?_
    obtain ⟨_, _, ⟨T116, L116, k116, n116⟩, -, X116, ⟨Lc116, hQ116, l116, y116, z116⟩, st116⟩ := Jvm.LawKit.callS Xpt hx (y := own_n18) hown (mvT hZ (own_hw hw 260 rfl)) (mvT hZ (own_hw hw 261 rfl)) (mvT hZ (own_hw hw 33 rfl)) (mvT hZ (own_hw hw 262 rfl)) (by decide) (backOf (W := 0) (own_rmRF1 l Z a0 hw [] c1 x0 hpt n0 Zpt ) hZ (own_hw hw 262 rfl) (own_hw hw 33 rfl) (by decide) (by decide)) (g := (mkF m 172 #[.val (.int x0), .val (.long x1), .second, .val (.long x2), .second, .val (.int x3), .val (.int x4), .val (.int x5), .val (.int nn), .val (.int (1 : Int32)), .val (.int k2), .val (.int k3), .val (.int c1), .val (.int c2), .val (.int c3), u15, u16, .val (.int got), .unset] [(.int x0), (.int c1), (.int (1 : Int32))])) rfl (by rw [hml]; rfl) (argsL := [(.int (1 : Int32)), (.int c1), (.int x0)]) (rest := []) (lenOf own_pd_pZIIqZ rfl) rfl (own_W rfl rfl) (hb hby at_172) (fun _ _ => ⟨rfl, Ept, (by decide : 32 + 0 ≤ _), (by decide : 1152 + 0 ≤ _)⟩)
    dsimp only [Pt.U, Pt.locs, Pt.cells, Pt.slots] at X116 l116 y116 z116 st116 hQ116
    subst l116 y116 z116
    obtain ⟨hv116, Nq116, hp116_0⟩ := hQ116
    have N116 := Fr.app Npt Nq116
    subst hv116
    refine Goes.to st116 ?_
    refine gx (XS.ifYes X116.here hx rfl (pc0 := 175) (pc' := 216) rfl (hb hby at_175) rfl ((if0 _ _).trans (teq (by decide : (0 : Int32) = (0 : Int32))).1) (by decide) (by decide)) ?_
    refine gx (XS.iconst X116.here hx rfl (hb hby at_216)) ?_
    refine gx (XS.istore X116.here hx rfl (hb hby at_217) rfl (l' := #[.val (.int x0), .val (.long x1), .second, .val (.long x2), .second, .val (.int x3), .val (.int x4), .val (.int x5), .val (.int nn), .val (.int (1 : Int32)), .val (.int k2), .val (.int k3), .val (.int c1), .val (.int c2), .val (.int c3), u15, u16, .val (.int got), .val (.int (0 : Int32))]) rfl) ?_
    refine gx (XS.iload X116.here hx rfl (hb hby at_219) rfl) ?_
    show Goes p.tables e below (T116.setTop (mkF m 221 #[.val (.int x0), .val (.long x1), .second, .val (.long x2), .second, .val (.int x3), .val (.int x4), .val (.int x5), .val (.int nn), .val (.int (1 : Int32)), .val (.int k2), .val (.int k3), .val (.int c1), .val (.int c2), .val (.int c3), u15, u16, .val (.int got), .val (.int (0 : Int32))] [(.int got)])) _
    refine gx (XS.iload X116.here hx rfl (hb hby at_221) rfl) ?_
    by_cases hc117 : got = (0 : Int32)
    · refine gx (XS.icmpNo X116.here hx rfl (hb hby at_223) rfl (teq hc117).2) ?_
      refine gx (XS.iconst X116.here hx rfl (hb hby at_226)) ?_
      refine gx (XS.goto X116.here hx rfl (pc0 := 227) (pc' := 231) rfl (hb hby at_227) (by decide) (by decide)) ?_
      show Goes p.tables e below (T116.setTop (mkF m 231 #[.val (.int x0), .val (.long x1), .second, .val (.long x2), .second, .val (.int x3), .val (.int x4), .val (.int x5), .val (.int nn), .val (.int (1 : Int32)), .val (.int k2), .val (.int k3), .val (.int c1), .val (.int c2), .val (.int c3), u15, u16, .val (.int got), .val (.int (0 : Int32))] [(.int (1 : Int32))])) _
      have hkl := Nat.le_trans hkpt (Nat.le_of_eq (congrArg Array.size (hp116_0).symm))
      obtain ⟨fs, hr, hrun, hended, hEnd⟩ := X116.leaveW (s := s) hSpt hkl (v := some (.int (1 : Int32))) (fun h => by rw [Bd.returns] at h; cases h)
      have hv : (some (.int (1 : Int32)) : Option Value) = some (.int (1 : Int32)) := by
        rfl
      exact ⟨_, _, retN X116 hx (t := .boolean) Bd.returns (by simp) (hb hby at_231) hr, hrun, hended, _, _, rfl, ⟨hv, N116⟩, hEnd.1, hEnd.2.1, hEnd.2.2.1, hEnd.2.2.2.mono (by decide) (by decide)⟩
    · exact absurd (by rw [hg]; simp [own_got, own_sp0, own_sp1, own_exp]) hc117
set_option maxRecDepth 65536 in
set_option maxHeartbeats 40000000 in
theorem own_pt_own_rm0_78 (l : Launch) (Z : State) (a0 : Array Value) (hw : ∀ d ∈ tables_1, d.before a0 Z = true) (ws : List Jvm.Cond) (x0 : Int32) (x1 : Int64) (x2 : Int64) (x3 : Int32) (x4 : Int32) (x5 : Int32) (aN : Addr) (aD : Addr) (kD : ClassId) (aI : Addr) (mr : Addr) (h0 : Heap) (n0 : Nat) (Z0 : n0 ≤ h0.size) (hPm : own_P_own_rm0 Z a0 x0 x1 x2 x3 x4 x5 aN aD kD aI mr h0 n0)
    {p : Program} {e : Env} {s : State} {m : MethodId} {below : List Frame} {meth : Method} {c : Code} {s₁ : State} (Bd : BodyLoose p l x (head1 (Jvm.Cond.code x code maxLocals ret :: ws) room_1) code maxLocals ret e s m #[(.int x0), (.long x1), (.long x2), (.int x3), (.int x4), (.int x5)] below meth c s₁) (hml0 : c.maxLocals = maxLocals) (hh : s.heap = h0) 
    (b8 : Addr) (ru_23 : Addr) (b46 : Addr) (li_62 : Addr) (k2 : Int32) (k3 : Int32) (nn : Int32) (c1 : Int32) (c2 : Int32) (c3 : Int32)
    (Tpt : State) (lpt : List Loc) (vmpt : Vm) (hZ : Z.Warmed39 vmpt) (hown : vmpt.findClass "com/example/wee_table/weetable/model/IntersectionExpiresPinLaw" = some m.cls) (hpt : Heap)
    (Xpt : Stand p l e room_1 (s.setVm vmpt) m #[(.int x0), (.long x1), (.long x2), (.int x3), (.int x4), (.int x5)] below meth c Tpt lpt 8 82) (Ept : Tpt.heap = hpt) (Npt : Fr n0 lpt) (Zpt : n0 ≤ hpt.size) (kpt : Nat) (hSpt : s.Since vmpt kpt) (hkpt : kpt ≤ hpt.size) (Rpt : CHr Z own_EL s.vm h0 vmpt hpt)
    (Pf78_1 : Exa Z hpt ru_23 "com/example/wee_table/weetable/model/GcRule$MaxVersions")
    (Pf78_2 : Fld Z hpt ru_23 "com/example/wee_table/weetable/model/GcRule$MaxVersions" "count" "I" (.int c1))
    (Pf78_8 : Exa Z hpt b46 "com/example/wee_table/weetable/model/GcRule$Intersection")
    (Pf78_9 : Fld Z hpt b46 "com/example/wee_table/weetable/model/GcRule$Intersection" "rules" "Ljava/util/List;" (.ref li_62))
    (Pf78_10 : Exa Z hpt li_62 "java/util/ImmutableCollections$List12")
    (Pf78_11 : Fld Z hpt li_62 "java/util/ImmutableCollections$List12" "e0" "Ljava/lang/Object;" (.ref ru_23))
    (Pf78_12 : Fld Z hpt li_62 "java/util/ImmutableCollections$List12" "e1" "Ljava/lang/Object;" (.ref aI))
    (Old78 : Old Z n0 hpt)
    (hk2 : k2 = (0 : Int32) ∨ k2 = (1 : Int32))
    (hk3 : k3 = (0 : Int32) ∨ k3 = (1 : Int32))
    (hge1 : ¬ (c1 < (1 : Int32)))
    (hge2 : ¬ (c2 < (1 : Int32)))
    (hge3 : ¬ (c3 < (1 : Int32)))
    (Ph78_50 : nn < (2 : Int32))
    (Ph78_51 : nn < (3 : Int32))
    : Goes p.tables e below (Tpt.setTop (mkF m 155 #[.val (.int x0), .val (.long x1), .second, .val (.long x2), .second, .val (.int x3), .val (.int x4), .val (.int x5), .val (.int nn), .val (.int (0 : Int32)), .val (.int k2), .val (.int k3), .val (.int c1), .val (.int c2), .val (.int c3), .val (.ref b8), .unset, .unset, .unset] [(.ref b46)])) (own_RW below s (own_Q_own_rm0 Z x0 x1 x2 x3 x4 x5 aN aD kD aI mr h0 n0) 32 1152) := by
  obtain ⟨O0, hCH0, SN, SD, SE, EN, XD, VD, EI, Mr⟩ := id hPm
  have hx := Bd.exec
  have hby := Bd.bytes
  have hml : c.maxLocals = 19 := hml0
  have hnm := (name_of_methodNamed Bd.named Bd.method).1
  have own_wS' : ∀ a ∈ Bundle.stringAtoms, a.before a0 Z = true := own_wS hw
  have hEL := own_EW hw
  refine gx (XS.astore Xpt.here hx rfl (hb hby at_155) rfl rfl (l' := #[.val (.int x0), .val (.long x1), .second, .val (.long x2), .second, .val (.int x3), .val (.int x4), .val (.int x5), .val (.int nn), .val (.int (0 : Int32)), .val (.int k2), .val (.int k3), .val (.int c1), .val (.int c2), .val (.int c3), .val (.ref b8), .val (.ref b46), .unset, .unset]) rfl) ?_
  refine gx (XS.aload Xpt.here hx rfl (hb hby at_157) rfl rfl) ?_
  refine gx (XS.iloadN Xpt.here hx rfl (hb hby at_159) rfl) ?_
  refine gx (XS.lloadN Xpt.here hx rfl (hb hby at_160) rfl) ?_
  refine gx (XS.lloadN Xpt.here hx rfl (hb hby at_161) rfl) ?_
  obtain ⟨cq79, kq79, q79a, q79b, q79c⟩ := isOf (s := s.setVm vmpt) hZ Ept Pf78_8
  obtain ⟨_, _, ⟨T79, L79, k79, n79⟩, -, X79, ⟨Lc79, hQ79, l79, y79, z79⟩, st79⟩ := Xpt.virtualBack hx (y := own_n48) (z := own_n48) hown (mvT hZ (own_hw hw 189 rfl)) (mvT hZ (own_hw hw 190 rfl)) (notFace_of_selects (args := #[]) (mvT hZ (own_hw hw 192 rfl))) (mvT hZ (own_hw hw 192 rfl)) (mvT hZ (own_hw hw 191 rfl)) (by decide) (backOf (W := 0) (own_rmEX1 l Z a0 hw [] b46 x0 x1 x2 li_62 ru_23 aI (some c1) hpt n0 Zpt Pf78_8 Pf78_9 Pf78_10 Pf78_11 Pf78_12 (SE.ext Old78.2) (Or.inr ⟨_, rfl, Pf78_1, Pf78_2⟩)) hZ (own_hw hw 193 rfl) (own_hw hw 79 rfl) (by decide) (by decide)) q79a q79c (g := (mkF m 162 #[.val (.int x0), .val (.long x1), .second, .val (.long x2), .second, .val (.int x3), .val (.int x4), .val (.int x5), .val (.int nn), .val (.int (0 : Int32)), .val (.int k2), .val (.int k3), .val (.int c1), .val (.int c2), .val (.int c3), .val (.ref b8), .val (.ref b46), .unset, .unset] [(.long x2), (.long x1), (.int x0), (.ref b46)])) rfl (by rw [hml]; rfl) (Steps.refl _) (argsL := [(.int x0), (.long x1), (.long x2)]) (rest := []) (lenOf own_pd_pIJJqZ rfl) rfl (own_W rfl rfl) (hb hby at_162) (fun _ _ => ⟨rfl, Ept, (by decide : 8 + 1 ≤ _), (by decide : 82 + 4 ≤ _)⟩)
  dsimp only [Pt.U, Pt.locs, Pt.cells, Pt.slots] at X79 l79 y79 z79 st79 hQ79
  subst l79 y79 z79
  obtain ⟨hv79, Nq79, Kq79⟩ := hQ79
  have N79 := Fr.app Npt Nq79
  have R80 := Rpt.trans (CHr.keep Kq79 sf0 Rpt.1)
  have hk81 := Nat.le_trans hkpt Kq79.1
  have Zk79 : n0 ≤ T79.heap.size := Nat.le_trans Zpt Kq79.1
  subst hv79
  refine Goes.tr st79 ?_
  refine gx (XS.istore X79.here hx rfl (hb hby at_165) rfl (l' := #[.val (.int x0), .val (.long x1), .second, .val (.long x2), .second, .val (.int x3), .val (.int x4), .val (.int x5), .val (.int nn), .val (.int (0 : Int32)), .val (.int k2), .val (.int k3), .val (.int c1), .val (.int c2), .val (.int c3), .val (.ref b8), .val (.ref b46), .val (.int (own_exp [(some c1)] x0)), .unset]) rfl) ?_
  exact own_pt_own_rm0_96 l Z a0 hw ws x0 x1 x2 x3 x4 x5 aN aD kD aI mr h0 n0 Z0 hPm Bd hml0 hh  (own_exp [(some c1)] x0) (.val (.ref b8)) (.val (.ref b46)) (0 : Int32) k2 k3 nn c1 c2 c3 T79 _ vmpt hZ hown T79.heap (own_wk X79 (by decide) (by decide)) rfl N79 Zk79  _ hSpt hk81 R80 (Or.inl rfl) hk2 hk3 (by simp [own_got, own_sp0, own_sp1, Ph78_50, Ph78_51])
set_option maxRecDepth 65536 in
set_option maxHeartbeats 40000000 in
theorem own_pt_own_rm0_147 (l : Launch) (Z : State) (a0 : Array Value) (hw : ∀ d ∈ tables_1, d.before a0 Z = true) (ws : List Jvm.Cond) (x0 : Int32) (x1 : Int64) (x2 : Int64) (x3 : Int32) (x4 : Int32) (x5 : Int32) (aN : Addr) (aD : Addr) (kD : ClassId) (aI : Addr) (mr : Addr) (h0 : Heap) (n0 : Nat) (Z0 : n0 ≤ h0.size) (hPm : own_P_own_rm0 Z a0 x0 x1 x2 x3 x4 x5 aN aD kD aI mr h0 n0)
    {p : Program} {e : Env} {s : State} {m : MethodId} {below : List Frame} {meth : Method} {c : Code} {s₁ : State} (Bd : BodyLoose p l x (head1 (Jvm.Cond.code x code maxLocals ret :: ws) room_1) code maxLocals ret e s m #[(.int x0), (.long x1), (.long x2), (.int x3), (.int x4), (.int x5)] below meth c s₁) (hml0 : c.maxLocals = maxLocals) (hh : s.heap = h0) 
    (b8 : Addr) (ru_23 : Addr) (ea_32 : Addr) (ru_118 : Addr) (kE_32 : ClassId) (k3 : Int32) (nn : Int32) (c1 : Int32) (c2 : Int32) (c3 : Int32)
    (Tpt : State) (lpt : List Loc) (vmpt : Vm) (hZ : Z.Warmed39 vmpt) (hown : vmpt.findClass "com/example/wee_table/weetable/model/IntersectionExpiresPinLaw" = some m.cls) (hpt : Heap)
    (Xpt : Stand p l e room_1 (s.setVm vmpt) m #[(.int x0), (.long x1), (.long x2), (.int x3), (.int x4), (.int x5)] below meth c Tpt lpt 4 15) (Ept : Tpt.heap = hpt) (Npt : Fr n0 lpt) (Zpt : n0 ≤ hpt.size) (kpt : Nat) (hSpt : s.Since vmpt kpt) (hkpt : kpt ≤ hpt.size) (Rpt : CHr Z own_EL s.vm h0 vmpt hpt)
    (Pf147_0 : Exa Z hpt b8 "java/util/ArrayList")
    (Pf147_1 : Exa Z hpt ru_23 "com/example/wee_table/weetable/model/GcRule$MaxVersions")
    (Pf147_2 : Fld Z hpt ru_23 "com/example/wee_table/weetable/model/GcRule$MaxVersions" "count" "I" (.int c1))
    (Pf147_3 : Exa Z hpt ea_32 "[Ljava/lang/Object;")
    (Pf147_4 : Exa Z hpt ru_118 "com/example/wee_table/weetable/model/GcRule$MaxVersions")
    (Pf147_5 : Fld Z hpt ru_118 "com/example/wee_table/weetable/model/GcRule$MaxVersions" "count" "I" (.int c2))
    (Pf147_6 : Fld Z hpt b8 "java/util/AbstractList" "modCount" "I" (.int (2 : Int32)))
    (Pf147_7 : Fld Z hpt b8 "java/util/ArrayList" "size" "I" (.int (2 : Int32)))
    (Pf147_8 : Fld Z hpt b8 "java/util/ArrayList" "elementData" "[Ljava/lang/Object;" (.ref ea_32))
    (Pf147_9 : Arv Z hpt ea_32 kE_32 (.object "java/lang/Object") (10 : Int32) [(.ref ru_23), (.ref ru_118), .null, .null, .null, .null, .null, .null, .null, .null] .null)
    (Pg147_13 : n0 ≤ b8)
    (Pn147_18 : b8 ≠ ru_23)
    (Pg147_19 : n0 ≤ ea_32)
    (Pn147_24 : ru_23 ≠ ea_32)
    (Po147_25 : Ovr Z kE_32 "java/lang/Object")
    (Pn147_29 : aI ≠ ru_118)
    (Pn147_30 : b8 ≠ ru_118)
    (Pn147_32 : ea_32 ≠ ru_118)
    (Old147 : Old Z n0 hpt)
    (hk3 : k3 = (0 : Int32) ∨ k3 = (1 : Int32))
    (hge1 : ¬ (c1 < (1 : Int32)))
    (hge2 : ¬ (c2 < (1 : Int32)))
    (hge3 : ¬ (c3 < (1 : Int32)))
    (Ph147_38 : ¬ (nn < (2 : Int32)))
    : Goes p.tables e below (Tpt.setTop (mkF m 127 #[.val (.int x0), .val (.long x1), .second, .val (.long x2), .second, .val (.int x3), .val (.int x4), .val (.int x5), .val (.int nn), .val (.int (0 : Int32)), .val (.int (0 : Int32)), .val (.int k3), .val (.int c1), .val (.int c2), .val (.int c3), .val (.ref b8), .unset, .unset, .unset] [])) (own_RW below s (own_Q_own_rm0 Z x0 x1 x2 x3 x4 x5 aN aD kD aI mr h0 n0) 32 1152) := by
  obtain ⟨O0, hCH0, SN, SD, SE, EN, XD, VD, EI, Mr⟩ := id hPm
  have hx := Bd.exec
  have hby := Bd.bytes
  have hml : c.maxLocals = 19 := hml0
  have hnm := (name_of_methodNamed Bd.named Bd.method).1
  have own_wS' : ∀ a ∈ Bundle.stringAtoms, a.before a0 Z = true := own_wS hw
  have hEL := own_EW hw
  refine gx (XS.iload Xpt.here hx rfl (hb hby at_127) rfl) ?_
  refine gx (XS.iconst Xpt.here hx rfl (hb hby at_129)) ?_
  by_cases hc148 : nn < (3 : Int32)
  · refine gx (XS.icmpYes Xpt.here hx rfl (pc0 := 130) (pc' := 146) rfl (hb hby at_130) rfl (tlt hc148).1 (by decide) (by decide)) ?_
    obtain ⟨T149, h149, X149, e149, E149, A149, D149, -, st149⟩ := newO Xpt hx hZ hown (own_hw hw 77 rfl) (own_hw hw 78 rfl) (own_hw hw 79 rfl) Ept (g := (mkF m 146 #[.val (.int x0), .val (.long x1), .second, .val (.long x2), .second, .val (.int x3), .val (.int x4), .val (.int x5), .val (.int nn), .val (.int (0 : Int32)), .val (.int (0 : Int32)), .val (.int k3), .val (.int c1), .val (.int c2), .val (.int c3), .val (.ref b8), .unset, .unset, .unset] [])) rfl (hb hby at_146) (by decide) (by decide)
    obtain ⟨b149, g149⟩ : ∃ z, z = hpt.size := ⟨_, rfl⟩
    rw [← g149] at A149 D149 st149
    subst e149
    have ne151 : ru_23 ≠ b149 := Nat.ne_of_lt (Nat.lt_of_lt_of_le Pf147_1.lt (Nat.le_of_eq g149.symm))
    have ne153 : ru_118 ≠ b149 := Nat.ne_of_lt (Nat.lt_of_lt_of_le Pf147_4.lt (Nat.le_of_eq g149.symm))
    have R154 := Rpt.trans (CHr.ext E149 Rpt.1)
    have hk155 := Nat.le_trans hkpt E149.1
    have O156 := Old147.ext E149
    have F157 := Pf147_0.ext E149
    have F158 := Pf147_1.ext E149
    have F159 := Pf147_2.ext E149
    have F160 := Pf147_3.ext E149
    have F161 := Pf147_4.ext E149
    have F162 := Pf147_5.ext E149
    have F164 := Pf147_7.ext E149
    have F165 := Pf147_8.ext E149
    have F166 := Pf147_9.ext E149
    have g_b149 : n0 ≤ b149 := Nat.le_trans Zpt (Nat.le_of_eq g149.symm)
    have Z149 : n0 ≤ T149.heap.size := Nat.le_trans Zpt E149.1
    have F167 : Fld Z T149.heap b149 "com/example/wee_table/weetable/model/GcRule$Intersection" "rules" "Ljava/util/List;" .null := D149 (Or.inr (own_hw hw 188 rfl)) (ty := (.object "java/util/List")) (by decide)
    refine Goes.to st149 ?_
    refine gx (XS.dup X149.here hx rfl (hb hby at_149) rfl rfl) ?_
    refine gx (XS.aload X149.here hx rfl (hb hby at_150) rfl rfl) ?_
    obtain ⟨_, _, ⟨T168, L168, k168, n168⟩, -, X168, hSn168, hgr168, ⟨Lc168, hQ168, l168, y168, z168, Rr168⟩, st168⟩ := X149.specialBackS hx (y := own_n33) rfl hown (mvT hZ (own_hw hw 80 rfl)) (mvT hZ (own_hw hw 81 rfl)) (mvT hZ (own_hw hw 82 rfl)) (by decide) (backOfSH (s := s) (vm0 := vmpt) (W := 1) (own_rmIN2 l Z a0 hw [] b149 b8 ea_32 kE_32 ru_23 ru_118 "com/example/wee_table/weetable/model/GcRule$MaxVersions" "com/example/wee_table/weetable/model/GcRule$MaxVersions" mr aI T149.heap n0 Z149 g_b149 A149 F167 F157 F164 F165 F160 F166 F158 (own_hw hw 76 rfl) F161 (own_hw hw 76 rfl) (SE.ext O156.2) Mr) hZ (own_hw hw 82 rfl) (own_hw hw 79 rfl) (by decide) (by decide) hEL R154.1) (g := (mkF m 152 #[.val (.int x0), .val (.long x1), .second, .val (.long x2), .second, .val (.int x3), .val (.int x4), .val (.int x5), .val (.int nn), .val (.int (0 : Int32)), .val (.int (0 : Int32)), .val (.int k3), .val (.int c1), .val (.int c2), .val (.int c3), .val (.ref b8), .unset, .unset, .unset] [(.ref b8), (.ref b149), (.ref b149)])) rfl (by rw [hml]; rfl) (Steps.refl _) (a := b149) (argsL := [(.ref b8)]) (rest := [(.ref b149)]) (lenOf own_pd_pLjavalutillListsqV rfl) rfl (own_W rfl rfl) (hb hby at_152) (fun _ _ => ⟨rfl, rfl, (by decide : 5 + 4 ≤ _), (by decide : 16 + 68 ≤ _)⟩)
    dsimp only [Pt.U, Pt.locs, Pt.cells, Pt.slots] at X168 hSn168 hgr168 l168 y168 z168 st168 hQ168 Rr168
    subst l168 y168 z168
    obtain ⟨X168, hS168, hZ168, hown168⟩ := rebS (s := s) hSpt hk155 X168 hSn168 hgr168 hZ hown
    have R168 := R154.trans Rr168
    have hZ := hZ168
    have hown := hown168
    obtain ⟨li_168, hv168, Nq168, sq168_0, Kq168, Qf168_0, Qf168_1, Qf168_2, Qf168_3, Qf168_4⟩ := hQ168
    have N168 := Fr.app Npt Nq168
    have O174 := O156.keep Kq168 (allS g_b149 all0)
    have F176 := F158.keep Kq168
    have F177 := F159.keep Kq168 (ninS ne151 nin0)
    have F179 := F161.keep Kq168
    have F180 := F162.keep Kq168 (ninS ne153 nin0)
    have Zk168 : n0 ≤ T168.heap.size := Nat.le_trans Z149 Kq168.1
    subst hv168
    refine Goes.tr st168 ?_
    refine gx (XS.astore X168.here hx rfl (hb hby at_155) rfl rfl (l' := #[.val (.int x0), .val (.long x1), .second, .val (.long x2), .second, .val (.int x3), .val (.int x4), .val (.int x5), .val (.int nn), .val (.int (0 : Int32)), .val (.int (0 : Int32)), .val (.int k3), .val (.int c1), .val (.int c2), .val (.int c3), .val (.ref b8), .val (.ref b149), .unset, .unset]) rfl) ?_
    refine gx (XS.aload X168.here hx rfl (hb hby at_157) rfl rfl) ?_
    refine gx (XS.iloadN X168.here hx rfl (hb hby at_159) rfl) ?_
    refine gx (XS.lloadN X168.here hx rfl (hb hby at_160) rfl) ?_
    show Goes p.tables e below (T168.setTop (mkF m 161 #[.val (.int x0), .val (.long x1), .second, .val (.long x2), .second, .val (.int x3), .val (.int x4), .val (.int x5), .val (.int nn), .val (.int (0 : Int32)), .val (.int (0 : Int32)), .val (.int k3), .val (.int c1), .val (.int c2), .val (.int c3), .val (.ref b8), .val (.ref b149), .unset, .unset] [(.long x1), (.int x0), (.ref b149)])) _
    refine gx (XS.lloadN X168.here hx rfl (hb hby at_161) rfl) ?_
    obtain ⟨cq187, kq187, q187a, q187b, q187c⟩ := isOf (s := s.setVm T168.vm) hZ rfl Qf168_0
    obtain ⟨_, _, ⟨T187, L187, k187, n187⟩, -, X187, ⟨Lc187, hQ187, l187, y187, z187⟩, st187⟩ := X168.virtualBack hx (y := own_n48) (z := own_n48) hown (mvT hZ (own_hw hw 189 rfl)) (mvT hZ (own_hw hw 190 rfl)) (notFace_of_selects (args := #[]) (mvT hZ (own_hw hw 192 rfl))) (mvT hZ (own_hw hw 192 rfl)) (mvT hZ (own_hw hw 191 rfl)) (by decide) (backOf (W := 0) (own_rmEX2 l Z a0 hw [] b149 x0 x1 x2 li_168 ru_23 ru_118 aI (some c1) (some c2) T168.heap n0 Zk168 Qf168_0 Qf168_1 Qf168_2 Qf168_3 Qf168_4 (SE.ext O174.2) (Ne.symm Pn147_29) (Or.inr ⟨_, rfl, F176, F177⟩) (Or.inr ⟨_, rfl, F179, F180⟩)) hZ (own_hw hw 193 rfl) (own_hw hw 79 rfl) (by decide) (by decide)) q187a q187c (g := (mkF m 162 #[.val (.int x0), .val (.long x1), .second, .val (.long x2), .second, .val (.int x3), .val (.int x4), .val (.int x5), .val (.int nn), .val (.int (0 : Int32)), .val (.int (0 : Int32)), .val (.int k3), .val (.int c1), .val (.int c2), .val (.int c3), .val (.ref b8), .val (.ref b149), .unset, .unset] [(.long x2), (.long x1), (.int x0), (.ref b149)])) rfl (by rw [hml]; rfl) (Steps.refl _) (argsL := [(.int x0), (.long x1), (.long x2)]) (rest := []) (lenOf own_pd_pIJJqZ rfl) rfl (own_W rfl rfl) (hb hby at_162) (fun _ _ => ⟨rfl, rfl, (by decide : 9 + 1 ≤ _), (by decide : 84 + 4 ≤ _)⟩)
    dsimp only [Pt.U, Pt.locs, Pt.cells, Pt.slots] at X187 l187 y187 z187 st187 hQ187
    subst l187 y187 z187
    obtain ⟨hv187, Nq187, Kq187⟩ := hQ187
    have N187 := Fr.app N168 Nq187
    have R188 := R168.trans (CHr.keep Kq187 sf0 R168.1)
    have hk189 := Nat.le_trans (Nat.le_refl _) Kq187.1
    have Zk187 : n0 ≤ T187.heap.size := Nat.le_trans Zk168 Kq187.1
    subst hv187
    refine Goes.tr st187 ?_
    refine gx (XS.istore X187.here hx rfl (hb hby at_165) rfl (l' := #[.val (.int x0), .val (.long x1), .second, .val (.long x2), .second, .val (.int x3), .val (.int x4), .val (.int x5), .val (.int nn), .val (.int (0 : Int32)), .val (.int (0 : Int32)), .val (.int k3), .val (.int c1), .val (.int c2), .val (.int c3), .val (.ref b8), .val (.ref b149), .val (.int (own_exp [(some c1), (some c2)] x0)), .unset]) rfl) ?_
    exact own_pt_own_rm0_96 l Z a0 hw ws x0 x1 x2 x3 x4 x5 aN aD kD aI mr h0 n0 Z0 hPm Bd hml0 hh  (own_exp [(some c1), (some c2)] x0) (.val (.ref b8)) (.val (.ref b149)) (0 : Int32) (0 : Int32) k3 nn c1 c2 c3 T187 _ T168.vm hZ hown T187.heap (own_wk X187 (by decide) (by decide)) rfl N187 Zk187  _ hS168 hk189 R188 (Or.inl rfl) (Or.inl rfl) hk3 (by simp [own_got, own_sp0, own_sp1, Ph147_38, hc148])
  · refine gx (XS.icmpNo Xpt.here hx rfl (hb hby at_130) rfl (flt hc148).1) ?_
    refine gx (XS.aload Xpt.here hx rfl (hb hby at_133) rfl rfl) ?_
    rcases hk3 with rfl | rfl
    · refine gx (XS.iload Xpt.here hx rfl (hb hby at_135) rfl) ?_
      show Goes p.tables e below (Tpt.setTop (mkF m 137 #[.val (.int x0), .val (.long x1), .second, .val (.long x2), .second, .val (.int x3), .val (.int x4), .val (.int x5), .val (.int nn), .val (.int (0 : Int32)), .val (.int (0 : Int32)), .val (.int (0 : Int32)), .val (.int c1), .val (.int c2), .val (.int c3), .val (.ref b8), .unset, .unset, .unset] [(.int (0 : Int32)), (.ref b8)])) _
      refine gx (XS.iload Xpt.here hx rfl (hb hby at_137) rfl) ?_
      obtain ⟨_, _, ⟨T207, L207, k207, n207⟩, -, X207, ⟨Lc207, hQ207, l207, y207, z207⟩, st207⟩ := Jvm.LawKit.callS Xpt hx (y := own_n15) hown (mvT hZ (own_hw hw 31 rfl)) (mvT hZ (own_hw hw 32 rfl)) (mvT hZ (own_hw hw 33 rfl)) (mvT hZ (own_hw hw 34 rfl)) (by decide) (backOf (W := 1) (own_rmRU0 l Z a0 hw [] c3 hpt n0 Zpt hge3) hZ (own_hw hw 34 rfl) (own_hw hw 33 rfl) (by decide) (by decide)) (g := (mkF m 139 #[.val (.int x0), .val (.long x1), .second, .val (.long x2), .second, .val (.int x3), .val (.int x4), .val (.int x5), .val (.int nn), .val (.int (0 : Int32)), .val (.int (0 : Int32)), .val (.int (0 : Int32)), .val (.int c1), .val (.int c2), .val (.int c3), .val (.ref b8), .unset, .unset, .unset] [(.int c3), (.int (0 : Int32)), (.ref b8)])) rfl (by rw [hml]; rfl) (argsL := [(.int (0 : Int32)), (.int c3)]) (rest := [(.ref b8)]) (lenOf own_pd_pZIqLcomlexamplelwee_tablelweetablelmodellGcRules rfl) rfl (own_W rfl rfl) (hb hby at_139) (fun _ _ => ⟨rfl, Ept, (by decide : 4 + 1 ≤ _), (by decide : 15 + 1 ≤ _)⟩)
      dsimp only [Pt.U, Pt.locs, Pt.cells, Pt.slots] at X207 l207 y207 z207 st207 hQ207
      subst l207 y207 z207
      obtain ⟨ru_207, hv207, Nq207, sq207_0, Kq207, Qf207_0, Qf207_1⟩ := hQ207
      have N207 := Fr.app Npt Nq207
      have ne208 : b8 ≠ ru_207 := Nat.ne_of_lt (Nat.lt_of_lt_of_le Pf147_0.lt sq207_0)
      have ne210 : ea_32 ≠ ru_207 := Nat.ne_of_lt (Nat.lt_of_lt_of_le Pf147_3.lt sq207_0)
      have R212 := Rpt.trans (CHr.keep Kq207 sf0 Rpt.1)
      have hk213 := Nat.le_trans hkpt Kq207.1
      have O214 := Old147.keep Kq207 all0
      have F215 := Pf147_0.keep Kq207
      have F216 := Pf147_1.keep Kq207
      have F217 := Pf147_2.keep Kq207 nin0
      have F218 := Pf147_3.keep Kq207
      have F219 := Pf147_4.keep Kq207
      have F220 := Pf147_5.keep Kq207 nin0
      have F221 := Pf147_6.keep Kq207 nin0
      have F222 := Pf147_7.keep Kq207 nin0
      have F223 := Pf147_8.keep Kq207 nin0
      have F224 := Pf147_9.keep Kq207 nin0
      have Zk207 : n0 ≤ T207.heap.size := Nat.le_trans Zpt Kq207.1
      subst hv207
      refine Goes.to st207 ?_
      obtain ⟨cq225, kq225, q225a, q225b, q225c⟩ := isOf (s := s.setVm vmpt) hZ rfl F215
      obtain ⟨_, _, ⟨T225, L225, k225, n225⟩, -, X225, ⟨Lc225, hQ225, l225, y225, z225⟩, st225⟩ := X207.virtualBack hx (y := own_n12) (z := own_n12) hown (mvT hZ (own_hw hw 49 rfl)) (mvT hZ (own_hw hw 50 rfl)) (notFace_of_selects (args := #[]) (mvT hZ (own_hw hw 52 rfl))) (mvT hZ (own_hw hw 52 rfl)) (mvT hZ (own_hw hw 51 rfl)) (by decide) (backOf (W := 0) (own_rmAD2 l Z a0 hw [] b8 ru_207 ea_32 kE_32 "com/example/wee_table/weetable/model/GcRule$MaxVersions" ru_23 ru_118 T207.heap n0 Zk207 Pg147_13 Qf207_0 (own_hw hw 76 rfl) F215 F221 F222 F223 Pg147_19 F218 F224 Po147_25) hZ (own_hw hw 53 rfl) (own_hw hw 7 rfl) (by decide) (by decide)) q225a q225c (g := (mkF m 142 #[.val (.int x0), .val (.long x1), .second, .val (.long x2), .second, .val (.int x3), .val (.int x4), .val (.int x5), .val (.int nn), .val (.int (0 : Int32)), .val (.int (0 : Int32)), .val (.int (0 : Int32)), .val (.int c1), .val (.int c2), .val (.int c3), .val (.ref b8), .unset, .unset, .unset] [(.ref ru_207), (.ref b8)])) rfl (by rw [hml]; rfl) (Steps.refl _) (argsL := [(.ref ru_207)]) (rest := []) (lenOf own_pd_pLjavallanglObjectsqZ rfl) rfl (own_W rfl rfl) (hb hby at_142) (fun _ _ => ⟨rfl, rfl, (by decide : 5 + 0 ≤ _), (by decide : 16 + 0 ≤ _)⟩)
      dsimp only [Pt.U, Pt.locs, Pt.cells, Pt.slots] at X225 l225 y225 z225 st225 hQ225
      subst l225 y225 z225
      obtain ⟨hv225, Nq225, Kq225, Qf225_0, Qf225_1, Qf225_2, Qf225_3, Qf225_4, Qf225_5, Qf225_6⟩ := hQ225
      have N225 := Fr.app N207 Nq225
      have R226 := R212.trans (CHr.keep Kq225 (sfS own_sf0 (sfS own_sf0 sf0)) R212.1)
      have hk227 := Nat.le_trans hk213 Kq225.1
      have O228 := O214.keep Kq225 (allS Pg147_13 (allS Pg147_19 all0))
      have F230 := F216.keep Kq225
      have F231 := F217.keep Kq225 (ninS (Ne.symm Pn147_18) (ninS Pn147_24 nin0))
      have F233 := F219.keep Kq225
      have F234 := F220.keep Kq225 (ninS (Ne.symm Pn147_30) (ninS (Ne.symm Pn147_32) nin0))
      have F239 := Qf207_0.keep Kq225
      have F240 := Qf207_1.keep Kq225 (ninS (Ne.symm ne208) (ninS (Ne.symm ne210) nin0))
      have Zk225 : n0 ≤ T225.heap.size := Nat.le_trans Zk207 Kq225.1
      subst hv225
      refine Goes.tr st225 ?_
      refine gx (XS.pop X225.here hx rfl (hb hby at_145) rfl rfl) ?_
      obtain ⟨T241, h241, X241, e241, E241, A241, D241, -, st241⟩ := newO X225 hx hZ hown (own_hw hw 77 rfl) (own_hw hw 78 rfl) (own_hw hw 79 rfl) rfl (g := (mkF m 146 #[.val (.int x0), .val (.long x1), .second, .val (.long x2), .second, .val (.int x3), .val (.int x4), .val (.int x5), .val (.int nn), .val (.int (0 : Int32)), .val (.int (0 : Int32)), .val (.int (0 : Int32)), .val (.int c1), .val (.int c2), .val (.int c3), .val (.ref b8), .unset, .unset, .unset] [])) rfl (hb hby at_146) (by decide) (by decide)
      obtain ⟨b241, g241⟩ : ∃ z, z = T225.heap.size := ⟨_, rfl⟩
      rw [← g241] at A241 D241 st241
      subst e241
      have ne243 : ru_23 ≠ b241 := Nat.ne_of_lt (Nat.lt_of_lt_of_le F230.lt (Nat.le_of_eq g241.symm))
      have ne245 : ru_118 ≠ b241 := Nat.ne_of_lt (Nat.lt_of_lt_of_le F233.lt (Nat.le_of_eq g241.symm))
      have ne246 : ru_207 ≠ b241 := Nat.ne_of_lt (Nat.lt_of_lt_of_le F239.lt (Nat.le_of_eq g241.symm))
      have R247 := R226.trans (CHr.ext E241 R226.1)
      have hk248 := Nat.le_trans hk227 E241.1
      have O249 := O228.ext E241
      have F250 := Qf225_0.ext E241
      have F251 := F230.ext E241
      have F252 := F231.ext E241
      have F253 := Qf225_4.ext E241
      have F254 := F233.ext E241
      have F255 := F234.ext E241
      have F256 := F239.ext E241
      have F257 := F240.ext E241
      have F259 := Qf225_2.ext E241
      have F260 := Qf225_3.ext E241
      have F261 := Qf225_5.ext E241
      have g_b241 : n0 ≤ b241 := Nat.le_trans Zk225 (Nat.le_of_eq g241.symm)
      have Z241 : n0 ≤ T241.heap.size := Nat.le_trans Zk225 E241.1
      have F262 : Fld Z T241.heap b241 "com/example/wee_table/weetable/model/GcRule$Intersection" "rules" "Ljava/util/List;" .null := D241 (Or.inr (own_hw hw 188 rfl)) (ty := (.object "java/util/List")) (by decide)
      refine Goes.to st241 ?_
      refine gx (XS.dup X241.here hx rfl (hb hby at_149) rfl rfl) ?_
      refine gx (XS.aload X241.here hx rfl (hb hby at_150) rfl rfl) ?_
      obtain ⟨_, _, ⟨T263, L263, k263, n263⟩, -, X263, hSn263, hgr263, ⟨Lc263, hQ263, l263, y263, z263, Rr263⟩, st263⟩ := X241.specialBackS hx (y := own_n33) rfl hown (mvT hZ (own_hw hw 80 rfl)) (mvT hZ (own_hw hw 81 rfl)) (mvT hZ (own_hw hw 82 rfl)) (by decide) (backOfSH (s := s) (vm0 := vmpt) (W := 1) (own_rmIN3 l Z a0 hw [] b241 b8 ea_32 kE_32 ru_23 ru_118 ru_207 "com/example/wee_table/weetable/model/GcRule$MaxVersions" "com/example/wee_table/weetable/model/GcRule$MaxVersions" "com/example/wee_table/weetable/model/GcRule$MaxVersions" mr aI T241.heap n0 Z241 g_b241 A241 F262 F250 F259 F260 F253 F261 F251 (own_hw hw 76 rfl) F254 (own_hw hw 76 rfl) F256 (own_hw hw 76 rfl) (SE.ext O249.2) Mr) hZ (own_hw hw 82 rfl) (own_hw hw 79 rfl) (by decide) (by decide) hEL R247.1) (g := (mkF m 152 #[.val (.int x0), .val (.long x1), .second, .val (.long x2), .second, .val (.int x3), .val (.int x4), .val (.int x5), .val (.int nn), .val (.int (0 : Int32)), .val (.int (0 : Int32)), .val (.int (0 : Int32)), .val (.int c1), .val (.int c2), .val (.int c3), .val (.ref b8), .unset, .unset, .unset] [(.ref b8), (.ref b241), (.ref b241)])) rfl (by rw [hml]; rfl) (Steps.refl _) (a := b241) (argsL := [(.ref b8)]) (rest := [(.ref b241)]) (lenOf own_pd_pLjavalutillListsqV rfl) rfl (own_W rfl rfl) (hb hby at_152) (fun _ _ => ⟨rfl, rfl, (by decide : 6 + 5 ≤ _), (by decide : 17 + 72 ≤ _)⟩)
      dsimp only [Pt.U, Pt.locs, Pt.cells, Pt.slots] at X263 hSn263 hgr263 l263 y263 z263 st263 hQ263 Rr263
      subst l263 y263 z263
      obtain ⟨X263, hS263, hZ263, hown263⟩ := rebS (s := s) hSpt hk248 X263 hSn263 hgr263 hZ hown
      have R263 := R247.trans Rr263
      have hZ := hZ263
      have hown := hown263
      obtain ⟨li_263, el_263, kL_263, hv263, Nq263, sq263_0, sq263_1, np263_0, Kq263, Qf263_0, Qf263_1, Qf263_2, Qf263_3, Qf263_4, Qf263_5⟩ := hQ263
      have N263 := Fr.app N225 Nq263
      have O276 := O249.keep Kq263 (allS g_b241 all0)
      have F278 := F251.keep Kq263
      have F279 := F252.keep Kq263 (ninS ne243 nin0)
      have F281 := F254.keep Kq263
      have F282 := F255.keep Kq263 (ninS ne245 nin0)
      have F283 := F256.keep Kq263
      have F284 := F257.keep Kq263 (ninS ne246 nin0)
      have Zk263 : n0 ≤ T263.heap.size := Nat.le_trans Z241 Kq263.1
      subst hv263
      refine Goes.tr st263 ?_
      refine gx (XS.astore X263.here hx rfl (hb hby at_155) rfl rfl (l' := #[.val (.int x0), .val (.long x1), .second, .val (.long x2), .second, .val (.int x3), .val (.int x4), .val (.int x5), .val (.int nn), .val (.int (0 : Int32)), .val (.int (0 : Int32)), .val (.int (0 : Int32)), .val (.int c1), .val (.int c2), .val (.int c3), .val (.ref b8), .val (.ref b241), .unset, .unset]) rfl) ?_
      refine gx (XS.aload X263.here hx rfl (hb hby at_157) rfl rfl) ?_
      refine gx (XS.iloadN X263.here hx rfl (hb hby at_159) rfl) ?_
      refine gx (XS.lloadN X263.here hx rfl (hb hby at_160) rfl) ?_
      show Goes p.tables e below (T263.setTop (mkF m 161 #[.val (.int x0), .val (.long x1), .second, .val (.long x2), .second, .val (.int x3), .val (.int x4), .val (.int x5), .val (.int nn), .val (.int (0 : Int32)), .val (.int (0 : Int32)), .val (.int (0 : Int32)), .val (.int c1), .val (.int c2), .val (.int c3), .val (.ref b8), .val (.ref b241), .unset, .unset] [(.long x1), (.int x0), (.ref b241)])) _
      refine gx (XS.lloadN X263.here hx rfl (hb hby at_161) rfl) ?_
      obtain ⟨cq291, kq291, q291a, q291b, q291c⟩ := isOf (s := s.setVm T263.vm) hZ rfl Qf263_0
      obtain ⟨_, _, ⟨T291, L291, k291, n291⟩, -, X291, ⟨Lc291, hQ291, l291, y291, z291⟩, st291⟩ := X263.virtualBack hx (y := own_n48) (z := own_n48) hown (mvT hZ (own_hw hw 189 rfl)) (mvT hZ (own_hw hw 190 rfl)) (notFace_of_selects (args := #[]) (mvT hZ (own_hw hw 192 rfl))) (mvT hZ (own_hw hw 192 rfl)) (mvT hZ (own_hw hw 191 rfl)) (by decide) (backOf (W := 0) (own_rmEX3 l Z a0 hw [] b241 x0 x1 x2 li_263 ru_23 ru_118 ru_207 el_263 kL_263 aI (some c1) (some c2) (some c3) T263.heap n0 Zk263 Qf263_0 Qf263_1 Qf263_2 Qf263_3 Qf263_4 Qf263_5 (SE.ext O276.2) (Or.inr ⟨_, rfl, F278, F279⟩) (Or.inr ⟨_, rfl, F281, F282⟩) (Or.inr ⟨_, rfl, F283, F284⟩)) hZ (own_hw hw 193 rfl) (own_hw hw 79 rfl) (by decide) (by decide)) q291a q291c (g := (mkF m 162 #[.val (.int x0), .val (.long x1), .second, .val (.long x2), .second, .val (.int x3), .val (.int x4), .val (.int x5), .val (.int nn), .val (.int (0 : Int32)), .val (.int (0 : Int32)), .val (.int (0 : Int32)), .val (.int c1), .val (.int c2), .val (.int c3), .val (.ref b8), .val (.ref b241), .unset, .unset] [(.long x2), (.long x1), (.int x0), (.ref b241)])) rfl (by rw [hml]; rfl) (Steps.refl _) (argsL := [(.int x0), (.long x1), (.long x2)]) (rest := []) (lenOf own_pd_pIJJqZ rfl) rfl (own_W rfl rfl) (hb hby at_162) (fun _ _ => ⟨rfl, rfl, (by decide : 11 + 1 ≤ _), (by decide : 89 + 4 ≤ _)⟩)
      dsimp only [Pt.U, Pt.locs, Pt.cells, Pt.slots] at X291 l291 y291 z291 st291 hQ291
      subst l291 y291 z291
      obtain ⟨hv291, Nq291, Kq291⟩ := hQ291
      have N291 := Fr.app N263 Nq291
      have R292 := R263.trans (CHr.keep Kq291 sf0 R263.1)
      have hk293 := Nat.le_trans (Nat.le_refl _) Kq291.1
      have Zk291 : n0 ≤ T291.heap.size := Nat.le_trans Zk263 Kq291.1
      subst hv291
      refine Goes.tr st291 ?_
      refine gx (XS.istore X291.here hx rfl (hb hby at_165) rfl (l' := #[.val (.int x0), .val (.long x1), .second, .val (.long x2), .second, .val (.int x3), .val (.int x4), .val (.int x5), .val (.int nn), .val (.int (0 : Int32)), .val (.int (0 : Int32)), .val (.int (0 : Int32)), .val (.int c1), .val (.int c2), .val (.int c3), .val (.ref b8), .val (.ref b241), .val (.int (own_exp [(some c1), (some c2), (some c3)] x0)), .unset]) rfl) ?_
      exact own_pt_own_rm0_96 l Z a0 hw ws x0 x1 x2 x3 x4 x5 aN aD kD aI mr h0 n0 Z0 hPm Bd hml0 hh  (own_exp [(some c1), (some c2), (some c3)] x0) (.val (.ref b8)) (.val (.ref b241)) (0 : Int32) (0 : Int32) (0 : Int32) nn c1 c2 c3 T291 _ T263.vm hZ hown T291.heap (own_wk X291 (by decide) (by decide)) rfl N291 Zk291  _ hS263 hk293 R292 (Or.inl rfl) (Or.inl rfl) (Or.inl rfl) (by simp [own_got, own_sp0, own_sp1, Ph147_38, hc148])
    · refine gx (XS.iload Xpt.here hx rfl (hb hby at_135) rfl) ?_
      show Goes p.tables e below (Tpt.setTop (mkF m 137 #[.val (.int x0), .val (.long x1), .second, .val (.long x2), .second, .val (.int x3), .val (.int x4), .val (.int x5), .val (.int nn), .val (.int (0 : Int32)), .val (.int (0 : Int32)), .val (.int (1 : Int32)), .val (.int c1), .val (.int c2), .val (.int c3), .val (.ref b8), .unset, .unset, .unset] [(.int (1 : Int32)), (.ref b8)])) _
      refine gx (XS.iload Xpt.here hx rfl (hb hby at_137) rfl) ?_
      obtain ⟨_, _, ⟨T314, L314, k314, n314⟩, -, X314, ⟨Lc314, hQ314, l314, y314, z314⟩, st314⟩ := Jvm.LawKit.callS Xpt hx (y := own_n15) hown (mvT hZ (own_hw hw 31 rfl)) (mvT hZ (own_hw hw 32 rfl)) (mvT hZ (own_hw hw 33 rfl)) (mvT hZ (own_hw hw 34 rfl)) (by decide) (backOf (W := 1) (own_rmRU1 l Z a0 hw [] c3 aN hpt n0 Zpt (SN.ext Old147.2)) hZ (own_hw hw 34 rfl) (own_hw hw 33 rfl) (by decide) (by decide)) (g := (mkF m 139 #[.val (.int x0), .val (.long x1), .second, .val (.long x2), .second, .val (.int x3), .val (.int x4), .val (.int x5), .val (.int nn), .val (.int (0 : Int32)), .val (.int (0 : Int32)), .val (.int (1 : Int32)), .val (.int c1), .val (.int c2), .val (.int c3), .val (.ref b8), .unset, .unset, .unset] [(.int c3), (.int (1 : Int32)), (.ref b8)])) rfl (by rw [hml]; rfl) (argsL := [(.int (1 : Int32)), (.int c3)]) (rest := [(.ref b8)]) (lenOf own_pd_pZIqLcomlexamplelwee_tablelweetablelmodellGcRules rfl) rfl (own_W rfl rfl) (hb hby at_139) (fun _ _ => ⟨rfl, Ept, (by decide : 4 + 0 ≤ _), (by decide : 15 + 0 ≤ _)⟩)
      dsimp only [Pt.U, Pt.locs, Pt.cells, Pt.slots] at X314 l314 y314 z314 st314 hQ314
      subst l314 y314 z314
      obtain ⟨hv314, Nq314, hp314_0⟩ := hQ314
      have N314 := Fr.app Npt Nq314
      subst hv314
      refine Goes.to st314 ?_
      obtain ⟨cq315, kq315, q315a, q315b, q315c⟩ := isOf (s := s.setVm vmpt) hZ hp314_0 Pf147_0
      obtain ⟨_, _, ⟨T315, L315, k315, n315⟩, -, X315, ⟨Lc315, hQ315, l315, y315, z315⟩, st315⟩ := X314.virtualBack hx (y := own_n12) (z := own_n12) hown (mvT hZ (own_hw hw 49 rfl)) (mvT hZ (own_hw hw 50 rfl)) (notFace_of_selects (args := #[]) (mvT hZ (own_hw hw 52 rfl))) (mvT hZ (own_hw hw 52 rfl)) (mvT hZ (own_hw hw 51 rfl)) (by decide) (backOf (W := 0) (own_rmAD2 l Z a0 hw [] b8 aN ea_32 kE_32 "com/example/wee_table/weetable/model/GcRule$None" ru_23 ru_118 hpt n0 Zpt Pg147_13 (EN.ext Old147.2) (own_hw hw 265 rfl) Pf147_0 Pf147_6 Pf147_7 Pf147_8 Pg147_19 Pf147_3 Pf147_9 Po147_25) hZ (own_hw hw 53 rfl) (own_hw hw 7 rfl) (by decide) (by decide)) q315a q315c (g := (mkF m 142 #[.val (.int x0), .val (.long x1), .second, .val (.long x2), .second, .val (.int x3), .val (.int x4), .val (.int x5), .val (.int nn), .val (.int (0 : Int32)), .val (.int (0 : Int32)), .val (.int (1 : Int32)), .val (.int c1), .val (.int c2), .val (.int c3), .val (.ref b8), .unset, .unset, .unset] [(.ref aN), (.ref b8)])) rfl (by rw [hml]; rfl) (Steps.refl _) (argsL := [(.ref aN)]) (rest := []) (lenOf own_pd_pLjavallanglObjectsqZ rfl) rfl (own_W rfl rfl) (hb hby at_142) (fun _ _ => ⟨rfl, hp314_0, (by decide : 4 + 0 ≤ _), (by decide : 15 + 0 ≤ _)⟩)
      dsimp only [Pt.U, Pt.locs, Pt.cells, Pt.slots] at X315 l315 y315 z315 st315 hQ315
      subst l315 y315 z315
      obtain ⟨hv315, Nq315, Kq315, Qf315_0, Qf315_1, Qf315_2, Qf315_3, Qf315_4, Qf315_5, Qf315_6⟩ := hQ315
      have N315 := Fr.app N314 Nq315
      have R316 := Rpt.trans (CHr.keep Kq315 (sfS own_sf0 (sfS own_sf0 sf0)) Rpt.1)
      have hk317 := Nat.le_trans hkpt Kq315.1
      have O318 := Old147.keep Kq315 (allS Pg147_13 (allS Pg147_19 all0))
      have F320 := Pf147_1.keep Kq315
      have F321 := Pf147_2.keep Kq315 (ninS (Ne.symm Pn147_18) (ninS Pn147_24 nin0))
      have F323 := Pf147_4.keep Kq315
      have F324 := Pf147_5.keep Kq315 (ninS (Ne.symm Pn147_30) (ninS (Ne.symm Pn147_32) nin0))
      have Zk315 : n0 ≤ T315.heap.size := Nat.le_trans Zpt Kq315.1
      subst hv315
      refine Goes.tr st315 ?_
      refine gx (XS.pop X315.here hx rfl (hb hby at_145) rfl rfl) ?_
      obtain ⟨T329, h329, X329, e329, E329, A329, D329, -, st329⟩ := newO X315 hx hZ hown (own_hw hw 77 rfl) (own_hw hw 78 rfl) (own_hw hw 79 rfl) rfl (g := (mkF m 146 #[.val (.int x0), .val (.long x1), .second, .val (.long x2), .second, .val (.int x3), .val (.int x4), .val (.int x5), .val (.int nn), .val (.int (0 : Int32)), .val (.int (0 : Int32)), .val (.int (1 : Int32)), .val (.int c1), .val (.int c2), .val (.int c3), .val (.ref b8), .unset, .unset, .unset] [])) rfl (hb hby at_146) (by decide) (by decide)
      obtain ⟨b329, g329⟩ : ∃ z, z = T315.heap.size := ⟨_, rfl⟩
      rw [← g329] at A329 D329 st329
      subst e329
      have ne331 : ru_23 ≠ b329 := Nat.ne_of_lt (Nat.lt_of_lt_of_le F320.lt (Nat.le_of_eq g329.symm))
      have ne333 : ru_118 ≠ b329 := Nat.ne_of_lt (Nat.lt_of_lt_of_le F323.lt (Nat.le_of_eq g329.symm))
      have R334 := R316.trans (CHr.ext E329 R316.1)
      have hk335 := Nat.le_trans hk317 E329.1
      have O336 := O318.ext E329
      have F337 := Qf315_0.ext E329
      have F338 := F320.ext E329
      have F339 := F321.ext E329
      have F340 := Qf315_4.ext E329
      have F341 := F323.ext E329
      have F342 := F324.ext E329
      have F344 := Qf315_2.ext E329
      have F345 := Qf315_3.ext E329
      have F346 := Qf315_5.ext E329
      have g_b329 : n0 ≤ b329 := Nat.le_trans Zk315 (Nat.le_of_eq g329.symm)
      have Z329 : n0 ≤ T329.heap.size := Nat.le_trans Zk315 E329.1
      have F347 : Fld Z T329.heap b329 "com/example/wee_table/weetable/model/GcRule$Intersection" "rules" "Ljava/util/List;" .null := D329 (Or.inr (own_hw hw 188 rfl)) (ty := (.object "java/util/List")) (by decide)
      refine Goes.to st329 ?_
      refine gx (XS.dup X329.here hx rfl (hb hby at_149) rfl rfl) ?_
      refine gx (XS.aload X329.here hx rfl (hb hby at_150) rfl rfl) ?_
      obtain ⟨_, _, ⟨T348, L348, k348, n348⟩, -, X348, hSn348, hgr348, ⟨Lc348, hQ348, l348, y348, z348, Rr348⟩, st348⟩ := X329.specialBackS hx (y := own_n33) rfl hown (mvT hZ (own_hw hw 80 rfl)) (mvT hZ (own_hw hw 81 rfl)) (mvT hZ (own_hw hw 82 rfl)) (by decide) (backOfSH (s := s) (vm0 := vmpt) (W := 1) (own_rmIN3 l Z a0 hw [] b329 b8 ea_32 kE_32 ru_23 ru_118 aN "com/example/wee_table/weetable/model/GcRule$MaxVersions" "com/example/wee_table/weetable/model/GcRule$MaxVersions" "com/example/wee_table/weetable/model/GcRule$None" mr aI T329.heap n0 Z329 g_b329 A329 F347 F337 F344 F345 F340 F346 F338 (own_hw hw 76 rfl) F341 (own_hw hw 76 rfl) (EN.ext O336.2) (own_hw hw 265 rfl) (SE.ext O336.2) Mr) hZ (own_hw hw 82 rfl) (own_hw hw 79 rfl) (by decide) (by decide) hEL R334.1) (g := (mkF m 152 #[.val (.int x0), .val (.long x1), .second, .val (.long x2), .second, .val (.int x3), .val (.int x4), .val (.int x5), .val (.int nn), .val (.int (0 : Int32)), .val (.int (0 : Int32)), .val (.int (1 : Int32)), .val (.int c1), .val (.int c2), .val (.int c3), .val (.ref b8), .unset, .unset, .unset] [(.ref b8), (.ref b329), (.ref b329)])) rfl (by rw [hml]; rfl) (Steps.refl _) (a := b329) (argsL := [(.ref b8)]) (rest := [(.ref b329)]) (lenOf own_pd_pLjavalutillListsqV rfl) rfl (own_W rfl rfl) (hb hby at_152) (fun _ _ => ⟨rfl, rfl, (by decide : 5 + 5 ≤ _), (by decide : 16 + 72 ≤ _)⟩)
      dsimp only [Pt.U, Pt.locs, Pt.cells, Pt.slots] at X348 hSn348 hgr348 l348 y348 z348 st348 hQ348 Rr348
      subst l348 y348 z348
      obtain ⟨X348, hS348, hZ348, hown348⟩ := rebS (s := s) hSpt hk335 X348 hSn348 hgr348 hZ hown
      have R348 := R334.trans Rr348
      have hZ := hZ348
      have hown := hown348
      obtain ⟨li_348, el_348, kL_348, hv348, Nq348, sq348_0, sq348_1, np348_0, Kq348, Qf348_0, Qf348_1, Qf348_2, Qf348_3, Qf348_4, Qf348_5⟩ := hQ348
      have N348 := Fr.app N315 Nq348
      have O359 := O336.keep Kq348 (allS g_b329 all0)
      have F361 := F338.keep Kq348
      have F362 := F339.keep Kq348 (ninS ne331 nin0)
      have F364 := F341.keep Kq348
      have F365 := F342.keep Kq348 (ninS ne333 nin0)
      have Zk348 : n0 ≤ T348.heap.size := Nat.le_trans Z329 Kq348.1
      subst hv348
      refine Goes.tr st348 ?_
      refine gx (XS.astore X348.here hx rfl (hb hby at_155) rfl rfl (l' := #[.val (.int x0), .val (.long x1), .second, .val (.long x2), .second, .val (.int x3), .val (.int x4), .val (.int x5), .val (.int nn), .val (.int (0 : Int32)), .val (.int (0 : Int32)), .val (.int (1 : Int32)), .val (.int c1), .val (.int c2), .val (.int c3), .val (.ref b8), .val (.ref b329), .unset, .unset]) rfl) ?_
      refine gx (XS.aload X348.here hx rfl (hb hby at_157) rfl rfl) ?_
      refine gx (XS.iloadN X348.here hx rfl (hb hby at_159) rfl) ?_
      refine gx (XS.lloadN X348.here hx rfl (hb hby at_160) rfl) ?_
      show Goes p.tables e below (T348.setTop (mkF m 161 #[.val (.int x0), .val (.long x1), .second, .val (.long x2), .second, .val (.int x3), .val (.int x4), .val (.int x5), .val (.int nn), .val (.int (0 : Int32)), .val (.int (0 : Int32)), .val (.int (1 : Int32)), .val (.int c1), .val (.int c2), .val (.int c3), .val (.ref b8), .val (.ref b329), .unset, .unset] [(.long x1), (.int x0), (.ref b329)])) _
      refine gx (XS.lloadN X348.here hx rfl (hb hby at_161) rfl) ?_
      obtain ⟨cq372, kq372, q372a, q372b, q372c⟩ := isOf (s := s.setVm T348.vm) hZ rfl Qf348_0
      obtain ⟨_, _, ⟨T372, L372, k372, n372⟩, -, X372, ⟨Lc372, hQ372, l372, y372, z372⟩, st372⟩ := X348.virtualBack hx (y := own_n48) (z := own_n48) hown (mvT hZ (own_hw hw 189 rfl)) (mvT hZ (own_hw hw 190 rfl)) (notFace_of_selects (args := #[]) (mvT hZ (own_hw hw 192 rfl))) (mvT hZ (own_hw hw 192 rfl)) (mvT hZ (own_hw hw 191 rfl)) (by decide) (backOf (W := 0) (own_rmEX3 l Z a0 hw [] b329 x0 x1 x2 li_348 ru_23 ru_118 aN el_348 kL_348 aI (some c1) (some c2) none T348.heap n0 Zk348 Qf348_0 Qf348_1 Qf348_2 Qf348_3 Qf348_4 Qf348_5 (SE.ext O359.2) (Or.inr ⟨_, rfl, F361, F362⟩) (Or.inr ⟨_, rfl, F364, F365⟩) (Or.inl ⟨rfl, (EN.ext O359.2)⟩)) hZ (own_hw hw 193 rfl) (own_hw hw 79 rfl) (by decide) (by decide)) q372a q372c (g := (mkF m 162 #[.val (.int x0), .val (.long x1), .second, .val (.long x2), .second, .val (.int x3), .val (.int x4), .val (.int x5), .val (.int nn), .val (.int (0 : Int32)), .val (.int (0 : Int32)), .val (.int (1 : Int32)), .val (.int c1), .val (.int c2), .val (.int c3), .val (.ref b8), .val (.ref b329), .unset, .unset] [(.long x2), (.long x1), (.int x0), (.ref b329)])) rfl (by rw [hml]; rfl) (Steps.refl _) (argsL := [(.int x0), (.long x1), (.long x2)]) (rest := []) (lenOf own_pd_pIJJqZ rfl) rfl (own_W rfl rfl) (hb hby at_162) (fun _ _ => ⟨rfl, rfl, (by decide : 10 + 1 ≤ _), (by decide : 88 + 4 ≤ _)⟩)
      dsimp only [Pt.U, Pt.locs, Pt.cells, Pt.slots] at X372 l372 y372 z372 st372 hQ372
      subst l372 y372 z372
      obtain ⟨hv372, Nq372, Kq372⟩ := hQ372
      have N372 := Fr.app N348 Nq372
      have R373 := R348.trans (CHr.keep Kq372 sf0 R348.1)
      have hk374 := Nat.le_trans (Nat.le_refl _) Kq372.1
      have Zk372 : n0 ≤ T372.heap.size := Nat.le_trans Zk348 Kq372.1
      subst hv372
      refine Goes.tr st372 ?_
      refine gx (XS.istore X372.here hx rfl (hb hby at_165) rfl (l' := #[.val (.int x0), .val (.long x1), .second, .val (.long x2), .second, .val (.int x3), .val (.int x4), .val (.int x5), .val (.int nn), .val (.int (0 : Int32)), .val (.int (0 : Int32)), .val (.int (1 : Int32)), .val (.int c1), .val (.int c2), .val (.int c3), .val (.ref b8), .val (.ref b329), .val (.int (own_exp [(some c1), (some c2), none] x0)), .unset]) rfl) ?_
      exact own_pt_own_rm0_96 l Z a0 hw ws x0 x1 x2 x3 x4 x5 aN aD kD aI mr h0 n0 Z0 hPm Bd hml0 hh  (own_exp [(some c1), (some c2), none] x0) (.val (.ref b8)) (.val (.ref b329)) (0 : Int32) (0 : Int32) (1 : Int32) nn c1 c2 c3 T372 _ T348.vm hZ hown T372.heap (own_wk X372 (by decide) (by decide)) rfl N372 Zk372  _ hS348 hk374 R373 (Or.inl rfl) (Or.inl rfl) (Or.inr rfl) (by simp [own_got, own_sp0, own_sp1, Ph147_38, hc148])
set_option maxRecDepth 65536 in
set_option maxHeartbeats 40000000 in
theorem own_pt_own_rm0_406 (l : Launch) (Z : State) (a0 : Array Value) (hw : ∀ d ∈ tables_1, d.before a0 Z = true) (ws : List Jvm.Cond) (x0 : Int32) (x1 : Int64) (x2 : Int64) (x3 : Int32) (x4 : Int32) (x5 : Int32) (aN : Addr) (aD : Addr) (kD : ClassId) (aI : Addr) (mr : Addr) (h0 : Heap) (n0 : Nat) (Z0 : n0 ≤ h0.size) (hPm : own_P_own_rm0 Z a0 x0 x1 x2 x3 x4 x5 aN aD kD aI mr h0 n0)
    {p : Program} {e : Env} {s : State} {m : MethodId} {below : List Frame} {meth : Method} {c : Code} {s₁ : State} (Bd : BodyLoose p l x (head1 (Jvm.Cond.code x code maxLocals ret :: ws) room_1) code maxLocals ret e s m #[(.int x0), (.long x1), (.long x2), (.int x3), (.int x4), (.int x5)] below meth c s₁) (hml0 : c.maxLocals = maxLocals) (hh : s.heap = h0) 
    (b8 : Addr) (ru_23 : Addr) (ea_32 : Addr) (kE_32 : ClassId) (k3 : Int32) (nn : Int32) (c1 : Int32) (c2 : Int32) (c3 : Int32)
    (Tpt : State) (lpt : List Loc) (vmpt : Vm) (hZ : Z.Warmed39 vmpt) (hown : vmpt.findClass "com/example/wee_table/weetable/model/IntersectionExpiresPinLaw" = some m.cls) (hpt : Heap)
    (Xpt : Stand p l e room_1 (s.setVm vmpt) m #[(.int x0), (.long x1), (.long x2), (.int x3), (.int x4), (.int x5)] below meth c Tpt lpt 3 14) (Ept : Tpt.heap = hpt) (Npt : Fr n0 lpt) (Zpt : n0 ≤ hpt.size) (kpt : Nat) (hSpt : s.Since vmpt kpt) (hkpt : kpt ≤ hpt.size) (Rpt : CHr Z own_EL s.vm h0 vmpt hpt)
    (Pf406_0 : Exa Z hpt b8 "java/util/ArrayList")
    (Pf406_1 : Exa Z hpt ru_23 "com/example/wee_table/weetable/model/GcRule$MaxVersions")
    (Pf406_2 : Fld Z hpt ru_23 "com/example/wee_table/weetable/model/GcRule$MaxVersions" "count" "I" (.int c1))
    (Pf406_3 : Exa Z hpt ea_32 "[Ljava/lang/Object;")
    (Pf406_4 : Fld Z hpt b8 "java/util/AbstractList" "modCount" "I" (.int (2 : Int32)))
    (Pf406_5 : Fld Z hpt b8 "java/util/ArrayList" "size" "I" (.int (2 : Int32)))
    (Pf406_6 : Fld Z hpt b8 "java/util/ArrayList" "elementData" "[Ljava/lang/Object;" (.ref ea_32))
    (Pf406_7 : Arv Z hpt ea_32 kE_32 (.object "java/lang/Object") (10 : Int32) [(.ref ru_23), (.ref aN), .null, .null, .null, .null, .null, .null, .null, .null] .null)
    (Pg406_11 : n0 ≤ b8)
    (Pn406_16 : b8 ≠ ru_23)
    (Pg406_17 : n0 ≤ ea_32)
    (Pn406_22 : ru_23 ≠ ea_32)
    (Po406_23 : Ovr Z kE_32 "java/lang/Object")
    (Old406 : Old Z n0 hpt)
    (hk3 : k3 = (0 : Int32) ∨ k3 = (1 : Int32))
    (hge1 : ¬ (c1 < (1 : Int32)))
    (hge2 : ¬ (c2 < (1 : Int32)))
    (hge3 : ¬ (c3 < (1 : Int32)))
    (Ph406_29 : ¬ (nn < (2 : Int32)))
    : Goes p.tables e below (Tpt.setTop (mkF m 127 #[.val (.int x0), .val (.long x1), .second, .val (.long x2), .second, .val (.int x3), .val (.int x4), .val (.int x5), .val (.int nn), .val (.int (0 : Int32)), .val (.int (1 : Int32)), .val (.int k3), .val (.int c1), .val (.int c2), .val (.int c3), .val (.ref b8), .unset, .unset, .unset] [])) (own_RW below s (own_Q_own_rm0 Z x0 x1 x2 x3 x4 x5 aN aD kD aI mr h0 n0) 32 1152) := by
  obtain ⟨O0, hCH0, SN, SD, SE, EN, XD, VD, EI, Mr⟩ := id hPm
  have hx := Bd.exec
  have hby := Bd.bytes
  have hml : c.maxLocals = 19 := hml0
  have hnm := (name_of_methodNamed Bd.named Bd.method).1
  have own_wS' : ∀ a ∈ Bundle.stringAtoms, a.before a0 Z = true := own_wS hw
  have hEL := own_EW hw
  refine gx (XS.iload Xpt.here hx rfl (hb hby at_127) rfl) ?_
  refine gx (XS.iconst Xpt.here hx rfl (hb hby at_129)) ?_
  by_cases hc407 : nn < (3 : Int32)
  · refine gx (XS.icmpYes Xpt.here hx rfl (pc0 := 130) (pc' := 146) rfl (hb hby at_130) rfl (tlt hc407).1 (by decide) (by decide)) ?_
    obtain ⟨T408, h408, X408, e408, E408, A408, D408, -, st408⟩ := newO Xpt hx hZ hown (own_hw hw 77 rfl) (own_hw hw 78 rfl) (own_hw hw 79 rfl) Ept (g := (mkF m 146 #[.val (.int x0), .val (.long x1), .second, .val (.long x2), .second, .val (.int x3), .val (.int x4), .val (.int x5), .val (.int nn), .val (.int (0 : Int32)), .val (.int (1 : Int32)), .val (.int k3), .val (.int c1), .val (.int c2), .val (.int c3), .val (.ref b8), .unset, .unset, .unset] [])) rfl (hb hby at_146) (by decide) (by decide)
    obtain ⟨b408, g408⟩ : ∃ z, z = hpt.size := ⟨_, rfl⟩
    rw [← g408] at A408 D408 st408
    subst e408
    have ne410 : ru_23 ≠ b408 := Nat.ne_of_lt (Nat.lt_of_lt_of_le Pf406_1.lt (Nat.le_of_eq g408.symm))
    have R412 := Rpt.trans (CHr.ext E408 Rpt.1)
    have hk413 := Nat.le_trans hkpt E408.1
    have O414 := Old406.ext E408
    have F415 := Pf406_0.ext E408
    have F416 := Pf406_1.ext E408
    have F417 := Pf406_2.ext E408
    have F418 := Pf406_3.ext E408
    have F420 := Pf406_5.ext E408
    have F421 := Pf406_6.ext E408
    have F422 := Pf406_7.ext E408
    have g_b408 : n0 ≤ b408 := Nat.le_trans Zpt (Nat.le_of_eq g408.symm)
    have Z408 : n0 ≤ T408.heap.size := Nat.le_trans Zpt E408.1
    have F423 : Fld Z T408.heap b408 "com/example/wee_table/weetable/model/GcRule$Intersection" "rules" "Ljava/util/List;" .null := D408 (Or.inr (own_hw hw 188 rfl)) (ty := (.object "java/util/List")) (by decide)
    refine Goes.to st408 ?_
    refine gx (XS.dup X408.here hx rfl (hb hby at_149) rfl rfl) ?_
    refine gx (XS.aload X408.here hx rfl (hb hby at_150) rfl rfl) ?_
    obtain ⟨_, _, ⟨T424, L424, k424, n424⟩, -, X424, hSn424, hgr424, ⟨Lc424, hQ424, l424, y424, z424, Rr424⟩, st424⟩ := X408.specialBackS hx (y := own_n33) rfl hown (mvT hZ (own_hw hw 80 rfl)) (mvT hZ (own_hw hw 81 rfl)) (mvT hZ (own_hw hw 82 rfl)) (by decide) (backOfSH (s := s) (vm0 := vmpt) (W := 1) (own_rmIN2 l Z a0 hw [] b408 b8 ea_32 kE_32 ru_23 aN "com/example/wee_table/weetable/model/GcRule$MaxVersions" "com/example/wee_table/weetable/model/GcRule$None" mr aI T408.heap n0 Z408 g_b408 A408 F423 F415 F420 F421 F418 F422 F416 (own_hw hw 76 rfl) (EN.ext O414.2) (own_hw hw 265 rfl) (SE.ext O414.2) Mr) hZ (own_hw hw 82 rfl) (own_hw hw 79 rfl) (by decide) (by decide) hEL R412.1) (g := (mkF m 152 #[.val (.int x0), .val (.long x1), .second, .val (.long x2), .second, .val (.int x3), .val (.int x4), .val (.int x5), .val (.int nn), .val (.int (0 : Int32)), .val (.int (1 : Int32)), .val (.int k3), .val (.int c1), .val (.int c2), .val (.int c3), .val (.ref b8), .unset, .unset, .unset] [(.ref b8), (.ref b408), (.ref b408)])) rfl (by rw [hml]; rfl) (Steps.refl _) (a := b408) (argsL := [(.ref b8)]) (rest := [(.ref b408)]) (lenOf own_pd_pLjavalutillListsqV rfl) rfl (own_W rfl rfl) (hb hby at_152) (fun _ _ => ⟨rfl, rfl, (by decide : 4 + 4 ≤ _), (by decide : 15 + 68 ≤ _)⟩)
    dsimp only [Pt.U, Pt.locs, Pt.cells, Pt.slots] at X424 hSn424 hgr424 l424 y424 z424 st424 hQ424 Rr424
    subst l424 y424 z424
    obtain ⟨X424, hS424, hZ424, hown424⟩ := rebS (s := s) hSpt hk413 X424 hSn424 hgr424 hZ hown
    have R424 := R412.trans Rr424
    have hZ := hZ424
    have hown := hown424
    obtain ⟨li_424, hv424, Nq424, sq424_0, Kq424, Qf424_0, Qf424_1, Qf424_2, Qf424_3, Qf424_4⟩ := hQ424
    have N424 := Fr.app Npt Nq424
    have O429 := O414.keep Kq424 (allS g_b408 all0)
    have F431 := F416.keep Kq424
    have F432 := F417.keep Kq424 (ninS ne410 nin0)
    have Zk424 : n0 ≤ T424.heap.size := Nat.le_trans Z408 Kq424.1
    subst hv424
    refine Goes.tr st424 ?_
    refine gx (XS.astore X424.here hx rfl (hb hby at_155) rfl rfl (l' := #[.val (.int x0), .val (.long x1), .second, .val (.long x2), .second, .val (.int x3), .val (.int x4), .val (.int x5), .val (.int nn), .val (.int (0 : Int32)), .val (.int (1 : Int32)), .val (.int k3), .val (.int c1), .val (.int c2), .val (.int c3), .val (.ref b8), .val (.ref b408), .unset, .unset]) rfl) ?_
    refine gx (XS.aload X424.here hx rfl (hb hby at_157) rfl rfl) ?_
    refine gx (XS.iloadN X424.here hx rfl (hb hby at_159) rfl) ?_
    refine gx (XS.lloadN X424.here hx rfl (hb hby at_160) rfl) ?_
    show Goes p.tables e below (T424.setTop (mkF m 161 #[.val (.int x0), .val (.long x1), .second, .val (.long x2), .second, .val (.int x3), .val (.int x4), .val (.int x5), .val (.int nn), .val (.int (0 : Int32)), .val (.int (1 : Int32)), .val (.int k3), .val (.int c1), .val (.int c2), .val (.int c3), .val (.ref b8), .val (.ref b408), .unset, .unset] [(.long x1), (.int x0), (.ref b408)])) _
    refine gx (XS.lloadN X424.here hx rfl (hb hby at_161) rfl) ?_
    obtain ⟨cq440, kq440, q440a, q440b, q440c⟩ := isOf (s := s.setVm T424.vm) hZ rfl Qf424_0
    obtain ⟨_, _, ⟨T440, L440, k440, n440⟩, -, X440, ⟨Lc440, hQ440, l440, y440, z440⟩, st440⟩ := X424.virtualBack hx (y := own_n48) (z := own_n48) hown (mvT hZ (own_hw hw 189 rfl)) (mvT hZ (own_hw hw 190 rfl)) (notFace_of_selects (args := #[]) (mvT hZ (own_hw hw 192 rfl))) (mvT hZ (own_hw hw 192 rfl)) (mvT hZ (own_hw hw 191 rfl)) (by decide) (backOf (W := 0) (own_rmEX2 l Z a0 hw [] b408 x0 x1 x2 li_424 ru_23 aN aI (some c1) none T424.heap n0 Zk424 Qf424_0 Qf424_1 Qf424_2 Qf424_3 Qf424_4 (SE.ext O429.2) (ne_exa (EN.ext O429.2) (EI.ext O429.2) (by decide)) (Or.inr ⟨_, rfl, F431, F432⟩) (Or.inl ⟨rfl, (EN.ext O429.2)⟩)) hZ (own_hw hw 193 rfl) (own_hw hw 79 rfl) (by decide) (by decide)) q440a q440c (g := (mkF m 162 #[.val (.int x0), .val (.long x1), .second, .val (.long x2), .second, .val (.int x3), .val (.int x4), .val (.int x5), .val (.int nn), .val (.int (0 : Int32)), .val (.int (1 : Int32)), .val (.int k3), .val (.int c1), .val (.int c2), .val (.int c3), .val (.ref b8), .val (.ref b408), .unset, .unset] [(.long x2), (.long x1), (.int x0), (.ref b408)])) rfl (by rw [hml]; rfl) (Steps.refl _) (argsL := [(.int x0), (.long x1), (.long x2)]) (rest := []) (lenOf own_pd_pIJJqZ rfl) rfl (own_W rfl rfl) (hb hby at_162) (fun _ _ => ⟨rfl, rfl, (by decide : 8 + 1 ≤ _), (by decide : 83 + 4 ≤ _)⟩)
    dsimp only [Pt.U, Pt.locs, Pt.cells, Pt.slots] at X440 l440 y440 z440 st440 hQ440
    subst l440 y440 z440
    obtain ⟨hv440, Nq440, Kq440⟩ := hQ440
    have N440 := Fr.app N424 Nq440
    have R441 := R424.trans (CHr.keep Kq440 sf0 R424.1)
    have hk442 := Nat.le_trans (Nat.le_refl _) Kq440.1
    have Zk440 : n0 ≤ T440.heap.size := Nat.le_trans Zk424 Kq440.1
    subst hv440
    refine Goes.tr st440 ?_
    refine gx (XS.istore X440.here hx rfl (hb hby at_165) rfl (l' := #[.val (.int x0), .val (.long x1), .second, .val (.long x2), .second, .val (.int x3), .val (.int x4), .val (.int x5), .val (.int nn), .val (.int (0 : Int32)), .val (.int (1 : Int32)), .val (.int k3), .val (.int c1), .val (.int c2), .val (.int c3), .val (.ref b8), .val (.ref b408), .val (.int (own_exp [(some c1), none] x0)), .unset]) rfl) ?_
    exact own_pt_own_rm0_96 l Z a0 hw ws x0 x1 x2 x3 x4 x5 aN aD kD aI mr h0 n0 Z0 hPm Bd hml0 hh  (own_exp [(some c1), none] x0) (.val (.ref b8)) (.val (.ref b408)) (0 : Int32) (1 : Int32) k3 nn c1 c2 c3 T440 _ T424.vm hZ hown T440.heap (own_wk X440 (by decide) (by decide)) rfl N440 Zk440  _ hS424 hk442 R441 (Or.inl rfl) (Or.inr rfl) hk3 (by simp [own_got, own_sp0, own_sp1, Ph406_29, hc407])
  · refine gx (XS.icmpNo Xpt.here hx rfl (hb hby at_130) rfl (flt hc407).1) ?_
    refine gx (XS.aload Xpt.here hx rfl (hb hby at_133) rfl rfl) ?_
    rcases hk3 with rfl | rfl
    · refine gx (XS.iload Xpt.here hx rfl (hb hby at_135) rfl) ?_
      show Goes p.tables e below (Tpt.setTop (mkF m 137 #[.val (.int x0), .val (.long x1), .second, .val (.long x2), .second, .val (.int x3), .val (.int x4), .val (.int x5), .val (.int nn), .val (.int (0 : Int32)), .val (.int (1 : Int32)), .val (.int (0 : Int32)), .val (.int c1), .val (.int c2), .val (.int c3), .val (.ref b8), .unset, .unset, .unset] [(.int (0 : Int32)), (.ref b8)])) _
      refine gx (XS.iload Xpt.here hx rfl (hb hby at_137) rfl) ?_
      obtain ⟨_, _, ⟨T458, L458, k458, n458⟩, -, X458, ⟨Lc458, hQ458, l458, y458, z458⟩, st458⟩ := Jvm.LawKit.callS Xpt hx (y := own_n15) hown (mvT hZ (own_hw hw 31 rfl)) (mvT hZ (own_hw hw 32 rfl)) (mvT hZ (own_hw hw 33 rfl)) (mvT hZ (own_hw hw 34 rfl)) (by decide) (backOf (W := 1) (own_rmRU0 l Z a0 hw [] c3 hpt n0 Zpt hge3) hZ (own_hw hw 34 rfl) (own_hw hw 33 rfl) (by decide) (by decide)) (g := (mkF m 139 #[.val (.int x0), .val (.long x1), .second, .val (.long x2), .second, .val (.int x3), .val (.int x4), .val (.int x5), .val (.int nn), .val (.int (0 : Int32)), .val (.int (1 : Int32)), .val (.int (0 : Int32)), .val (.int c1), .val (.int c2), .val (.int c3), .val (.ref b8), .unset, .unset, .unset] [(.int c3), (.int (0 : Int32)), (.ref b8)])) rfl (by rw [hml]; rfl) (argsL := [(.int (0 : Int32)), (.int c3)]) (rest := [(.ref b8)]) (lenOf own_pd_pZIqLcomlexamplelwee_tablelweetablelmodellGcRules rfl) rfl (own_W rfl rfl) (hb hby at_139) (fun _ _ => ⟨rfl, Ept, (by decide : 3 + 1 ≤ _), (by decide : 14 + 1 ≤ _)⟩)
      dsimp only [Pt.U, Pt.locs, Pt.cells, Pt.slots] at X458 l458 y458 z458 st458 hQ458
      subst l458 y458 z458
      obtain ⟨ru_458, hv458, Nq458, sq458_0, Kq458, Qf458_0, Qf458_1⟩ := hQ458
      have N458 := Fr.app Npt Nq458
      have ne459 : b8 ≠ ru_458 := Nat.ne_of_lt (Nat.lt_of_lt_of_le Pf406_0.lt sq458_0)
      have ne461 : ea_32 ≠ ru_458 := Nat.ne_of_lt (Nat.lt_of_lt_of_le Pf406_3.lt sq458_0)
      have R462 := Rpt.trans (CHr.keep Kq458 sf0 Rpt.1)
      have hk463 := Nat.le_trans hkpt Kq458.1
      have O464 := Old406.keep Kq458 all0
      have F465 := Pf406_0.keep Kq458
      have F466 := Pf406_1.keep Kq458
      have F467 := Pf406_2.keep Kq458 nin0
      have F468 := Pf406_3.keep Kq458
      have F469 := Pf406_4.keep Kq458 nin0
      have F470 := Pf406_5.keep Kq458 nin0
      have F471 := Pf406_6.keep Kq458 nin0
      have F472 := Pf406_7.keep Kq458 nin0
      have Zk458 : n0 ≤ T458.heap.size := Nat.le_trans Zpt Kq458.1
      subst hv458
      refine Goes.to st458 ?_
      obtain ⟨cq473, kq473, q473a, q473b, q473c⟩ := isOf (s := s.setVm vmpt) hZ rfl F465
      obtain ⟨_, _, ⟨T473, L473, k473, n473⟩, -, X473, ⟨Lc473, hQ473, l473, y473, z473⟩, st473⟩ := X458.virtualBack hx (y := own_n12) (z := own_n12) hown (mvT hZ (own_hw hw 49 rfl)) (mvT hZ (own_hw hw 50 rfl)) (notFace_of_selects (args := #[]) (mvT hZ (own_hw hw 52 rfl))) (mvT hZ (own_hw hw 52 rfl)) (mvT hZ (own_hw hw 51 rfl)) (by decide) (backOf (W := 0) (own_rmAD2 l Z a0 hw [] b8 ru_458 ea_32 kE_32 "com/example/wee_table/weetable/model/GcRule$MaxVersions" ru_23 aN T458.heap n0 Zk458 Pg406_11 Qf458_0 (own_hw hw 76 rfl) F465 F469 F470 F471 Pg406_17 F468 F472 Po406_23) hZ (own_hw hw 53 rfl) (own_hw hw 7 rfl) (by decide) (by decide)) q473a q473c (g := (mkF m 142 #[.val (.int x0), .val (.long x1), .second, .val (.long x2), .second, .val (.int x3), .val (.int x4), .val (.int x5), .val (.int nn), .val (.int (0 : Int32)), .val (.int (1 : Int32)), .val (.int (0 : Int32)), .val (.int c1), .val (.int c2), .val (.int c3), .val (.ref b8), .unset, .unset, .unset] [(.ref ru_458), (.ref b8)])) rfl (by rw [hml]; rfl) (Steps.refl _) (argsL := [(.ref ru_458)]) (rest := []) (lenOf own_pd_pLjavallanglObjectsqZ rfl) rfl (own_W rfl rfl) (hb hby at_142) (fun _ _ => ⟨rfl, rfl, (by decide : 4 + 0 ≤ _), (by decide : 15 + 0 ≤ _)⟩)
      dsimp only [Pt.U, Pt.locs, Pt.cells, Pt.slots] at X473 l473 y473 z473 st473 hQ473
      subst l473 y473 z473
      obtain ⟨hv473, Nq473, Kq473, Qf473_0, Qf473_1, Qf473_2, Qf473_3, Qf473_4, Qf473_5, Qf473_6⟩ := hQ473
      have N473 := Fr.app N458 Nq473
      have R474 := R462.trans (CHr.keep Kq473 (sfS own_sf0 (sfS own_sf0 sf0)) R462.1)
      have hk475 := Nat.le_trans hk463 Kq473.1
      have O476 := O464.keep Kq473 (allS Pg406_11 (allS Pg406_17 all0))
      have F478 := F466.keep Kq473
      have F479 := F467.keep Kq473 (ninS (Ne.symm Pn406_16) (ninS Pn406_22 nin0))
      have F485 := Qf458_0.keep Kq473
      have F486 := Qf458_1.keep Kq473 (ninS (Ne.symm ne459) (ninS (Ne.symm ne461) nin0))
      have Zk473 : n0 ≤ T473.heap.size := Nat.le_trans Zk458 Kq473.1
      subst hv473
      refine Goes.tr st473 ?_
      refine gx (XS.pop X473.here hx rfl (hb hby at_145) rfl rfl) ?_
      obtain ⟨T487, h487, X487, e487, E487, A487, D487, -, st487⟩ := newO X473 hx hZ hown (own_hw hw 77 rfl) (own_hw hw 78 rfl) (own_hw hw 79 rfl) rfl (g := (mkF m 146 #[.val (.int x0), .val (.long x1), .second, .val (.long x2), .second, .val (.int x3), .val (.int x4), .val (.int x5), .val (.int nn), .val (.int (0 : Int32)), .val (.int (1 : Int32)), .val (.int (0 : Int32)), .val (.int c1), .val (.int c2), .val (.int c3), .val (.ref b8), .unset, .unset, .unset] [])) rfl (hb hby at_146) (by decide) (by decide)
      obtain ⟨b487, g487⟩ : ∃ z, z = T473.heap.size := ⟨_, rfl⟩
      rw [← g487] at A487 D487 st487
      subst e487
      have ne489 : ru_23 ≠ b487 := Nat.ne_of_lt (Nat.lt_of_lt_of_le F478.lt (Nat.le_of_eq g487.symm))
      have ne491 : ru_458 ≠ b487 := Nat.ne_of_lt (Nat.lt_of_lt_of_le F485.lt (Nat.le_of_eq g487.symm))
      have R492 := R474.trans (CHr.ext E487 R474.1)
      have hk493 := Nat.le_trans hk475 E487.1
      have O494 := O476.ext E487
      have F495 := Qf473_0.ext E487
      have F496 := F478.ext E487
      have F497 := F479.ext E487
      have F498 := Qf473_4.ext E487
      have F499 := F485.ext E487
      have F500 := F486.ext E487
      have F502 := Qf473_2.ext E487
      have F503 := Qf473_3.ext E487
      have F504 := Qf473_5.ext E487
      have g_b487 : n0 ≤ b487 := Nat.le_trans Zk473 (Nat.le_of_eq g487.symm)
      have Z487 : n0 ≤ T487.heap.size := Nat.le_trans Zk473 E487.1
      have F505 : Fld Z T487.heap b487 "com/example/wee_table/weetable/model/GcRule$Intersection" "rules" "Ljava/util/List;" .null := D487 (Or.inr (own_hw hw 188 rfl)) (ty := (.object "java/util/List")) (by decide)
      refine Goes.to st487 ?_
      refine gx (XS.dup X487.here hx rfl (hb hby at_149) rfl rfl) ?_
      refine gx (XS.aload X487.here hx rfl (hb hby at_150) rfl rfl) ?_
      obtain ⟨_, _, ⟨T506, L506, k506, n506⟩, -, X506, hSn506, hgr506, ⟨Lc506, hQ506, l506, y506, z506, Rr506⟩, st506⟩ := X487.specialBackS hx (y := own_n33) rfl hown (mvT hZ (own_hw hw 80 rfl)) (mvT hZ (own_hw hw 81 rfl)) (mvT hZ (own_hw hw 82 rfl)) (by decide) (backOfSH (s := s) (vm0 := vmpt) (W := 1) (own_rmIN3 l Z a0 hw [] b487 b8 ea_32 kE_32 ru_23 aN ru_458 "com/example/wee_table/weetable/model/GcRule$MaxVersions" "com/example/wee_table/weetable/model/GcRule$None" "com/example/wee_table/weetable/model/GcRule$MaxVersions" mr aI T487.heap n0 Z487 g_b487 A487 F505 F495 F502 F503 F498 F504 F496 (own_hw hw 76 rfl) (EN.ext O494.2) (own_hw hw 265 rfl) F499 (own_hw hw 76 rfl) (SE.ext O494.2) Mr) hZ (own_hw hw 82 rfl) (own_hw hw 79 rfl) (by decide) (by decide) hEL R492.1) (g := (mkF m 152 #[.val (.int x0), .val (.long x1), .second, .val (.long x2), .second, .val (.int x3), .val (.int x4), .val (.int x5), .val (.int nn), .val (.int (0 : Int32)), .val (.int (1 : Int32)), .val (.int (0 : Int32)), .val (.int c1), .val (.int c2), .val (.int c3), .val (.ref b8), .unset, .unset, .unset] [(.ref b8), (.ref b487), (.ref b487)])) rfl (by rw [hml]; rfl) (Steps.refl _) (a := b487) (argsL := [(.ref b8)]) (rest := [(.ref b487)]) (lenOf own_pd_pLjavalutillListsqV rfl) rfl (own_W rfl rfl) (hb hby at_152) (fun _ _ => ⟨rfl, rfl, (by decide : 5 + 5 ≤ _), (by decide : 16 + 72 ≤ _)⟩)
      dsimp only [Pt.U, Pt.locs, Pt.cells, Pt.slots] at X506 hSn506 hgr506 l506 y506 z506 st506 hQ506 Rr506
      subst l506 y506 z506
      obtain ⟨X506, hS506, hZ506, hown506⟩ := rebS (s := s) hSpt hk493 X506 hSn506 hgr506 hZ hown
      have R506 := R492.trans Rr506
      have hZ := hZ506
      have hown := hown506
      obtain ⟨li_506, el_506, kL_506, hv506, Nq506, sq506_0, sq506_1, np506_0, Kq506, Qf506_0, Qf506_1, Qf506_2, Qf506_3, Qf506_4, Qf506_5⟩ := hQ506
      have N506 := Fr.app N473 Nq506
      have O517 := O494.keep Kq506 (allS g_b487 all0)
      have F519 := F496.keep Kq506
      have F520 := F497.keep Kq506 (ninS ne489 nin0)
      have F522 := F499.keep Kq506
      have F523 := F500.keep Kq506 (ninS ne491 nin0)
      have Zk506 : n0 ≤ T506.heap.size := Nat.le_trans Z487 Kq506.1
      subst hv506
      refine Goes.tr st506 ?_
      refine gx (XS.astore X506.here hx rfl (hb hby at_155) rfl rfl (l' := #[.val (.int x0), .val (.long x1), .second, .val (.long x2), .second, .val (.int x3), .val (.int x4), .val (.int x5), .val (.int nn), .val (.int (0 : Int32)), .val (.int (1 : Int32)), .val (.int (0 : Int32)), .val (.int c1), .val (.int c2), .val (.int c3), .val (.ref b8), .val (.ref b487), .unset, .unset]) rfl) ?_
      refine gx (XS.aload X506.here hx rfl (hb hby at_157) rfl rfl) ?_
      refine gx (XS.iloadN X506.here hx rfl (hb hby at_159) rfl) ?_
      refine gx (XS.lloadN X506.here hx rfl (hb hby at_160) rfl) ?_
      show Goes p.tables e below (T506.setTop (mkF m 161 #[.val (.int x0), .val (.long x1), .second, .val (.long x2), .second, .val (.int x3), .val (.int x4), .val (.int x5), .val (.int nn), .val (.int (0 : Int32)), .val (.int (1 : Int32)), .val (.int (0 : Int32)), .val (.int c1), .val (.int c2), .val (.int c3), .val (.ref b8), .val (.ref b487), .unset, .unset] [(.long x1), (.int x0), (.ref b487)])) _
      refine gx (XS.lloadN X506.here hx rfl (hb hby at_161) rfl) ?_
      obtain ⟨cq530, kq530, q530a, q530b, q530c⟩ := isOf (s := s.setVm T506.vm) hZ rfl Qf506_0
      obtain ⟨_, _, ⟨T530, L530, k530, n530⟩, -, X530, ⟨Lc530, hQ530, l530, y530, z530⟩, st530⟩ := X506.virtualBack hx (y := own_n48) (z := own_n48) hown (mvT hZ (own_hw hw 189 rfl)) (mvT hZ (own_hw hw 190 rfl)) (notFace_of_selects (args := #[]) (mvT hZ (own_hw hw 192 rfl))) (mvT hZ (own_hw hw 192 rfl)) (mvT hZ (own_hw hw 191 rfl)) (by decide) (backOf (W := 0) (own_rmEX3 l Z a0 hw [] b487 x0 x1 x2 li_506 ru_23 aN ru_458 el_506 kL_506 aI (some c1) none (some c3) T506.heap n0 Zk506 Qf506_0 Qf506_1 Qf506_2 Qf506_3 Qf506_4 Qf506_5 (SE.ext O517.2) (Or.inr ⟨_, rfl, F519, F520⟩) (Or.inl ⟨rfl, (EN.ext O517.2)⟩) (Or.inr ⟨_, rfl, F522, F523⟩)) hZ (own_hw hw 193 rfl) (own_hw hw 79 rfl) (by decide) (by decide)) q530a q530c (g := (mkF m 162 #[.val (.int x0), .val (.long x1), .second, .val (.long x2), .second, .val (.int x3), .val (.int x4), .val (.int x5), .val (.int nn), .val (.int (0 : Int32)), .val (.int (1 : Int32)), .val (.int (0 : Int32)), .val (.int c1), .val (.int c2), .val (.int c3), .val (.ref b8), .val (.ref b487), .unset, .unset] [(.long x2), (.long x1), (.int x0), (.ref b487)])) rfl (by rw [hml]; rfl) (Steps.refl _) (argsL := [(.int x0), (.long x1), (.long x2)]) (rest := []) (lenOf own_pd_pIJJqZ rfl) rfl (own_W rfl rfl) (hb hby at_162) (fun _ _ => ⟨rfl, rfl, (by decide : 10 + 1 ≤ _), (by decide : 88 + 4 ≤ _)⟩)
      dsimp only [Pt.U, Pt.locs, Pt.cells, Pt.slots] at X530 l530 y530 z530 st530 hQ530
      subst l530 y530 z530
      obtain ⟨hv530, Nq530, Kq530⟩ := hQ530
      have N530 := Fr.app N506 Nq530
      have R531 := R506.trans (CHr.keep Kq530 sf0 R506.1)
      have hk532 := Nat.le_trans (Nat.le_refl _) Kq530.1
      have Zk530 : n0 ≤ T530.heap.size := Nat.le_trans Zk506 Kq530.1
      subst hv530
      refine Goes.tr st530 ?_
      refine gx (XS.istore X530.here hx rfl (hb hby at_165) rfl (l' := #[.val (.int x0), .val (.long x1), .second, .val (.long x2), .second, .val (.int x3), .val (.int x4), .val (.int x5), .val (.int nn), .val (.int (0 : Int32)), .val (.int (1 : Int32)), .val (.int (0 : Int32)), .val (.int c1), .val (.int c2), .val (.int c3), .val (.ref b8), .val (.ref b487), .val (.int (own_exp [(some c1), none, (some c3)] x0)), .unset]) rfl) ?_
      exact own_pt_own_rm0_96 l Z a0 hw ws x0 x1 x2 x3 x4 x5 aN aD kD aI mr h0 n0 Z0 hPm Bd hml0 hh  (own_exp [(some c1), none, (some c3)] x0) (.val (.ref b8)) (.val (.ref b487)) (0 : Int32) (1 : Int32) (0 : Int32) nn c1 c2 c3 T530 _ T506.vm hZ hown T530.heap (own_wk X530 (by decide) (by decide)) rfl N530 Zk530  _ hS506 hk532 R531 (Or.inl rfl) (Or.inr rfl) (Or.inl rfl) (by simp [own_got, own_sp0, own_sp1, Ph406_29, hc407])
    · refine gx (XS.iload Xpt.here hx rfl (hb hby at_135) rfl) ?_
      show Goes p.tables e below (Tpt.setTop (mkF m 137 #[.val (.int x0), .val (.long x1), .second, .val (.long x2), .second, .val (.int x3), .val (.int x4), .val (.int x5), .val (.int nn), .val (.int (0 : Int32)), .val (.int (1 : Int32)), .val (.int (1 : Int32)), .val (.int c1), .val (.int c2), .val (.int c3), .val (.ref b8), .unset, .unset, .unset] [(.int (1 : Int32)), (.ref b8)])) _
      refine gx (XS.iload Xpt.here hx rfl (hb hby at_137) rfl) ?_
      obtain ⟨_, _, ⟨T551, L551, k551, n551⟩, -, X551, ⟨Lc551, hQ551, l551, y551, z551⟩, st551⟩ := Jvm.LawKit.callS Xpt hx (y := own_n15) hown (mvT hZ (own_hw hw 31 rfl)) (mvT hZ (own_hw hw 32 rfl)) (mvT hZ (own_hw hw 33 rfl)) (mvT hZ (own_hw hw 34 rfl)) (by decide) (backOf (W := 1) (own_rmRU1 l Z a0 hw [] c3 aN hpt n0 Zpt (SN.ext Old406.2)) hZ (own_hw hw 34 rfl) (own_hw hw 33 rfl) (by decide) (by decide)) (g := (mkF m 139 #[.val (.int x0), .val (.long x1), .second, .val (.long x2), .second, .val (.int x3), .val (.int x4), .val (.int x5), .val (.int nn), .val (.int (0 : Int32)), .val (.int (1 : Int32)), .val (.int (1 : Int32)), .val (.int c1), .val (.int c2), .val (.int c3), .val (.ref b8), .unset, .unset, .unset] [(.int c3), (.int (1 : Int32)), (.ref b8)])) rfl (by rw [hml]; rfl) (argsL := [(.int (1 : Int32)), (.int c3)]) (rest := [(.ref b8)]) (lenOf own_pd_pZIqLcomlexamplelwee_tablelweetablelmodellGcRules rfl) rfl (own_W rfl rfl) (hb hby at_139) (fun _ _ => ⟨rfl, Ept, (by decide : 3 + 0 ≤ _), (by decide : 14 + 0 ≤ _)⟩)
      dsimp only [Pt.U, Pt.locs, Pt.cells, Pt.slots] at X551 l551 y551 z551 st551 hQ551
      subst l551 y551 z551
      obtain ⟨hv551, Nq551, hp551_0⟩ := hQ551
      have N551 := Fr.app Npt Nq551
      subst hv551
      refine Goes.to st551 ?_
      obtain ⟨cq552, kq552, q552a, q552b, q552c⟩ := isOf (s := s.setVm vmpt) hZ hp551_0 Pf406_0
      obtain ⟨_, _, ⟨T552, L552, k552, n552⟩, -, X552, ⟨Lc552, hQ552, l552, y552, z552⟩, st552⟩ := X551.virtualBack hx (y := own_n12) (z := own_n12) hown (mvT hZ (own_hw hw 49 rfl)) (mvT hZ (own_hw hw 50 rfl)) (notFace_of_selects (args := #[]) (mvT hZ (own_hw hw 52 rfl))) (mvT hZ (own_hw hw 52 rfl)) (mvT hZ (own_hw hw 51 rfl)) (by decide) (backOf (W := 0) (own_rmAD2 l Z a0 hw [] b8 aN ea_32 kE_32 "com/example/wee_table/weetable/model/GcRule$None" ru_23 aN hpt n0 Zpt Pg406_11 (EN.ext Old406.2) (own_hw hw 265 rfl) Pf406_0 Pf406_4 Pf406_5 Pf406_6 Pg406_17 Pf406_3 Pf406_7 Po406_23) hZ (own_hw hw 53 rfl) (own_hw hw 7 rfl) (by decide) (by decide)) q552a q552c (g := (mkF m 142 #[.val (.int x0), .val (.long x1), .second, .val (.long x2), .second, .val (.int x3), .val (.int x4), .val (.int x5), .val (.int nn), .val (.int (0 : Int32)), .val (.int (1 : Int32)), .val (.int (1 : Int32)), .val (.int c1), .val (.int c2), .val (.int c3), .val (.ref b8), .unset, .unset, .unset] [(.ref aN), (.ref b8)])) rfl (by rw [hml]; rfl) (Steps.refl _) (argsL := [(.ref aN)]) (rest := []) (lenOf own_pd_pLjavallanglObjectsqZ rfl) rfl (own_W rfl rfl) (hb hby at_142) (fun _ _ => ⟨rfl, hp551_0, (by decide : 3 + 0 ≤ _), (by decide : 14 + 0 ≤ _)⟩)
      dsimp only [Pt.U, Pt.locs, Pt.cells, Pt.slots] at X552 l552 y552 z552 st552 hQ552
      subst l552 y552 z552
      obtain ⟨hv552, Nq552, Kq552, Qf552_0, Qf552_1, Qf552_2, Qf552_3, Qf552_4, Qf552_5, Qf552_6⟩ := hQ552
      have N552 := Fr.app N551 Nq552
      have R553 := Rpt.trans (CHr.keep Kq552 (sfS own_sf0 (sfS own_sf0 sf0)) Rpt.1)
      have hk554 := Nat.le_trans hkpt Kq552.1
      have O555 := Old406.keep Kq552 (allS Pg406_11 (allS Pg406_17 all0))
      have F557 := Pf406_1.keep Kq552
      have F558 := Pf406_2.keep Kq552 (ninS (Ne.symm Pn406_16) (ninS Pn406_22 nin0))
      have Zk552 : n0 ≤ T552.heap.size := Nat.le_trans Zpt Kq552.1
      subst hv552
      refine Goes.tr st552 ?_
      refine gx (XS.pop X552.here hx rfl (hb hby at_145) rfl rfl) ?_
      obtain ⟨T564, h564, X564, e564, E564, A564, D564, -, st564⟩ := newO X552 hx hZ hown (own_hw hw 77 rfl) (own_hw hw 78 rfl) (own_hw hw 79 rfl) rfl (g := (mkF m 146 #[.val (.int x0), .val (.long x1), .second, .val (.long x2), .second, .val (.int x3), .val (.int x4), .val (.int x5), .val (.int nn), .val (.int (0 : Int32)), .val (.int (1 : Int32)), .val (.int (1 : Int32)), .val (.int c1), .val (.int c2), .val (.int c3), .val (.ref b8), .unset, .unset, .unset] [])) rfl (hb hby at_146) (by decide) (by decide)
      obtain ⟨b564, g564⟩ : ∃ z, z = T552.heap.size := ⟨_, rfl⟩
      rw [← g564] at A564 D564 st564
      subst e564
      have ne566 : ru_23 ≠ b564 := Nat.ne_of_lt (Nat.lt_of_lt_of_le F557.lt (Nat.le_of_eq g564.symm))
      have R568 := R553.trans (CHr.ext E564 R553.1)
      have hk569 := Nat.le_trans hk554 E564.1
      have O570 := O555.ext E564
      have F571 := Qf552_0.ext E564
      have F572 := F557.ext E564
      have F573 := F558.ext E564
      have F574 := Qf552_4.ext E564
      have F576 := Qf552_2.ext E564
      have F577 := Qf552_3.ext E564
      have F578 := Qf552_5.ext E564
      have g_b564 : n0 ≤ b564 := Nat.le_trans Zk552 (Nat.le_of_eq g564.symm)
      have Z564 : n0 ≤ T564.heap.size := Nat.le_trans Zk552 E564.1
      have F579 : Fld Z T564.heap b564 "com/example/wee_table/weetable/model/GcRule$Intersection" "rules" "Ljava/util/List;" .null := D564 (Or.inr (own_hw hw 188 rfl)) (ty := (.object "java/util/List")) (by decide)
      refine Goes.to st564 ?_
      refine gx (XS.dup X564.here hx rfl (hb hby at_149) rfl rfl) ?_
      refine gx (XS.aload X564.here hx rfl (hb hby at_150) rfl rfl) ?_
      obtain ⟨_, _, ⟨T580, L580, k580, n580⟩, -, X580, hSn580, hgr580, ⟨Lc580, hQ580, l580, y580, z580, Rr580⟩, st580⟩ := X564.specialBackS hx (y := own_n33) rfl hown (mvT hZ (own_hw hw 80 rfl)) (mvT hZ (own_hw hw 81 rfl)) (mvT hZ (own_hw hw 82 rfl)) (by decide) (backOfSH (s := s) (vm0 := vmpt) (W := 1) (own_rmIN3 l Z a0 hw [] b564 b8 ea_32 kE_32 ru_23 aN aN "com/example/wee_table/weetable/model/GcRule$MaxVersions" "com/example/wee_table/weetable/model/GcRule$None" "com/example/wee_table/weetable/model/GcRule$None" mr aI T564.heap n0 Z564 g_b564 A564 F579 F571 F576 F577 F574 F578 F572 (own_hw hw 76 rfl) (EN.ext O570.2) (own_hw hw 265 rfl) (EN.ext O570.2) (own_hw hw 265 rfl) (SE.ext O570.2) Mr) hZ (own_hw hw 82 rfl) (own_hw hw 79 rfl) (by decide) (by decide) hEL R568.1) (g := (mkF m 152 #[.val (.int x0), .val (.long x1), .second, .val (.long x2), .second, .val (.int x3), .val (.int x4), .val (.int x5), .val (.int nn), .val (.int (0 : Int32)), .val (.int (1 : Int32)), .val (.int (1 : Int32)), .val (.int c1), .val (.int c2), .val (.int c3), .val (.ref b8), .unset, .unset, .unset] [(.ref b8), (.ref b564), (.ref b564)])) rfl (by rw [hml]; rfl) (Steps.refl _) (a := b564) (argsL := [(.ref b8)]) (rest := [(.ref b564)]) (lenOf own_pd_pLjavalutillListsqV rfl) rfl (own_W rfl rfl) (hb hby at_152) (fun _ _ => ⟨rfl, rfl, (by decide : 4 + 5 ≤ _), (by decide : 15 + 72 ≤ _)⟩)
      dsimp only [Pt.U, Pt.locs, Pt.cells, Pt.slots] at X580 hSn580 hgr580 l580 y580 z580 st580 hQ580 Rr580
      subst l580 y580 z580
      obtain ⟨X580, hS580, hZ580, hown580⟩ := rebS (s := s) hSpt hk569 X580 hSn580 hgr580 hZ hown
      have R580 := R568.trans Rr580
      have hZ := hZ580
      have hown := hown580
      obtain ⟨li_580, el_580, kL_580, hv580, Nq580, sq580_0, sq580_1, np580_0, Kq580, Qf580_0, Qf580_1, Qf580_2, Qf580_3, Qf580_4, Qf580_5⟩ := hQ580
      have N580 := Fr.app N552 Nq580
      have O589 := O570.keep Kq580 (allS g_b564 all0)
      have F591 := F572.keep Kq580
      have F592 := F573.keep Kq580 (ninS ne566 nin0)
      have Zk580 : n0 ≤ T580.heap.size := Nat.le_trans Z564 Kq580.1
      subst hv580
      refine Goes.tr st580 ?_
      refine gx (XS.astore X580.here hx rfl (hb hby at_155) rfl rfl (l' := #[.val (.int x0), .val (.long x1), .second, .val (.long x2), .second, .val (.int x3), .val (.int x4), .val (.int x5), .val (.int nn), .val (.int (0 : Int32)), .val (.int (1 : Int32)), .val (.int (1 : Int32)), .val (.int c1), .val (.int c2), .val (.int c3), .val (.ref b8), .val (.ref b564), .unset, .unset]) rfl) ?_
      refine gx (XS.aload X580.here hx rfl (hb hby at_157) rfl rfl) ?_
      refine gx (XS.iloadN X580.here hx rfl (hb hby at_159) rfl) ?_
      refine gx (XS.lloadN X580.here hx rfl (hb hby at_160) rfl) ?_
      show Goes p.tables e below (T580.setTop (mkF m 161 #[.val (.int x0), .val (.long x1), .second, .val (.long x2), .second, .val (.int x3), .val (.int x4), .val (.int x5), .val (.int nn), .val (.int (0 : Int32)), .val (.int (1 : Int32)), .val (.int (1 : Int32)), .val (.int c1), .val (.int c2), .val (.int c3), .val (.ref b8), .val (.ref b564), .unset, .unset] [(.long x1), (.int x0), (.ref b564)])) _
      refine gx (XS.lloadN X580.here hx rfl (hb hby at_161) rfl) ?_
      obtain ⟨cq600, kq600, q600a, q600b, q600c⟩ := isOf (s := s.setVm T580.vm) hZ rfl Qf580_0
      obtain ⟨_, _, ⟨T600, L600, k600, n600⟩, -, X600, ⟨Lc600, hQ600, l600, y600, z600⟩, st600⟩ := X580.virtualBack hx (y := own_n48) (z := own_n48) hown (mvT hZ (own_hw hw 189 rfl)) (mvT hZ (own_hw hw 190 rfl)) (notFace_of_selects (args := #[]) (mvT hZ (own_hw hw 192 rfl))) (mvT hZ (own_hw hw 192 rfl)) (mvT hZ (own_hw hw 191 rfl)) (by decide) (backOf (W := 0) (own_rmEX3 l Z a0 hw [] b564 x0 x1 x2 li_580 ru_23 aN aN el_580 kL_580 aI (some c1) none none T580.heap n0 Zk580 Qf580_0 Qf580_1 Qf580_2 Qf580_3 Qf580_4 Qf580_5 (SE.ext O589.2) (Or.inr ⟨_, rfl, F591, F592⟩) (Or.inl ⟨rfl, (EN.ext O589.2)⟩) (Or.inl ⟨rfl, (EN.ext O589.2)⟩)) hZ (own_hw hw 193 rfl) (own_hw hw 79 rfl) (by decide) (by decide)) q600a q600c (g := (mkF m 162 #[.val (.int x0), .val (.long x1), .second, .val (.long x2), .second, .val (.int x3), .val (.int x4), .val (.int x5), .val (.int nn), .val (.int (0 : Int32)), .val (.int (1 : Int32)), .val (.int (1 : Int32)), .val (.int c1), .val (.int c2), .val (.int c3), .val (.ref b8), .val (.ref b564), .unset, .unset] [(.long x2), (.long x1), (.int x0), (.ref b564)])) rfl (by rw [hml]; rfl) (Steps.refl _) (argsL := [(.int x0), (.long x1), (.long x2)]) (rest := []) (lenOf own_pd_pIJJqZ rfl) rfl (own_W rfl rfl) (hb hby at_162) (fun _ _ => ⟨rfl, rfl, (by decide : 9 + 1 ≤ _), (by decide : 87 + 4 ≤ _)⟩)
      dsimp only [Pt.U, Pt.locs, Pt.cells, Pt.slots] at X600 l600 y600 z600 st600 hQ600
      subst l600 y600 z600
      obtain ⟨hv600, Nq600, Kq600⟩ := hQ600
      have N600 := Fr.app N580 Nq600
      have R601 := R580.trans (CHr.keep Kq600 sf0 R580.1)
      have hk602 := Nat.le_trans (Nat.le_refl _) Kq600.1
      have Zk600 : n0 ≤ T600.heap.size := Nat.le_trans Zk580 Kq600.1
      subst hv600
      refine Goes.tr st600 ?_
      refine gx (XS.istore X600.here hx rfl (hb hby at_165) rfl (l' := #[.val (.int x0), .val (.long x1), .second, .val (.long x2), .second, .val (.int x3), .val (.int x4), .val (.int x5), .val (.int nn), .val (.int (0 : Int32)), .val (.int (1 : Int32)), .val (.int (1 : Int32)), .val (.int c1), .val (.int c2), .val (.int c3), .val (.ref b8), .val (.ref b564), .val (.int (own_exp [(some c1), none, none] x0)), .unset]) rfl) ?_
      exact own_pt_own_rm0_96 l Z a0 hw ws x0 x1 x2 x3 x4 x5 aN aD kD aI mr h0 n0 Z0 hPm Bd hml0 hh  (own_exp [(some c1), none, none] x0) (.val (.ref b8)) (.val (.ref b564)) (0 : Int32) (1 : Int32) (1 : Int32) nn c1 c2 c3 T600 _ T580.vm hZ hown T600.heap (own_wk X600 (by decide) (by decide)) rfl N600 Zk600  _ hS580 hk602 R601 (Or.inl rfl) (Or.inr rfl) (Or.inr rfl) (by simp [own_got, own_sp0, own_sp1, Ph406_29, hc407])
set_option maxRecDepth 65536 in
set_option maxHeartbeats 40000000 in
theorem own_pt_own_rm0_657 (l : Launch) (Z : State) (a0 : Array Value) (hw : ∀ d ∈ tables_1, d.before a0 Z = true) (ws : List Jvm.Cond) (x0 : Int32) (x1 : Int64) (x2 : Int64) (x3 : Int32) (x4 : Int32) (x5 : Int32) (aN : Addr) (aD : Addr) (kD : ClassId) (aI : Addr) (mr : Addr) (h0 : Heap) (n0 : Nat) (Z0 : n0 ≤ h0.size) (hPm : own_P_own_rm0 Z a0 x0 x1 x2 x3 x4 x5 aN aD kD aI mr h0 n0)
    {p : Program} {e : Env} {s : State} {m : MethodId} {below : List Frame} {meth : Method} {c : Code} {s₁ : State} (Bd : BodyLoose p l x (head1 (Jvm.Cond.code x code maxLocals ret :: ws) room_1) code maxLocals ret e s m #[(.int x0), (.long x1), (.long x2), (.int x3), (.int x4), (.int x5)] below meth c s₁) (hml0 : c.maxLocals = maxLocals) (hh : s.heap = h0) 
    (b8 : Addr) (b631 : Addr) (li_644 : Addr) (k2 : Int32) (k3 : Int32) (nn : Int32) (c1 : Int32) (c2 : Int32) (c3 : Int32)
    (Tpt : State) (lpt : List Loc) (vmpt : Vm) (hZ : Z.Warmed39 vmpt) (hown : vmpt.findClass "com/example/wee_table/weetable/model/IntersectionExpiresPinLaw" = some m.cls) (hpt : Heap)
    (Xpt : Stand p l e room_1 (s.setVm vmpt) m #[(.int x0), (.long x1), (.long x2), (.int x3), (.int x4), (.int x5)] below meth c Tpt lpt 7 81) (Ept : Tpt.heap = hpt) (Npt : Fr n0 lpt) (Zpt : n0 ≤ hpt.size) (kpt : Nat) (hSpt : s.Since vmpt kpt) (hkpt : kpt ≤ hpt.size) (Rpt : CHr Z own_EL s.vm h0 vmpt hpt)
    (Pf657_6 : Exa Z hpt b631 "com/example/wee_table/weetable/model/GcRule$Intersection")
    (Pf657_7 : Fld Z hpt b631 "com/example/wee_table/weetable/model/GcRule$Intersection" "rules" "Ljava/util/List;" (.ref li_644))
    (Pf657_8 : Exa Z hpt li_644 "java/util/ImmutableCollections$List12")
    (Pf657_9 : Fld Z hpt li_644 "java/util/ImmutableCollections$List12" "e0" "Ljava/lang/Object;" (.ref aN))
    (Pf657_10 : Fld Z hpt li_644 "java/util/ImmutableCollections$List12" "e1" "Ljava/lang/Object;" (.ref aI))
    (Old657 : Old Z n0 hpt)
    (hk2 : k2 = (0 : Int32) ∨ k2 = (1 : Int32))
    (hk3 : k3 = (0 : Int32) ∨ k3 = (1 : Int32))
    (hge1 : ¬ (c1 < (1 : Int32)))
    (hge2 : ¬ (c2 < (1 : Int32)))
    (hge3 : ¬ (c3 < (1 : Int32)))
    (Ph657_40 : nn < (2 : Int32))
    (Ph657_41 : nn < (3 : Int32))
    : Goes p.tables e below (Tpt.setTop (mkF m 155 #[.val (.int x0), .val (.long x1), .second, .val (.long x2), .second, .val (.int x3), .val (.int x4), .val (.int x5), .val (.int nn), .val (.int (1 : Int32)), .val (.int k2), .val (.int k3), .val (.int c1), .val (.int c2), .val (.int c3), .val (.ref b8), .unset, .unset, .unset] [(.ref b631)])) (own_RW below s (own_Q_own_rm0 Z x0 x1 x2 x3 x4 x5 aN aD kD aI mr h0 n0) 32 1152) := by
  obtain ⟨O0, hCH0, SN, SD, SE, EN, XD, VD, EI, Mr⟩ := id hPm
  have hx := Bd.exec
  have hby := Bd.bytes
  have hml : c.maxLocals = 19 := hml0
  have hnm := (name_of_methodNamed Bd.named Bd.method).1
  have own_wS' : ∀ a ∈ Bundle.stringAtoms, a.before a0 Z = true := own_wS hw
  have hEL := own_EW hw
  refine gx (XS.astore Xpt.here hx rfl (hb hby at_155) rfl rfl (l' := #[.val (.int x0), .val (.long x1), .second, .val (.long x2), .second, .val (.int x3), .val (.int x4), .val (.int x5), .val (.int nn), .val (.int (1 : Int32)), .val (.int k2), .val (.int k3), .val (.int c1), .val (.int c2), .val (.int c3), .val (.ref b8), .val (.ref b631), .unset, .unset]) rfl) ?_
  refine gx (XS.aload Xpt.here hx rfl (hb hby at_157) rfl rfl) ?_
  refine gx (XS.iloadN Xpt.here hx rfl (hb hby at_159) rfl) ?_
  refine gx (XS.lloadN Xpt.here hx rfl (hb hby at_160) rfl) ?_
  refine gx (XS.lloadN Xpt.here hx rfl (hb hby at_161) rfl) ?_
  obtain ⟨cq658, kq658, q658a, q658b, q658c⟩ := isOf (s := s.setVm vmpt) hZ Ept Pf657_6
  obtain ⟨_, _, ⟨T658, L658, k658, n658⟩, -, X658, ⟨Lc658, hQ658, l658, y658, z658⟩, st658⟩ := Xpt.virtualBack hx (y := own_n48) (z := own_n48) hown (mvT hZ (own_hw hw 189 rfl)) (mvT hZ (own_hw hw 190 rfl)) (notFace_of_selects (args := #[]) (mvT hZ (own_hw hw 192 rfl))) (mvT hZ (own_hw hw 192 rfl)) (mvT hZ (own_hw hw 191 rfl)) (by decide) (backOf (W := 0) (own_rmEX1 l Z a0 hw [] b631 x0 x1 x2 li_644 aN aI none hpt n0 Zpt Pf657_6 Pf657_7 Pf657_8 Pf657_9 Pf657_10 (SE.ext Old657.2) (Or.inl ⟨rfl, (EN.ext Old657.2)⟩)) hZ (own_hw hw 193 rfl) (own_hw hw 79 rfl) (by decide) (by decide)) q658a q658c (g := (mkF m 162 #[.val (.int x0), .val (.long x1), .second, .val (.long x2), .second, .val (.int x3), .val (.int x4), .val (.int x5), .val (.int nn), .val (.int (1 : Int32)), .val (.int k2), .val (.int k3), .val (.int c1), .val (.int c2), .val (.int c3), .val (.ref b8), .val (.ref b631), .unset, .unset] [(.long x2), (.long x1), (.int x0), (.ref b631)])) rfl (by rw [hml]; rfl) (Steps.refl _) (argsL := [(.int x0), (.long x1), (.long x2)]) (rest := []) (lenOf own_pd_pIJJqZ rfl) rfl (own_W rfl rfl) (hb hby at_162) (fun _ _ => ⟨rfl, Ept, (by decide : 7 + 1 ≤ _), (by decide : 81 + 4 ≤ _)⟩)
  dsimp only [Pt.U, Pt.locs, Pt.cells, Pt.slots] at X658 l658 y658 z658 st658 hQ658
  subst l658 y658 z658
  obtain ⟨hv658, Nq658, Kq658⟩ := hQ658
  have N658 := Fr.app Npt Nq658
  have R659 := Rpt.trans (CHr.keep Kq658 sf0 Rpt.1)
  have hk660 := Nat.le_trans hkpt Kq658.1
  have Zk658 : n0 ≤ T658.heap.size := Nat.le_trans Zpt Kq658.1
  subst hv658
  refine Goes.tr st658 ?_
  refine gx (XS.istore X658.here hx rfl (hb hby at_165) rfl (l' := #[.val (.int x0), .val (.long x1), .second, .val (.long x2), .second, .val (.int x3), .val (.int x4), .val (.int x5), .val (.int nn), .val (.int (1 : Int32)), .val (.int k2), .val (.int k3), .val (.int c1), .val (.int c2), .val (.int c3), .val (.ref b8), .val (.ref b631), .val (.int (own_exp [none] x0)), .unset]) rfl) ?_
  exact own_pt_own_rm0_96 l Z a0 hw ws x0 x1 x2 x3 x4 x5 aN aD kD aI mr h0 n0 Z0 hPm Bd hml0 hh  (own_exp [none] x0) (.val (.ref b8)) (.val (.ref b631)) (1 : Int32) k2 k3 nn c1 c2 c3 T658 _ vmpt hZ hown T658.heap (own_wk X658 (by decide) (by decide)) rfl N658 Zk658  _ hSpt hk660 R659 (Or.inr rfl) hk2 hk3 (by simp [own_got, own_sp0, own_sp1, Ph657_40, Ph657_41])
set_option maxRecDepth 65536 in
set_option maxHeartbeats 40000000 in
theorem own_pt_own_rm0_698 (l : Launch) (Z : State) (a0 : Array Value) (hw : ∀ d ∈ tables_1, d.before a0 Z = true) (ws : List Jvm.Cond) (x0 : Int32) (x1 : Int64) (x2 : Int64) (x3 : Int32) (x4 : Int32) (x5 : Int32) (aN : Addr) (aD : Addr) (kD : ClassId) (aI : Addr) (mr : Addr) (h0 : Heap) (n0 : Nat) (Z0 : n0 ≤ h0.size) (hPm : own_P_own_rm0 Z a0 x0 x1 x2 x3 x4 x5 aN aD kD aI mr h0 n0)
    {p : Program} {e : Env} {s : State} {m : MethodId} {below : List Frame} {meth : Method} {c : Code} {s₁ : State} (Bd : BodyLoose p l x (head1 (Jvm.Cond.code x code maxLocals ret :: ws) room_1) code maxLocals ret e s m #[(.int x0), (.long x1), (.long x2), (.int x3), (.int x4), (.int x5)] below meth c s₁) (hml0 : c.maxLocals = maxLocals) (hh : s.heap = h0) 
    (b8 : Addr) (ea_620 : Addr) (ru_674 : Addr) (kE_620 : ClassId) (k3 : Int32) (nn : Int32) (c1 : Int32) (c2 : Int32) (c3 : Int32)
    (Tpt : State) (lpt : List Loc) (vmpt : Vm) (hZ : Z.Warmed39 vmpt) (hown : vmpt.findClass "com/example/wee_table/weetable/model/IntersectionExpiresPinLaw" = some m.cls) (hpt : Heap)
    (Xpt : Stand p l e room_1 (s.setVm vmpt) m #[(.int x0), (.long x1), (.long x2), (.int x3), (.int x4), (.int x5)] below meth c Tpt lpt 3 14) (Ept : Tpt.heap = hpt) (Npt : Fr n0 lpt) (Zpt : n0 ≤ hpt.size) (kpt : Nat) (hSpt : s.Since vmpt kpt) (hkpt : kpt ≤ hpt.size) (Rpt : CHr Z own_EL s.vm h0 vmpt hpt)
    (Pf698_0 : Exa Z hpt b8 "java/util/ArrayList")
    (Pf698_1 : Exa Z hpt ea_620 "[Ljava/lang/Object;")
    (Pf698_2 : Exa Z hpt ru_674 "com/example/wee_table/weetable/model/GcRule$MaxVersions")
    (Pf698_3 : Fld Z hpt ru_674 "com/example/wee_table/weetable/model/GcRule$MaxVersions" "count" "I" (.int c2))
    (Pf698_4 : Fld Z hpt b8 "java/util/AbstractList" "modCount" "I" (.int (2 : Int32)))
    (Pf698_5 : Fld Z hpt b8 "java/util/ArrayList" "size" "I" (.int (2 : Int32)))
    (Pf698_6 : Fld Z hpt b8 "java/util/ArrayList" "elementData" "[Ljava/lang/Object;" (.ref ea_620))
    (Pf698_7 : Arv Z hpt ea_620 kE_620 (.object "java/lang/Object") (10 : Int32) [(.ref aN), (.ref ru_674), .null, .null, .null, .null, .null, .null, .null, .null] .null)
    (Pg698_11 : n0 ≤ b8)
    (Pg698_12 : n0 ≤ ea_620)
    (Po698_17 : Ovr Z kE_620 "java/lang/Object")
    (Pn698_21 : aI ≠ ru_674)
    (Pn698_22 : b8 ≠ ru_674)
    (Pn698_23 : ea_620 ≠ ru_674)
    (Old698 : Old Z n0 hpt)
    (hk3 : k3 = (0 : Int32) ∨ k3 = (1 : Int32))
    (hge1 : ¬ (c1 < (1 : Int32)))
    (hge2 : ¬ (c2 < (1 : Int32)))
    (hge3 : ¬ (c3 < (1 : Int32)))
    (Ph698_29 : ¬ (nn < (2 : Int32)))
    : Goes p.tables e below (Tpt.setTop (mkF m 127 #[.val (.int x0), .val (.long x1), .second, .val (.long x2), .second, .val (.int x3), .val (.int x4), .val (.int x5), .val (.int nn), .val (.int (1 : Int32)), .val (.int (0 : Int32)), .val (.int k3), .val (.int c1), .val (.int c2), .val (.int c3), .val (.ref b8), .unset, .unset, .unset] [])) (own_RW below s (own_Q_own_rm0 Z x0 x1 x2 x3 x4 x5 aN aD kD aI mr h0 n0) 32 1152) := by
  obtain ⟨O0, hCH0, SN, SD, SE, EN, XD, VD, EI, Mr⟩ := id hPm
  have hx := Bd.exec
  have hby := Bd.bytes
  have hml : c.maxLocals = 19 := hml0
  have hnm := (name_of_methodNamed Bd.named Bd.method).1
  have own_wS' : ∀ a ∈ Bundle.stringAtoms, a.before a0 Z = true := own_wS hw
  have hEL := own_EW hw
  refine gx (XS.iload Xpt.here hx rfl (hb hby at_127) rfl) ?_
  refine gx (XS.iconst Xpt.here hx rfl (hb hby at_129)) ?_
  by_cases hc699 : nn < (3 : Int32)
  · refine gx (XS.icmpYes Xpt.here hx rfl (pc0 := 130) (pc' := 146) rfl (hb hby at_130) rfl (tlt hc699).1 (by decide) (by decide)) ?_
    obtain ⟨T700, h700, X700, e700, E700, A700, D700, -, st700⟩ := newO Xpt hx hZ hown (own_hw hw 77 rfl) (own_hw hw 78 rfl) (own_hw hw 79 rfl) Ept (g := (mkF m 146 #[.val (.int x0), .val (.long x1), .second, .val (.long x2), .second, .val (.int x3), .val (.int x4), .val (.int x5), .val (.int nn), .val (.int (1 : Int32)), .val (.int (0 : Int32)), .val (.int k3), .val (.int c1), .val (.int c2), .val (.int c3), .val (.ref b8), .unset, .unset, .unset] [])) rfl (hb hby at_146) (by decide) (by decide)
    obtain ⟨b700, g700⟩ : ∃ z, z = hpt.size := ⟨_, rfl⟩
    rw [← g700] at A700 D700 st700
    subst e700
    have ne703 : ru_674 ≠ b700 := Nat.ne_of_lt (Nat.lt_of_lt_of_le Pf698_2.lt (Nat.le_of_eq g700.symm))
    have R704 := Rpt.trans (CHr.ext E700 Rpt.1)
    have hk705 := Nat.le_trans hkpt E700.1
    have O706 := Old698.ext E700
    have F707 := Pf698_0.ext E700
    have F708 := Pf698_1.ext E700
    have F709 := Pf698_2.ext E700
    have F710 := Pf698_3.ext E700
    have F712 := Pf698_5.ext E700
    have F713 := Pf698_6.ext E700
    have F714 := Pf698_7.ext E700
    have g_b700 : n0 ≤ b700 := Nat.le_trans Zpt (Nat.le_of_eq g700.symm)
    have Z700 : n0 ≤ T700.heap.size := Nat.le_trans Zpt E700.1
    have F715 : Fld Z T700.heap b700 "com/example/wee_table/weetable/model/GcRule$Intersection" "rules" "Ljava/util/List;" .null := D700 (Or.inr (own_hw hw 188 rfl)) (ty := (.object "java/util/List")) (by decide)
    refine Goes.to st700 ?_
    refine gx (XS.dup X700.here hx rfl (hb hby at_149) rfl rfl) ?_
    refine gx (XS.aload X700.here hx rfl (hb hby at_150) rfl rfl) ?_
    obtain ⟨_, _, ⟨T716, L716, k716, n716⟩, -, X716, hSn716, hgr716, ⟨Lc716, hQ716, l716, y716, z716, Rr716⟩, st716⟩ := X700.specialBackS hx (y := own_n33) rfl hown (mvT hZ (own_hw hw 80 rfl)) (mvT hZ (own_hw hw 81 rfl)) (mvT hZ (own_hw hw 82 rfl)) (by decide) (backOfSH (s := s) (vm0 := vmpt) (W := 1) (own_rmIN2 l Z a0 hw [] b700 b8 ea_620 kE_620 aN ru_674 "com/example/wee_table/weetable/model/GcRule$None" "com/example/wee_table/weetable/model/GcRule$MaxVersions" mr aI T700.heap n0 Z700 g_b700 A700 F715 F707 F712 F713 F708 F714 (EN.ext O706.2) (own_hw hw 265 rfl) F709 (own_hw hw 76 rfl) (SE.ext O706.2) Mr) hZ (own_hw hw 82 rfl) (own_hw hw 79 rfl) (by decide) (by decide) hEL R704.1) (g := (mkF m 152 #[.val (.int x0), .val (.long x1), .second, .val (.long x2), .second, .val (.int x3), .val (.int x4), .val (.int x5), .val (.int nn), .val (.int (1 : Int32)), .val (.int (0 : Int32)), .val (.int k3), .val (.int c1), .val (.int c2), .val (.int c3), .val (.ref b8), .unset, .unset, .unset] [(.ref b8), (.ref b700), (.ref b700)])) rfl (by rw [hml]; rfl) (Steps.refl _) (a := b700) (argsL := [(.ref b8)]) (rest := [(.ref b700)]) (lenOf own_pd_pLjavalutillListsqV rfl) rfl (own_W rfl rfl) (hb hby at_152) (fun _ _ => ⟨rfl, rfl, (by decide : 4 + 4 ≤ _), (by decide : 15 + 68 ≤ _)⟩)
    dsimp only [Pt.U, Pt.locs, Pt.cells, Pt.slots] at X716 hSn716 hgr716 l716 y716 z716 st716 hQ716 Rr716
    subst l716 y716 z716
    obtain ⟨X716, hS716, hZ716, hown716⟩ := rebS (s := s) hSpt hk705 X716 hSn716 hgr716 hZ hown
    have R716 := R704.trans Rr716
    have hZ := hZ716
    have hown := hown716
    obtain ⟨li_716, hv716, Nq716, sq716_0, Kq716, Qf716_0, Qf716_1, Qf716_2, Qf716_3, Qf716_4⟩ := hQ716
    have N716 := Fr.app Npt Nq716
    have O721 := O706.keep Kq716 (allS g_b700 all0)
    have F724 := F709.keep Kq716
    have F725 := F710.keep Kq716 (ninS ne703 nin0)
    have Zk716 : n0 ≤ T716.heap.size := Nat.le_trans Z700 Kq716.1
    subst hv716
    refine Goes.tr st716 ?_
    refine gx (XS.astore X716.here hx rfl (hb hby at_155) rfl rfl (l' := #[.val (.int x0), .val (.long x1), .second, .val (.long x2), .second, .val (.int x3), .val (.int x4), .val (.int x5), .val (.int nn), .val (.int (1 : Int32)), .val (.int (0 : Int32)), .val (.int k3), .val (.int c1), .val (.int c2), .val (.int c3), .val (.ref b8), .val (.ref b700), .unset, .unset]) rfl) ?_
    refine gx (XS.aload X716.here hx rfl (hb hby at_157) rfl rfl) ?_
    refine gx (XS.iloadN X716.here hx rfl (hb hby at_159) rfl) ?_
    refine gx (XS.lloadN X716.here hx rfl (hb hby at_160) rfl) ?_
    show Goes p.tables e below (T716.setTop (mkF m 161 #[.val (.int x0), .val (.long x1), .second, .val (.long x2), .second, .val (.int x3), .val (.int x4), .val (.int x5), .val (.int nn), .val (.int (1 : Int32)), .val (.int (0 : Int32)), .val (.int k3), .val (.int c1), .val (.int c2), .val (.int c3), .val (.ref b8), .val (.ref b700), .unset, .unset] [(.long x1), (.int x0), (.ref b700)])) _
    refine gx (XS.lloadN X716.here hx rfl (hb hby at_161) rfl) ?_
    obtain ⟨cq732, kq732, q732a, q732b, q732c⟩ := isOf (s := s.setVm T716.vm) hZ rfl Qf716_0
    obtain ⟨_, _, ⟨T732, L732, k732, n732⟩, -, X732, ⟨Lc732, hQ732, l732, y732, z732⟩, st732⟩ := X716.virtualBack hx (y := own_n48) (z := own_n48) hown (mvT hZ (own_hw hw 189 rfl)) (mvT hZ (own_hw hw 190 rfl)) (notFace_of_selects (args := #[]) (mvT hZ (own_hw hw 192 rfl))) (mvT hZ (own_hw hw 192 rfl)) (mvT hZ (own_hw hw 191 rfl)) (by decide) (backOf (W := 0) (own_rmEX2 l Z a0 hw [] b700 x0 x1 x2 li_716 aN ru_674 aI none (some c2) T716.heap n0 Zk716 Qf716_0 Qf716_1 Qf716_2 Qf716_3 Qf716_4 (SE.ext O721.2) (Ne.symm Pn698_21) (Or.inl ⟨rfl, (EN.ext O721.2)⟩) (Or.inr ⟨_, rfl, F724, F725⟩)) hZ (own_hw hw 193 rfl) (own_hw hw 79 rfl) (by decide) (by decide)) q732a q732c (g := (mkF m 162 #[.val (.int x0), .val (.long x1), .second, .val (.long x2), .second, .val (.int x3), .val (.int x4), .val (.int x5), .val (.int nn), .val (.int (1 : Int32)), .val (.int (0 : Int32)), .val (.int k3), .val (.int c1), .val (.int c2), .val (.int c3), .val (.ref b8), .val (.ref b700), .unset, .unset] [(.long x2), (.long x1), (.int x0), (.ref b700)])) rfl (by rw [hml]; rfl) (Steps.refl _) (argsL := [(.int x0), (.long x1), (.long x2)]) (rest := []) (lenOf own_pd_pIJJqZ rfl) rfl (own_W rfl rfl) (hb hby at_162) (fun _ _ => ⟨rfl, rfl, (by decide : 8 + 1 ≤ _), (by decide : 83 + 4 ≤ _)⟩)
    dsimp only [Pt.U, Pt.locs, Pt.cells, Pt.slots] at X732 l732 y732 z732 st732 hQ732
    subst l732 y732 z732
    obtain ⟨hv732, Nq732, Kq732⟩ := hQ732
    have N732 := Fr.app N716 Nq732
    have R733 := R716.trans (CHr.keep Kq732 sf0 R716.1)
    have hk734 := Nat.le_trans (Nat.le_refl _) Kq732.1
    have Zk732 : n0 ≤ T732.heap.size := Nat.le_trans Zk716 Kq732.1
    subst hv732
    refine Goes.tr st732 ?_
    refine gx (XS.istore X732.here hx rfl (hb hby at_165) rfl (l' := #[.val (.int x0), .val (.long x1), .second, .val (.long x2), .second, .val (.int x3), .val (.int x4), .val (.int x5), .val (.int nn), .val (.int (1 : Int32)), .val (.int (0 : Int32)), .val (.int k3), .val (.int c1), .val (.int c2), .val (.int c3), .val (.ref b8), .val (.ref b700), .val (.int (own_exp [none, (some c2)] x0)), .unset]) rfl) ?_
    exact own_pt_own_rm0_96 l Z a0 hw ws x0 x1 x2 x3 x4 x5 aN aD kD aI mr h0 n0 Z0 hPm Bd hml0 hh  (own_exp [none, (some c2)] x0) (.val (.ref b8)) (.val (.ref b700)) (1 : Int32) (0 : Int32) k3 nn c1 c2 c3 T732 _ T716.vm hZ hown T732.heap (own_wk X732 (by decide) (by decide)) rfl N732 Zk732  _ hS716 hk734 R733 (Or.inr rfl) (Or.inl rfl) hk3 (by simp [own_got, own_sp0, own_sp1, Ph698_29, hc699])
  · refine gx (XS.icmpNo Xpt.here hx rfl (hb hby at_130) rfl (flt hc699).1) ?_
    refine gx (XS.aload Xpt.here hx rfl (hb hby at_133) rfl rfl) ?_
    rcases hk3 with rfl | rfl
    · refine gx (XS.iload Xpt.here hx rfl (hb hby at_135) rfl) ?_
      show Goes p.tables e below (Tpt.setTop (mkF m 137 #[.val (.int x0), .val (.long x1), .second, .val (.long x2), .second, .val (.int x3), .val (.int x4), .val (.int x5), .val (.int nn), .val (.int (1 : Int32)), .val (.int (0 : Int32)), .val (.int (0 : Int32)), .val (.int c1), .val (.int c2), .val (.int c3), .val (.ref b8), .unset, .unset, .unset] [(.int (0 : Int32)), (.ref b8)])) _
      refine gx (XS.iload Xpt.here hx rfl (hb hby at_137) rfl) ?_
      obtain ⟨_, _, ⟨T750, L750, k750, n750⟩, -, X750, ⟨Lc750, hQ750, l750, y750, z750⟩, st750⟩ := Jvm.LawKit.callS Xpt hx (y := own_n15) hown (mvT hZ (own_hw hw 31 rfl)) (mvT hZ (own_hw hw 32 rfl)) (mvT hZ (own_hw hw 33 rfl)) (mvT hZ (own_hw hw 34 rfl)) (by decide) (backOf (W := 1) (own_rmRU0 l Z a0 hw [] c3 hpt n0 Zpt hge3) hZ (own_hw hw 34 rfl) (own_hw hw 33 rfl) (by decide) (by decide)) (g := (mkF m 139 #[.val (.int x0), .val (.long x1), .second, .val (.long x2), .second, .val (.int x3), .val (.int x4), .val (.int x5), .val (.int nn), .val (.int (1 : Int32)), .val (.int (0 : Int32)), .val (.int (0 : Int32)), .val (.int c1), .val (.int c2), .val (.int c3), .val (.ref b8), .unset, .unset, .unset] [(.int c3), (.int (0 : Int32)), (.ref b8)])) rfl (by rw [hml]; rfl) (argsL := [(.int (0 : Int32)), (.int c3)]) (rest := [(.ref b8)]) (lenOf own_pd_pZIqLcomlexamplelwee_tablelweetablelmodellGcRules rfl) rfl (own_W rfl rfl) (hb hby at_139) (fun _ _ => ⟨rfl, Ept, (by decide : 3 + 1 ≤ _), (by decide : 14 + 1 ≤ _)⟩)
      dsimp only [Pt.U, Pt.locs, Pt.cells, Pt.slots] at X750 l750 y750 z750 st750 hQ750
      subst l750 y750 z750
      obtain ⟨ru_750, hv750, Nq750, sq750_0, Kq750, Qf750_0, Qf750_1⟩ := hQ750
      have N750 := Fr.app Npt Nq750
      have ne751 : b8 ≠ ru_750 := Nat.ne_of_lt (Nat.lt_of_lt_of_le Pf698_0.lt sq750_0)
      have ne752 : ea_620 ≠ ru_750 := Nat.ne_of_lt (Nat.lt_of_lt_of_le Pf698_1.lt sq750_0)
      have R754 := Rpt.trans (CHr.keep Kq750 sf0 Rpt.1)
      have hk755 := Nat.le_trans hkpt Kq750.1
      have O756 := Old698.keep Kq750 all0
      have F757 := Pf698_0.keep Kq750
      have F758 := Pf698_1.keep Kq750
      have F759 := Pf698_2.keep Kq750
      have F760 := Pf698_3.keep Kq750 nin0
      have F761 := Pf698_4.keep Kq750 nin0
      have F762 := Pf698_5.keep Kq750 nin0
      have F763 := Pf698_6.keep Kq750 nin0
      have F764 := Pf698_7.keep Kq750 nin0
      have Zk750 : n0 ≤ T750.heap.size := Nat.le_trans Zpt Kq750.1
      subst hv750
      refine Goes.to st750 ?_
      obtain ⟨cq765, kq765, q765a, q765b, q765c⟩ := isOf (s := s.setVm vmpt) hZ rfl F757
      obtain ⟨_, _, ⟨T765, L765, k765, n765⟩, -, X765, ⟨Lc765, hQ765, l765, y765, z765⟩, st765⟩ := X750.virtualBack hx (y := own_n12) (z := own_n12) hown (mvT hZ (own_hw hw 49 rfl)) (mvT hZ (own_hw hw 50 rfl)) (notFace_of_selects (args := #[]) (mvT hZ (own_hw hw 52 rfl))) (mvT hZ (own_hw hw 52 rfl)) (mvT hZ (own_hw hw 51 rfl)) (by decide) (backOf (W := 0) (own_rmAD2 l Z a0 hw [] b8 ru_750 ea_620 kE_620 "com/example/wee_table/weetable/model/GcRule$MaxVersions" aN ru_674 T750.heap n0 Zk750 Pg698_11 Qf750_0 (own_hw hw 76 rfl) F757 F761 F762 F763 Pg698_12 F758 F764 Po698_17) hZ (own_hw hw 53 rfl) (own_hw hw 7 rfl) (by decide) (by decide)) q765a q765c (g := (mkF m 142 #[.val (.int x0), .val (.long x1), .second, .val (.long x2), .second, .val (.int x3), .val (.int x4), .val (.int x5), .val (.int nn), .val (.int (1 : Int32)), .val (.int (0 : Int32)), .val (.int (0 : Int32)), .val (.int c1), .val (.int c2), .val (.int c3), .val (.ref b8), .unset, .unset, .unset] [(.ref ru_750), (.ref b8)])) rfl (by rw [hml]; rfl) (Steps.refl _) (argsL := [(.ref ru_750)]) (rest := []) (lenOf own_pd_pLjavallanglObjectsqZ rfl) rfl (own_W rfl rfl) (hb hby at_142) (fun _ _ => ⟨rfl, rfl, (by decide : 4 + 0 ≤ _), (by decide : 15 + 0 ≤ _)⟩)
      dsimp only [Pt.U, Pt.locs, Pt.cells, Pt.slots] at X765 l765 y765 z765 st765 hQ765
      subst l765 y765 z765
      obtain ⟨hv765, Nq765, Kq765, Qf765_0, Qf765_1, Qf765_2, Qf765_3, Qf765_4, Qf765_5, Qf765_6⟩ := hQ765
      have N765 := Fr.app N750 Nq765
      have R766 := R754.trans (CHr.keep Kq765 (sfS own_sf0 (sfS own_sf0 sf0)) R754.1)
      have hk767 := Nat.le_trans hk755 Kq765.1
      have O768 := O756.keep Kq765 (allS Pg698_11 (allS Pg698_12 all0))
      have F771 := F759.keep Kq765
      have F772 := F760.keep Kq765 (ninS (Ne.symm Pn698_22) (ninS (Ne.symm Pn698_23) nin0))
      have F777 := Qf750_0.keep Kq765
      have F778 := Qf750_1.keep Kq765 (ninS (Ne.symm ne751) (ninS (Ne.symm ne752) nin0))
      have Zk765 : n0 ≤ T765.heap.size := Nat.le_trans Zk750 Kq765.1
      subst hv765
      refine Goes.tr st765 ?_
      refine gx (XS.pop X765.here hx rfl (hb hby at_145) rfl rfl) ?_
      obtain ⟨T779, h779, X779, e779, E779, A779, D779, -, st779⟩ := newO X765 hx hZ hown (own_hw hw 77 rfl) (own_hw hw 78 rfl) (own_hw hw 79 rfl) rfl (g := (mkF m 146 #[.val (.int x0), .val (.long x1), .second, .val (.long x2), .second, .val (.int x3), .val (.int x4), .val (.int x5), .val (.int nn), .val (.int (1 : Int32)), .val (.int (0 : Int32)), .val (.int (0 : Int32)), .val (.int c1), .val (.int c2), .val (.int c3), .val (.ref b8), .unset, .unset, .unset] [])) rfl (hb hby at_146) (by decide) (by decide)
      obtain ⟨b779, g779⟩ : ∃ z, z = T765.heap.size := ⟨_, rfl⟩
      rw [← g779] at A779 D779 st779
      subst e779
      have ne782 : ru_674 ≠ b779 := Nat.ne_of_lt (Nat.lt_of_lt_of_le F771.lt (Nat.le_of_eq g779.symm))
      have ne783 : ru_750 ≠ b779 := Nat.ne_of_lt (Nat.lt_of_lt_of_le F777.lt (Nat.le_of_eq g779.symm))
      have R784 := R766.trans (CHr.ext E779 R766.1)
      have hk785 := Nat.le_trans hk767 E779.1
      have O786 := O768.ext E779
      have F787 := Qf765_0.ext E779
      have F788 := Qf765_4.ext E779
      have F789 := F771.ext E779
      have F790 := F772.ext E779
      have F791 := F777.ext E779
      have F792 := F778.ext E779
      have F794 := Qf765_2.ext E779
      have F795 := Qf765_3.ext E779
      have F796 := Qf765_5.ext E779
      have g_b779 : n0 ≤ b779 := Nat.le_trans Zk765 (Nat.le_of_eq g779.symm)
      have Z779 : n0 ≤ T779.heap.size := Nat.le_trans Zk765 E779.1
      have F797 : Fld Z T779.heap b779 "com/example/wee_table/weetable/model/GcRule$Intersection" "rules" "Ljava/util/List;" .null := D779 (Or.inr (own_hw hw 188 rfl)) (ty := (.object "java/util/List")) (by decide)
      refine Goes.to st779 ?_
      refine gx (XS.dup X779.here hx rfl (hb hby at_149) rfl rfl) ?_
      refine gx (XS.aload X779.here hx rfl (hb hby at_150) rfl rfl) ?_
      obtain ⟨_, _, ⟨T798, L798, k798, n798⟩, -, X798, hSn798, hgr798, ⟨Lc798, hQ798, l798, y798, z798, Rr798⟩, st798⟩ := X779.specialBackS hx (y := own_n33) rfl hown (mvT hZ (own_hw hw 80 rfl)) (mvT hZ (own_hw hw 81 rfl)) (mvT hZ (own_hw hw 82 rfl)) (by decide) (backOfSH (s := s) (vm0 := vmpt) (W := 1) (own_rmIN3 l Z a0 hw [] b779 b8 ea_620 kE_620 aN ru_674 ru_750 "com/example/wee_table/weetable/model/GcRule$None" "com/example/wee_table/weetable/model/GcRule$MaxVersions" "com/example/wee_table/weetable/model/GcRule$MaxVersions" mr aI T779.heap n0 Z779 g_b779 A779 F797 F787 F794 F795 F788 F796 (EN.ext O786.2) (own_hw hw 265 rfl) F789 (own_hw hw 76 rfl) F791 (own_hw hw 76 rfl) (SE.ext O786.2) Mr) hZ (own_hw hw 82 rfl) (own_hw hw 79 rfl) (by decide) (by decide) hEL R784.1) (g := (mkF m 152 #[.val (.int x0), .val (.long x1), .second, .val (.long x2), .second, .val (.int x3), .val (.int x4), .val (.int x5), .val (.int nn), .val (.int (1 : Int32)), .val (.int (0 : Int32)), .val (.int (0 : Int32)), .val (.int c1), .val (.int c2), .val (.int c3), .val (.ref b8), .unset, .unset, .unset] [(.ref b8), (.ref b779), (.ref b779)])) rfl (by rw [hml]; rfl) (Steps.refl _) (a := b779) (argsL := [(.ref b8)]) (rest := [(.ref b779)]) (lenOf own_pd_pLjavalutillListsqV rfl) rfl (own_W rfl rfl) (hb hby at_152) (fun _ _ => ⟨rfl, rfl, (by decide : 5 + 5 ≤ _), (by decide : 16 + 72 ≤ _)⟩)
      dsimp only [Pt.U, Pt.locs, Pt.cells, Pt.slots] at X798 hSn798 hgr798 l798 y798 z798 st798 hQ798 Rr798
      subst l798 y798 z798
      obtain ⟨X798, hS798, hZ798, hown798⟩ := rebS (s := s) hSpt hk785 X798 hSn798 hgr798 hZ hown
      have R798 := R784.trans Rr798
      have hZ := hZ798
      have hown := hown798
      obtain ⟨li_798, el_798, kL_798, hv798, Nq798, sq798_0, sq798_1, np798_0, Kq798, Qf798_0, Qf798_1, Qf798_2, Qf798_3, Qf798_4, Qf798_5⟩ := hQ798
      have N798 := Fr.app N765 Nq798
      have O809 := O786.keep Kq798 (allS g_b779 all0)
      have F812 := F789.keep Kq798
      have F813 := F790.keep Kq798 (ninS ne782 nin0)
      have F814 := F791.keep Kq798
      have F815 := F792.keep Kq798 (ninS ne783 nin0)
      have Zk798 : n0 ≤ T798.heap.size := Nat.le_trans Z779 Kq798.1
      subst hv798
      refine Goes.tr st798 ?_
      refine gx (XS.astore X798.here hx rfl (hb hby at_155) rfl rfl (l' := #[.val (.int x0), .val (.long x1), .second, .val (.long x2), .second, .val (.int x3), .val (.int x4), .val (.int x5), .val (.int nn), .val (.int (1 : Int32)), .val (.int (0 : Int32)), .val (.int (0 : Int32)), .val (.int c1), .val (.int c2), .val (.int c3), .val (.ref b8), .val (.ref b779), .unset, .unset]) rfl) ?_
      refine gx (XS.aload X798.here hx rfl (hb hby at_157) rfl rfl) ?_
      refine gx (XS.iloadN X798.here hx rfl (hb hby at_159) rfl) ?_
      refine gx (XS.lloadN X798.here hx rfl (hb hby at_160) rfl) ?_
      show Goes p.tables e below (T798.setTop (mkF m 161 #[.val (.int x0), .val (.long x1), .second, .val (.long x2), .second, .val (.int x3), .val (.int x4), .val (.int x5), .val (.int nn), .val (.int (1 : Int32)), .val (.int (0 : Int32)), .val (.int (0 : Int32)), .val (.int c1), .val (.int c2), .val (.int c3), .val (.ref b8), .val (.ref b779), .unset, .unset] [(.long x1), (.int x0), (.ref b779)])) _
      refine gx (XS.lloadN X798.here hx rfl (hb hby at_161) rfl) ?_
      obtain ⟨cq822, kq822, q822a, q822b, q822c⟩ := isOf (s := s.setVm T798.vm) hZ rfl Qf798_0
      obtain ⟨_, _, ⟨T822, L822, k822, n822⟩, -, X822, ⟨Lc822, hQ822, l822, y822, z822⟩, st822⟩ := X798.virtualBack hx (y := own_n48) (z := own_n48) hown (mvT hZ (own_hw hw 189 rfl)) (mvT hZ (own_hw hw 190 rfl)) (notFace_of_selects (args := #[]) (mvT hZ (own_hw hw 192 rfl))) (mvT hZ (own_hw hw 192 rfl)) (mvT hZ (own_hw hw 191 rfl)) (by decide) (backOf (W := 0) (own_rmEX3 l Z a0 hw [] b779 x0 x1 x2 li_798 aN ru_674 ru_750 el_798 kL_798 aI none (some c2) (some c3) T798.heap n0 Zk798 Qf798_0 Qf798_1 Qf798_2 Qf798_3 Qf798_4 Qf798_5 (SE.ext O809.2) (Or.inl ⟨rfl, (EN.ext O809.2)⟩) (Or.inr ⟨_, rfl, F812, F813⟩) (Or.inr ⟨_, rfl, F814, F815⟩)) hZ (own_hw hw 193 rfl) (own_hw hw 79 rfl) (by decide) (by decide)) q822a q822c (g := (mkF m 162 #[.val (.int x0), .val (.long x1), .second, .val (.long x2), .second, .val (.int x3), .val (.int x4), .val (.int x5), .val (.int nn), .val (.int (1 : Int32)), .val (.int (0 : Int32)), .val (.int (0 : Int32)), .val (.int c1), .val (.int c2), .val (.int c3), .val (.ref b8), .val (.ref b779), .unset, .unset] [(.long x2), (.long x1), (.int x0), (.ref b779)])) rfl (by rw [hml]; rfl) (Steps.refl _) (argsL := [(.int x0), (.long x1), (.long x2)]) (rest := []) (lenOf own_pd_pIJJqZ rfl) rfl (own_W rfl rfl) (hb hby at_162) (fun _ _ => ⟨rfl, rfl, (by decide : 10 + 1 ≤ _), (by decide : 88 + 4 ≤ _)⟩)
      dsimp only [Pt.U, Pt.locs, Pt.cells, Pt.slots] at X822 l822 y822 z822 st822 hQ822
      subst l822 y822 z822
      obtain ⟨hv822, Nq822, Kq822⟩ := hQ822
      have N822 := Fr.app N798 Nq822
      have R823 := R798.trans (CHr.keep Kq822 sf0 R798.1)
      have hk824 := Nat.le_trans (Nat.le_refl _) Kq822.1
      have Zk822 : n0 ≤ T822.heap.size := Nat.le_trans Zk798 Kq822.1
      subst hv822
      refine Goes.tr st822 ?_
      refine gx (XS.istore X822.here hx rfl (hb hby at_165) rfl (l' := #[.val (.int x0), .val (.long x1), .second, .val (.long x2), .second, .val (.int x3), .val (.int x4), .val (.int x5), .val (.int nn), .val (.int (1 : Int32)), .val (.int (0 : Int32)), .val (.int (0 : Int32)), .val (.int c1), .val (.int c2), .val (.int c3), .val (.ref b8), .val (.ref b779), .val (.int (own_exp [none, (some c2), (some c3)] x0)), .unset]) rfl) ?_
      exact own_pt_own_rm0_96 l Z a0 hw ws x0 x1 x2 x3 x4 x5 aN aD kD aI mr h0 n0 Z0 hPm Bd hml0 hh  (own_exp [none, (some c2), (some c3)] x0) (.val (.ref b8)) (.val (.ref b779)) (1 : Int32) (0 : Int32) (0 : Int32) nn c1 c2 c3 T822 _ T798.vm hZ hown T822.heap (own_wk X822 (by decide) (by decide)) rfl N822 Zk822  _ hS798 hk824 R823 (Or.inr rfl) (Or.inl rfl) (Or.inl rfl) (by simp [own_got, own_sp0, own_sp1, Ph698_29, hc699])
    · refine gx (XS.iload Xpt.here hx rfl (hb hby at_135) rfl) ?_
      show Goes p.tables e below (Tpt.setTop (mkF m 137 #[.val (.int x0), .val (.long x1), .second, .val (.long x2), .second, .val (.int x3), .val (.int x4), .val (.int x5), .val (.int nn), .val (.int (1 : Int32)), .val (.int (0 : Int32)), .val (.int (1 : Int32)), .val (.int c1), .val (.int c2), .val (.int c3), .val (.ref b8), .unset, .unset, .unset] [(.int (1 : Int32)), (.ref b8)])) _
      refine gx (XS.iload Xpt.here hx rfl (hb hby at_137) rfl) ?_
      obtain ⟨_, _, ⟨T843, L843, k843, n843⟩, -, X843, ⟨Lc843, hQ843, l843, y843, z843⟩, st843⟩ := Jvm.LawKit.callS Xpt hx (y := own_n15) hown (mvT hZ (own_hw hw 31 rfl)) (mvT hZ (own_hw hw 32 rfl)) (mvT hZ (own_hw hw 33 rfl)) (mvT hZ (own_hw hw 34 rfl)) (by decide) (backOf (W := 1) (own_rmRU1 l Z a0 hw [] c3 aN hpt n0 Zpt (SN.ext Old698.2)) hZ (own_hw hw 34 rfl) (own_hw hw 33 rfl) (by decide) (by decide)) (g := (mkF m 139 #[.val (.int x0), .val (.long x1), .second, .val (.long x2), .second, .val (.int x3), .val (.int x4), .val (.int x5), .val (.int nn), .val (.int (1 : Int32)), .val (.int (0 : Int32)), .val (.int (1 : Int32)), .val (.int c1), .val (.int c2), .val (.int c3), .val (.ref b8), .unset, .unset, .unset] [(.int c3), (.int (1 : Int32)), (.ref b8)])) rfl (by rw [hml]; rfl) (argsL := [(.int (1 : Int32)), (.int c3)]) (rest := [(.ref b8)]) (lenOf own_pd_pZIqLcomlexamplelwee_tablelweetablelmodellGcRules rfl) rfl (own_W rfl rfl) (hb hby at_139) (fun _ _ => ⟨rfl, Ept, (by decide : 3 + 0 ≤ _), (by decide : 14 + 0 ≤ _)⟩)
      dsimp only [Pt.U, Pt.locs, Pt.cells, Pt.slots] at X843 l843 y843 z843 st843 hQ843
      subst l843 y843 z843
      obtain ⟨hv843, Nq843, hp843_0⟩ := hQ843
      have N843 := Fr.app Npt Nq843
      subst hv843
      refine Goes.to st843 ?_
      obtain ⟨cq844, kq844, q844a, q844b, q844c⟩ := isOf (s := s.setVm vmpt) hZ hp843_0 Pf698_0
      obtain ⟨_, _, ⟨T844, L844, k844, n844⟩, -, X844, ⟨Lc844, hQ844, l844, y844, z844⟩, st844⟩ := X843.virtualBack hx (y := own_n12) (z := own_n12) hown (mvT hZ (own_hw hw 49 rfl)) (mvT hZ (own_hw hw 50 rfl)) (notFace_of_selects (args := #[]) (mvT hZ (own_hw hw 52 rfl))) (mvT hZ (own_hw hw 52 rfl)) (mvT hZ (own_hw hw 51 rfl)) (by decide) (backOf (W := 0) (own_rmAD2 l Z a0 hw [] b8 aN ea_620 kE_620 "com/example/wee_table/weetable/model/GcRule$None" aN ru_674 hpt n0 Zpt Pg698_11 (EN.ext Old698.2) (own_hw hw 265 rfl) Pf698_0 Pf698_4 Pf698_5 Pf698_6 Pg698_12 Pf698_1 Pf698_7 Po698_17) hZ (own_hw hw 53 rfl) (own_hw hw 7 rfl) (by decide) (by decide)) q844a q844c (g := (mkF m 142 #[.val (.int x0), .val (.long x1), .second, .val (.long x2), .second, .val (.int x3), .val (.int x4), .val (.int x5), .val (.int nn), .val (.int (1 : Int32)), .val (.int (0 : Int32)), .val (.int (1 : Int32)), .val (.int c1), .val (.int c2), .val (.int c3), .val (.ref b8), .unset, .unset, .unset] [(.ref aN), (.ref b8)])) rfl (by rw [hml]; rfl) (Steps.refl _) (argsL := [(.ref aN)]) (rest := []) (lenOf own_pd_pLjavallanglObjectsqZ rfl) rfl (own_W rfl rfl) (hb hby at_142) (fun _ _ => ⟨rfl, hp843_0, (by decide : 3 + 0 ≤ _), (by decide : 14 + 0 ≤ _)⟩)
      dsimp only [Pt.U, Pt.locs, Pt.cells, Pt.slots] at X844 l844 y844 z844 st844 hQ844
      subst l844 y844 z844
      obtain ⟨hv844, Nq844, Kq844, Qf844_0, Qf844_1, Qf844_2, Qf844_3, Qf844_4, Qf844_5, Qf844_6⟩ := hQ844
      have N844 := Fr.app N843 Nq844
      have R845 := Rpt.trans (CHr.keep Kq844 (sfS own_sf0 (sfS own_sf0 sf0)) Rpt.1)
      have hk846 := Nat.le_trans hkpt Kq844.1
      have O847 := Old698.keep Kq844 (allS Pg698_11 (allS Pg698_12 all0))
      have F850 := Pf698_2.keep Kq844
      have F851 := Pf698_3.keep Kq844 (ninS (Ne.symm Pn698_22) (ninS (Ne.symm Pn698_23) nin0))
      have Zk844 : n0 ≤ T844.heap.size := Nat.le_trans Zpt Kq844.1
      subst hv844
      refine Goes.tr st844 ?_
      refine gx (XS.pop X844.here hx rfl (hb hby at_145) rfl rfl) ?_
      obtain ⟨T856, h856, X856, e856, E856, A856, D856, -, st856⟩ := newO X844 hx hZ hown (own_hw hw 77 rfl) (own_hw hw 78 rfl) (own_hw hw 79 rfl) rfl (g := (mkF m 146 #[.val (.int x0), .val (.long x1), .second, .val (.long x2), .second, .val (.int x3), .val (.int x4), .val (.int x5), .val (.int nn), .val (.int (1 : Int32)), .val (.int (0 : Int32)), .val (.int (1 : Int32)), .val (.int c1), .val (.int c2), .val (.int c3), .val (.ref b8), .unset, .unset, .unset] [])) rfl (hb hby at_146) (by decide) (by decide)
      obtain ⟨b856, g856⟩ : ∃ z, z = T844.heap.size := ⟨_, rfl⟩
      rw [← g856] at A856 D856 st856
      subst e856
      have ne859 : ru_674 ≠ b856 := Nat.ne_of_lt (Nat.lt_of_lt_of_le F850.lt (Nat.le_of_eq g856.symm))
      have R860 := R845.trans (CHr.ext E856 R845.1)
      have hk861 := Nat.le_trans hk846 E856.1
      have O862 := O847.ext E856
      have F863 := Qf844_0.ext E856
      have F864 := Qf844_4.ext E856
      have F865 := F850.ext E856
      have F866 := F851.ext E856
      have F868 := Qf844_2.ext E856
      have F869 := Qf844_3.ext E856
      have F870 := Qf844_5.ext E856
      have g_b856 : n0 ≤ b856 := Nat.le_trans Zk844 (Nat.le_of_eq g856.symm)
      have Z856 : n0 ≤ T856.heap.size := Nat.le_trans Zk844 E856.1
      have F871 : Fld Z T856.heap b856 "com/example/wee_table/weetable/model/GcRule$Intersection" "rules" "Ljava/util/List;" .null := D856 (Or.inr (own_hw hw 188 rfl)) (ty := (.object "java/util/List")) (by decide)
      refine Goes.to st856 ?_
      refine gx (XS.dup X856.here hx rfl (hb hby at_149) rfl rfl) ?_
      refine gx (XS.aload X856.here hx rfl (hb hby at_150) rfl rfl) ?_
      obtain ⟨_, _, ⟨T872, L872, k872, n872⟩, -, X872, hSn872, hgr872, ⟨Lc872, hQ872, l872, y872, z872, Rr872⟩, st872⟩ := X856.specialBackS hx (y := own_n33) rfl hown (mvT hZ (own_hw hw 80 rfl)) (mvT hZ (own_hw hw 81 rfl)) (mvT hZ (own_hw hw 82 rfl)) (by decide) (backOfSH (s := s) (vm0 := vmpt) (W := 1) (own_rmIN3 l Z a0 hw [] b856 b8 ea_620 kE_620 aN ru_674 aN "com/example/wee_table/weetable/model/GcRule$None" "com/example/wee_table/weetable/model/GcRule$MaxVersions" "com/example/wee_table/weetable/model/GcRule$None" mr aI T856.heap n0 Z856 g_b856 A856 F871 F863 F868 F869 F864 F870 (EN.ext O862.2) (own_hw hw 265 rfl) F865 (own_hw hw 76 rfl) (EN.ext O862.2) (own_hw hw 265 rfl) (SE.ext O862.2) Mr) hZ (own_hw hw 82 rfl) (own_hw hw 79 rfl) (by decide) (by decide) hEL R860.1) (g := (mkF m 152 #[.val (.int x0), .val (.long x1), .second, .val (.long x2), .second, .val (.int x3), .val (.int x4), .val (.int x5), .val (.int nn), .val (.int (1 : Int32)), .val (.int (0 : Int32)), .val (.int (1 : Int32)), .val (.int c1), .val (.int c2), .val (.int c3), .val (.ref b8), .unset, .unset, .unset] [(.ref b8), (.ref b856), (.ref b856)])) rfl (by rw [hml]; rfl) (Steps.refl _) (a := b856) (argsL := [(.ref b8)]) (rest := [(.ref b856)]) (lenOf own_pd_pLjavalutillListsqV rfl) rfl (own_W rfl rfl) (hb hby at_152) (fun _ _ => ⟨rfl, rfl, (by decide : 4 + 5 ≤ _), (by decide : 15 + 72 ≤ _)⟩)
      dsimp only [Pt.U, Pt.locs, Pt.cells, Pt.slots] at X872 hSn872 hgr872 l872 y872 z872 st872 hQ872 Rr872
      subst l872 y872 z872
      obtain ⟨X872, hS872, hZ872, hown872⟩ := rebS (s := s) hSpt hk861 X872 hSn872 hgr872 hZ hown
      have R872 := R860.trans Rr872
      have hZ := hZ872
      have hown := hown872
      obtain ⟨li_872, el_872, kL_872, hv872, Nq872, sq872_0, sq872_1, np872_0, Kq872, Qf872_0, Qf872_1, Qf872_2, Qf872_3, Qf872_4, Qf872_5⟩ := hQ872
      have N872 := Fr.app N844 Nq872
      have O881 := O862.keep Kq872 (allS g_b856 all0)
      have F884 := F865.keep Kq872
      have F885 := F866.keep Kq872 (ninS ne859 nin0)
      have Zk872 : n0 ≤ T872.heap.size := Nat.le_trans Z856 Kq872.1
      subst hv872
      refine Goes.tr st872 ?_
      refine gx (XS.astore X872.here hx rfl (hb hby at_155) rfl rfl (l' := #[.val (.int x0), .val (.long x1), .second, .val (.long x2), .second, .val (.int x3), .val (.int x4), .val (.int x5), .val (.int nn), .val (.int (1 : Int32)), .val (.int (0 : Int32)), .val (.int (1 : Int32)), .val (.int c1), .val (.int c2), .val (.int c3), .val (.ref b8), .val (.ref b856), .unset, .unset]) rfl) ?_
      refine gx (XS.aload X872.here hx rfl (hb hby at_157) rfl rfl) ?_
      refine gx (XS.iloadN X872.here hx rfl (hb hby at_159) rfl) ?_
      refine gx (XS.lloadN X872.here hx rfl (hb hby at_160) rfl) ?_
      show Goes p.tables e below (T872.setTop (mkF m 161 #[.val (.int x0), .val (.long x1), .second, .val (.long x2), .second, .val (.int x3), .val (.int x4), .val (.int x5), .val (.int nn), .val (.int (1 : Int32)), .val (.int (0 : Int32)), .val (.int (1 : Int32)), .val (.int c1), .val (.int c2), .val (.int c3), .val (.ref b8), .val (.ref b856), .unset, .unset] [(.long x1), (.int x0), (.ref b856)])) _
      refine gx (XS.lloadN X872.here hx rfl (hb hby at_161) rfl) ?_
      obtain ⟨cq892, kq892, q892a, q892b, q892c⟩ := isOf (s := s.setVm T872.vm) hZ rfl Qf872_0
      obtain ⟨_, _, ⟨T892, L892, k892, n892⟩, -, X892, ⟨Lc892, hQ892, l892, y892, z892⟩, st892⟩ := X872.virtualBack hx (y := own_n48) (z := own_n48) hown (mvT hZ (own_hw hw 189 rfl)) (mvT hZ (own_hw hw 190 rfl)) (notFace_of_selects (args := #[]) (mvT hZ (own_hw hw 192 rfl))) (mvT hZ (own_hw hw 192 rfl)) (mvT hZ (own_hw hw 191 rfl)) (by decide) (backOf (W := 0) (own_rmEX3 l Z a0 hw [] b856 x0 x1 x2 li_872 aN ru_674 aN el_872 kL_872 aI none (some c2) none T872.heap n0 Zk872 Qf872_0 Qf872_1 Qf872_2 Qf872_3 Qf872_4 Qf872_5 (SE.ext O881.2) (Or.inl ⟨rfl, (EN.ext O881.2)⟩) (Or.inr ⟨_, rfl, F884, F885⟩) (Or.inl ⟨rfl, (EN.ext O881.2)⟩)) hZ (own_hw hw 193 rfl) (own_hw hw 79 rfl) (by decide) (by decide)) q892a q892c (g := (mkF m 162 #[.val (.int x0), .val (.long x1), .second, .val (.long x2), .second, .val (.int x3), .val (.int x4), .val (.int x5), .val (.int nn), .val (.int (1 : Int32)), .val (.int (0 : Int32)), .val (.int (1 : Int32)), .val (.int c1), .val (.int c2), .val (.int c3), .val (.ref b8), .val (.ref b856), .unset, .unset] [(.long x2), (.long x1), (.int x0), (.ref b856)])) rfl (by rw [hml]; rfl) (Steps.refl _) (argsL := [(.int x0), (.long x1), (.long x2)]) (rest := []) (lenOf own_pd_pIJJqZ rfl) rfl (own_W rfl rfl) (hb hby at_162) (fun _ _ => ⟨rfl, rfl, (by decide : 9 + 1 ≤ _), (by decide : 87 + 4 ≤ _)⟩)
      dsimp only [Pt.U, Pt.locs, Pt.cells, Pt.slots] at X892 l892 y892 z892 st892 hQ892
      subst l892 y892 z892
      obtain ⟨hv892, Nq892, Kq892⟩ := hQ892
      have N892 := Fr.app N872 Nq892
      have R893 := R872.trans (CHr.keep Kq892 sf0 R872.1)
      have hk894 := Nat.le_trans (Nat.le_refl _) Kq892.1
      have Zk892 : n0 ≤ T892.heap.size := Nat.le_trans Zk872 Kq892.1
      subst hv892
      refine Goes.tr st892 ?_
      refine gx (XS.istore X892.here hx rfl (hb hby at_165) rfl (l' := #[.val (.int x0), .val (.long x1), .second, .val (.long x2), .second, .val (.int x3), .val (.int x4), .val (.int x5), .val (.int nn), .val (.int (1 : Int32)), .val (.int (0 : Int32)), .val (.int (1 : Int32)), .val (.int c1), .val (.int c2), .val (.int c3), .val (.ref b8), .val (.ref b856), .val (.int (own_exp [none, (some c2), none] x0)), .unset]) rfl) ?_
      exact own_pt_own_rm0_96 l Z a0 hw ws x0 x1 x2 x3 x4 x5 aN aD kD aI mr h0 n0 Z0 hPm Bd hml0 hh  (own_exp [none, (some c2), none] x0) (.val (.ref b8)) (.val (.ref b856)) (1 : Int32) (0 : Int32) (1 : Int32) nn c1 c2 c3 T892 _ T872.vm hZ hown T892.heap (own_wk X892 (by decide) (by decide)) rfl N892 Zk892  _ hS872 hk894 R893 (Or.inr rfl) (Or.inl rfl) (Or.inr rfl) (by simp [own_got, own_sp0, own_sp1, Ph698_29, hc699])
set_option maxRecDepth 65536 in
set_option maxHeartbeats 40000000 in
theorem own_pt_own_rm0_922 (l : Launch) (Z : State) (a0 : Array Value) (hw : ∀ d ∈ tables_1, d.before a0 Z = true) (ws : List Jvm.Cond) (x0 : Int32) (x1 : Int64) (x2 : Int64) (x3 : Int32) (x4 : Int32) (x5 : Int32) (aN : Addr) (aD : Addr) (kD : ClassId) (aI : Addr) (mr : Addr) (h0 : Heap) (n0 : Nat) (Z0 : n0 ≤ h0.size) (hPm : own_P_own_rm0 Z a0 x0 x1 x2 x3 x4 x5 aN aD kD aI mr h0 n0)
    {p : Program} {e : Env} {s : State} {m : MethodId} {below : List Frame} {meth : Method} {c : Code} {s₁ : State} (Bd : BodyLoose p l x (head1 (Jvm.Cond.code x code maxLocals ret :: ws) room_1) code maxLocals ret e s m #[(.int x0), (.long x1), (.long x2), (.int x3), (.int x4), (.int x5)] below meth c s₁) (hml0 : c.maxLocals = maxLocals) (hh : s.heap = h0) 
    (b8 : Addr) (ea_620 : Addr) (kE_620 : ClassId) (k3 : Int32) (nn : Int32) (c1 : Int32) (c2 : Int32) (c3 : Int32)
    (Tpt : State) (lpt : List Loc) (vmpt : Vm) (hZ : Z.Warmed39 vmpt) (hown : vmpt.findClass "com/example/wee_table/weetable/model/IntersectionExpiresPinLaw" = some m.cls) (hpt : Heap)
    (Xpt : Stand p l e room_1 (s.setVm vmpt) m #[(.int x0), (.long x1), (.long x2), (.int x3), (.int x4), (.int x5)] below meth c Tpt lpt 2 13) (Ept : Tpt.heap = hpt) (Npt : Fr n0 lpt) (Zpt : n0 ≤ hpt.size) (kpt : Nat) (hSpt : s.Since vmpt kpt) (hkpt : kpt ≤ hpt.size) (Rpt : CHr Z own_EL s.vm h0 vmpt hpt)
    (Pf922_0 : Exa Z hpt b8 "java/util/ArrayList")
    (Pf922_1 : Exa Z hpt ea_620 "[Ljava/lang/Object;")
    (Pf922_2 : Fld Z hpt b8 "java/util/AbstractList" "modCount" "I" (.int (2 : Int32)))
    (Pf922_3 : Fld Z hpt b8 "java/util/ArrayList" "size" "I" (.int (2 : Int32)))
    (Pf922_4 : Fld Z hpt b8 "java/util/ArrayList" "elementData" "[Ljava/lang/Object;" (.ref ea_620))
    (Pf922_5 : Arv Z hpt ea_620 kE_620 (.object "java/lang/Object") (10 : Int32) [(.ref aN), (.ref aN), .null, .null, .null, .null, .null, .null, .null, .null] .null)
    (Pg922_9 : n0 ≤ b8)
    (Pg922_10 : n0 ≤ ea_620)
    (Po922_15 : Ovr Z kE_620 "java/lang/Object")
    (Old922 : Old Z n0 hpt)
    (hk3 : k3 = (0 : Int32) ∨ k3 = (1 : Int32))
    (hge1 : ¬ (c1 < (1 : Int32)))
    (hge2 : ¬ (c2 < (1 : Int32)))
    (hge3 : ¬ (c3 < (1 : Int32)))
    (Ph922_21 : ¬ (nn < (2 : Int32)))
    : Goes p.tables e below (Tpt.setTop (mkF m 127 #[.val (.int x0), .val (.long x1), .second, .val (.long x2), .second, .val (.int x3), .val (.int x4), .val (.int x5), .val (.int nn), .val (.int (1 : Int32)), .val (.int (1 : Int32)), .val (.int k3), .val (.int c1), .val (.int c2), .val (.int c3), .val (.ref b8), .unset, .unset, .unset] [])) (own_RW below s (own_Q_own_rm0 Z x0 x1 x2 x3 x4 x5 aN aD kD aI mr h0 n0) 32 1152) := by
  obtain ⟨O0, hCH0, SN, SD, SE, EN, XD, VD, EI, Mr⟩ := id hPm
  have hx := Bd.exec
  have hby := Bd.bytes
  have hml : c.maxLocals = 19 := hml0
  have hnm := (name_of_methodNamed Bd.named Bd.method).1
  have own_wS' : ∀ a ∈ Bundle.stringAtoms, a.before a0 Z = true := own_wS hw
  have hEL := own_EW hw
  refine gx (XS.iload Xpt.here hx rfl (hb hby at_127) rfl) ?_
  refine gx (XS.iconst Xpt.here hx rfl (hb hby at_129)) ?_
  by_cases hc923 : nn < (3 : Int32)
  · refine gx (XS.icmpYes Xpt.here hx rfl (pc0 := 130) (pc' := 146) rfl (hb hby at_130) rfl (tlt hc923).1 (by decide) (by decide)) ?_
    obtain ⟨T924, h924, X924, e924, E924, A924, D924, -, st924⟩ := newO Xpt hx hZ hown (own_hw hw 77 rfl) (own_hw hw 78 rfl) (own_hw hw 79 rfl) Ept (g := (mkF m 146 #[.val (.int x0), .val (.long x1), .second, .val (.long x2), .second, .val (.int x3), .val (.int x4), .val (.int x5), .val (.int nn), .val (.int (1 : Int32)), .val (.int (1 : Int32)), .val (.int k3), .val (.int c1), .val (.int c2), .val (.int c3), .val (.ref b8), .unset, .unset, .unset] [])) rfl (hb hby at_146) (by decide) (by decide)
    obtain ⟨b924, g924⟩ : ∃ z, z = hpt.size := ⟨_, rfl⟩
    rw [← g924] at A924 D924 st924
    subst e924
    have R927 := Rpt.trans (CHr.ext E924 Rpt.1)
    have hk928 := Nat.le_trans hkpt E924.1
    have O929 := Old922.ext E924
    have F930 := Pf922_0.ext E924
    have F931 := Pf922_1.ext E924
    have F933 := Pf922_3.ext E924
    have F934 := Pf922_4.ext E924
    have F935 := Pf922_5.ext E924
    have g_b924 : n0 ≤ b924 := Nat.le_trans Zpt (Nat.le_of_eq g924.symm)
    have Z924 : n0 ≤ T924.heap.size := Nat.le_trans Zpt E924.1
    have F936 : Fld Z T924.heap b924 "com/example/wee_table/weetable/model/GcRule$Intersection" "rules" "Ljava/util/List;" .null := D924 (Or.inr (own_hw hw 188 rfl)) (ty := (.object "java/util/List")) (by decide)
    refine Goes.to st924 ?_
    refine gx (XS.dup X924.here hx rfl (hb hby at_149) rfl rfl) ?_
    refine gx (XS.aload X924.here hx rfl (hb hby at_150) rfl rfl) ?_
    obtain ⟨_, _, ⟨T937, L937, k937, n937⟩, -, X937, hSn937, hgr937, ⟨Lc937, hQ937, l937, y937, z937, Rr937⟩, st937⟩ := X924.specialBackS hx (y := own_n33) rfl hown (mvT hZ (own_hw hw 80 rfl)) (mvT hZ (own_hw hw 81 rfl)) (mvT hZ (own_hw hw 82 rfl)) (by decide) (backOfSH (s := s) (vm0 := vmpt) (W := 1) (own_rmIN2 l Z a0 hw [] b924 b8 ea_620 kE_620 aN aN "com/example/wee_table/weetable/model/GcRule$None" "com/example/wee_table/weetable/model/GcRule$None" mr aI T924.heap n0 Z924 g_b924 A924 F936 F930 F933 F934 F931 F935 (EN.ext O929.2) (own_hw hw 265 rfl) (EN.ext O929.2) (own_hw hw 265 rfl) (SE.ext O929.2) Mr) hZ (own_hw hw 82 rfl) (own_hw hw 79 rfl) (by decide) (by decide) hEL R927.1) (g := (mkF m 152 #[.val (.int x0), .val (.long x1), .second, .val (.long x2), .second, .val (.int x3), .val (.int x4), .val (.int x5), .val (.int nn), .val (.int (1 : Int32)), .val (.int (1 : Int32)), .val (.int k3), .val (.int c1), .val (.int c2), .val (.int c3), .val (.ref b8), .unset, .unset, .unset] [(.ref b8), (.ref b924), (.ref b924)])) rfl (by rw [hml]; rfl) (Steps.refl _) (a := b924) (argsL := [(.ref b8)]) (rest := [(.ref b924)]) (lenOf own_pd_pLjavalutillListsqV rfl) rfl (own_W rfl rfl) (hb hby at_152) (fun _ _ => ⟨rfl, rfl, (by decide : 3 + 4 ≤ _), (by decide : 14 + 68 ≤ _)⟩)
    dsimp only [Pt.U, Pt.locs, Pt.cells, Pt.slots] at X937 hSn937 hgr937 l937 y937 z937 st937 hQ937 Rr937
    subst l937 y937 z937
    obtain ⟨X937, hS937, hZ937, hown937⟩ := rebS (s := s) hSpt hk928 X937 hSn937 hgr937 hZ hown
    have R937 := R927.trans Rr937
    have hZ := hZ937
    have hown := hown937
    obtain ⟨li_937, hv937, Nq937, sq937_0, Kq937, Qf937_0, Qf937_1, Qf937_2, Qf937_3, Qf937_4⟩ := hQ937
    have N937 := Fr.app Npt Nq937
    have O941 := O929.keep Kq937 (allS g_b924 all0)
    have Zk937 : n0 ≤ T937.heap.size := Nat.le_trans Z924 Kq937.1
    subst hv937
    refine Goes.tr st937 ?_
    refine gx (XS.astore X937.here hx rfl (hb hby at_155) rfl rfl (l' := #[.val (.int x0), .val (.long x1), .second, .val (.long x2), .second, .val (.int x3), .val (.int x4), .val (.int x5), .val (.int nn), .val (.int (1 : Int32)), .val (.int (1 : Int32)), .val (.int k3), .val (.int c1), .val (.int c2), .val (.int c3), .val (.ref b8), .val (.ref b924), .unset, .unset]) rfl) ?_
    refine gx (XS.aload X937.here hx rfl (hb hby at_157) rfl rfl) ?_
    refine gx (XS.iloadN X937.here hx rfl (hb hby at_159) rfl) ?_
    refine gx (XS.lloadN X937.here hx rfl (hb hby at_160) rfl) ?_
    show Goes p.tables e below (T937.setTop (mkF m 161 #[.val (.int x0), .val (.long x1), .second, .val (.long x2), .second, .val (.int x3), .val (.int x4), .val (.int x5), .val (.int nn), .val (.int (1 : Int32)), .val (.int (1 : Int32)), .val (.int k3), .val (.int c1), .val (.int c2), .val (.int c3), .val (.ref b8), .val (.ref b924), .unset, .unset] [(.long x1), (.int x0), (.ref b924)])) _
    refine gx (XS.lloadN X937.here hx rfl (hb hby at_161) rfl) ?_
    obtain ⟨cq950, kq950, q950a, q950b, q950c⟩ := isOf (s := s.setVm T937.vm) hZ rfl Qf937_0
    obtain ⟨_, _, ⟨T950, L950, k950, n950⟩, -, X950, ⟨Lc950, hQ950, l950, y950, z950⟩, st950⟩ := X937.virtualBack hx (y := own_n48) (z := own_n48) hown (mvT hZ (own_hw hw 189 rfl)) (mvT hZ (own_hw hw 190 rfl)) (notFace_of_selects (args := #[]) (mvT hZ (own_hw hw 192 rfl))) (mvT hZ (own_hw hw 192 rfl)) (mvT hZ (own_hw hw 191 rfl)) (by decide) (backOf (W := 0) (own_rmEX2 l Z a0 hw [] b924 x0 x1 x2 li_937 aN aN aI none none T937.heap n0 Zk937 Qf937_0 Qf937_1 Qf937_2 Qf937_3 Qf937_4 (SE.ext O941.2) (ne_exa (EN.ext O941.2) (EI.ext O941.2) (by decide)) (Or.inl ⟨rfl, (EN.ext O941.2)⟩) (Or.inl ⟨rfl, (EN.ext O941.2)⟩)) hZ (own_hw hw 193 rfl) (own_hw hw 79 rfl) (by decide) (by decide)) q950a q950c (g := (mkF m 162 #[.val (.int x0), .val (.long x1), .second, .val (.long x2), .second, .val (.int x3), .val (.int x4), .val (.int x5), .val (.int nn), .val (.int (1 : Int32)), .val (.int (1 : Int32)), .val (.int k3), .val (.int c1), .val (.int c2), .val (.int c3), .val (.ref b8), .val (.ref b924), .unset, .unset] [(.long x2), (.long x1), (.int x0), (.ref b924)])) rfl (by rw [hml]; rfl) (Steps.refl _) (argsL := [(.int x0), (.long x1), (.long x2)]) (rest := []) (lenOf own_pd_pIJJqZ rfl) rfl (own_W rfl rfl) (hb hby at_162) (fun _ _ => ⟨rfl, rfl, (by decide : 7 + 1 ≤ _), (by decide : 82 + 4 ≤ _)⟩)
    dsimp only [Pt.U, Pt.locs, Pt.cells, Pt.slots] at X950 l950 y950 z950 st950 hQ950
    subst l950 y950 z950
    obtain ⟨hv950, Nq950, Kq950⟩ := hQ950
    have N950 := Fr.app N937 Nq950
    have R951 := R937.trans (CHr.keep Kq950 sf0 R937.1)
    have hk952 := Nat.le_trans (Nat.le_refl _) Kq950.1
    have Zk950 : n0 ≤ T950.heap.size := Nat.le_trans Zk937 Kq950.1
    subst hv950
    refine Goes.tr st950 ?_
    refine gx (XS.istore X950.here hx rfl (hb hby at_165) rfl (l' := #[.val (.int x0), .val (.long x1), .second, .val (.long x2), .second, .val (.int x3), .val (.int x4), .val (.int x5), .val (.int nn), .val (.int (1 : Int32)), .val (.int (1 : Int32)), .val (.int k3), .val (.int c1), .val (.int c2), .val (.int c3), .val (.ref b8), .val (.ref b924), .val (.int (own_exp [none, none] x0)), .unset]) rfl) ?_
    exact own_pt_own_rm0_96 l Z a0 hw ws x0 x1 x2 x3 x4 x5 aN aD kD aI mr h0 n0 Z0 hPm Bd hml0 hh  (own_exp [none, none] x0) (.val (.ref b8)) (.val (.ref b924)) (1 : Int32) (1 : Int32) k3 nn c1 c2 c3 T950 _ T937.vm hZ hown T950.heap (own_wk X950 (by decide) (by decide)) rfl N950 Zk950  _ hS937 hk952 R951 (Or.inr rfl) (Or.inr rfl) hk3 (by simp [own_got, own_sp0, own_sp1, Ph922_21, hc923])
  · refine gx (XS.icmpNo Xpt.here hx rfl (hb hby at_130) rfl (flt hc923).1) ?_
    refine gx (XS.aload Xpt.here hx rfl (hb hby at_133) rfl rfl) ?_
    rcases hk3 with rfl | rfl
    · refine gx (XS.iload Xpt.here hx rfl (hb hby at_135) rfl) ?_
      show Goes p.tables e below (Tpt.setTop (mkF m 137 #[.val (.int x0), .val (.long x1), .second, .val (.long x2), .second, .val (.int x3), .val (.int x4), .val (.int x5), .val (.int nn), .val (.int (1 : Int32)), .val (.int (1 : Int32)), .val (.int (0 : Int32)), .val (.int c1), .val (.int c2), .val (.int c3), .val (.ref b8), .unset, .unset, .unset] [(.int (0 : Int32)), (.ref b8)])) _
      refine gx (XS.iload Xpt.here hx rfl (hb hby at_137) rfl) ?_
      obtain ⟨_, _, ⟨T966, L966, k966, n966⟩, -, X966, ⟨Lc966, hQ966, l966, y966, z966⟩, st966⟩ := Jvm.LawKit.callS Xpt hx (y := own_n15) hown (mvT hZ (own_hw hw 31 rfl)) (mvT hZ (own_hw hw 32 rfl)) (mvT hZ (own_hw hw 33 rfl)) (mvT hZ (own_hw hw 34 rfl)) (by decide) (backOf (W := 1) (own_rmRU0 l Z a0 hw [] c3 hpt n0 Zpt hge3) hZ (own_hw hw 34 rfl) (own_hw hw 33 rfl) (by decide) (by decide)) (g := (mkF m 139 #[.val (.int x0), .val (.long x1), .second, .val (.long x2), .second, .val (.int x3), .val (.int x4), .val (.int x5), .val (.int nn), .val (.int (1 : Int32)), .val (.int (1 : Int32)), .val (.int (0 : Int32)), .val (.int c1), .val (.int c2), .val (.int c3), .val (.ref b8), .unset, .unset, .unset] [(.int c3), (.int (0 : Int32)), (.ref b8)])) rfl (by rw [hml]; rfl) (argsL := [(.int (0 : Int32)), (.int c3)]) (rest := [(.ref b8)]) (lenOf own_pd_pZIqLcomlexamplelwee_tablelweetablelmodellGcRules rfl) rfl (own_W rfl rfl) (hb hby at_139) (fun _ _ => ⟨rfl, Ept, (by decide : 2 + 1 ≤ _), (by decide : 13 + 1 ≤ _)⟩)
      dsimp only [Pt.U, Pt.locs, Pt.cells, Pt.slots] at X966 l966 y966 z966 st966 hQ966
      subst l966 y966 z966
      obtain ⟨ru_966, hv966, Nq966, sq966_0, Kq966, Qf966_0, Qf966_1⟩ := hQ966
      have N966 := Fr.app Npt Nq966
      have ne967 : b8 ≠ ru_966 := Nat.ne_of_lt (Nat.lt_of_lt_of_le Pf922_0.lt sq966_0)
      have ne968 : ea_620 ≠ ru_966 := Nat.ne_of_lt (Nat.lt_of_lt_of_le Pf922_1.lt sq966_0)
      have R969 := Rpt.trans (CHr.keep Kq966 sf0 Rpt.1)
      have hk970 := Nat.le_trans hkpt Kq966.1
      have O971 := Old922.keep Kq966 all0
      have F972 := Pf922_0.keep Kq966
      have F973 := Pf922_1.keep Kq966
      have F974 := Pf922_2.keep Kq966 nin0
      have F975 := Pf922_3.keep Kq966 nin0
      have F976 := Pf922_4.keep Kq966 nin0
      have F977 := Pf922_5.keep Kq966 nin0
      have Zk966 : n0 ≤ T966.heap.size := Nat.le_trans Zpt Kq966.1
      subst hv966
      refine Goes.to st966 ?_
      obtain ⟨cq978, kq978, q978a, q978b, q978c⟩ := isOf (s := s.setVm vmpt) hZ rfl F972
      obtain ⟨_, _, ⟨T978, L978, k978, n978⟩, -, X978, ⟨Lc978, hQ978, l978, y978, z978⟩, st978⟩ := X966.virtualBack hx (y := own_n12) (z := own_n12) hown (mvT hZ (own_hw hw 49 rfl)) (mvT hZ (own_hw hw 50 rfl)) (notFace_of_selects (args := #[]) (mvT hZ (own_hw hw 52 rfl))) (mvT hZ (own_hw hw 52 rfl)) (mvT hZ (own_hw hw 51 rfl)) (by decide) (backOf (W := 0) (own_rmAD2 l Z a0 hw [] b8 ru_966 ea_620 kE_620 "com/example/wee_table/weetable/model/GcRule$MaxVersions" aN aN T966.heap n0 Zk966 Pg922_9 Qf966_0 (own_hw hw 76 rfl) F972 F974 F975 F976 Pg922_10 F973 F977 Po922_15) hZ (own_hw hw 53 rfl) (own_hw hw 7 rfl) (by decide) (by decide)) q978a q978c (g := (mkF m 142 #[.val (.int x0), .val (.long x1), .second, .val (.long x2), .second, .val (.int x3), .val (.int x4), .val (.int x5), .val (.int nn), .val (.int (1 : Int32)), .val (.int (1 : Int32)), .val (.int (0 : Int32)), .val (.int c1), .val (.int c2), .val (.int c3), .val (.ref b8), .unset, .unset, .unset] [(.ref ru_966), (.ref b8)])) rfl (by rw [hml]; rfl) (Steps.refl _) (argsL := [(.ref ru_966)]) (rest := []) (lenOf own_pd_pLjavallanglObjectsqZ rfl) rfl (own_W rfl rfl) (hb hby at_142) (fun _ _ => ⟨rfl, rfl, (by decide : 3 + 0 ≤ _), (by decide : 14 + 0 ≤ _)⟩)
      dsimp only [Pt.U, Pt.locs, Pt.cells, Pt.slots] at X978 l978 y978 z978 st978 hQ978
      subst l978 y978 z978
      obtain ⟨hv978, Nq978, Kq978, Qf978_0, Qf978_1, Qf978_2, Qf978_3, Qf978_4, Qf978_5, Qf978_6⟩ := hQ978
      have N978 := Fr.app N966 Nq978
      have R979 := R969.trans (CHr.keep Kq978 (sfS own_sf0 (sfS own_sf0 sf0)) R969.1)
      have hk980 := Nat.le_trans hk970 Kq978.1
      have O981 := O971.keep Kq978 (allS Pg922_9 (allS Pg922_10 all0))
      have F988 := Qf966_0.keep Kq978
      have F989 := Qf966_1.keep Kq978 (ninS (Ne.symm ne967) (ninS (Ne.symm ne968) nin0))
      have Zk978 : n0 ≤ T978.heap.size := Nat.le_trans Zk966 Kq978.1
      subst hv978
      refine Goes.tr st978 ?_
      refine gx (XS.pop X978.here hx rfl (hb hby at_145) rfl rfl) ?_
      obtain ⟨T990, h990, X990, e990, E990, A990, D990, -, st990⟩ := newO X978 hx hZ hown (own_hw hw 77 rfl) (own_hw hw 78 rfl) (own_hw hw 79 rfl) rfl (g := (mkF m 146 #[.val (.int x0), .val (.long x1), .second, .val (.long x2), .second, .val (.int x3), .val (.int x4), .val (.int x5), .val (.int nn), .val (.int (1 : Int32)), .val (.int (1 : Int32)), .val (.int (0 : Int32)), .val (.int c1), .val (.int c2), .val (.int c3), .val (.ref b8), .unset, .unset, .unset] [])) rfl (hb hby at_146) (by decide) (by decide)
      obtain ⟨b990, g990⟩ : ∃ z, z = T978.heap.size := ⟨_, rfl⟩
      rw [← g990] at A990 D990 st990
      subst e990
      have ne993 : ru_966 ≠ b990 := Nat.ne_of_lt (Nat.lt_of_lt_of_le F988.lt (Nat.le_of_eq g990.symm))
      have R994 := R979.trans (CHr.ext E990 R979.1)
      have hk995 := Nat.le_trans hk980 E990.1
      have O996 := O981.ext E990
      have F997 := Qf978_0.ext E990
      have F998 := Qf978_4.ext E990
      have F999 := F988.ext E990
      have F1000 := F989.ext E990
      have F1002 := Qf978_2.ext E990
      have F1003 := Qf978_3.ext E990
      have F1004 := Qf978_5.ext E990
      have g_b990 : n0 ≤ b990 := Nat.le_trans Zk978 (Nat.le_of_eq g990.symm)
      have Z990 : n0 ≤ T990.heap.size := Nat.le_trans Zk978 E990.1
      have F1005 : Fld Z T990.heap b990 "com/example/wee_table/weetable/model/GcRule$Intersection" "rules" "Ljava/util/List;" .null := D990 (Or.inr (own_hw hw 188 rfl)) (ty := (.object "java/util/List")) (by decide)
      refine Goes.to st990 ?_
      refine gx (XS.dup X990.here hx rfl (hb hby at_149) rfl rfl) ?_
      refine gx (XS.aload X990.here hx rfl (hb hby at_150) rfl rfl) ?_
      obtain ⟨_, _, ⟨T1006, L1006, k1006, n1006⟩, -, X1006, hSn1006, hgr1006, ⟨Lc1006, hQ1006, l1006, y1006, z1006, Rr1006⟩, st1006⟩ := X990.specialBackS hx (y := own_n33) rfl hown (mvT hZ (own_hw hw 80 rfl)) (mvT hZ (own_hw hw 81 rfl)) (mvT hZ (own_hw hw 82 rfl)) (by decide) (backOfSH (s := s) (vm0 := vmpt) (W := 1) (own_rmIN3 l Z a0 hw [] b990 b8 ea_620 kE_620 aN aN ru_966 "com/example/wee_table/weetable/model/GcRule$None" "com/example/wee_table/weetable/model/GcRule$None" "com/example/wee_table/weetable/model/GcRule$MaxVersions" mr aI T990.heap n0 Z990 g_b990 A990 F1005 F997 F1002 F1003 F998 F1004 (EN.ext O996.2) (own_hw hw 265 rfl) (EN.ext O996.2) (own_hw hw 265 rfl) F999 (own_hw hw 76 rfl) (SE.ext O996.2) Mr) hZ (own_hw hw 82 rfl) (own_hw hw 79 rfl) (by decide) (by decide) hEL R994.1) (g := (mkF m 152 #[.val (.int x0), .val (.long x1), .second, .val (.long x2), .second, .val (.int x3), .val (.int x4), .val (.int x5), .val (.int nn), .val (.int (1 : Int32)), .val (.int (1 : Int32)), .val (.int (0 : Int32)), .val (.int c1), .val (.int c2), .val (.int c3), .val (.ref b8), .unset, .unset, .unset] [(.ref b8), (.ref b990), (.ref b990)])) rfl (by rw [hml]; rfl) (Steps.refl _) (a := b990) (argsL := [(.ref b8)]) (rest := [(.ref b990)]) (lenOf own_pd_pLjavalutillListsqV rfl) rfl (own_W rfl rfl) (hb hby at_152) (fun _ _ => ⟨rfl, rfl, (by decide : 4 + 5 ≤ _), (by decide : 15 + 72 ≤ _)⟩)
      dsimp only [Pt.U, Pt.locs, Pt.cells, Pt.slots] at X1006 hSn1006 hgr1006 l1006 y1006 z1006 st1006 hQ1006 Rr1006
      subst l1006 y1006 z1006
      obtain ⟨X1006, hS1006, hZ1006, hown1006⟩ := rebS (s := s) hSpt hk995 X1006 hSn1006 hgr1006 hZ hown
      have R1006 := R994.trans Rr1006
      have hZ := hZ1006
      have hown := hown1006
      obtain ⟨li_1006, el_1006, kL_1006, hv1006, Nq1006, sq1006_0, sq1006_1, np1006_0, Kq1006, Qf1006_0, Qf1006_1, Qf1006_2, Qf1006_3, Qf1006_4, Qf1006_5⟩ := hQ1006
      have N1006 := Fr.app N978 Nq1006
      have O1015 := O996.keep Kq1006 (allS g_b990 all0)
      have F1018 := F999.keep Kq1006
      have F1019 := F1000.keep Kq1006 (ninS ne993 nin0)
      have Zk1006 : n0 ≤ T1006.heap.size := Nat.le_trans Z990 Kq1006.1
      subst hv1006
      refine Goes.tr st1006 ?_
      refine gx (XS.astore X1006.here hx rfl (hb hby at_155) rfl rfl (l' := #[.val (.int x0), .val (.long x1), .second, .val (.long x2), .second, .val (.int x3), .val (.int x4), .val (.int x5), .val (.int nn), .val (.int (1 : Int32)), .val (.int (1 : Int32)), .val (.int (0 : Int32)), .val (.int c1), .val (.int c2), .val (.int c3), .val (.ref b8), .val (.ref b990), .unset, .unset]) rfl) ?_
      refine gx (XS.aload X1006.here hx rfl (hb hby at_157) rfl rfl) ?_
      refine gx (XS.iloadN X1006.here hx rfl (hb hby at_159) rfl) ?_
      refine gx (XS.lloadN X1006.here hx rfl (hb hby at_160) rfl) ?_
      show Goes p.tables e below (T1006.setTop (mkF m 161 #[.val (.int x0), .val (.long x1), .second, .val (.long x2), .second, .val (.int x3), .val (.int x4), .val (.int x5), .val (.int nn), .val (.int (1 : Int32)), .val (.int (1 : Int32)), .val (.int (0 : Int32)), .val (.int c1), .val (.int c2), .val (.int c3), .val (.ref b8), .val (.ref b990), .unset, .unset] [(.long x1), (.int x0), (.ref b990)])) _
      refine gx (XS.lloadN X1006.here hx rfl (hb hby at_161) rfl) ?_
      obtain ⟨cq1026, kq1026, q1026a, q1026b, q1026c⟩ := isOf (s := s.setVm T1006.vm) hZ rfl Qf1006_0
      obtain ⟨_, _, ⟨T1026, L1026, k1026, n1026⟩, -, X1026, ⟨Lc1026, hQ1026, l1026, y1026, z1026⟩, st1026⟩ := X1006.virtualBack hx (y := own_n48) (z := own_n48) hown (mvT hZ (own_hw hw 189 rfl)) (mvT hZ (own_hw hw 190 rfl)) (notFace_of_selects (args := #[]) (mvT hZ (own_hw hw 192 rfl))) (mvT hZ (own_hw hw 192 rfl)) (mvT hZ (own_hw hw 191 rfl)) (by decide) (backOf (W := 0) (own_rmEX3 l Z a0 hw [] b990 x0 x1 x2 li_1006 aN aN ru_966 el_1006 kL_1006 aI none none (some c3) T1006.heap n0 Zk1006 Qf1006_0 Qf1006_1 Qf1006_2 Qf1006_3 Qf1006_4 Qf1006_5 (SE.ext O1015.2) (Or.inl ⟨rfl, (EN.ext O1015.2)⟩) (Or.inl ⟨rfl, (EN.ext O1015.2)⟩) (Or.inr ⟨_, rfl, F1018, F1019⟩)) hZ (own_hw hw 193 rfl) (own_hw hw 79 rfl) (by decide) (by decide)) q1026a q1026c (g := (mkF m 162 #[.val (.int x0), .val (.long x1), .second, .val (.long x2), .second, .val (.int x3), .val (.int x4), .val (.int x5), .val (.int nn), .val (.int (1 : Int32)), .val (.int (1 : Int32)), .val (.int (0 : Int32)), .val (.int c1), .val (.int c2), .val (.int c3), .val (.ref b8), .val (.ref b990), .unset, .unset] [(.long x2), (.long x1), (.int x0), (.ref b990)])) rfl (by rw [hml]; rfl) (Steps.refl _) (argsL := [(.int x0), (.long x1), (.long x2)]) (rest := []) (lenOf own_pd_pIJJqZ rfl) rfl (own_W rfl rfl) (hb hby at_162) (fun _ _ => ⟨rfl, rfl, (by decide : 9 + 1 ≤ _), (by decide : 87 + 4 ≤ _)⟩)
      dsimp only [Pt.U, Pt.locs, Pt.cells, Pt.slots] at X1026 l1026 y1026 z1026 st1026 hQ1026
      subst l1026 y1026 z1026
      obtain ⟨hv1026, Nq1026, Kq1026⟩ := hQ1026
      have N1026 := Fr.app N1006 Nq1026
      have R1027 := R1006.trans (CHr.keep Kq1026 sf0 R1006.1)
      have hk1028 := Nat.le_trans (Nat.le_refl _) Kq1026.1
      have Zk1026 : n0 ≤ T1026.heap.size := Nat.le_trans Zk1006 Kq1026.1
      subst hv1026
      refine Goes.tr st1026 ?_
      refine gx (XS.istore X1026.here hx rfl (hb hby at_165) rfl (l' := #[.val (.int x0), .val (.long x1), .second, .val (.long x2), .second, .val (.int x3), .val (.int x4), .val (.int x5), .val (.int nn), .val (.int (1 : Int32)), .val (.int (1 : Int32)), .val (.int (0 : Int32)), .val (.int c1), .val (.int c2), .val (.int c3), .val (.ref b8), .val (.ref b990), .val (.int (own_exp [none, none, (some c3)] x0)), .unset]) rfl) ?_
      exact own_pt_own_rm0_96 l Z a0 hw ws x0 x1 x2 x3 x4 x5 aN aD kD aI mr h0 n0 Z0 hPm Bd hml0 hh  (own_exp [none, none, (some c3)] x0) (.val (.ref b8)) (.val (.ref b990)) (1 : Int32) (1 : Int32) (0 : Int32) nn c1 c2 c3 T1026 _ T1006.vm hZ hown T1026.heap (own_wk X1026 (by decide) (by decide)) rfl N1026 Zk1026  _ hS1006 hk1028 R1027 (Or.inr rfl) (Or.inr rfl) (Or.inl rfl) (by simp [own_got, own_sp0, own_sp1, Ph922_21, hc923])
    · refine gx (XS.iload Xpt.here hx rfl (hb hby at_135) rfl) ?_
      show Goes p.tables e below (Tpt.setTop (mkF m 137 #[.val (.int x0), .val (.long x1), .second, .val (.long x2), .second, .val (.int x3), .val (.int x4), .val (.int x5), .val (.int nn), .val (.int (1 : Int32)), .val (.int (1 : Int32)), .val (.int (1 : Int32)), .val (.int c1), .val (.int c2), .val (.int c3), .val (.ref b8), .unset, .unset, .unset] [(.int (1 : Int32)), (.ref b8)])) _
      refine gx (XS.iload Xpt.here hx rfl (hb hby at_137) rfl) ?_
      obtain ⟨_, _, ⟨T1045, L1045, k1045, n1045⟩, -, X1045, ⟨Lc1045, hQ1045, l1045, y1045, z1045⟩, st1045⟩ := Jvm.LawKit.callS Xpt hx (y := own_n15) hown (mvT hZ (own_hw hw 31 rfl)) (mvT hZ (own_hw hw 32 rfl)) (mvT hZ (own_hw hw 33 rfl)) (mvT hZ (own_hw hw 34 rfl)) (by decide) (backOf (W := 1) (own_rmRU1 l Z a0 hw [] c3 aN hpt n0 Zpt (SN.ext Old922.2)) hZ (own_hw hw 34 rfl) (own_hw hw 33 rfl) (by decide) (by decide)) (g := (mkF m 139 #[.val (.int x0), .val (.long x1), .second, .val (.long x2), .second, .val (.int x3), .val (.int x4), .val (.int x5), .val (.int nn), .val (.int (1 : Int32)), .val (.int (1 : Int32)), .val (.int (1 : Int32)), .val (.int c1), .val (.int c2), .val (.int c3), .val (.ref b8), .unset, .unset, .unset] [(.int c3), (.int (1 : Int32)), (.ref b8)])) rfl (by rw [hml]; rfl) (argsL := [(.int (1 : Int32)), (.int c3)]) (rest := [(.ref b8)]) (lenOf own_pd_pZIqLcomlexamplelwee_tablelweetablelmodellGcRules rfl) rfl (own_W rfl rfl) (hb hby at_139) (fun _ _ => ⟨rfl, Ept, (by decide : 2 + 0 ≤ _), (by decide : 13 + 0 ≤ _)⟩)
      dsimp only [Pt.U, Pt.locs, Pt.cells, Pt.slots] at X1045 l1045 y1045 z1045 st1045 hQ1045
      subst l1045 y1045 z1045
      obtain ⟨hv1045, Nq1045, hp1045_0⟩ := hQ1045
      have N1045 := Fr.app Npt Nq1045
      subst hv1045
      refine Goes.to st1045 ?_
      obtain ⟨cq1046, kq1046, q1046a, q1046b, q1046c⟩ := isOf (s := s.setVm vmpt) hZ hp1045_0 Pf922_0
      obtain ⟨_, _, ⟨T1046, L1046, k1046, n1046⟩, -, X1046, ⟨Lc1046, hQ1046, l1046, y1046, z1046⟩, st1046⟩ := X1045.virtualBack hx (y := own_n12) (z := own_n12) hown (mvT hZ (own_hw hw 49 rfl)) (mvT hZ (own_hw hw 50 rfl)) (notFace_of_selects (args := #[]) (mvT hZ (own_hw hw 52 rfl))) (mvT hZ (own_hw hw 52 rfl)) (mvT hZ (own_hw hw 51 rfl)) (by decide) (backOf (W := 0) (own_rmAD2 l Z a0 hw [] b8 aN ea_620 kE_620 "com/example/wee_table/weetable/model/GcRule$None" aN aN hpt n0 Zpt Pg922_9 (EN.ext Old922.2) (own_hw hw 265 rfl) Pf922_0 Pf922_2 Pf922_3 Pf922_4 Pg922_10 Pf922_1 Pf922_5 Po922_15) hZ (own_hw hw 53 rfl) (own_hw hw 7 rfl) (by decide) (by decide)) q1046a q1046c (g := (mkF m 142 #[.val (.int x0), .val (.long x1), .second, .val (.long x2), .second, .val (.int x3), .val (.int x4), .val (.int x5), .val (.int nn), .val (.int (1 : Int32)), .val (.int (1 : Int32)), .val (.int (1 : Int32)), .val (.int c1), .val (.int c2), .val (.int c3), .val (.ref b8), .unset, .unset, .unset] [(.ref aN), (.ref b8)])) rfl (by rw [hml]; rfl) (Steps.refl _) (argsL := [(.ref aN)]) (rest := []) (lenOf own_pd_pLjavallanglObjectsqZ rfl) rfl (own_W rfl rfl) (hb hby at_142) (fun _ _ => ⟨rfl, hp1045_0, (by decide : 2 + 0 ≤ _), (by decide : 13 + 0 ≤ _)⟩)
      dsimp only [Pt.U, Pt.locs, Pt.cells, Pt.slots] at X1046 l1046 y1046 z1046 st1046 hQ1046
      subst l1046 y1046 z1046
      obtain ⟨hv1046, Nq1046, Kq1046, Qf1046_0, Qf1046_1, Qf1046_2, Qf1046_3, Qf1046_4, Qf1046_5, Qf1046_6⟩ := hQ1046
      have N1046 := Fr.app N1045 Nq1046
      have R1047 := Rpt.trans (CHr.keep Kq1046 (sfS own_sf0 (sfS own_sf0 sf0)) Rpt.1)
      have hk1048 := Nat.le_trans hkpt Kq1046.1
      have O1049 := Old922.keep Kq1046 (allS Pg922_9 (allS Pg922_10 all0))
      have Zk1046 : n0 ≤ T1046.heap.size := Nat.le_trans Zpt Kq1046.1
      subst hv1046
      refine Goes.tr st1046 ?_
      refine gx (XS.pop X1046.here hx rfl (hb hby at_145) rfl rfl) ?_
      obtain ⟨T1056, h1056, X1056, e1056, E1056, A1056, D1056, -, st1056⟩ := newO X1046 hx hZ hown (own_hw hw 77 rfl) (own_hw hw 78 rfl) (own_hw hw 79 rfl) rfl (g := (mkF m 146 #[.val (.int x0), .val (.long x1), .second, .val (.long x2), .second, .val (.int x3), .val (.int x4), .val (.int x5), .val (.int nn), .val (.int (1 : Int32)), .val (.int (1 : Int32)), .val (.int (1 : Int32)), .val (.int c1), .val (.int c2), .val (.int c3), .val (.ref b8), .unset, .unset, .unset] [])) rfl (hb hby at_146) (by decide) (by decide)
      obtain ⟨b1056, g1056⟩ : ∃ z, z = T1046.heap.size := ⟨_, rfl⟩
      rw [← g1056] at A1056 D1056 st1056
      subst e1056
      have R1059 := R1047.trans (CHr.ext E1056 R1047.1)
      have hk1060 := Nat.le_trans hk1048 E1056.1
      have O1061 := O1049.ext E1056
      have F1062 := Qf1046_0.ext E1056
      have F1063 := Qf1046_4.ext E1056
      have F1065 := Qf1046_2.ext E1056
      have F1066 := Qf1046_3.ext E1056
      have F1067 := Qf1046_5.ext E1056
      have g_b1056 : n0 ≤ b1056 := Nat.le_trans Zk1046 (Nat.le_of_eq g1056.symm)
      have Z1056 : n0 ≤ T1056.heap.size := Nat.le_trans Zk1046 E1056.1
      have F1068 : Fld Z T1056.heap b1056 "com/example/wee_table/weetable/model/GcRule$Intersection" "rules" "Ljava/util/List;" .null := D1056 (Or.inr (own_hw hw 188 rfl)) (ty := (.object "java/util/List")) (by decide)
      refine Goes.to st1056 ?_
      refine gx (XS.dup X1056.here hx rfl (hb hby at_149) rfl rfl) ?_
      refine gx (XS.aload X1056.here hx rfl (hb hby at_150) rfl rfl) ?_
      obtain ⟨_, _, ⟨T1069, L1069, k1069, n1069⟩, -, X1069, hSn1069, hgr1069, ⟨Lc1069, hQ1069, l1069, y1069, z1069, Rr1069⟩, st1069⟩ := X1056.specialBackS hx (y := own_n33) rfl hown (mvT hZ (own_hw hw 80 rfl)) (mvT hZ (own_hw hw 81 rfl)) (mvT hZ (own_hw hw 82 rfl)) (by decide) (backOfSH (s := s) (vm0 := vmpt) (W := 1) (own_rmIN3 l Z a0 hw [] b1056 b8 ea_620 kE_620 aN aN aN "com/example/wee_table/weetable/model/GcRule$None" "com/example/wee_table/weetable/model/GcRule$None" "com/example/wee_table/weetable/model/GcRule$None" mr aI T1056.heap n0 Z1056 g_b1056 A1056 F1068 F1062 F1065 F1066 F1063 F1067 (EN.ext O1061.2) (own_hw hw 265 rfl) (EN.ext O1061.2) (own_hw hw 265 rfl) (EN.ext O1061.2) (own_hw hw 265 rfl) (SE.ext O1061.2) Mr) hZ (own_hw hw 82 rfl) (own_hw hw 79 rfl) (by decide) (by decide) hEL R1059.1) (g := (mkF m 152 #[.val (.int x0), .val (.long x1), .second, .val (.long x2), .second, .val (.int x3), .val (.int x4), .val (.int x5), .val (.int nn), .val (.int (1 : Int32)), .val (.int (1 : Int32)), .val (.int (1 : Int32)), .val (.int c1), .val (.int c2), .val (.int c3), .val (.ref b8), .unset, .unset, .unset] [(.ref b8), (.ref b1056), (.ref b1056)])) rfl (by rw [hml]; rfl) (Steps.refl _) (a := b1056) (argsL := [(.ref b8)]) (rest := [(.ref b1056)]) (lenOf own_pd_pLjavalutillListsqV rfl) rfl (own_W rfl rfl) (hb hby at_152) (fun _ _ => ⟨rfl, rfl, (by decide : 3 + 5 ≤ _), (by decide : 14 + 72 ≤ _)⟩)
      dsimp only [Pt.U, Pt.locs, Pt.cells, Pt.slots] at X1069 hSn1069 hgr1069 l1069 y1069 z1069 st1069 hQ1069 Rr1069
      subst l1069 y1069 z1069
      obtain ⟨X1069, hS1069, hZ1069, hown1069⟩ := rebS (s := s) hSpt hk1060 X1069 hSn1069 hgr1069 hZ hown
      have R1069 := R1059.trans Rr1069
      have hZ := hZ1069
      have hown := hown1069
      obtain ⟨li_1069, el_1069, kL_1069, hv1069, Nq1069, sq1069_0, sq1069_1, np1069_0, Kq1069, Qf1069_0, Qf1069_1, Qf1069_2, Qf1069_3, Qf1069_4, Qf1069_5⟩ := hQ1069
      have N1069 := Fr.app N1046 Nq1069
      have O1076 := O1061.keep Kq1069 (allS g_b1056 all0)
      have Zk1069 : n0 ≤ T1069.heap.size := Nat.le_trans Z1056 Kq1069.1
      subst hv1069
      refine Goes.tr st1069 ?_
      refine gx (XS.astore X1069.here hx rfl (hb hby at_155) rfl rfl (l' := #[.val (.int x0), .val (.long x1), .second, .val (.long x2), .second, .val (.int x3), .val (.int x4), .val (.int x5), .val (.int nn), .val (.int (1 : Int32)), .val (.int (1 : Int32)), .val (.int (1 : Int32)), .val (.int c1), .val (.int c2), .val (.int c3), .val (.ref b8), .val (.ref b1056), .unset, .unset]) rfl) ?_
      refine gx (XS.aload X1069.here hx rfl (hb hby at_157) rfl rfl) ?_
      refine gx (XS.iloadN X1069.here hx rfl (hb hby at_159) rfl) ?_
      refine gx (XS.lloadN X1069.here hx rfl (hb hby at_160) rfl) ?_
      show Goes p.tables e below (T1069.setTop (mkF m 161 #[.val (.int x0), .val (.long x1), .second, .val (.long x2), .second, .val (.int x3), .val (.int x4), .val (.int x5), .val (.int nn), .val (.int (1 : Int32)), .val (.int (1 : Int32)), .val (.int (1 : Int32)), .val (.int c1), .val (.int c2), .val (.int c3), .val (.ref b8), .val (.ref b1056), .unset, .unset] [(.long x1), (.int x0), (.ref b1056)])) _
      refine gx (XS.lloadN X1069.here hx rfl (hb hby at_161) rfl) ?_
      obtain ⟨cq1085, kq1085, q1085a, q1085b, q1085c⟩ := isOf (s := s.setVm T1069.vm) hZ rfl Qf1069_0
      obtain ⟨_, _, ⟨T1085, L1085, k1085, n1085⟩, -, X1085, ⟨Lc1085, hQ1085, l1085, y1085, z1085⟩, st1085⟩ := X1069.virtualBack hx (y := own_n48) (z := own_n48) hown (mvT hZ (own_hw hw 189 rfl)) (mvT hZ (own_hw hw 190 rfl)) (notFace_of_selects (args := #[]) (mvT hZ (own_hw hw 192 rfl))) (mvT hZ (own_hw hw 192 rfl)) (mvT hZ (own_hw hw 191 rfl)) (by decide) (backOf (W := 0) (own_rmEX3 l Z a0 hw [] b1056 x0 x1 x2 li_1069 aN aN aN el_1069 kL_1069 aI none none none T1069.heap n0 Zk1069 Qf1069_0 Qf1069_1 Qf1069_2 Qf1069_3 Qf1069_4 Qf1069_5 (SE.ext O1076.2) (Or.inl ⟨rfl, (EN.ext O1076.2)⟩) (Or.inl ⟨rfl, (EN.ext O1076.2)⟩) (Or.inl ⟨rfl, (EN.ext O1076.2)⟩)) hZ (own_hw hw 193 rfl) (own_hw hw 79 rfl) (by decide) (by decide)) q1085a q1085c (g := (mkF m 162 #[.val (.int x0), .val (.long x1), .second, .val (.long x2), .second, .val (.int x3), .val (.int x4), .val (.int x5), .val (.int nn), .val (.int (1 : Int32)), .val (.int (1 : Int32)), .val (.int (1 : Int32)), .val (.int c1), .val (.int c2), .val (.int c3), .val (.ref b8), .val (.ref b1056), .unset, .unset] [(.long x2), (.long x1), (.int x0), (.ref b1056)])) rfl (by rw [hml]; rfl) (Steps.refl _) (argsL := [(.int x0), (.long x1), (.long x2)]) (rest := []) (lenOf own_pd_pIJJqZ rfl) rfl (own_W rfl rfl) (hb hby at_162) (fun _ _ => ⟨rfl, rfl, (by decide : 8 + 1 ≤ _), (by decide : 86 + 4 ≤ _)⟩)
      dsimp only [Pt.U, Pt.locs, Pt.cells, Pt.slots] at X1085 l1085 y1085 z1085 st1085 hQ1085
      subst l1085 y1085 z1085
      obtain ⟨hv1085, Nq1085, Kq1085⟩ := hQ1085
      have N1085 := Fr.app N1069 Nq1085
      have R1086 := R1069.trans (CHr.keep Kq1085 sf0 R1069.1)
      have hk1087 := Nat.le_trans (Nat.le_refl _) Kq1085.1
      have Zk1085 : n0 ≤ T1085.heap.size := Nat.le_trans Zk1069 Kq1085.1
      subst hv1085
      refine Goes.tr st1085 ?_
      refine gx (XS.istore X1085.here hx rfl (hb hby at_165) rfl (l' := #[.val (.int x0), .val (.long x1), .second, .val (.long x2), .second, .val (.int x3), .val (.int x4), .val (.int x5), .val (.int nn), .val (.int (1 : Int32)), .val (.int (1 : Int32)), .val (.int (1 : Int32)), .val (.int c1), .val (.int c2), .val (.int c3), .val (.ref b8), .val (.ref b1056), .val (.int (own_exp [none, none, none] x0)), .unset]) rfl) ?_
      exact own_pt_own_rm0_96 l Z a0 hw ws x0 x1 x2 x3 x4 x5 aN aD kD aI mr h0 n0 Z0 hPm Bd hml0 hh  (own_exp [none, none, none] x0) (.val (.ref b8)) (.val (.ref b1056)) (1 : Int32) (1 : Int32) (1 : Int32) nn c1 c2 c3 T1085 _ T1069.vm hZ hown T1085.heap (own_wk X1085 (by decide) (by decide)) rfl N1085 Zk1085  _ hS1069 hk1087 R1086 (Or.inr rfl) (Or.inr rfl) (Or.inr rfl) (by simp [own_got, own_sp0, own_sp1, Ph922_21, hc923])
set_option maxRecDepth 65536 in
set_option maxHeartbeats 40000000 in
theorem own_pt_own_rm0_4 (l : Launch) (Z : State) (a0 : Array Value) (hw : ∀ d ∈ tables_1, d.before a0 Z = true) (ws : List Jvm.Cond) (x0 : Int32) (x1 : Int64) (x2 : Int64) (x3 : Int32) (x4 : Int32) (x5 : Int32) (aN : Addr) (aD : Addr) (kD : ClassId) (aI : Addr) (mr : Addr) (h0 : Heap) (n0 : Nat) (Z0 : n0 ≤ h0.size) (hPm : own_P_own_rm0 Z a0 x0 x1 x2 x3 x4 x5 aN aD kD aI mr h0 n0)
    {p : Program} {e : Env} {s : State} {m : MethodId} {below : List Frame} {meth : Method} {c : Code} {s₁ : State} (Bd : BodyLoose p l x (head1 (Jvm.Cond.code x code maxLocals ret :: ws) room_1) code maxLocals ret e s m #[(.int x0), (.long x1), (.long x2), (.int x3), (.int x4), (.int x5)] below meth c s₁) (hml0 : c.maxLocals = maxLocals) (hh : s.heap = h0) 
    (k1 : Int32) (k2 : Int32) (k3 : Int32) (nn : Int32)
    (Tpt : State) (lpt : List Loc) (vmpt : Vm) (hZ : Z.Warmed39 vmpt) (hown : vmpt.findClass "com/example/wee_table/weetable/model/IntersectionExpiresPinLaw" = some m.cls) 
    (Xpt : Stand p l e room_1 (s.setVm vmpt) m #[(.int x0), (.long x1), (.long x2), (.int x3), (.int x4), (.int x5)] below meth c Tpt lpt 0 0) (Ept : Tpt.heap = h0) (Npt : Fr n0 lpt) (Zpt : n0 ≤ h0.size) (kpt : Nat) (hSpt : s.Since vmpt kpt) (hkpt : kpt ≤ h0.size) (Rpt : CHr Z own_EL s.vm h0 vmpt h0)
    (Old4 : Old Z n0 h0)
    (hk1 : k1 = (0 : Int32) ∨ k1 = (1 : Int32))
    (hk2 : k2 = (0 : Int32) ∨ k2 = (1 : Int32))
    (hk3 : k3 = (0 : Int32) ∨ k3 = (1 : Int32))
    : Goes p.tables e below (Tpt.setTop (mkF m 52 #[.val (.int x0), .val (.long x1), .second, .val (.long x2), .second, .val (.int x3), .val (.int x4), .val (.int x5), .val (.int nn), .val (.int k1), .val (.int k2), .unset, .unset, .unset, .unset, .unset, .unset, .unset, .unset] [(.int k3)])) (own_RW below s (own_Q_own_rm0 Z x0 x1 x2 x3 x4 x5 aN aD kD aI mr h0 n0) 32 1152) := by
  obtain ⟨O0, hCH0, SN, SD, SE, EN, XD, VD, EI, Mr⟩ := id hPm
  have hx := Bd.exec
  have hby := Bd.bytes
  have hml : c.maxLocals = 19 := hml0
  have hnm := (name_of_methodNamed Bd.named Bd.method).1
  have own_wS' : ∀ a ∈ Bundle.stringAtoms, a.before a0 Z = true := own_wS hw
  have hEL := own_EW hw
  refine gx (XS.istore Xpt.here hx rfl (hb hby at_52) rfl (l' := #[.val (.int x0), .val (.long x1), .second, .val (.long x2), .second, .val (.int x3), .val (.int x4), .val (.int x5), .val (.int nn), .val (.int k1), .val (.int k2), .val (.int k3), .unset, .unset, .unset, .unset, .unset, .unset, .unset]) rfl) ?_
  refine gx (XS.iconst Xpt.here hx rfl (hb hby at_54)) ?_
  refine gx (XS.iload Xpt.here hx rfl (hb hby at_55) rfl) ?_
  refine gx (Xpt.ldcInt hx hown (mvT hZ (own_hw hw 0 rfl)) (g := (mkF m 57 #[.val (.int x0), .val (.long x1), .second, .val (.long x2), .second, .val (.int x3), .val (.int x4), .val (.int x5), .val (.int nn), .val (.int k1), .val (.int k2), .val (.int k3), .unset, .unset, .unset, .unset, .unset, .unset, .unset] [(.int x3), (.int (1 : Int32))])) rfl (hb hby at_57) _) ?_
  refine gx (XS.iand Xpt.here hx rfl (hb hby at_59) rfl) ?_
  obtain ⟨_, _, ⟨T5, L5, k5, n5⟩, -, X5, ⟨Lc5, hQ5, l5, y5, z5⟩, st5⟩ := Jvm.LawKit.callS Xpt hx (y := own_n0) hown (mvT hZ (own_hw hw 1 rfl)) (mvT hZ (own_hw hw 2 rfl)) (mvT hZ (own_hw hw 3 rfl)) (mvT hZ (own_hw hw 4 rfl)) (by decide) (backOf (W := 0) (own_rm1 l Z a0 hw [] (1 : Int32) (x3 &&& (2147483647 : Int32)) h0 n0 Zpt ) hZ (own_hw hw 4 rfl) (own_hw hw 3 rfl) (by decide) (by decide)) (g := (mkF m 60 #[.val (.int x0), .val (.long x1), .second, .val (.long x2), .second, .val (.int x3), .val (.int x4), .val (.int x5), .val (.int nn), .val (.int k1), .val (.int k2), .val (.int k3), .unset, .unset, .unset, .unset, .unset, .unset, .unset] [(.int (x3 &&& (2147483647 : Int32))), (.int (1 : Int32))])) rfl (by rw [hml]; rfl) (argsL := [(.int (1 : Int32)), (.int (x3 &&& (2147483647 : Int32)))]) (rest := []) (lenOf own_pd_pIIqI rfl) rfl (own_W rfl rfl) (hb hby at_60) (fun _ _ => ⟨rfl, Ept, (by decide : 0 + 0 ≤ _), (by decide : 0 + 0 ≤ _)⟩)
  dsimp only [Pt.U, Pt.locs, Pt.cells, Pt.slots] at X5 l5 y5 z5 st5 hQ5
  subst l5 y5 z5
  obtain ⟨hv5, Nq5, hp5_0⟩ := hQ5
  have N5 := Fr.app Npt Nq5
  subst hv5
  refine Goes.to st5 ?_
  show Goes p.tables e below (T5.setTop (mkF m 63 #[.val (.int x0), .val (.long x1), .second, .val (.long x2), .second, .val (.int x3), .val (.int x4), .val (.int x5), .val (.int nn), .val (.int k1), .val (.int k2), .val (.int k3), .unset, .unset, .unset, .unset, .unset, .unset, .unset] [(.int (own_max (1 : Int32) (x3 &&& (2147483647 : Int32))))])) _
  generalize hnm1 : (own_max (1 : Int32) (x3 &&& (2147483647 : Int32))) = c1
  have hge1 : ¬ (c1 < (1 : Int32)) := by
    rw [← hnm1]
    exact own_max1 _
  refine gx (XS.istore X5.here hx rfl (hb hby at_63) rfl (l' := #[.val (.int x0), .val (.long x1), .second, .val (.long x2), .second, .val (.int x3), .val (.int x4), .val (.int x5), .val (.int nn), .val (.int k1), .val (.int k2), .val (.int k3), .val (.int c1), .unset, .unset, .unset, .unset, .unset, .unset]) rfl) ?_
  refine gx (XS.iconst X5.here hx rfl (hb hby at_65)) ?_
  refine gx (XS.iload X5.here hx rfl (hb hby at_66) rfl) ?_
  refine gx (X5.ldcInt hx hown (mvT hZ (own_hw hw 0 rfl)) (g := (mkF m 68 #[.val (.int x0), .val (.long x1), .second, .val (.long x2), .second, .val (.int x3), .val (.int x4), .val (.int x5), .val (.int nn), .val (.int k1), .val (.int k2), .val (.int k3), .val (.int c1), .unset, .unset, .unset, .unset, .unset, .unset] [(.int x4), (.int (1 : Int32))])) rfl (hb hby at_68) _) ?_
  refine gx (XS.iand X5.here hx rfl (hb hby at_70) rfl) ?_
  obtain ⟨_, _, ⟨T6, L6, k6, n6⟩, -, X6, ⟨Lc6, hQ6, l6, y6, z6⟩, st6⟩ := Jvm.LawKit.callS X5 hx (y := own_n0) hown (mvT hZ (own_hw hw 1 rfl)) (mvT hZ (own_hw hw 2 rfl)) (mvT hZ (own_hw hw 3 rfl)) (mvT hZ (own_hw hw 4 rfl)) (by decide) (backOf (W := 0) (own_rm1 l Z a0 hw [] (1 : Int32) (x4 &&& (2147483647 : Int32)) h0 n0 Zpt ) hZ (own_hw hw 4 rfl) (own_hw hw 3 rfl) (by decide) (by decide)) (g := (mkF m 71 #[.val (.int x0), .val (.long x1), .second, .val (.long x2), .second, .val (.int x3), .val (.int x4), .val (.int x5), .val (.int nn), .val (.int k1), .val (.int k2), .val (.int k3), .val (.int c1), .unset, .unset, .unset, .unset, .unset, .unset] [(.int (x4 &&& (2147483647 : Int32))), (.int (1 : Int32))])) rfl (by rw [hml]; rfl) (argsL := [(.int (1 : Int32)), (.int (x4 &&& (2147483647 : Int32)))]) (rest := []) (lenOf own_pd_pIIqI rfl) rfl (own_W rfl rfl) (hb hby at_71) (fun _ _ => ⟨rfl, hp5_0, (by decide : 0 + 0 ≤ _), (by decide : 0 + 0 ≤ _)⟩)
  dsimp only [Pt.U, Pt.locs, Pt.cells, Pt.slots] at X6 l6 y6 z6 st6 hQ6
  subst l6 y6 z6
  obtain ⟨hv6, Nq6, hp6_0⟩ := hQ6
  have N6 := Fr.app N5 Nq6
  subst hv6
  refine Goes.to st6 ?_
  show Goes p.tables e below (T6.setTop (mkF m 74 #[.val (.int x0), .val (.long x1), .second, .val (.long x2), .second, .val (.int x3), .val (.int x4), .val (.int x5), .val (.int nn), .val (.int k1), .val (.int k2), .val (.int k3), .val (.int c1), .unset, .unset, .unset, .unset, .unset, .unset] [(.int (own_max (1 : Int32) (x4 &&& (2147483647 : Int32))))])) _
  generalize hnm2 : (own_max (1 : Int32) (x4 &&& (2147483647 : Int32))) = c2
  have hge2 : ¬ (c2 < (1 : Int32)) := by
    rw [← hnm2]
    exact own_max1 _
  refine gx (XS.istore X6.here hx rfl (hb hby at_74) rfl (l' := #[.val (.int x0), .val (.long x1), .second, .val (.long x2), .second, .val (.int x3), .val (.int x4), .val (.int x5), .val (.int nn), .val (.int k1), .val (.int k2), .val (.int k3), .val (.int c1), .val (.int c2), .unset, .unset, .unset, .unset, .unset]) rfl) ?_
  refine gx (XS.iconst X6.here hx rfl (hb hby at_76)) ?_
  refine gx (XS.iload X6.here hx rfl (hb hby at_77) rfl) ?_
  refine gx (XS.iconst X6.here hx rfl (hb hby at_79)) ?_
  refine gx (XS.iushr X6.here hx rfl (hb hby at_80) rfl) ?_
  obtain ⟨_, _, ⟨T7, L7, k7, n7⟩, -, X7, ⟨Lc7, hQ7, l7, y7, z7⟩, st7⟩ := Jvm.LawKit.callS X6 hx (y := own_n0) hown (mvT hZ (own_hw hw 1 rfl)) (mvT hZ (own_hw hw 2 rfl)) (mvT hZ (own_hw hw 3 rfl)) (mvT hZ (own_hw hw 4 rfl)) (by decide) (backOf (W := 0) (own_rm1 l Z a0 hw [] (1 : Int32) ((x5.toUInt32 >>> ((5 : Int32) &&& 31).toUInt32).toInt32) h0 n0 Zpt ) hZ (own_hw hw 4 rfl) (own_hw hw 3 rfl) (by decide) (by decide)) (g := (mkF m 81 #[.val (.int x0), .val (.long x1), .second, .val (.long x2), .second, .val (.int x3), .val (.int x4), .val (.int x5), .val (.int nn), .val (.int k1), .val (.int k2), .val (.int k3), .val (.int c1), .val (.int c2), .unset, .unset, .unset, .unset, .unset] [(.int ((x5.toUInt32 >>> ((5 : Int32) &&& 31).toUInt32).toInt32)), (.int (1 : Int32))])) rfl (by rw [hml]; rfl) (argsL := [(.int (1 : Int32)), (.int ((x5.toUInt32 >>> ((5 : Int32) &&& 31).toUInt32).toInt32))]) (rest := []) (lenOf own_pd_pIIqI rfl) rfl (own_W rfl rfl) (hb hby at_81) (fun _ _ => ⟨rfl, hp6_0, (by decide : 0 + 0 ≤ _), (by decide : 0 + 0 ≤ _)⟩)
  dsimp only [Pt.U, Pt.locs, Pt.cells, Pt.slots] at X7 l7 y7 z7 st7 hQ7
  subst l7 y7 z7
  obtain ⟨hv7, Nq7, hp7_0⟩ := hQ7
  have N7 := Fr.app N6 Nq7
  subst hv7
  refine Goes.to st7 ?_
  show Goes p.tables e below (T7.setTop (mkF m 84 #[.val (.int x0), .val (.long x1), .second, .val (.long x2), .second, .val (.int x3), .val (.int x4), .val (.int x5), .val (.int nn), .val (.int k1), .val (.int k2), .val (.int k3), .val (.int c1), .val (.int c2), .unset, .unset, .unset, .unset, .unset] [(.int (own_max (1 : Int32) ((x5.toUInt32 >>> ((5 : Int32) &&& 31).toUInt32).toInt32)))])) _
  generalize hnm3 : (own_max (1 : Int32) ((x5.toUInt32 >>> ((5 : Int32) &&& 31).toUInt32).toInt32)) = c3
  have hge3 : ¬ (c3 < (1 : Int32)) := by
    rw [← hnm3]
    exact own_max1 _
  refine gx (XS.istore X7.here hx rfl (hb hby at_84) rfl (l' := #[.val (.int x0), .val (.long x1), .second, .val (.long x2), .second, .val (.int x3), .val (.int x4), .val (.int x5), .val (.int nn), .val (.int k1), .val (.int k2), .val (.int k3), .val (.int c1), .val (.int c2), .val (.int c3), .unset, .unset, .unset, .unset]) rfl) ?_
  obtain ⟨T8, h8, X8, e8, E8, A8, D8, -, st8⟩ := newO X7 hx hZ hown (own_hw hw 5 rfl) (own_hw hw 6 rfl) (own_hw hw 7 rfl) hp7_0 (g := (mkF m 86 #[.val (.int x0), .val (.long x1), .second, .val (.long x2), .second, .val (.int x3), .val (.int x4), .val (.int x5), .val (.int nn), .val (.int k1), .val (.int k2), .val (.int k3), .val (.int c1), .val (.int c2), .val (.int c3), .unset, .unset, .unset, .unset] [])) rfl (hb hby at_86) (by decide) (by decide)
  obtain ⟨b8, g8⟩ : ∃ z, z = h0.size := ⟨_, rfl⟩
  rw [← g8] at A8 D8 st8
  subst e8
  have R9 := Rpt.trans (CHr.ext E8 Rpt.1)
  have hk10 := Nat.le_trans hkpt E8.1
  have O11 := Old4.ext E8
  have g_b8 : n0 ≤ b8 := Nat.le_trans Zpt (Nat.le_of_eq g8.symm)
  have Z8 : n0 ≤ T8.heap.size := Nat.le_trans Zpt E8.1
  have F12 : Fld Z T8.heap b8 "java/util/AbstractList" "modCount" "I" (.int (0 : Int32)) := D8 (Or.inl (own_hw hw 27 rfl)) (ty := .int) (by decide)
  have F13 : Fld Z T8.heap b8 "java/util/ArrayList" "elementData" "[Ljava/lang/Object;" .null := D8 (Or.inl (own_hw hw 30 rfl)) (ty := (.array (.object "java/lang/Object"))) (by decide)
  have F14 : Fld Z T8.heap b8 "java/util/ArrayList" "size" "I" (.int (0 : Int32)) := D8 (Or.inl (own_hw hw 57 rfl)) (ty := .int) (by decide)
  refine Goes.to st8 ?_
  refine gx (XS.dup X8.here hx rfl (hb hby at_89) rfl rfl) ?_
  obtain ⟨_, _, ⟨T15, L15, k15, n15⟩, -, X15, ⟨Lc15, hQ15, l15, y15, z15⟩, st15⟩ := X8.specialBack hx (y := own_n8) rfl hown (mvT hZ (own_hw hw 8 rfl)) (mvT hZ (own_hw hw 9 rfl)) (mvT hZ (own_hw hw 10 rfl)) (by decide) (backOf (W := 1) (own_rm2 l Z a0 hw [] b8 aD T8.heap n0 Z8 g_b8 (SD.ext O11.2) A8 F12 F14 F13) hZ (own_hw hw 10 rfl) (own_hw hw 7 rfl) (by decide) (by decide)) (g := (mkF m 90 #[.val (.int x0), .val (.long x1), .second, .val (.long x2), .second, .val (.int x3), .val (.int x4), .val (.int x5), .val (.int nn), .val (.int k1), .val (.int k2), .val (.int k3), .val (.int c1), .val (.int c2), .val (.int c3), .unset, .unset, .unset, .unset] [(.ref b8), (.ref b8)])) rfl (by rw [hml]; rfl) (Steps.refl _) (a := b8) (argsL := []) (rest := [(.ref b8)]) (lenOf own_pd_pqV rfl) rfl (own_W rfl rfl) (hb hby at_90) (fun _ _ => ⟨rfl, rfl, (by decide : 1 + 0 ≤ _), (by decide : 3 + 0 ≤ _)⟩)
  dsimp only [Pt.U, Pt.locs, Pt.cells, Pt.slots] at X15 l15 y15 z15 st15 hQ15
  subst l15 y15 z15
  obtain ⟨hv15, Nq15, Kq15, Qf15_0, Qf15_1, Qf15_2, Qf15_3⟩ := hQ15
  have N15 := Fr.app N7 Nq15
  have R16 := R9.trans (CHr.keep Kq15 (sfS own_sf0 sf0) R9.1)
  have hk17 := Nat.le_trans hk10 Kq15.1
  have O18 := O11.keep Kq15 (allS g_b8 all0)
  have Zk15 : n0 ≤ T15.heap.size := Nat.le_trans Z8 Kq15.1
  subst hv15
  refine Goes.tr st15 ?_
  refine gx (XS.astore X15.here hx rfl (hb hby at_93) rfl rfl (l' := #[.val (.int x0), .val (.long x1), .second, .val (.long x2), .second, .val (.int x3), .val (.int x4), .val (.int x5), .val (.int nn), .val (.int k1), .val (.int k2), .val (.int k3), .val (.int c1), .val (.int c2), .val (.int c3), .val (.ref b8), .unset, .unset, .unset]) rfl) ?_
  refine gx (XS.aload X15.here hx rfl (hb hby at_95) rfl rfl) ?_
  rcases hk1 with rfl | rfl
  · refine gx (XS.iload X15.here hx rfl (hb hby at_97) rfl) ?_
    refine gx (XS.iload X15.here hx rfl (hb hby at_99) rfl) ?_
    obtain ⟨_, _, ⟨T23, L23, k23, n23⟩, -, X23, ⟨Lc23, hQ23, l23, y23, z23⟩, st23⟩ := Jvm.LawKit.callS X15 hx (y := own_n15) hown (mvT hZ (own_hw hw 31 rfl)) (mvT hZ (own_hw hw 32 rfl)) (mvT hZ (own_hw hw 33 rfl)) (mvT hZ (own_hw hw 34 rfl)) (by decide) (backOf (W := 1) (own_rmRU0 l Z a0 hw [] c1 T15.heap n0 Zk15 hge1) hZ (own_hw hw 34 rfl) (own_hw hw 33 rfl) (by decide) (by decide)) (g := (mkF m 101 #[.val (.int x0), .val (.long x1), .second, .val (.long x2), .second, .val (.int x3), .val (.int x4), .val (.int x5), .val (.int nn), .val (.int (0 : Int32)), .val (.int k2), .val (.int k3), .val (.int c1), .val (.int c2), .val (.int c3), .val (.ref b8), .unset, .unset, .unset] [(.int c1), (.int (0 : Int32)), (.ref b8)])) rfl (by rw [hml]; rfl) (argsL := [(.int (0 : Int32)), (.int c1)]) (rest := [(.ref b8)]) (lenOf own_pd_pZIqLcomlexamplelwee_tablelweetablelmodellGcRules rfl) rfl (own_W rfl rfl) (hb hby at_101) (fun _ _ => ⟨rfl, rfl, (by decide : 1 + 1 ≤ _), (by decide : 3 + 1 ≤ _)⟩)
    dsimp only [Pt.U, Pt.locs, Pt.cells, Pt.slots] at X23 l23 y23 z23 st23 hQ23
    subst l23 y23 z23
    obtain ⟨ru_23, hv23, Nq23, sq23_0, Kq23, Qf23_0, Qf23_1⟩ := hQ23
    have N23 := Fr.app N15 Nq23
    have ne24 : b8 ≠ ru_23 := Nat.ne_of_lt (Nat.lt_of_lt_of_le Qf15_0.lt sq23_0)
    have R25 := R16.trans (CHr.keep Kq23 sf0 R16.1)
    have hk26 := Nat.le_trans hk17 Kq23.1
    have O27 := O18.keep Kq23 all0
    have F28 := Qf15_0.keep Kq23
    have F29 := Qf15_1.keep Kq23 nin0
    have F30 := Qf15_2.keep Kq23 nin0
    have F31 := Qf15_3.keep Kq23 nin0
    have Zk23 : n0 ≤ T23.heap.size := Nat.le_trans Zk15 Kq23.1
    subst hv23
    refine Goes.to st23 ?_
    obtain ⟨cq32, kq32, q32a, q32b, q32c⟩ := isOf (s := s.setVm vmpt) hZ rfl F28
    obtain ⟨_, _, ⟨T32, L32, k32, n32⟩, -, X32, ⟨Lc32, hQ32, l32, y32, z32⟩, st32⟩ := X23.virtualBack hx (y := own_n12) (z := own_n12) hown (mvT hZ (own_hw hw 49 rfl)) (mvT hZ (own_hw hw 50 rfl)) (notFace_of_selects (args := #[]) (mvT hZ (own_hw hw 52 rfl))) (mvT hZ (own_hw hw 52 rfl)) (mvT hZ (own_hw hw 51 rfl)) (by decide) (backOf (W := 0) (own_rmAD0 l Z a0 hw [] b8 ru_23 aD kD "com/example/wee_table/weetable/model/GcRule$MaxVersions" T23.heap n0 Zk23 g_b8 Qf23_0 (own_hw hw 76 rfl) F28 F29 F30 F31 (SD.ext O27.2) (VD.ext O27.2) (XD.ext O27.2)) hZ (own_hw hw 53 rfl) (own_hw hw 7 rfl) (by decide) (by decide)) q32a q32c (g := (mkF m 104 #[.val (.int x0), .val (.long x1), .second, .val (.long x2), .second, .val (.int x3), .val (.int x4), .val (.int x5), .val (.int nn), .val (.int (0 : Int32)), .val (.int k2), .val (.int k3), .val (.int c1), .val (.int c2), .val (.int c3), .val (.ref b8), .unset, .unset, .unset] [(.ref ru_23), (.ref b8)])) rfl (by rw [hml]; rfl) (Steps.refl _) (argsL := [(.ref ru_23)]) (rest := []) (lenOf own_pd_pLjavallanglObjectsqZ rfl) rfl (own_W rfl rfl) (hb hby at_104) (fun _ _ => ⟨rfl, rfl, (by decide : 2 + 1 ≤ _), (by decide : 4 + 10 ≤ _)⟩)
    dsimp only [Pt.U, Pt.locs, Pt.cells, Pt.slots] at X32 l32 y32 z32 st32 hQ32
    subst l32 y32 z32
    obtain ⟨ea_32, kE_32, hv32, Nq32, sq32_0, Kq32, Qf32_0, Qf32_1, Qf32_2, Qf32_3, Qf32_4, Qf32_5, Qf32_6⟩ := hQ32
    have N32 := Fr.app N23 Nq32
    have g_ea_32 : n0 ≤ ea_32 := Nat.le_trans Zk23 sq32_0
    have ne34 : ru_23 ≠ ea_32 := Nat.ne_of_lt (Nat.lt_of_lt_of_le Qf23_0.lt sq32_0)
    have R35 := R25.trans (CHr.keep Kq32 (sfS own_sf0 sf0) R25.1)
    have hk36 := Nat.le_trans hk26 Kq32.1
    have O37 := O27.keep Kq32 (allS g_b8 all0)
    have F42 := Qf23_0.keep Kq32
    have F43 := Qf23_1.keep Kq32 (ninS (Ne.symm ne24) nin0)
    have Zk32 : n0 ≤ T32.heap.size := Nat.le_trans Zk23 Kq32.1
    subst hv32
    refine Goes.tr st32 ?_
    refine gx (XS.pop X32.here hx rfl (hb hby at_107) rfl rfl) ?_
    refine gx (XS.iload X32.here hx rfl (hb hby at_108) rfl) ?_
    refine gx (XS.iconst X32.here hx rfl (hb hby at_110)) ?_
    by_cases hc44 : nn < (2 : Int32)
    · refine gx (XS.icmpYes X32.here hx rfl (pc0 := 111) (pc' := 127) rfl (hb hby at_111) rfl (tlt hc44).1 (by decide) (by decide)) ?_
      show Goes p.tables e below (T32.setTop (mkF m 127 #[.val (.int x0), .val (.long x1), .second, .val (.long x2), .second, .val (.int x3), .val (.int x4), .val (.int x5), .val (.int nn), .val (.int (0 : Int32)), .val (.int k2), .val (.int k3), .val (.int c1), .val (.int c2), .val (.int c3), .val (.ref b8), .unset, .unset, .unset] [])) _
      refine gx (XS.iload X32.here hx rfl (hb hby at_127) rfl) ?_
      refine gx (XS.iconst X32.here hx rfl (hb hby at_129)) ?_
      by_cases hc45 : nn < (3 : Int32)
      · refine gx (XS.icmpYes X32.here hx rfl (pc0 := 130) (pc' := 146) rfl (hb hby at_130) rfl (tlt hc45).1 (by decide) (by decide)) ?_
        obtain ⟨T46, h46, X46, e46, E46, A46, D46, -, st46⟩ := newO X32 hx hZ hown (own_hw hw 77 rfl) (own_hw hw 78 rfl) (own_hw hw 79 rfl) rfl (g := (mkF m 146 #[.val (.int x0), .val (.long x1), .second, .val (.long x2), .second, .val (.int x3), .val (.int x4), .val (.int x5), .val (.int nn), .val (.int (0 : Int32)), .val (.int k2), .val (.int k3), .val (.int c1), .val (.int c2), .val (.int c3), .val (.ref b8), .unset, .unset, .unset] [])) rfl (hb hby at_146) (by decide) (by decide)
        obtain ⟨b46, g46⟩ : ∃ z, z = T32.heap.size := ⟨_, rfl⟩
        rw [← g46] at A46 D46 st46
        subst e46
        have ne48 : ru_23 ≠ b46 := Nat.ne_of_lt (Nat.lt_of_lt_of_le F42.lt (Nat.le_of_eq g46.symm))
        have R50 := R35.trans (CHr.ext E46 R35.1)
        have hk51 := Nat.le_trans hk36 E46.1
        have O52 := O37.ext E46
        have F53 := Qf32_0.ext E46
        have F54 := F42.ext E46
        have F55 := F43.ext E46
        have F57 := Qf32_2.ext E46
        have F58 := Qf32_3.ext E46
        have F59 := Qf32_4.ext E46
        have F60 := Qf32_5.ext E46
        have g_b46 : n0 ≤ b46 := Nat.le_trans Zk32 (Nat.le_of_eq g46.symm)
        have Z46 : n0 ≤ T46.heap.size := Nat.le_trans Zk32 E46.1
        have F61 : Fld Z T46.heap b46 "com/example/wee_table/weetable/model/GcRule$Intersection" "rules" "Ljava/util/List;" .null := D46 (Or.inr (own_hw hw 188 rfl)) (ty := (.object "java/util/List")) (by decide)
        refine Goes.to st46 ?_
        refine gx (XS.dup X46.here hx rfl (hb hby at_149) rfl rfl) ?_
        refine gx (XS.aload X46.here hx rfl (hb hby at_150) rfl rfl) ?_
        obtain ⟨_, _, ⟨T62, L62, k62, n62⟩, -, X62, hSn62, hgr62, ⟨Lc62, hQ62, l62, y62, z62, Rr62⟩, st62⟩ := X46.specialBackS hx (y := own_n33) rfl hown (mvT hZ (own_hw hw 80 rfl)) (mvT hZ (own_hw hw 81 rfl)) (mvT hZ (own_hw hw 82 rfl)) (by decide) (backOfSH (s := s) (vm0 := vmpt) (W := 1) (own_rmIN1 l Z a0 hw [] b46 b8 ea_32 kE_32 ru_23 "com/example/wee_table/weetable/model/GcRule$MaxVersions" mr aI T46.heap n0 Z46 g_b46 A46 F61 F53 F57 F58 F59 F60 F54 (own_hw hw 76 rfl) (SE.ext O52.2) Mr) hZ (own_hw hw 82 rfl) (own_hw hw 79 rfl) (by decide) (by decide) hEL R50.1) (g := (mkF m 152 #[.val (.int x0), .val (.long x1), .second, .val (.long x2), .second, .val (.int x3), .val (.int x4), .val (.int x5), .val (.int nn), .val (.int (0 : Int32)), .val (.int k2), .val (.int k3), .val (.int c1), .val (.int c2), .val (.int c3), .val (.ref b8), .unset, .unset, .unset] [(.ref b8), (.ref b46), (.ref b46)])) rfl (by rw [hml]; rfl) (Steps.refl _) (a := b46) (argsL := [(.ref b8)]) (rest := [(.ref b46)]) (lenOf own_pd_pLjavalutillListsqV rfl) rfl (own_W rfl rfl) (hb hby at_152) (fun _ _ => ⟨rfl, rfl, (by decide : 4 + 4 ≤ _), (by decide : 15 + 67 ≤ _)⟩)
        dsimp only [Pt.U, Pt.locs, Pt.cells, Pt.slots] at X62 hSn62 hgr62 l62 y62 z62 st62 hQ62 Rr62
        subst l62 y62 z62
        obtain ⟨X62, hS62, hZ62, hown62⟩ := rebS (s := s) hSpt hk51 X62 hSn62 hgr62 hZ hown
        have R62 := R50.trans Rr62
        have hZ := hZ62
        have hown := hown62
        obtain ⟨li_62, hv62, Nq62, sq62_0, Kq62, Qf62_0, Qf62_1, Qf62_2, Qf62_3, Qf62_4⟩ := hQ62
        have N62 := Fr.app N32 Nq62
        have O67 := O52.keep Kq62 (allS g_b46 all0)
        have F69 := F54.keep Kq62
        have F70 := F55.keep Kq62 (ninS ne48 nin0)
        have Zk62 : n0 ≤ T62.heap.size := Nat.le_trans Z46 Kq62.1
        subst hv62
        refine Goes.tr st62 ?_
        exact own_pt_own_rm0_78 l Z a0 hw ws x0 x1 x2 x3 x4 x5 aN aD kD aI mr h0 n0 Z0 hPm Bd hml0 hh  b8 ru_23 b46 li_62 k2 k3 nn c1 c2 c3 T62 _ T62.vm hZ hown T62.heap X62 rfl N62 Zk62  _ hS62 (Nat.le_refl _) R62 F69 F70 Qf62_0 Qf62_1 Qf62_2 Qf62_3 Qf62_4 O67 hk2 hk3 hge1 hge2 hge3 hc44 hc45
      · exact (own_lt23 hc44 hc45).elim
    · refine gx (XS.icmpNo X32.here hx rfl (hb hby at_111) rfl (flt hc44).1) ?_
      show Goes p.tables e below (T32.setTop (mkF m 114 #[.val (.int x0), .val (.long x1), .second, .val (.long x2), .second, .val (.int x3), .val (.int x4), .val (.int x5), .val (.int nn), .val (.int (0 : Int32)), .val (.int k2), .val (.int k3), .val (.int c1), .val (.int c2), .val (.int c3), .val (.ref b8), .unset, .unset, .unset] [])) _
      refine gx (XS.aload X32.here hx rfl (hb hby at_114) rfl rfl) ?_
      rcases hk2 with rfl | rfl
      · refine gx (XS.iload X32.here hx rfl (hb hby at_116) rfl) ?_
        refine gx (XS.iload X32.here hx rfl (hb hby at_118) rfl) ?_
        obtain ⟨_, _, ⟨T118, L118, k118, n118⟩, -, X118, ⟨Lc118, hQ118, l118, y118, z118⟩, st118⟩ := Jvm.LawKit.callS X32 hx (y := own_n15) hown (mvT hZ (own_hw hw 31 rfl)) (mvT hZ (own_hw hw 32 rfl)) (mvT hZ (own_hw hw 33 rfl)) (mvT hZ (own_hw hw 34 rfl)) (by decide) (backOf (W := 1) (own_rmRU0 l Z a0 hw [] c2 T32.heap n0 Zk32 hge2) hZ (own_hw hw 34 rfl) (own_hw hw 33 rfl) (by decide) (by decide)) (g := (mkF m 120 #[.val (.int x0), .val (.long x1), .second, .val (.long x2), .second, .val (.int x3), .val (.int x4), .val (.int x5), .val (.int nn), .val (.int (0 : Int32)), .val (.int (0 : Int32)), .val (.int k3), .val (.int c1), .val (.int c2), .val (.int c3), .val (.ref b8), .unset, .unset, .unset] [(.int c2), (.int (0 : Int32)), (.ref b8)])) rfl (by rw [hml]; rfl) (argsL := [(.int (0 : Int32)), (.int c2)]) (rest := [(.ref b8)]) (lenOf own_pd_pZIqLcomlexamplelwee_tablelweetablelmodellGcRules rfl) rfl (own_W rfl rfl) (hb hby at_120) (fun _ _ => ⟨rfl, rfl, (by decide : 3 + 1 ≤ _), (by decide : 14 + 1 ≤ _)⟩)
        dsimp only [Pt.U, Pt.locs, Pt.cells, Pt.slots] at X118 l118 y118 z118 st118 hQ118
        subst l118 y118 z118
        obtain ⟨ru_118, hv118, Nq118, sq118_0, Kq118, Qf118_0, Qf118_1⟩ := hQ118
        have N118 := Fr.app N32 Nq118
        have g_ru_118 : n0 ≤ ru_118 := Nat.le_trans Zk32 sq118_0
        have ne119 : b8 ≠ ru_118 := Nat.ne_of_lt (Nat.lt_of_lt_of_le Qf32_0.lt sq118_0)
        have ne121 : ea_32 ≠ ru_118 := Nat.ne_of_lt (Nat.lt_of_lt_of_le Qf32_4.lt sq118_0)
        have R122 := R35.trans (CHr.keep Kq118 sf0 R35.1)
        have hk123 := Nat.le_trans hk36 Kq118.1
        have O124 := O37.keep Kq118 all0
        have F125 := Qf32_0.keep Kq118
        have F126 := F42.keep Kq118
        have F127 := F43.keep Kq118 nin0
        have F128 := Qf32_1.keep Kq118 nin0
        have F129 := Qf32_2.keep Kq118 nin0
        have F130 := Qf32_3.keep Kq118 nin0
        have F131 := Qf32_4.keep Kq118
        have F132 := Qf32_5.keep Kq118 nin0
        have Zk118 : n0 ≤ T118.heap.size := Nat.le_trans Zk32 Kq118.1
        subst hv118
        refine Goes.to st118 ?_
        obtain ⟨cq133, kq133, q133a, q133b, q133c⟩ := isOf (s := s.setVm vmpt) hZ rfl F125
        obtain ⟨_, _, ⟨T133, L133, k133, n133⟩, -, X133, ⟨Lc133, hQ133, l133, y133, z133⟩, st133⟩ := X118.virtualBack hx (y := own_n12) (z := own_n12) hown (mvT hZ (own_hw hw 49 rfl)) (mvT hZ (own_hw hw 50 rfl)) (notFace_of_selects (args := #[]) (mvT hZ (own_hw hw 52 rfl))) (mvT hZ (own_hw hw 52 rfl)) (mvT hZ (own_hw hw 51 rfl)) (by decide) (backOf (W := 0) (own_rmAD1 l Z a0 hw [] b8 ru_118 ea_32 kE_32 "com/example/wee_table/weetable/model/GcRule$MaxVersions" ru_23 T118.heap n0 Zk118 g_b8 Qf118_0 (own_hw hw 76 rfl) F125 F128 F129 F130 g_ea_32 F131 F132 Qf32_6) hZ (own_hw hw 53 rfl) (own_hw hw 7 rfl) (by decide) (by decide)) q133a q133c (g := (mkF m 123 #[.val (.int x0), .val (.long x1), .second, .val (.long x2), .second, .val (.int x3), .val (.int x4), .val (.int x5), .val (.int nn), .val (.int (0 : Int32)), .val (.int (0 : Int32)), .val (.int k3), .val (.int c1), .val (.int c2), .val (.int c3), .val (.ref b8), .unset, .unset, .unset] [(.ref ru_118), (.ref b8)])) rfl (by rw [hml]; rfl) (Steps.refl _) (argsL := [(.ref ru_118)]) (rest := []) (lenOf own_pd_pLjavallanglObjectsqZ rfl) rfl (own_W rfl rfl) (hb hby at_123) (fun _ _ => ⟨rfl, rfl, (by decide : 4 + 0 ≤ _), (by decide : 15 + 0 ≤ _)⟩)
        dsimp only [Pt.U, Pt.locs, Pt.cells, Pt.slots] at X133 l133 y133 z133 st133 hQ133
        subst l133 y133 z133
        obtain ⟨hv133, Nq133, Kq133, Qf133_0, Qf133_1, Qf133_2, Qf133_3, Qf133_4, Qf133_5, Qf133_6⟩ := hQ133
        have N133 := Fr.app N118 Nq133
        have R134 := R122.trans (CHr.keep Kq133 (sfS own_sf0 (sfS own_sf0 sf0)) R122.1)
        have hk135 := Nat.le_trans hk123 Kq133.1
        have O136 := O124.keep Kq133 (allS g_b8 (allS g_ea_32 all0))
        have F138 := F126.keep Kq133
        have F139 := F127.keep Kq133 (ninS (Ne.symm ne24) (ninS ne34 nin0))
        have F145 := Qf118_0.keep Kq133
        have F146 := Qf118_1.keep Kq133 (ninS (Ne.symm ne119) (ninS (Ne.symm ne121) nin0))
        have Zk133 : n0 ≤ T133.heap.size := Nat.le_trans Zk118 Kq133.1
        subst hv133
        refine Goes.tr st133 ?_
        refine gx (XS.pop X133.here hx rfl (hb hby at_126) rfl rfl) ?_
        exact own_pt_own_rm0_147 l Z a0 hw ws x0 x1 x2 x3 x4 x5 aN aD kD aI mr h0 n0 Z0 hPm Bd hml0 hh  b8 ru_23 ea_32 ru_118 kE_32 k3 nn c1 c2 c3 T133 _ vmpt hZ hown T133.heap X133 rfl N133 Zk133  _ hSpt hk135 R134 Qf133_0 F138 F139 Qf133_4 F145 F146 Qf133_1 Qf133_2 Qf133_3 Qf133_5 g_b8 ne24 g_ea_32 ne34 Qf133_6 (Old.ne O37 EI.lt g_ru_118) ne119 ne121 O136 hk3 hge1 hge2 hge3 hc44
      · refine gx (XS.iload X32.here hx rfl (hb hby at_116) rfl) ?_
        refine gx (XS.iload X32.here hx rfl (hb hby at_118) rfl) ?_
        obtain ⟨_, _, ⟨T393, L393, k393, n393⟩, -, X393, ⟨Lc393, hQ393, l393, y393, z393⟩, st393⟩ := Jvm.LawKit.callS X32 hx (y := own_n15) hown (mvT hZ (own_hw hw 31 rfl)) (mvT hZ (own_hw hw 32 rfl)) (mvT hZ (own_hw hw 33 rfl)) (mvT hZ (own_hw hw 34 rfl)) (by decide) (backOf (W := 1) (own_rmRU1 l Z a0 hw [] c2 aN T32.heap n0 Zk32 (SN.ext O37.2)) hZ (own_hw hw 34 rfl) (own_hw hw 33 rfl) (by decide) (by decide)) (g := (mkF m 120 #[.val (.int x0), .val (.long x1), .second, .val (.long x2), .second, .val (.int x3), .val (.int x4), .val (.int x5), .val (.int nn), .val (.int (0 : Int32)), .val (.int (1 : Int32)), .val (.int k3), .val (.int c1), .val (.int c2), .val (.int c3), .val (.ref b8), .unset, .unset, .unset] [(.int c2), (.int (1 : Int32)), (.ref b8)])) rfl (by rw [hml]; rfl) (argsL := [(.int (1 : Int32)), (.int c2)]) (rest := [(.ref b8)]) (lenOf own_pd_pZIqLcomlexamplelwee_tablelweetablelmodellGcRules rfl) rfl (own_W rfl rfl) (hb hby at_120) (fun _ _ => ⟨rfl, rfl, (by decide : 3 + 0 ≤ _), (by decide : 14 + 0 ≤ _)⟩)
        dsimp only [Pt.U, Pt.locs, Pt.cells, Pt.slots] at X393 l393 y393 z393 st393 hQ393
        subst l393 y393 z393
        obtain ⟨hv393, Nq393, hp393_0⟩ := hQ393
        have N393 := Fr.app N32 Nq393
        subst hv393
        refine Goes.to st393 ?_
        obtain ⟨cq394, kq394, q394a, q394b, q394c⟩ := isOf (s := s.setVm vmpt) hZ hp393_0 Qf32_0
        obtain ⟨_, _, ⟨T394, L394, k394, n394⟩, -, X394, ⟨Lc394, hQ394, l394, y394, z394⟩, st394⟩ := X393.virtualBack hx (y := own_n12) (z := own_n12) hown (mvT hZ (own_hw hw 49 rfl)) (mvT hZ (own_hw hw 50 rfl)) (notFace_of_selects (args := #[]) (mvT hZ (own_hw hw 52 rfl))) (mvT hZ (own_hw hw 52 rfl)) (mvT hZ (own_hw hw 51 rfl)) (by decide) (backOf (W := 0) (own_rmAD1 l Z a0 hw [] b8 aN ea_32 kE_32 "com/example/wee_table/weetable/model/GcRule$None" ru_23 T32.heap n0 Zk32 g_b8 (EN.ext O37.2) (own_hw hw 265 rfl) Qf32_0 Qf32_1 Qf32_2 Qf32_3 g_ea_32 Qf32_4 Qf32_5 Qf32_6) hZ (own_hw hw 53 rfl) (own_hw hw 7 rfl) (by decide) (by decide)) q394a q394c (g := (mkF m 123 #[.val (.int x0), .val (.long x1), .second, .val (.long x2), .second, .val (.int x3), .val (.int x4), .val (.int x5), .val (.int nn), .val (.int (0 : Int32)), .val (.int (1 : Int32)), .val (.int k3), .val (.int c1), .val (.int c2), .val (.int c3), .val (.ref b8), .unset, .unset, .unset] [(.ref aN), (.ref b8)])) rfl (by rw [hml]; rfl) (Steps.refl _) (argsL := [(.ref aN)]) (rest := []) (lenOf own_pd_pLjavallanglObjectsqZ rfl) rfl (own_W rfl rfl) (hb hby at_123) (fun _ _ => ⟨rfl, hp393_0, (by decide : 3 + 0 ≤ _), (by decide : 14 + 0 ≤ _)⟩)
        dsimp only [Pt.U, Pt.locs, Pt.cells, Pt.slots] at X394 l394 y394 z394 st394 hQ394
        subst l394 y394 z394
        obtain ⟨hv394, Nq394, Kq394, Qf394_0, Qf394_1, Qf394_2, Qf394_3, Qf394_4, Qf394_5, Qf394_6⟩ := hQ394
        have N394 := Fr.app N393 Nq394
        have R395 := R35.trans (CHr.keep Kq394 (sfS own_sf0 (sfS own_sf0 sf0)) R35.1)
        have hk396 := Nat.le_trans hk36 Kq394.1
        have O397 := O37.keep Kq394 (allS g_b8 (allS g_ea_32 all0))
        have F399 := F42.keep Kq394
        have F400 := F43.keep Kq394 (ninS (Ne.symm ne24) (ninS ne34 nin0))
        have Zk394 : n0 ≤ T394.heap.size := Nat.le_trans Zk32 Kq394.1
        subst hv394
        refine Goes.tr st394 ?_
        refine gx (XS.pop X394.here hx rfl (hb hby at_126) rfl rfl) ?_
        exact own_pt_own_rm0_406 l Z a0 hw ws x0 x1 x2 x3 x4 x5 aN aD kD aI mr h0 n0 Z0 hPm Bd hml0 hh  b8 ru_23 ea_32 kE_32 k3 nn c1 c2 c3 T394 _ vmpt hZ hown T394.heap X394 rfl N394 Zk394  _ hSpt hk396 R395 Qf394_0 F399 F400 Qf394_4 Qf394_1 Qf394_2 Qf394_3 Qf394_5 g_b8 ne24 g_ea_32 ne34 Qf394_6 O397 hk3 hge1 hge2 hge3 hc44
  · refine gx (XS.iload X15.here hx rfl (hb hby at_97) rfl) ?_
    refine gx (XS.iload X15.here hx rfl (hb hby at_99) rfl) ?_
    obtain ⟨_, _, ⟨T619, L619, k619, n619⟩, -, X619, ⟨Lc619, hQ619, l619, y619, z619⟩, st619⟩ := Jvm.LawKit.callS X15 hx (y := own_n15) hown (mvT hZ (own_hw hw 31 rfl)) (mvT hZ (own_hw hw 32 rfl)) (mvT hZ (own_hw hw 33 rfl)) (mvT hZ (own_hw hw 34 rfl)) (by decide) (backOf (W := 1) (own_rmRU1 l Z a0 hw [] c1 aN T15.heap n0 Zk15 (SN.ext O18.2)) hZ (own_hw hw 34 rfl) (own_hw hw 33 rfl) (by decide) (by decide)) (g := (mkF m 101 #[.val (.int x0), .val (.long x1), .second, .val (.long x2), .second, .val (.int x3), .val (.int x4), .val (.int x5), .val (.int nn), .val (.int (1 : Int32)), .val (.int k2), .val (.int k3), .val (.int c1), .val (.int c2), .val (.int c3), .val (.ref b8), .unset, .unset, .unset] [(.int c1), (.int (1 : Int32)), (.ref b8)])) rfl (by rw [hml]; rfl) (argsL := [(.int (1 : Int32)), (.int c1)]) (rest := [(.ref b8)]) (lenOf own_pd_pZIqLcomlexamplelwee_tablelweetablelmodellGcRules rfl) rfl (own_W rfl rfl) (hb hby at_101) (fun _ _ => ⟨rfl, rfl, (by decide : 1 + 0 ≤ _), (by decide : 3 + 0 ≤ _)⟩)
    dsimp only [Pt.U, Pt.locs, Pt.cells, Pt.slots] at X619 l619 y619 z619 st619 hQ619
    subst l619 y619 z619
    obtain ⟨hv619, Nq619, hp619_0⟩ := hQ619
    have N619 := Fr.app N15 Nq619
    subst hv619
    refine Goes.to st619 ?_
    obtain ⟨cq620, kq620, q620a, q620b, q620c⟩ := isOf (s := s.setVm vmpt) hZ hp619_0 Qf15_0
    obtain ⟨_, _, ⟨T620, L620, k620, n620⟩, -, X620, ⟨Lc620, hQ620, l620, y620, z620⟩, st620⟩ := X619.virtualBack hx (y := own_n12) (z := own_n12) hown (mvT hZ (own_hw hw 49 rfl)) (mvT hZ (own_hw hw 50 rfl)) (notFace_of_selects (args := #[]) (mvT hZ (own_hw hw 52 rfl))) (mvT hZ (own_hw hw 52 rfl)) (mvT hZ (own_hw hw 51 rfl)) (by decide) (backOf (W := 0) (own_rmAD0 l Z a0 hw [] b8 aN aD kD "com/example/wee_table/weetable/model/GcRule$None" T15.heap n0 Zk15 g_b8 (EN.ext O18.2) (own_hw hw 265 rfl) Qf15_0 Qf15_1 Qf15_2 Qf15_3 (SD.ext O18.2) (VD.ext O18.2) (XD.ext O18.2)) hZ (own_hw hw 53 rfl) (own_hw hw 7 rfl) (by decide) (by decide)) q620a q620c (g := (mkF m 104 #[.val (.int x0), .val (.long x1), .second, .val (.long x2), .second, .val (.int x3), .val (.int x4), .val (.int x5), .val (.int nn), .val (.int (1 : Int32)), .val (.int k2), .val (.int k3), .val (.int c1), .val (.int c2), .val (.int c3), .val (.ref b8), .unset, .unset, .unset] [(.ref aN), (.ref b8)])) rfl (by rw [hml]; rfl) (Steps.refl _) (argsL := [(.ref aN)]) (rest := []) (lenOf own_pd_pLjavallanglObjectsqZ rfl) rfl (own_W rfl rfl) (hb hby at_104) (fun _ _ => ⟨rfl, hp619_0, (by decide : 1 + 1 ≤ _), (by decide : 3 + 10 ≤ _)⟩)
    dsimp only [Pt.U, Pt.locs, Pt.cells, Pt.slots] at X620 l620 y620 z620 st620 hQ620
    subst l620 y620 z620
    obtain ⟨ea_620, kE_620, hv620, Nq620, sq620_0, Kq620, Qf620_0, Qf620_1, Qf620_2, Qf620_3, Qf620_4, Qf620_5, Qf620_6⟩ := hQ620
    have N620 := Fr.app N619 Nq620
    have g_ea_620 : n0 ≤ ea_620 := Nat.le_trans Zk15 sq620_0
    have R622 := R16.trans (CHr.keep Kq620 (sfS own_sf0 sf0) R16.1)
    have hk623 := Nat.le_trans hk17 Kq620.1
    have O624 := O18.keep Kq620 (allS g_b8 all0)
    have Zk620 : n0 ≤ T620.heap.size := Nat.le_trans Zk15 Kq620.1
    subst hv620
    refine Goes.tr st620 ?_
    refine gx (XS.pop X620.here hx rfl (hb hby at_107) rfl rfl) ?_
    refine gx (XS.iload X620.here hx rfl (hb hby at_108) rfl) ?_
    refine gx (XS.iconst X620.here hx rfl (hb hby at_110)) ?_
    by_cases hc629 : nn < (2 : Int32)
    · refine gx (XS.icmpYes X620.here hx rfl (pc0 := 111) (pc' := 127) rfl (hb hby at_111) rfl (tlt hc629).1 (by decide) (by decide)) ?_
      show Goes p.tables e below (T620.setTop (mkF m 127 #[.val (.int x0), .val (.long x1), .second, .val (.long x2), .second, .val (.int x3), .val (.int x4), .val (.int x5), .val (.int nn), .val (.int (1 : Int32)), .val (.int k2), .val (.int k3), .val (.int c1), .val (.int c2), .val (.int c3), .val (.ref b8), .unset, .unset, .unset] [])) _
      refine gx (XS.iload X620.here hx rfl (hb hby at_127) rfl) ?_
      refine gx (XS.iconst X620.here hx rfl (hb hby at_129)) ?_
      by_cases hc630 : nn < (3 : Int32)
      · refine gx (XS.icmpYes X620.here hx rfl (pc0 := 130) (pc' := 146) rfl (hb hby at_130) rfl (tlt hc630).1 (by decide) (by decide)) ?_
        obtain ⟨T631, h631, X631, e631, E631, A631, D631, -, st631⟩ := newO X620 hx hZ hown (own_hw hw 77 rfl) (own_hw hw 78 rfl) (own_hw hw 79 rfl) rfl (g := (mkF m 146 #[.val (.int x0), .val (.long x1), .second, .val (.long x2), .second, .val (.int x3), .val (.int x4), .val (.int x5), .val (.int nn), .val (.int (1 : Int32)), .val (.int k2), .val (.int k3), .val (.int c1), .val (.int c2), .val (.int c3), .val (.ref b8), .unset, .unset, .unset] [])) rfl (hb hby at_146) (by decide) (by decide)
        obtain ⟨b631, g631⟩ : ∃ z, z = T620.heap.size := ⟨_, rfl⟩
        rw [← g631] at A631 D631 st631
        subst e631
        have R634 := R622.trans (CHr.ext E631 R622.1)
        have hk635 := Nat.le_trans hk623 E631.1
        have O636 := O624.ext E631
        have F637 := Qf620_0.ext E631
        have F639 := Qf620_2.ext E631
        have F640 := Qf620_3.ext E631
        have F641 := Qf620_4.ext E631
        have F642 := Qf620_5.ext E631
        have g_b631 : n0 ≤ b631 := Nat.le_trans Zk620 (Nat.le_of_eq g631.symm)
        have Z631 : n0 ≤ T631.heap.size := Nat.le_trans Zk620 E631.1
        have F643 : Fld Z T631.heap b631 "com/example/wee_table/weetable/model/GcRule$Intersection" "rules" "Ljava/util/List;" .null := D631 (Or.inr (own_hw hw 188 rfl)) (ty := (.object "java/util/List")) (by decide)
        refine Goes.to st631 ?_
        refine gx (XS.dup X631.here hx rfl (hb hby at_149) rfl rfl) ?_
        refine gx (XS.aload X631.here hx rfl (hb hby at_150) rfl rfl) ?_
        obtain ⟨_, _, ⟨T644, L644, k644, n644⟩, -, X644, hSn644, hgr644, ⟨Lc644, hQ644, l644, y644, z644, Rr644⟩, st644⟩ := X631.specialBackS hx (y := own_n33) rfl hown (mvT hZ (own_hw hw 80 rfl)) (mvT hZ (own_hw hw 81 rfl)) (mvT hZ (own_hw hw 82 rfl)) (by decide) (backOfSH (s := s) (vm0 := vmpt) (W := 1) (own_rmIN1 l Z a0 hw [] b631 b8 ea_620 kE_620 aN "com/example/wee_table/weetable/model/GcRule$None" mr aI T631.heap n0 Z631 g_b631 A631 F643 F637 F639 F640 F641 F642 (EN.ext O636.2) (own_hw hw 265 rfl) (SE.ext O636.2) Mr) hZ (own_hw hw 82 rfl) (own_hw hw 79 rfl) (by decide) (by decide) hEL R634.1) (g := (mkF m 152 #[.val (.int x0), .val (.long x1), .second, .val (.long x2), .second, .val (.int x3), .val (.int x4), .val (.int x5), .val (.int nn), .val (.int (1 : Int32)), .val (.int k2), .val (.int k3), .val (.int c1), .val (.int c2), .val (.int c3), .val (.ref b8), .unset, .unset, .unset] [(.ref b8), (.ref b631), (.ref b631)])) rfl (by rw [hml]; rfl) (Steps.refl _) (a := b631) (argsL := [(.ref b8)]) (rest := [(.ref b631)]) (lenOf own_pd_pLjavalutillListsqV rfl) rfl (own_W rfl rfl) (hb hby at_152) (fun _ _ => ⟨rfl, rfl, (by decide : 3 + 4 ≤ _), (by decide : 14 + 67 ≤ _)⟩)
        dsimp only [Pt.U, Pt.locs, Pt.cells, Pt.slots] at X644 hSn644 hgr644 l644 y644 z644 st644 hQ644 Rr644
        subst l644 y644 z644
        obtain ⟨X644, hS644, hZ644, hown644⟩ := rebS (s := s) hSpt hk635 X644 hSn644 hgr644 hZ hown
        have R644 := R634.trans Rr644
        have hZ := hZ644
        have hown := hown644
        obtain ⟨li_644, hv644, Nq644, sq644_0, Kq644, Qf644_0, Qf644_1, Qf644_2, Qf644_3, Qf644_4⟩ := hQ644
        have N644 := Fr.app N620 Nq644
        have O648 := O636.keep Kq644 (allS g_b631 all0)
        have Zk644 : n0 ≤ T644.heap.size := Nat.le_trans Z631 Kq644.1
        subst hv644
        refine Goes.tr st644 ?_
        exact own_pt_own_rm0_657 l Z a0 hw ws x0 x1 x2 x3 x4 x5 aN aD kD aI mr h0 n0 Z0 hPm Bd hml0 hh  b8 b631 li_644 k2 k3 nn c1 c2 c3 T644 _ T644.vm hZ hown T644.heap X644 rfl N644 Zk644  _ hS644 (Nat.le_refl _) R644 Qf644_0 Qf644_1 Qf644_2 Qf644_3 Qf644_4 O648 hk2 hk3 hge1 hge2 hge3 hc629 hc630
      · exact (own_lt23 hc629 hc630).elim
    · refine gx (XS.icmpNo X620.here hx rfl (hb hby at_111) rfl (flt hc629).1) ?_
      show Goes p.tables e below (T620.setTop (mkF m 114 #[.val (.int x0), .val (.long x1), .second, .val (.long x2), .second, .val (.int x3), .val (.int x4), .val (.int x5), .val (.int nn), .val (.int (1 : Int32)), .val (.int k2), .val (.int k3), .val (.int c1), .val (.int c2), .val (.int c3), .val (.ref b8), .unset, .unset, .unset] [])) _
      refine gx (XS.aload X620.here hx rfl (hb hby at_114) rfl rfl) ?_
      rcases hk2 with rfl | rfl
      · refine gx (XS.iload X620.here hx rfl (hb hby at_116) rfl) ?_
        refine gx (XS.iload X620.here hx rfl (hb hby at_118) rfl) ?_
        obtain ⟨_, _, ⟨T674, L674, k674, n674⟩, -, X674, ⟨Lc674, hQ674, l674, y674, z674⟩, st674⟩ := Jvm.LawKit.callS X620 hx (y := own_n15) hown (mvT hZ (own_hw hw 31 rfl)) (mvT hZ (own_hw hw 32 rfl)) (mvT hZ (own_hw hw 33 rfl)) (mvT hZ (own_hw hw 34 rfl)) (by decide) (backOf (W := 1) (own_rmRU0 l Z a0 hw [] c2 T620.heap n0 Zk620 hge2) hZ (own_hw hw 34 rfl) (own_hw hw 33 rfl) (by decide) (by decide)) (g := (mkF m 120 #[.val (.int x0), .val (.long x1), .second, .val (.long x2), .second, .val (.int x3), .val (.int x4), .val (.int x5), .val (.int nn), .val (.int (1 : Int32)), .val (.int (0 : Int32)), .val (.int k3), .val (.int c1), .val (.int c2), .val (.int c3), .val (.ref b8), .unset, .unset, .unset] [(.int c2), (.int (0 : Int32)), (.ref b8)])) rfl (by rw [hml]; rfl) (argsL := [(.int (0 : Int32)), (.int c2)]) (rest := [(.ref b8)]) (lenOf own_pd_pZIqLcomlexamplelwee_tablelweetablelmodellGcRules rfl) rfl (own_W rfl rfl) (hb hby at_120) (fun _ _ => ⟨rfl, rfl, (by decide : 2 + 1 ≤ _), (by decide : 13 + 1 ≤ _)⟩)
        dsimp only [Pt.U, Pt.locs, Pt.cells, Pt.slots] at X674 l674 y674 z674 st674 hQ674
        subst l674 y674 z674
        obtain ⟨ru_674, hv674, Nq674, sq674_0, Kq674, Qf674_0, Qf674_1⟩ := hQ674
        have N674 := Fr.app N620 Nq674
        have g_ru_674 : n0 ≤ ru_674 := Nat.le_trans Zk620 sq674_0
        have ne675 : b8 ≠ ru_674 := Nat.ne_of_lt (Nat.lt_of_lt_of_le Qf620_0.lt sq674_0)
        have ne676 : ea_620 ≠ ru_674 := Nat.ne_of_lt (Nat.lt_of_lt_of_le Qf620_4.lt sq674_0)
        have R677 := R622.trans (CHr.keep Kq674 sf0 R622.1)
        have hk678 := Nat.le_trans hk623 Kq674.1
        have O679 := O624.keep Kq674 all0
        have F680 := Qf620_0.keep Kq674
        have F681 := Qf620_1.keep Kq674 nin0
        have F682 := Qf620_2.keep Kq674 nin0
        have F683 := Qf620_3.keep Kq674 nin0
        have F684 := Qf620_4.keep Kq674
        have F685 := Qf620_5.keep Kq674 nin0
        have Zk674 : n0 ≤ T674.heap.size := Nat.le_trans Zk620 Kq674.1
        subst hv674
        refine Goes.to st674 ?_
        obtain ⟨cq686, kq686, q686a, q686b, q686c⟩ := isOf (s := s.setVm vmpt) hZ rfl F680
        obtain ⟨_, _, ⟨T686, L686, k686, n686⟩, -, X686, ⟨Lc686, hQ686, l686, y686, z686⟩, st686⟩ := X674.virtualBack hx (y := own_n12) (z := own_n12) hown (mvT hZ (own_hw hw 49 rfl)) (mvT hZ (own_hw hw 50 rfl)) (notFace_of_selects (args := #[]) (mvT hZ (own_hw hw 52 rfl))) (mvT hZ (own_hw hw 52 rfl)) (mvT hZ (own_hw hw 51 rfl)) (by decide) (backOf (W := 0) (own_rmAD1 l Z a0 hw [] b8 ru_674 ea_620 kE_620 "com/example/wee_table/weetable/model/GcRule$MaxVersions" aN T674.heap n0 Zk674 g_b8 Qf674_0 (own_hw hw 76 rfl) F680 F681 F682 F683 g_ea_620 F684 F685 Qf620_6) hZ (own_hw hw 53 rfl) (own_hw hw 7 rfl) (by decide) (by decide)) q686a q686c (g := (mkF m 123 #[.val (.int x0), .val (.long x1), .second, .val (.long x2), .second, .val (.int x3), .val (.int x4), .val (.int x5), .val (.int nn), .val (.int (1 : Int32)), .val (.int (0 : Int32)), .val (.int k3), .val (.int c1), .val (.int c2), .val (.int c3), .val (.ref b8), .unset, .unset, .unset] [(.ref ru_674), (.ref b8)])) rfl (by rw [hml]; rfl) (Steps.refl _) (argsL := [(.ref ru_674)]) (rest := []) (lenOf own_pd_pLjavallanglObjectsqZ rfl) rfl (own_W rfl rfl) (hb hby at_123) (fun _ _ => ⟨rfl, rfl, (by decide : 3 + 0 ≤ _), (by decide : 14 + 0 ≤ _)⟩)
        dsimp only [Pt.U, Pt.locs, Pt.cells, Pt.slots] at X686 l686 y686 z686 st686 hQ686
        subst l686 y686 z686
        obtain ⟨hv686, Nq686, Kq686, Qf686_0, Qf686_1, Qf686_2, Qf686_3, Qf686_4, Qf686_5, Qf686_6⟩ := hQ686
        have N686 := Fr.app N674 Nq686
        have R687 := R677.trans (CHr.keep Kq686 (sfS own_sf0 (sfS own_sf0 sf0)) R677.1)
        have hk688 := Nat.le_trans hk678 Kq686.1
        have O689 := O679.keep Kq686 (allS g_b8 (allS g_ea_620 all0))
        have F696 := Qf674_0.keep Kq686
        have F697 := Qf674_1.keep Kq686 (ninS (Ne.symm ne675) (ninS (Ne.symm ne676) nin0))
        have Zk686 : n0 ≤ T686.heap.size := Nat.le_trans Zk674 Kq686.1
        subst hv686
        refine Goes.tr st686 ?_
        refine gx (XS.pop X686.here hx rfl (hb hby at_126) rfl rfl) ?_
        exact own_pt_own_rm0_698 l Z a0 hw ws x0 x1 x2 x3 x4 x5 aN aD kD aI mr h0 n0 Z0 hPm Bd hml0 hh  b8 ea_620 ru_674 kE_620 k3 nn c1 c2 c3 T686 _ vmpt hZ hown T686.heap X686 rfl N686 Zk686  _ hSpt hk688 R687 Qf686_0 Qf686_4 F696 F697 Qf686_1 Qf686_2 Qf686_3 Qf686_5 g_b8 g_ea_620 Qf686_6 (Old.ne O624 EI.lt g_ru_674) ne675 ne676 O689 hk3 hge1 hge2 hge3 hc629
      · refine gx (XS.iload X620.here hx rfl (hb hby at_116) rfl) ?_
        refine gx (XS.iload X620.here hx rfl (hb hby at_118) rfl) ?_
        obtain ⟨_, _, ⟨T911, L911, k911, n911⟩, -, X911, ⟨Lc911, hQ911, l911, y911, z911⟩, st911⟩ := Jvm.LawKit.callS X620 hx (y := own_n15) hown (mvT hZ (own_hw hw 31 rfl)) (mvT hZ (own_hw hw 32 rfl)) (mvT hZ (own_hw hw 33 rfl)) (mvT hZ (own_hw hw 34 rfl)) (by decide) (backOf (W := 1) (own_rmRU1 l Z a0 hw [] c2 aN T620.heap n0 Zk620 (SN.ext O624.2)) hZ (own_hw hw 34 rfl) (own_hw hw 33 rfl) (by decide) (by decide)) (g := (mkF m 120 #[.val (.int x0), .val (.long x1), .second, .val (.long x2), .second, .val (.int x3), .val (.int x4), .val (.int x5), .val (.int nn), .val (.int (1 : Int32)), .val (.int (1 : Int32)), .val (.int k3), .val (.int c1), .val (.int c2), .val (.int c3), .val (.ref b8), .unset, .unset, .unset] [(.int c2), (.int (1 : Int32)), (.ref b8)])) rfl (by rw [hml]; rfl) (argsL := [(.int (1 : Int32)), (.int c2)]) (rest := [(.ref b8)]) (lenOf own_pd_pZIqLcomlexamplelwee_tablelweetablelmodellGcRules rfl) rfl (own_W rfl rfl) (hb hby at_120) (fun _ _ => ⟨rfl, rfl, (by decide : 2 + 0 ≤ _), (by decide : 13 + 0 ≤ _)⟩)
        dsimp only [Pt.U, Pt.locs, Pt.cells, Pt.slots] at X911 l911 y911 z911 st911 hQ911
        subst l911 y911 z911
        obtain ⟨hv911, Nq911, hp911_0⟩ := hQ911
        have N911 := Fr.app N620 Nq911
        subst hv911
        refine Goes.to st911 ?_
        obtain ⟨cq912, kq912, q912a, q912b, q912c⟩ := isOf (s := s.setVm vmpt) hZ hp911_0 Qf620_0
        obtain ⟨_, _, ⟨T912, L912, k912, n912⟩, -, X912, ⟨Lc912, hQ912, l912, y912, z912⟩, st912⟩ := X911.virtualBack hx (y := own_n12) (z := own_n12) hown (mvT hZ (own_hw hw 49 rfl)) (mvT hZ (own_hw hw 50 rfl)) (notFace_of_selects (args := #[]) (mvT hZ (own_hw hw 52 rfl))) (mvT hZ (own_hw hw 52 rfl)) (mvT hZ (own_hw hw 51 rfl)) (by decide) (backOf (W := 0) (own_rmAD1 l Z a0 hw [] b8 aN ea_620 kE_620 "com/example/wee_table/weetable/model/GcRule$None" aN T620.heap n0 Zk620 g_b8 (EN.ext O624.2) (own_hw hw 265 rfl) Qf620_0 Qf620_1 Qf620_2 Qf620_3 g_ea_620 Qf620_4 Qf620_5 Qf620_6) hZ (own_hw hw 53 rfl) (own_hw hw 7 rfl) (by decide) (by decide)) q912a q912c (g := (mkF m 123 #[.val (.int x0), .val (.long x1), .second, .val (.long x2), .second, .val (.int x3), .val (.int x4), .val (.int x5), .val (.int nn), .val (.int (1 : Int32)), .val (.int (1 : Int32)), .val (.int k3), .val (.int c1), .val (.int c2), .val (.int c3), .val (.ref b8), .unset, .unset, .unset] [(.ref aN), (.ref b8)])) rfl (by rw [hml]; rfl) (Steps.refl _) (argsL := [(.ref aN)]) (rest := []) (lenOf own_pd_pLjavallanglObjectsqZ rfl) rfl (own_W rfl rfl) (hb hby at_123) (fun _ _ => ⟨rfl, hp911_0, (by decide : 2 + 0 ≤ _), (by decide : 13 + 0 ≤ _)⟩)
        dsimp only [Pt.U, Pt.locs, Pt.cells, Pt.slots] at X912 l912 y912 z912 st912 hQ912
        subst l912 y912 z912
        obtain ⟨hv912, Nq912, Kq912, Qf912_0, Qf912_1, Qf912_2, Qf912_3, Qf912_4, Qf912_5, Qf912_6⟩ := hQ912
        have N912 := Fr.app N911 Nq912
        have R913 := R622.trans (CHr.keep Kq912 (sfS own_sf0 (sfS own_sf0 sf0)) R622.1)
        have hk914 := Nat.le_trans hk623 Kq912.1
        have O915 := O624.keep Kq912 (allS g_b8 (allS g_ea_620 all0))
        have Zk912 : n0 ≤ T912.heap.size := Nat.le_trans Zk620 Kq912.1
        subst hv912
        refine Goes.tr st912 ?_
        refine gx (XS.pop X912.here hx rfl (hb hby at_126) rfl rfl) ?_
        exact own_pt_own_rm0_922 l Z a0 hw ws x0 x1 x2 x3 x4 x5 aN aD kD aI mr h0 n0 Z0 hPm Bd hml0 hh  b8 ea_620 kE_620 k3 nn c1 c2 c3 T912 _ vmpt hZ hown T912.heap X912 rfl N912 Zk912  _ hSpt hk914 R913 Qf912_0 Qf912_4 Qf912_1 Qf912_2 Qf912_3 Qf912_5 g_b8 g_ea_620 Qf912_6 O915 hk3 hge1 hge2 hge3 hc629
set_option maxRecDepth 65536 in
set_option maxHeartbeats 40000000 in
theorem own_rm0 (l : Launch) (Z : State) (a0 : Array Value) (hw : ∀ d ∈ tables_1, d.before a0 Z = true) (ws : List Jvm.Cond) (x0 : Int32) (x1 : Int64) (x2 : Int64) (x3 : Int32) (x4 : Int32) (x5 : Int32) (aN : Addr) (aD : Addr) (kD : ClassId) (aI : Addr) (mr : Addr) (h0 : Heap) (n0 : Nat) (Z0 : n0 ≤ h0.size) (O0 : Old Z n0 h0) (hCH0 : CHv Z own_EL Z.vm Z.heap) (SN : Sta Z Z.heap "com/example/wee_table/weetable/model/GcRule" "NONE" "Lcom/example/wee_table/weetable/model/GcRule;" (.ref aN)) (SD : Sta Z Z.heap "java/util/ArrayList" "DEFAULTCAPACITY_EMPTY_ELEMENTDATA" "[Ljava/lang/Object;" (.ref aD)) (SE : Sta Z Z.heap "java/util/ImmutableCollections" "EMPTY" "Ljava/lang/Object;" (.ref aI)) (EN : Exa Z Z.heap aN "com/example/wee_table/weetable/model/GcRule$None") (XD : Exa Z Z.heap aD "[Ljava/lang/Object;") (VD : Arv Z Z.heap aD kD (.object "java/lang/Object") (0 : Int32) [] .null) (EI : Exa Z Z.heap aI "java/lang/Object") (Mr : (Term.mirror "[Ljava/lang/Object;").eval #[] Z none [] Z = some (.ref mr)) :
    MetFree l x (head1 (Jvm.Cond.code x code maxLocals ret :: ws) room_1) (fun a U => a = #[(.int x0), (.long x1), (.long x2), (.int x3), (.int x4), (.int x5)] ∧ U = Z ∧ U.heap = h0) (fun _ _ _ _ _ => True) (fun _ U o U' => ∃ v L, o = .returned v ∧ own_Q_own_rm0 Z x0 x1 x2 x3 x4 x5 aN aD kD aI mr h0 n0 v U'.heap L ∧ ReturnedEndW U o U' L 32 1152) := by
  refine MetFree.of_bodySF (plainFor_of_name own_pn_0) hisR ?_
  intro p e s m args below meth c s₁ Bd hml0 hP hK
  obtain ⟨rfl, hU, hh⟩ := hP
  have hx := Bd.exec
  have hby := Bd.bytes
  have hml : c.maxLocals = 19 := hml0
  have hown : s.vm.findClass "com/example/wee_table/weetable/model/IntersectionExpiresPinLaw" = some m.cls := findClass_of_methodNamed Bd.named
  have hnm := (name_of_methodNamed Bd.named Bd.method).1
  have X0 : Stand p l e room_1 (s.setVm s.vm) m #[(.int x0), (.long x1), (.long x2), (.int x3), (.int x4), (.int x5)] below meth c s₁ [] 0 0 := Stand.of_body Bd
  have e0 : s₁.heap = h0 := by rw [← hh, Bd.state]; rfl
  have N0 := Fr.nil n0
  have hZ : Z.Warmed39 s.vm := by rw [hU]; exact State.Warmed39.refl Z
  have hCH : CHv Z own_EL s.vm h0 := by rw [← hh, hU]; exact hCH0
  have hS0 : s.Since s.vm h0.size := (State.WarmedH.refl s).since _
  have own_wS' : ∀ a ∈ Bundle.stringAtoms, a.before a0 Z = true := own_wS hw
  have hEL := own_EW hw
  have R0 := CHr.refl hCH
  have hPm : own_P_own_rm0 Z a0 x0 x1 x2 x3 x4 x5 aN aD kD aI mr h0 n0 := ⟨O0, hCH0, SN, SD, SE, EN, XD, VD, EI, Mr⟩
  show Goes p.tables e below _ (own_RW below s (own_Q_own_rm0 Z x0 x1 x2 x3 x4 x5 aN aD kD aI mr h0 n0) 32 1152)
  refine Goes.to (fun t k => castTop (own_ef_own_rm0 m x0 x1 x2 x3 x4 x5) k) ?_
  refine gx (XS.iload X0.here hx rfl (hb hby at_0) rfl) ?_
  refine gx (XS.iconst X0.here hx rfl (hb hby at_2)) ?_
  refine gx (XS.iand X0.here hx rfl (hb hby at_3) rfl) ?_
  refine gx (XS.iconst X0.here hx rfl (hb hby at_4)) ?_
  refine gx (Jvm.RoadKit.iremM X0 hx rfl (hb hby at_5) rfl (by decide)) ?_
  refine gx (XS.iconst X0.here hx rfl (hb hby at_6)) ?_
  refine gx (XS.iadd X0.here hx rfl (hb hby at_7) rfl) ?_
  refine gx (XS.istore X0.here hx rfl (hb hby at_8) rfl (l' := #[.val (.int x0), .val (.long x1), .second, .val (.long x2), .second, .val (.int x3), .val (.int x4), .val (.int x5), .val (.int (((x5 &&& (3 : Int32)) % (3 : Int32)) + (1 : Int32))), .unset, .unset, .unset, .unset, .unset, .unset, .unset, .unset, .unset, .unset]) rfl) ?_
  refine gx (XS.iload X0.here hx rfl (hb hby at_10) rfl) ?_
  show Goes p.tables e below (s₁.setTop (mkF m 12 #[.val (.int x0), .val (.long x1), .second, .val (.long x2), .second, .val (.int x3), .val (.int x4), .val (.int x5), .val (.int (((x5 &&& (3 : Int32)) % (3 : Int32)) + (1 : Int32))), .unset, .unset, .unset, .unset, .unset, .unset, .unset, .unset, .unset, .unset] [(.int x5)])) _
  refine gx (XS.iconst X0.here hx rfl (hb hby at_12)) ?_
  refine gx (XS.iand X0.here hx rfl (hb hby at_13) rfl) ?_
  by_cases hc1 : (x5 &&& (4 : Int32)) = (0 : Int32)
  · refine gx (XS.ifYes X0.here hx rfl (pc0 := 14) (pc' := 21) rfl (hb hby at_14) rfl ((if0 _ _).trans (teq hc1).1) (by decide) (by decide)) ?_
    refine gx (XS.iconst X0.here hx rfl (hb hby at_21)) ?_
    refine gx (XS.istore X0.here hx rfl (hb hby at_22) rfl (l' := #[.val (.int x0), .val (.long x1), .second, .val (.long x2), .second, .val (.int x3), .val (.int x4), .val (.int x5), .val (.int (((x5 &&& (3 : Int32)) % (3 : Int32)) + (1 : Int32))), .val (.int (0 : Int32)), .unset, .unset, .unset, .unset, .unset, .unset, .unset, .unset, .unset]) rfl) ?_
    show Goes p.tables e below (s₁.setTop (mkF m 24 #[.val (.int x0), .val (.long x1), .second, .val (.long x2), .second, .val (.int x3), .val (.int x4), .val (.int x5), .val (.int (((x5 &&& (3 : Int32)) % (3 : Int32)) + (1 : Int32))), .val (.int (0 : Int32)), .unset, .unset, .unset, .unset, .unset, .unset, .unset, .unset, .unset] [])) _
    refine gx (XS.iload X0.here hx rfl (hb hby at_24) rfl) ?_
    refine gx (XS.bipush X0.here hx rfl (hb hby at_26)) ?_
    refine gx (XS.iand X0.here hx rfl (hb hby at_28) rfl) ?_
    by_cases hc2 : (x5 &&& (8 : Int32)) = (0 : Int32)
    · refine gx (XS.ifYes X0.here hx rfl (pc0 := 29) (pc' := 36) rfl (hb hby at_29) rfl ((if0 _ _).trans (teq hc2).1) (by decide) (by decide)) ?_
      refine gx (XS.iconst X0.here hx rfl (hb hby at_36)) ?_
      show Goes p.tables e below (s₁.setTop (mkF m 37 #[.val (.int x0), .val (.long x1), .second, .val (.long x2), .second, .val (.int x3), .val (.int x4), .val (.int x5), .val (.int (((x5 &&& (3 : Int32)) % (3 : Int32)) + (1 : Int32))), .val (.int (0 : Int32)), .unset, .unset, .unset, .unset, .unset, .unset, .unset, .unset, .unset] [(.int (0 : Int32))])) _
      refine gx (XS.istore X0.here hx rfl (hb hby at_37) rfl (l' := #[.val (.int x0), .val (.long x1), .second, .val (.long x2), .second, .val (.int x3), .val (.int x4), .val (.int x5), .val (.int (((x5 &&& (3 : Int32)) % (3 : Int32)) + (1 : Int32))), .val (.int (0 : Int32)), .val (.int (0 : Int32)), .unset, .unset, .unset, .unset, .unset, .unset, .unset, .unset]) rfl) ?_
      refine gx (XS.iload X0.here hx rfl (hb hby at_39) rfl) ?_
      refine gx (XS.bipush X0.here hx rfl (hb hby at_41)) ?_
      refine gx (XS.iand X0.here hx rfl (hb hby at_43) rfl) ?_
      by_cases hc3 : (x5 &&& (16 : Int32)) = (0 : Int32)
      · refine gx (XS.ifYes X0.here hx rfl (pc0 := 44) (pc' := 51) rfl (hb hby at_44) rfl ((if0 _ _).trans (teq hc3).1) (by decide) (by decide)) ?_
        show Goes p.tables e below (s₁.setTop (mkF m 51 #[.val (.int x0), .val (.long x1), .second, .val (.long x2), .second, .val (.int x3), .val (.int x4), .val (.int x5), .val (.int (((x5 &&& (3 : Int32)) % (3 : Int32)) + (1 : Int32))), .val (.int (0 : Int32)), .val (.int (0 : Int32)), .unset, .unset, .unset, .unset, .unset, .unset, .unset, .unset] [])) _
        refine gx (XS.iconst X0.here hx rfl (hb hby at_51)) ?_
        exact own_pt_own_rm0_4 l Z a0 hw ws x0 x1 x2 x3 x4 x5 aN aD kD aI mr h0 n0 Z0 hPm Bd hml0 hh  (0 : Int32) (0 : Int32) (0 : Int32) (((x5 &&& (3 : Int32)) % (3 : Int32)) + (1 : Int32)) s₁ _ s.vm hZ hown  X0 e0 N0 Z0  _ hS0 (Nat.le_refl _) R0 O0 (Or.inl rfl) (Or.inl rfl) (Or.inl rfl)
      · refine gx (XS.ifNo X0.here hx rfl (hb hby at_44) rfl ((if0 _ _).trans (feq hc3).1)) ?_
        show Goes p.tables e below (s₁.setTop (mkF m 47 #[.val (.int x0), .val (.long x1), .second, .val (.long x2), .second, .val (.int x3), .val (.int x4), .val (.int x5), .val (.int (((x5 &&& (3 : Int32)) % (3 : Int32)) + (1 : Int32))), .val (.int (0 : Int32)), .val (.int (0 : Int32)), .unset, .unset, .unset, .unset, .unset, .unset, .unset, .unset] [])) _
        refine gx (XS.iconst X0.here hx rfl (hb hby at_47)) ?_
        refine gx (XS.goto X0.here hx rfl (pc0 := 48) (pc' := 52) rfl (hb hby at_48) (by decide) (by decide)) ?_
        exact own_pt_own_rm0_4 l Z a0 hw ws x0 x1 x2 x3 x4 x5 aN aD kD aI mr h0 n0 Z0 hPm Bd hml0 hh  (0 : Int32) (0 : Int32) (1 : Int32) (((x5 &&& (3 : Int32)) % (3 : Int32)) + (1 : Int32)) s₁ _ s.vm hZ hown  X0 e0 N0 Z0  _ hS0 (Nat.le_refl _) R0 O0 (Or.inl rfl) (Or.inl rfl) (Or.inr rfl)
    · refine gx (XS.ifNo X0.here hx rfl (hb hby at_29) rfl ((if0 _ _).trans (feq hc2).1)) ?_
      refine gx (XS.iconst X0.here hx rfl (hb hby at_32)) ?_
      show Goes p.tables e below (s₁.setTop (mkF m 33 #[.val (.int x0), .val (.long x1), .second, .val (.long x2), .second, .val (.int x3), .val (.int x4), .val (.int x5), .val (.int (((x5 &&& (3 : Int32)) % (3 : Int32)) + (1 : Int32))), .val (.int (0 : Int32)), .unset, .unset, .unset, .unset, .unset, .unset, .unset, .unset, .unset] [(.int (1 : Int32))])) _
      refine gx (XS.goto X0.here hx rfl (pc0 := 33) (pc' := 37) rfl (hb hby at_33) (by decide) (by decide)) ?_
      refine gx (XS.istore X0.here hx rfl (hb hby at_37) rfl (l' := #[.val (.int x0), .val (.long x1), .second, .val (.long x2), .second, .val (.int x3), .val (.int x4), .val (.int x5), .val (.int (((x5 &&& (3 : Int32)) % (3 : Int32)) + (1 : Int32))), .val (.int (0 : Int32)), .val (.int (1 : Int32)), .unset, .unset, .unset, .unset, .unset, .unset, .unset, .unset]) rfl) ?_
      refine gx (XS.iload X0.here hx rfl (hb hby at_39) rfl) ?_
      refine gx (XS.bipush X0.here hx rfl (hb hby at_41)) ?_
      refine gx (XS.iand X0.here hx rfl (hb hby at_43) rfl) ?_
      show Goes p.tables e below (s₁.setTop (mkF m 44 #[.val (.int x0), .val (.long x1), .second, .val (.long x2), .second, .val (.int x3), .val (.int x4), .val (.int x5), .val (.int (((x5 &&& (3 : Int32)) % (3 : Int32)) + (1 : Int32))), .val (.int (0 : Int32)), .val (.int (1 : Int32)), .unset, .unset, .unset, .unset, .unset, .unset, .unset, .unset] [(.int (x5 &&& (16 : Int32)))])) _
      by_cases hc1103 : (x5 &&& (16 : Int32)) = (0 : Int32)
      · refine gx (XS.ifYes X0.here hx rfl (pc0 := 44) (pc' := 51) rfl (hb hby at_44) rfl ((if0 _ _).trans (teq hc1103).1) (by decide) (by decide)) ?_
        refine gx (XS.iconst X0.here hx rfl (hb hby at_51)) ?_
        exact own_pt_own_rm0_4 l Z a0 hw ws x0 x1 x2 x3 x4 x5 aN aD kD aI mr h0 n0 Z0 hPm Bd hml0 hh  (0 : Int32) (1 : Int32) (0 : Int32) (((x5 &&& (3 : Int32)) % (3 : Int32)) + (1 : Int32)) s₁ _ s.vm hZ hown  X0 e0 N0 Z0  _ hS0 (Nat.le_refl _) R0 O0 (Or.inl rfl) (Or.inr rfl) (Or.inl rfl)
      · refine gx (XS.ifNo X0.here hx rfl (hb hby at_44) rfl ((if0 _ _).trans (feq hc1103).1)) ?_
        refine gx (XS.iconst X0.here hx rfl (hb hby at_47)) ?_
        refine gx (XS.goto X0.here hx rfl (pc0 := 48) (pc' := 52) rfl (hb hby at_48) (by decide) (by decide)) ?_
        exact own_pt_own_rm0_4 l Z a0 hw ws x0 x1 x2 x3 x4 x5 aN aD kD aI mr h0 n0 Z0 hPm Bd hml0 hh  (0 : Int32) (1 : Int32) (1 : Int32) (((x5 &&& (3 : Int32)) % (3 : Int32)) + (1 : Int32)) s₁ _ s.vm hZ hown  X0 e0 N0 Z0  _ hS0 (Nat.le_refl _) R0 O0 (Or.inl rfl) (Or.inr rfl) (Or.inr rfl)
  · refine gx (XS.ifNo X0.here hx rfl (hb hby at_14) rfl ((if0 _ _).trans (feq hc1).1)) ?_
    refine gx (XS.iconst X0.here hx rfl (hb hby at_17)) ?_
    refine gx (XS.goto X0.here hx rfl (pc0 := 18) (pc' := 22) rfl (hb hby at_18) (by decide) (by decide)) ?_
    show Goes p.tables e below (s₁.setTop (mkF m 22 #[.val (.int x0), .val (.long x1), .second, .val (.long x2), .second, .val (.int x3), .val (.int x4), .val (.int x5), .val (.int (((x5 &&& (3 : Int32)) % (3 : Int32)) + (1 : Int32))), .unset, .unset, .unset, .unset, .unset, .unset, .unset, .unset, .unset, .unset] [(.int (1 : Int32))])) _
    refine gx (XS.istore X0.here hx rfl (hb hby at_22) rfl (l' := #[.val (.int x0), .val (.long x1), .second, .val (.long x2), .second, .val (.int x3), .val (.int x4), .val (.int x5), .val (.int (((x5 &&& (3 : Int32)) % (3 : Int32)) + (1 : Int32))), .val (.int (1 : Int32)), .unset, .unset, .unset, .unset, .unset, .unset, .unset, .unset, .unset]) rfl) ?_
    refine gx (XS.iload X0.here hx rfl (hb hby at_24) rfl) ?_
    refine gx (XS.bipush X0.here hx rfl (hb hby at_26)) ?_
    refine gx (XS.iand X0.here hx rfl (hb hby at_28) rfl) ?_
    by_cases hc1106 : (x5 &&& (8 : Int32)) = (0 : Int32)
    · refine gx (XS.ifYes X0.here hx rfl (pc0 := 29) (pc' := 36) rfl (hb hby at_29) rfl ((if0 _ _).trans (teq hc1106).1) (by decide) (by decide)) ?_
      show Goes p.tables e below (s₁.setTop (mkF m 36 #[.val (.int x0), .val (.long x1), .second, .val (.long x2), .second, .val (.int x3), .val (.int x4), .val (.int x5), .val (.int (((x5 &&& (3 : Int32)) % (3 : Int32)) + (1 : Int32))), .val (.int (1 : Int32)), .unset, .unset, .unset, .unset, .unset, .unset, .unset, .unset, .unset] [])) _
      refine gx (XS.iconst X0.here hx rfl (hb hby at_36)) ?_
      refine gx (XS.istore X0.here hx rfl (hb hby at_37) rfl (l' := #[.val (.int x0), .val (.long x1), .second, .val (.long x2), .second, .val (.int x3), .val (.int x4), .val (.int x5), .val (.int (((x5 &&& (3 : Int32)) % (3 : Int32)) + (1 : Int32))), .val (.int (1 : Int32)), .val (.int (0 : Int32)), .unset, .unset, .unset, .unset, .unset, .unset, .unset, .unset]) rfl) ?_
      refine gx (XS.iload X0.here hx rfl (hb hby at_39) rfl) ?_
      refine gx (XS.bipush X0.here hx rfl (hb hby at_41)) ?_
      refine gx (XS.iand X0.here hx rfl (hb hby at_43) rfl) ?_
      show Goes p.tables e below (s₁.setTop (mkF m 44 #[.val (.int x0), .val (.long x1), .second, .val (.long x2), .second, .val (.int x3), .val (.int x4), .val (.int x5), .val (.int (((x5 &&& (3 : Int32)) % (3 : Int32)) + (1 : Int32))), .val (.int (1 : Int32)), .val (.int (0 : Int32)), .unset, .unset, .unset, .unset, .unset, .unset, .unset, .unset] [(.int (x5 &&& (16 : Int32)))])) _
      by_cases hc1107 : (x5 &&& (16 : Int32)) = (0 : Int32)
      · refine gx (XS.ifYes X0.here hx rfl (pc0 := 44) (pc' := 51) rfl (hb hby at_44) rfl ((if0 _ _).trans (teq hc1107).1) (by decide) (by decide)) ?_
        refine gx (XS.iconst X0.here hx rfl (hb hby at_51)) ?_
        exact own_pt_own_rm0_4 l Z a0 hw ws x0 x1 x2 x3 x4 x5 aN aD kD aI mr h0 n0 Z0 hPm Bd hml0 hh  (1 : Int32) (0 : Int32) (0 : Int32) (((x5 &&& (3 : Int32)) % (3 : Int32)) + (1 : Int32)) s₁ _ s.vm hZ hown  X0 e0 N0 Z0  _ hS0 (Nat.le_refl _) R0 O0 (Or.inr rfl) (Or.inl rfl) (Or.inl rfl)
      · refine gx (XS.ifNo X0.here hx rfl (hb hby at_44) rfl ((if0 _ _).trans (feq hc1107).1)) ?_
        refine gx (XS.iconst X0.here hx rfl (hb hby at_47)) ?_
        refine gx (XS.goto X0.here hx rfl (pc0 := 48) (pc' := 52) rfl (hb hby at_48) (by decide) (by decide)) ?_
        exact own_pt_own_rm0_4 l Z a0 hw ws x0 x1 x2 x3 x4 x5 aN aD kD aI mr h0 n0 Z0 hPm Bd hml0 hh  (1 : Int32) (0 : Int32) (1 : Int32) (((x5 &&& (3 : Int32)) % (3 : Int32)) + (1 : Int32)) s₁ _ s.vm hZ hown  X0 e0 N0 Z0  _ hS0 (Nat.le_refl _) R0 O0 (Or.inr rfl) (Or.inl rfl) (Or.inr rfl)
    · refine gx (XS.ifNo X0.here hx rfl (hb hby at_29) rfl ((if0 _ _).trans (feq hc1106).1)) ?_
      show Goes p.tables e below (s₁.setTop (mkF m 32 #[.val (.int x0), .val (.long x1), .second, .val (.long x2), .second, .val (.int x3), .val (.int x4), .val (.int x5), .val (.int (((x5 &&& (3 : Int32)) % (3 : Int32)) + (1 : Int32))), .val (.int (1 : Int32)), .unset, .unset, .unset, .unset, .unset, .unset, .unset, .unset, .unset] [])) _
      refine gx (XS.iconst X0.here hx rfl (hb hby at_32)) ?_
      refine gx (XS.goto X0.here hx rfl (pc0 := 33) (pc' := 37) rfl (hb hby at_33) (by decide) (by decide)) ?_
      refine gx (XS.istore X0.here hx rfl (hb hby at_37) rfl (l' := #[.val (.int x0), .val (.long x1), .second, .val (.long x2), .second, .val (.int x3), .val (.int x4), .val (.int x5), .val (.int (((x5 &&& (3 : Int32)) % (3 : Int32)) + (1 : Int32))), .val (.int (1 : Int32)), .val (.int (1 : Int32)), .unset, .unset, .unset, .unset, .unset, .unset, .unset, .unset]) rfl) ?_
      refine gx (XS.iload X0.here hx rfl (hb hby at_39) rfl) ?_
      refine gx (XS.bipush X0.here hx rfl (hb hby at_41)) ?_
      show Goes p.tables e below (s₁.setTop (mkF m 43 #[.val (.int x0), .val (.long x1), .second, .val (.long x2), .second, .val (.int x3), .val (.int x4), .val (.int x5), .val (.int (((x5 &&& (3 : Int32)) % (3 : Int32)) + (1 : Int32))), .val (.int (1 : Int32)), .val (.int (1 : Int32)), .unset, .unset, .unset, .unset, .unset, .unset, .unset, .unset] [(.int (16 : Int32)), (.int x5)])) _
      refine gx (XS.iand X0.here hx rfl (hb hby at_43) rfl) ?_
      by_cases hc1110 : (x5 &&& (16 : Int32)) = (0 : Int32)
      · refine gx (XS.ifYes X0.here hx rfl (pc0 := 44) (pc' := 51) rfl (hb hby at_44) rfl ((if0 _ _).trans (teq hc1110).1) (by decide) (by decide)) ?_
        refine gx (XS.iconst X0.here hx rfl (hb hby at_51)) ?_
        exact own_pt_own_rm0_4 l Z a0 hw ws x0 x1 x2 x3 x4 x5 aN aD kD aI mr h0 n0 Z0 hPm Bd hml0 hh  (1 : Int32) (1 : Int32) (0 : Int32) (((x5 &&& (3 : Int32)) % (3 : Int32)) + (1 : Int32)) s₁ _ s.vm hZ hown  X0 e0 N0 Z0  _ hS0 (Nat.le_refl _) R0 O0 (Or.inr rfl) (Or.inr rfl) (Or.inl rfl)
      · refine gx (XS.ifNo X0.here hx rfl (hb hby at_44) rfl ((if0 _ _).trans (feq hc1110).1)) ?_
        refine gx (XS.iconst X0.here hx rfl (hb hby at_47)) ?_
        refine gx (XS.goto X0.here hx rfl (pc0 := 48) (pc' := 52) rfl (hb hby at_48) (by decide) (by decide)) ?_
        exact own_pt_own_rm0_4 l Z a0 hw ws x0 x1 x2 x3 x4 x5 aN aD kD aI mr h0 n0 Z0 hPm Bd hml0 hh  (1 : Int32) (1 : Int32) (1 : Int32) (((x5 &&& (3 : Int32)) % (3 : Int32)) + (1 : Int32)) s₁ _ s.vm hZ hown  X0 e0 N0 Z0  _ hS0 (Nat.le_refl _) R0 O0 (Or.inr rfl) (Or.inr rfl) (Or.inr rfl)


theorem own_len {args : Array Value} {s : State} {t : Term} {a : Addr} {c : Cell} {k : Int32} (ev : t.eval args s none [] s = some (.ref a)) (ha : s.arrayAt? a = some c) (h : (Jvm.Term.length t).eval args s none [] s = some (.int k)) : c.slots.size < 2 ^ 31 ∧ c.slots.size.toInt32 = k := by
  have q : c.slots.size < 2 ^ 31 := by
    by_cases q : c.slots.size < 2 ^ 31
    · exact q
    · simp [Jvm.Term.eval, ev, ha, q] at h
  exact ⟨q, Value.int.inj (Option.some.inj ((len_f ev ha q).symm.trans h))⟩

set_option maxRecDepth 65536 in
set_option maxHeartbeats 40000000 in
theorem comes_1 {Post : Tables → Env → Array Value → State → Outcome → State → Prop} (hpost : ∀ tb e args s v u, (limb_1_1.after args s (.returned v) u = true ∧ limb_1_2.after args s (.returned v) u = true ∧ True) → ReturnedEndW s (.returned v) u (Jvm.fieldLocs frame_1_writes args s ++ Jvm.arrayLocs frame_1_arrays args s ++ Jvm.staticLocs frame_1_statics s) 32 1152 → Post tb e args s (.returned v) u) :
    ArmFor flags0 classFile x code maxLocals ret World_1 tables_1 room_1 Calls_1 rest_1 Pre_1 Post := by
  intro l hfl _ _ p e ha hc hk s m args below hf hA hF happ hP
  obtain ⟨hcalls, hrest, hpre⟩ := hP
  obtain ⟨-, -, -, hnamed, -, -, -, hat⟩ := (Spec.applies_iff hf).mp happ
  obtain ⟨hg, hn⟩ := and_e (Cond.before_iff.mp (show (Jvm.Cond.and given_1 narrow_1).before args s = true from hpre))
  obtain ⟨hg0, hgr0⟩ := and_e hg
  obtain ⟨hg1, hgr1⟩ := and_e hgr0
  obtain ⟨hg2, hgr2⟩ := and_e hgr1
  obtain ⟨hg3, hgr3⟩ := and_e hgr2
  obtain ⟨hg4, hgr4⟩ := and_e hgr3
  obtain ⟨hg5, hgr5⟩ := and_e hgr4
  obtain ⟨w0, w1, w2, w3, w4, w5, rfl⟩ : ∃ w0 w1 w2 w3 w4 w5 : Value, args = #[w0, w1, w2, w3, w4, w5] := by
    have hs : args.size = 6 := by simpa [Cond.value, given_1] using hg0
    obtain ⟨L⟩ := args
    match L, hs with
    | [w0, w1, w2, w3, w4, w5], _ => exact ⟨w0, w1, w2, w3, w4, w5, rfl⟩
  have hw := fun d (hd : d ∈ tables_1) => atoms_spec (ws := Jvm.Cond.code x code maxLocals ret :: tables_1) hat d (List.mem_cons_of_mem _ hd)
  have hfit : Fit s := fun {y c} hc i hi => by
    obtain ⟨ha, rfl⟩ := Array.getElem?_eq_some_iff.mp hc
    have q := List.all_eq_true.mp ((Array.all_eq_true_iff_forall_mem.mp hF) _ (Array.getElem_mem ha)) i (List.mem_range.mpr hi)
    simpa [Array.getElem?_eq_getElem hi] using q
  obtain ⟨hsets, hown0⟩ := atoms_of _ (rest_1_c_eq ▸ (show rest_1_c.before _ s = true from hrest))
  have hr0 := Cond.before_iff.mp hown0
  obtain ⟨i0, ei0⟩ := is_v hg1
  obtain rfl : w0 = (.int i0) := Option.some.inj ei0
  obtain ⟨i1, ei1⟩ := isL_v hg2
  obtain rfl : w1 = (.long i1) := Option.some.inj ei1
  obtain ⟨i2, ei2⟩ := isL_v hg3
  obtain rfl : w2 = (.long i2) := Option.some.inj ei2
  obtain ⟨i3, ei3⟩ := is_v hg4
  obtain rfl : w3 = (.int i3) := Option.some.inj ei3
  obtain ⟨i4, ei4⟩ := is_v hg5
  obtain rfl : w4 = (.int i4) := Option.some.inj ei4
  obtain ⟨i5, ei5⟩ := is_v hgr5
  obtain rfl : w5 = (.int i5) := Option.some.inj ei5
  obtain ⟨aN, evN⟩ := exa_v hn
  have SN : Sta s s.heap "com/example/wee_table/weetable/model/GcRule" "NONE" "Lcom/example/wee_table/weetable/model/GcRule;" (.ref aN) := Sta.start evN (Or.inr ⟨(own_hw hw 94 rfl), (own_hw hw 264 rfl)⟩)
  have EN : Exa s s.heap aN "com/example/wee_table/weetable/model/GcRule$None" := Exa.start evN hn
  have haD0 := Cond.before_iff.mp (hsets _ (List.mem_of_getElem? (i := 6) rfl))
  obtain ⟨aD, evD⟩ := arr_v haD0
  obtain ⟨clD, AD⟩ := Arr.start evD haD0
  have haD := AD.fin (Vm.Alike.refl _)
  have SD : Sta s s.heap "java/util/ArrayList" "DEFAULTCAPACITY_EMPTY_ELEMENTDATA" "[Ljava/lang/Object;" (.ref aD) := Sta.start evD (Or.inr ⟨(own_hw hw 7 rfl), (hsets _ (List.mem_of_getElem? (i := 2) rfl))⟩)
  have XD : Exa s s.heap aD "[Ljava/lang/Object;" := Exa.start evD (Cond.before_iff.mp (hsets _ (List.mem_of_getElem? (i := 7) rfl)))
  obtain ⟨lD1, lD2⟩ := own_len evD haD (own_eqv (Cond.before_iff.mp (hsets _ (List.mem_of_getElem? (i := 8) rfl))))
  have VD : Arv s s.heap aD clD.cls (.object "java/lang/Object") (0 : Int32) [] .null := Arv.start hfit AD lD1 lD2 (by decide) rfl trivial
  have hxI := Cond.before_iff.mp (hsets _ (List.mem_of_getElem? (i := 11) rfl))
  obtain ⟨aI, evI⟩ := exa_v hxI
  have SE : Sta s s.heap "java/util/ImmutableCollections" "EMPTY" "Ljava/lang/Object;" (.ref aI) := Sta.start evI (Or.inl (hsets _ (List.mem_of_getElem? (i := 10) rfl)))
  have EI : Exa s s.heap aI "java/lang/Object" := Exa.start evI hxI
  have hMM : MirrorMade s "[Ljava/lang/Object;" := hcalls.1
  obtain ⟨cM, kM, mr, hM1, hM2, hM3, -⟩ := hMM
  have Mr : (Term.mirror "[Ljava/lang/Object;").eval #[] s none [] s = some (.ref mr) := by simp [Term.eval, hM1, hM2, hM3]
  have hCH0 : CHv s own_EL s.vm s.heap := fun p hp => by simp [own_EL] at hp
  obtain ⟨n, o, h1, h2, h3, _, L, rfl, ⟨rfl, N⟩, hq⟩ := own_rm0 l s _ hw tables_1 i0 i1 i2 i3 i4 i5 aN aD clD.cls aI mr s.heap s.heap.size (Nat.le_refl _) (Old.start s) hCH0 SN SD SE EN XD VD EI Mr p e ha hc hk s m _ below hf ((Spec.applies_iff_loose hf).mp happ).1 ⟨rfl, rfl, rfl⟩ trivial
  refine ⟨n, _, h1, h2, h3, hpost _ _ _ _ _ _ ⟨Cond.after_iff.mpr rfl, Cond.after_iff.mpr (eq_i res_at (Term.int_eval (1)) rfl), trivial⟩ ⟨hq.1, hq.2.1, hq.2.2.1, (hq.2.2.2.sift fun y hy => Or.inr (N y hy)).mono (by decide) (by decide)⟩⟩
theorem main_1_1 : Claimed_1_1 := comes_1 fun _ _ _ _ _ _ h hF => ⟨h.1, hF⟩
theorem main_1_2 : Claimed_1_2 := comes_1 fun _ _ _ _ _ _ h hF => ⟨h.2.1, hF⟩
end Jvm.Pilot.@@N@@
namespace Jvm.Pilot.@@N@@
open Jvm Jvm.ClassFile Sem Op Lib Jvm.Free Jvm.Stand Jvm.Pilot.@@N@@.Jvm.D
/-! MADE BY PROGRAM (witnessworld.py) out of the Statement's table words and the real class files: 40 classes; the members and pool entries that the words name. The judged class is class 1, her method 3. -/
namespace start1
open Jvm.ClassFile
def u (s : String) : CpInfo := .utf8 (stringToUtf16 s)
/-- a pool by its gaps: so many unusable entries, then the entry; so many at the end -/
def gap : Nat → List CpInfo → List CpInfo
  | 0, r => r
  | n + 1, r => .unusable :: gap n r
def poolList (es : List (Nat × CpInfo)) (last : Nat) : List CpInfo := es.foldr (fun e r => gap e.1 (e.2 :: r)) (gap last [])
def pool (es : List (Nat × CpInfo)) (last : Nat) : Array CpInfo := ⟨poolList es last⟩
def fileOf (pool : Array CpInfo) (this : Nat) (attrs : Array Attribute := #[]) (ms : Array MethodInfo := #[]) (fl : Nat := 33) (sup : Nat := 0) (ifs : Array Nat := #[]) (fds : Array FieldInfo := #[]) : ClassFile where
  minorVersion := 0
  majorVersion := 65
  constantPool := pool
  accessFlags := fl
  thisClass := this
  superClass := sup
  interfaces := ifs
  fields := fds
  methods := ms
  attributes := attrs
def plain (name : String) (sup : Option ClassId) : Class where
  name := name
  kind := .ordinary
  loader := none
  accessFlags := 33
  super := sup
  interfaces := #[]
  cf := none
  fields := #[]
  methods := #[]
  instanceTypes := #[]
  staticTypes := #[]
  resolved := #[]
  callSites := []
  init := .initialized
  statics := none
  mirror := none

def pool0 : Array CpInfo := pool [(5, u "<init>"), (0, u "()V"), (1, .class_ 10), (1, u "java/lang/Object"), (0, u "getClass"), (0, u "()Ljava/lang/Class;")] 111

def k0c0 : Code := { maxStack := 0, maxLocals := 1, code := object_method_1_code, exceptionTable := #[], attributes := #[] }
def k0m0 : Method := { name := "<init>", desc := "()V", sig := { parameters := [], returnType := none }, accessFlags := 1, code := some k0c0 }
def k0m1 : Method := { name := "getClass", desc := "()Ljava/lang/Class;", sig := { parameters := [], returnType := some (.object "java/lang/Class") }, accessFlags := 273, code := none }
/-- java/lang/Object -/
def k0 : Class := { plain "java/lang/Object" none with
  accessFlags := 33
  interfaces := #[]
  cf := some (fileOf pool0 8 #[] #[{ accessFlags := 1, nameIndex := 5, descriptorIndex := 6, attributes := #[] }, { accessFlags := 273, nameIndex := 11, descriptorIndex := 12, attributes := #[] }] 33 0 #[] #[])
  fields := #[]
  methods := #[k0m0, k0m1]
  instanceTypes := #[]
  staticTypes := #[]
  resolved := Array.replicate 124 none
  statics := none }

def pool1 : Array CpInfo := pool [(2, .class_ 4), (0, .nameAndType 5 6), (0, u "java/lang/Object"), (0, u "<init>"), (0, u "()V"), (0, .fieldref 8 9), (0, .class_ 10), (0, .nameAndType 11 12), (0, u "com/example/wee_table/weetable/model/GcRule"), (0, u "NONE"), (0, u "Lcom/example/wee_table/weetable/model/GcRule;"), (0, .class_ 14), (0, u "com/example/wee_table/weetable/model/GcRule$MaxVersions"), (0, .methodref 13 16), (0, .nameAndType 5 17), (0, u "(I)V"), (0, .integer 2147483647), (0, .methodref 20 21), (0, .class_ 22), (0, .nameAndType 23 24), (0, u "java/lang/Math"), (0, u "max"), (0, u "(II)I"), (0, .class_ 26), (0, u "java/util/ArrayList"), (0, .methodref 25 3), (0, .methodref 29 30), (0, .class_ 31), (0, .nameAndType 32 33), (0, u "com/example/wee_table/weetable/model/IntersectionExpiresPinLaw"), (0, u "rule"), (0, u "(ZI)Lcom/example/wee_table/weetable/model/GcRule;"), (0, .methodref 25 35), (0, .nameAndType 36 37), (0, u "add"), (0, u "(Ljava/lang/Object;)Z"), (0, .class_ 39), (0, u "com/example/wee_table/weetable/model/GcRule$Intersection"), (0, .methodref 38 41), (0, .nameAndType 5 42), (0, u "(Ljava/util/List;)V"), (0, .methodref 38 44), (0, .nameAndType 45 46), (0, u "expires"), (0, u "(IJJ)Z"), (0, .methodref 29 48), (0, .nameAndType 49 50), (0, u "ref"), (0, u "(ZII)Z"), (3, u "law"), (0, u "(IJJIII)Z")] 5

def k1m0 : Method := { name := "<init>", desc := "()V", sig := { parameters := [], returnType := none }, accessFlags := 1, code := none }
def k1c1 : Code := { maxStack := 3, maxLocals := 2, code := method_2_code, exceptionTable := #[], attributes := #[] }
def k1m1 : Method := { name := "rule", desc := "(ZI)Lcom/example/wee_table/weetable/model/GcRule;", sig := { parameters := [.boolean, .int], returnType := some (.object "com/example/wee_table/weetable/model/GcRule") }, accessFlags := 10, code := some k1c1 }
def k1c2 : Code := { maxStack := 2, maxLocals := 3, code := method_3_code, exceptionTable := #[], attributes := #[] }
def k1m2 : Method := { name := "ref", desc := "(ZII)Z", sig := { parameters := [.boolean, .int, .int], returnType := some .boolean }, accessFlags := 10, code := some k1c2 }
def k1c3 : Code := { maxStack := 6, maxLocals := 19, code := code, exceptionTable := #[], attributes := #[] }
def k1m3 : Method := { name := "law", desc := "(IJJIII)Z", sig := { parameters := [.int, .long, .long, .int, .int, .int], returnType := some .boolean }, accessFlags := 9, code := some k1c3 }
/-- com/example/wee_table/weetable/model/IntersectionExpiresPinLaw -/
def k1 : Class := { plain "com/example/wee_table/weetable/model/IntersectionExpiresPinLaw" (some 0) with
  accessFlags := 49
  interfaces := #[]
  cf := some (fileOf pool1 29 #[] #[{ accessFlags := 1, nameIndex := 5, descriptorIndex := 6, attributes := #[] }, { accessFlags := 10, nameIndex := 32, descriptorIndex := 33, attributes := #[] }, { accessFlags := 10, nameIndex := 49, descriptorIndex := 50, attributes := #[] }, { accessFlags := 9, nameIndex := 54, descriptorIndex := 55, attributes := #[] }] 49 2 #[] #[])
  fields := #[]
  methods := #[k1m0, k1m1, k1m2, k1m3]
  instanceTypes := #[]
  staticTypes := #[]
  resolved := Array.replicate 61 none
  statics := none }

def pool2 : Array CpInfo := pool [(1, .class_ 2), (0, u "java/lang/Math"), (1, .class_ 6), (1, u "java/lang/Object"), (0, u "<init>"), (0, u "()V"), (89, .class_ 100), (1, u "java/lang/Math$RandomNumberGeneratorHolder"), (71, u "negativeZeroFloatBits"), (0, u "J"), (2, u "negativeZeroDoubleBits"), (21, u "max"), (2, u "min"), (43, u "$assertionsDisabled"), (0, u "Z"), (88, u "(II)I"), (2, u "twoToTheDoubleScaleDown"), (0, u "D"), (4, u "twoToTheDoubleScaleUp"), (9, u "E"), (3, u "PI"), (2, u "TAU"), (2, u "DEGREES_TO_RADIANS"), (0, u "RADIANS_TO_DEGREES")] 94

def k2m0 : Method := { name := "<init>", desc := "()V", sig := { parameters := [], returnType := none }, accessFlags := 2, code := none }
def k2c1 : Code := { maxStack := 2, maxLocals := 2, code := jdk_29_method_65_code, exceptionTable := #[], attributes := #[] }
def k2m1 : Method := { name := "max", desc := "(II)I", sig := { parameters := [.int, .int], returnType := some .int }, accessFlags := 9, code := some k2c1 }
def k2c2 : Code := { maxStack := 2, maxLocals := 2, code := jdk_29_method_69_code, exceptionTable := #[], attributes := #[] }
def k2m2 : Method := { name := "min", desc := "(II)I", sig := { parameters := [.int, .int], returnType := some .int }, accessFlags := 9, code := some k2c2 }
/-- java/lang/Math -/
def k2 : Class := { plain "java/lang/Math" (some 0) with
  accessFlags := 49
  interfaces := #[]
  cf := some (fileOf pool2 1 #[.nestMembers #[98]] #[{ accessFlags := 2, nameIndex := 7, descriptorIndex := 8, attributes := #[] }, { accessFlags := 9, nameIndex := 198, descriptorIndex := 335, attributes := #[] }, { accessFlags := 9, nameIndex := 201, descriptorIndex := 335, attributes := #[] }] 49 4 #[] #[{ accessFlags := 25, nameIndex := 354, descriptorIndex := 339, attributes := #[] }, { accessFlags := 25, nameIndex := 358, descriptorIndex := 339, attributes := #[] }, { accessFlags := 25, nameIndex := 361, descriptorIndex := 339, attributes := #[] }, { accessFlags := 26, nameIndex := 364, descriptorIndex := 339, attributes := #[] }, { accessFlags := 26, nameIndex := 365, descriptorIndex := 339, attributes := #[] }, { accessFlags := 26, nameIndex := 172, descriptorIndex := 173, attributes := #[] }, { accessFlags := 26, nameIndex := 176, descriptorIndex := 173, attributes := #[] }, { accessFlags := 8, nameIndex := 344, descriptorIndex := 339, attributes := #[] }, { accessFlags := 8, nameIndex := 338, descriptorIndex := 339, attributes := #[] }, { accessFlags := 4120, nameIndex := 245, descriptorIndex := 246, attributes := #[] }])
  fields := #[{ name := "E", type := .double, accessFlags := 25, slot := 0, constantValue := 0 }, { name := "PI", type := .double, accessFlags := 25, slot := 1, constantValue := 0 }, { name := "TAU", type := .double, accessFlags := 25, slot := 2, constantValue := 0 }, { name := "DEGREES_TO_RADIANS", type := .double, accessFlags := 26, slot := 3, constantValue := 0 }, { name := "RADIANS_TO_DEGREES", type := .double, accessFlags := 26, slot := 4, constantValue := 0 }, { name := "negativeZeroFloatBits", type := .long, accessFlags := 26, slot := 5, constantValue := 0 }, { name := "negativeZeroDoubleBits", type := .long, accessFlags := 26, slot := 6, constantValue := 0 }, { name := "twoToTheDoubleScaleUp", type := .double, accessFlags := 8, slot := 7, constantValue := 0 }, { name := "twoToTheDoubleScaleDown", type := .double, accessFlags := 8, slot := 8, constantValue := 0 }, { name := "$assertionsDisabled", type := .boolean, accessFlags := 4120, slot := 9, constantValue := 0 }]
  methods := #[k2m0, k2m1, k2m2]
  instanceTypes := #[]
  staticTypes := #[.double, .double, .double, .double, .double, .long, .long, .double, .double, .boolean]
  resolved := Array.replicate 460 none
  statics := none }

def pool3 : Array CpInfo := pool [(8, .class_ 10), (1, u "java/lang/Iterable"), (24, .class_ 36), (0, u "java/lang/Object")] 25

/-- java/lang/Iterable -/
def k3 : Class := { plain "java/lang/Iterable" (some 0) with
  accessFlags := 1537
  interfaces := #[]
  cf := some (fileOf pool3 8 #[] #[] 1537 35 #[] #[])
  fields := #[]
  methods := #[]
  instanceTypes := #[]
  staticTypes := #[]
  resolved := Array.replicate 62 none
  statics := none }

def pool4 : Array CpInfo := pool [(10, .class_ 12), (1, u "java/util/Collection"), (0, u "toArray"), (16, u "()Z"), (29, .class_ 61), (0, u "java/lang/Object"), (0, .class_ 63), (0, u "java/lang/Iterable"), (2, u "isEmpty"), (3, u "()[Ljava/lang/Object;")] 44

def k4m0 : Method := { name := "isEmpty", desc := "()Z", sig := { parameters := [], returnType := some .boolean }, accessFlags := 1025, code := none }
def k4m1 : Method := { name := "toArray", desc := "()[Ljava/lang/Object;", sig := { parameters := [], returnType := some (.array (.object "java/lang/Object")) }, accessFlags := 1025, code := none }
/-- java/util/Collection -/
def k4 : Class := { plain "java/util/Collection" (some 0) with
  accessFlags := 1537
  interfaces := #[3]
  cf := some (fileOf pool4 10 #[] #[{ accessFlags := 1025, nameIndex := 66, descriptorIndex := 30, attributes := #[] }, { accessFlags := 1025, nameIndex := 13, descriptorIndex := 70, attributes := #[] }] 1537 60 #[62] #[])
  fields := #[]
  methods := #[k4m0, k4m1]
  instanceTypes := #[]
  staticTypes := #[]
  resolved := Array.replicate 115 none
  statics := none }

def pool5 : Array CpInfo := pool [(1, .methodref 2 3), (0, .class_ 4), (0, .nameAndType 5 6), (0, u "java/lang/Object"), (0, u "<init>"), (0, u "()V"), (1, .class_ 10), (1, u "java/util/AbstractCollection"), (0, u "size"), (0, u "()I"), (64, .class_ 78), (0, u "java/util/Collection")] 81

def k5c0 : Code := { maxStack := 1, maxLocals := 1, code := jdk_22_method_1_code, exceptionTable := #[], attributes := #[] }
def k5m0 : Method := { name := "<init>", desc := "()V", sig := { parameters := [], returnType := none }, accessFlags := 4, code := some k5c0 }
def k5m1 : Method := { name := "size", desc := "()I", sig := { parameters := [], returnType := some .int }, accessFlags := 1025, code := none }
/-- java/util/AbstractCollection -/
def k5 : Class := { plain "java/util/AbstractCollection" (some 0) with
  accessFlags := 1057
  interfaces := #[4]
  cf := some (fileOf pool5 8 #[] #[{ accessFlags := 4, nameIndex := 5, descriptorIndex := 6, attributes := #[] }, { accessFlags := 1025, nameIndex := 11, descriptorIndex := 12, attributes := #[] }] 1057 2 #[77] #[])
  fields := #[]
  methods := #[k5m0, k5m1]
  instanceTypes := #[]
  staticTypes := #[]
  resolved := Array.replicate 160 none
  statics := none }

def pool6 : Array CpInfo := pool [(8, .class_ 10), (1, u "java/util/SequencedCollection"), (15, .class_ 27), (0, u "java/lang/Object"), (0, .class_ 29), (0, u "java/util/Collection")] 27

/-- java/util/SequencedCollection -/
def k6 : Class := { plain "java/util/SequencedCollection" (some 0) with
  accessFlags := 1537
  interfaces := #[4]
  cf := some (fileOf pool6 8 #[] #[] 1537 26 #[28] #[])
  fields := #[]
  methods := #[]
  instanceTypes := #[]
  staticTypes := #[]
  resolved := Array.replicate 57 none
  statics := none }

def pool7 : Array CpInfo := pool [(8, .class_ 10), (1, u "java/util/List"), (7, u "()Z"), (12, u "(Ljava/lang/Object;)V"), (16, u "<init>"), (18, u "isEmpty"), (7, u "get"), (0, u "(I)Ljava/lang/Object;"), (11, u "of"), (2, .class_ 93), (1, u "java/util/ImmutableCollections"), (2, .class_ 97), (0, u "java/util/ImmutableCollections$List12"), (0, .methodref 96 99), (0, .nameAndType 48 31), (0, .methodref 96 101), (0, .nameAndType 48 102), (0, u "(Ljava/lang/Object;Ljava/lang/Object;)V"), (0, .class_ 104), (0, u "java/lang/Object"), (3, u "([Ljava/lang/Object;)Ljava/util/List;"), (0, .methodref 91 110), (0, .nameAndType 111 108), (0, u "listFromArray"), (0, .methodref 91 113), (0, .nameAndType 114 115), (0, u "listCopy"), (0, u "(Ljava/util/Collection;)Ljava/util/List;"), (4, .class_ 121), (0, u "java/util/SequencedCollection"), (1, u "iterator"), (0, u "()Ljava/util/Iterator;"), (109, u "copyOf")] 16

def k7m0 : Method := { name := "isEmpty", desc := "()Z", sig := { parameters := [], returnType := some .boolean }, accessFlags := 1025, code := none }
def k7m1 : Method := { name := "iterator", desc := "()Ljava/util/Iterator;", sig := { parameters := [], returnType := some (.object "java/util/Iterator") }, accessFlags := 1025, code := none }
def k7m2 : Method := { name := "get", desc := "(I)Ljava/lang/Object;", sig := { parameters := [.int], returnType := some (.object "java/lang/Object") }, accessFlags := 1025, code := none }
def k7c3 : Code := { maxStack := 5, maxLocals := 2, code := jdk_40_method_47_code, exceptionTable := #[], attributes := #[] }
def k7m3 : Method := { name := "of", desc := "([Ljava/lang/Object;)Ljava/util/List;", sig := { parameters := [(.array (.object "java/lang/Object"))], returnType := some (.object "java/util/List") }, accessFlags := 137, code := some k7c3 }
def k7c4 : Code := { maxStack := 1, maxLocals := 1, code := jdk_40_method_48_code, exceptionTable := #[], attributes := #[] }
def k7m4 : Method := { name := "copyOf", desc := "(Ljava/util/Collection;)Ljava/util/List;", sig := { parameters := [(.object "java/util/Collection")], returnType := some (.object "java/util/List") }, accessFlags := 9, code := some k7c4 }
/-- java/util/List -/
def k7 : Class := { plain "java/util/List" (some 0) with
  accessFlags := 1537
  interfaces := #[6]
  cf := some (fileOf pool7 8 #[] #[{ accessFlags := 1025, nameIndex := 67, descriptorIndex := 18, attributes := #[] }, { accessFlags := 1025, nameIndex := 123, descriptorIndex := 124, attributes := #[] }, { accessFlags := 1025, nameIndex := 75, descriptorIndex := 76, attributes := #[] }, { accessFlags := 137, nameIndex := 88, descriptorIndex := 108, attributes := #[] }, { accessFlags := 9, nameIndex := 234, descriptorIndex := 115, attributes := #[] }] 1537 103 #[120] #[])
  fields := #[]
  methods := #[k7m0, k7m1, k7m2, k7m3, k7m4]
  instanceTypes := #[]
  staticTypes := #[]
  resolved := Array.replicate 251 none
  statics := none }

def pool8 : Array CpInfo := pool [(1, .methodref 2 3), (0, .class_ 4), (0, .nameAndType 5 6), (0, u "java/util/AbstractCollection"), (0, u "<init>"), (0, u "()V"), (0, .fieldref 8 9), (0, .class_ 10), (0, .nameAndType 11 12), (0, u "java/util/AbstractList"), (0, u "modCount"), (0, u "I"), (64, .class_ 78), (0, u "java/util/AbstractList$Itr"), (3, .class_ 83), (0, u "java/util/AbstractList$ListItr"), (9, .class_ 94), (0, u "java/util/AbstractList$RandomAccessSubList"), (3, .class_ 99), (0, u "java/util/AbstractList$SubList"), (33, .class_ 134), (0, u "java/util/List"), (73, .class_ 209), (0, u "java/util/AbstractList$SubList$1"), (0, .class_ 211), (0, u "java/util/AbstractList$RandomAccessSpliterator")] 6

def k8c0 : Code := { maxStack := 2, maxLocals := 1, code := jdk_39_method_1_code, exceptionTable := #[], attributes := #[] }
def k8m0 : Method := { name := "<init>", desc := "()V", sig := { parameters := [], returnType := none }, accessFlags := 4, code := some k8c0 }
/-- java/util/AbstractList -/
def k8 : Class := { plain "java/util/AbstractList" (some 5) with
  accessFlags := 1057
  interfaces := #[7]
  cf := some (fileOf pool8 8 #[.nestMembers #[93, 98, 208, 210, 82, 77]] #[{ accessFlags := 4, nameIndex := 5, descriptorIndex := 6, attributes := #[] }] 1057 2 #[133] #[{ accessFlags := 132, nameIndex := 11, descriptorIndex := 12, attributes := #[] }])
  fields := #[{ name := "modCount", type := .int, accessFlags := 132, slot := 0, constantValue := 0 }]
  methods := #[k8m0]
  instanceTypes := #[.int]
  staticTypes := #[]
  resolved := Array.replicate 218 none
  statics := none }

def pool9 : Array CpInfo := pool [(1, .class_ 2), (0, u "java/util/RandomAccess"), (0, .class_ 4), (0, u "java/lang/Object")] 2

/-- java/util/RandomAccess -/
def k9 : Class := { plain "java/util/RandomAccess" (some 0) with
  accessFlags := 1537
  interfaces := #[]
  cf := some (fileOf pool9 1 #[] #[] 1537 3 #[] #[])
  fields := #[]
  methods := #[]
  instanceTypes := #[]
  staticTypes := #[]
  resolved := Array.replicate 7 none
  statics := none }

def pool10 : Array CpInfo := pool [(1, .class_ 2), (0, u "java/lang/Cloneable"), (0, .class_ 4), (0, u "java/lang/Object")] 2

/-- java/lang/Cloneable -/
def k10 : Class := { plain "java/lang/Cloneable" (some 0) with
  accessFlags := 1537
  interfaces := #[]
  cf := some (fileOf pool10 1 #[] #[] 1537 3 #[] #[])
  fields := #[]
  methods := #[]
  instanceTypes := #[]
  staticTypes := #[]
  resolved := Array.replicate 7 none
  statics := none }

def pool11 : Array CpInfo := pool [(1, .class_ 2), (0, u "java/io/Serializable"), (0, .class_ 4), (0, u "java/lang/Object")] 2

/-- java/io/Serializable -/
def k11 : Class := { plain "java/io/Serializable" (some 0) with
  accessFlags := 1537
  interfaces := #[]
  cf := some (fileOf pool11 1 #[] #[] 1537 3 #[] #[])
  fields := #[]
  methods := #[]
  instanceTypes := #[]
  staticTypes := #[]
  resolved := Array.replicate 7 none
  statics := none }

def pool12 : Array CpInfo := pool [(1, .methodref 2 3), (0, .class_ 4), (0, .nameAndType 5 6), (0, u "java/util/AbstractList"), (0, u "<init>"), (0, u "()V"), (0, .class_ 8), (0, u "java/lang/Object"), (0, .fieldref 10 11), (0, .class_ 12), (0, .nameAndType 13 14), (0, u "java/util/ArrayList"), (0, u "elementData"), (0, u "[Ljava/lang/Object;"), (2, u "EMPTY_ELEMENTDATA"), (21, .fieldref 10 40), (0, .nameAndType 41 14), (0, u "DEFAULTCAPACITY_EMPTY_ELEMENTDATA"), (4, u "toArray"), (0, u "()[Ljava/lang/Object;"), (0, .fieldref 10 49), (0, .nameAndType 50 51), (0, u "size"), (0, u "I"), (6, .class_ 60), (1, u "java/util/Arrays"), (0, u "copyOf"), (1, .fieldref 10 64), (0, .nameAndType 65 51), (0, u "modCount"), (0, .methodref 58 67), (0, .nameAndType 61 68), (0, u "([Ljava/lang/Object;I)[Ljava/lang/Object;"), (0, .methodref 10 70), (0, .nameAndType 71 72), (0, u "grow"), (0, u "(I)[Ljava/lang/Object;"), (6, .methodref 80 81), (0, .class_ 82), (0, .nameAndType 83 84), (0, u "java/lang/Math"), (0, u "max"), (0, u "(II)I"), (11, u "(Ljava/lang/Object;)Z"), (32, .methodref 10 130), (0, .nameAndType 71 47), (0, .methodref 10 132), (0, .nameAndType 133 134), (0, u "add"), (0, u "(Ljava/lang/Object;[Ljava/lang/Object;I)V"), (13, .class_ 149), (0, u "java/util/List"), (23, u "()Z"), (88, .class_ 263), (0, u "java/util/ArrayList$ListItr"), (3, .class_ 268), (0, u "java/util/ArrayList$Itr"), (7, .class_ 277), (0, u "java/util/ArrayList$SubList"), (12, .class_ 291), (0, u "java/util/ArrayList$ArrayListSpliterator"), (37, .class_ 330), (0, u "java/util/RandomAccess"), (0, .class_ 332), (0, u "java/lang/Cloneable"), (0, .class_ 334), (0, u "java/io/Serializable"), (0, u "serialVersionUID"), (0, u "J"), (3, u "DEFAULT_CAPACITY"), (22, u "isEmpty"), (136, .class_ 501), (0, u "java/util/ArrayList$SubList$2"), (0, .class_ 503), (0, u "java/util/ArrayList$SubList$1")] 5

def k12c0 : Code := { maxStack := 2, maxLocals := 1, code := jdk_38_method_2_code, exceptionTable := #[], attributes := #[] }
def k12m0 : Method := { name := "<init>", desc := "()V", sig := { parameters := [], returnType := none }, accessFlags := 1, code := some k12c0 }
def k12c1 : Code := { maxStack := 4, maxLocals := 4, code := jdk_38_method_6_code, exceptionTable := #[], attributes := #[] }
def k12m1 : Method := { name := "grow", desc := "(I)[Ljava/lang/Object;", sig := { parameters := [.int], returnType := some (.array (.object "java/lang/Object")) }, accessFlags := 2, code := some k12c1 }
def k12c2 : Code := { maxStack := 3, maxLocals := 1, code := jdk_38_method_7_code, exceptionTable := #[], attributes := #[] }
def k12m2 : Method := { name := "grow", desc := "()[Ljava/lang/Object;", sig := { parameters := [], returnType := some (.array (.object "java/lang/Object")) }, accessFlags := 2, code := some k12c2 }
def k12c3 : Code := { maxStack := 1, maxLocals := 1, code := jdk_38_method_9_code, exceptionTable := #[], attributes := #[] }
def k12m3 : Method := { name := "isEmpty", desc := "()Z", sig := { parameters := [], returnType := some .boolean }, accessFlags := 1, code := some k12c3 }
def k12c4 : Code := { maxStack := 2, maxLocals := 1, code := jdk_38_method_16_code, exceptionTable := #[], attributes := #[] }
def k12m4 : Method := { name := "toArray", desc := "()[Ljava/lang/Object;", sig := { parameters := [], returnType := some (.array (.object "java/lang/Object")) }, accessFlags := 1, code := some k12c4 }
def k12c5 : Code := { maxStack := 3, maxLocals := 4, code := jdk_38_method_24_code, exceptionTable := #[], attributes := #[] }
def k12m5 : Method := { name := "add", desc := "(Ljava/lang/Object;[Ljava/lang/Object;I)V", sig := { parameters := [(.object "java/lang/Object"), (.array (.object "java/lang/Object")), .int], returnType := none }, accessFlags := 2, code := some k12c5 }
def k12c6 : Code := { maxStack := 4, maxLocals := 2, code := jdk_38_method_25_code, exceptionTable := #[], attributes := #[] }
def k12m6 : Method := { name := "add", desc := "(Ljava/lang/Object;)Z", sig := { parameters := [(.object "java/lang/Object")], returnType := some .boolean }, accessFlags := 1, code := some k12c6 }
/-- java/util/ArrayList -/
def k12 : Class := { plain "java/util/ArrayList" (some 8) with
  accessFlags := 33
  interfaces := #[7, 9, 10, 11]
  cf := some (fileOf pool12 10 #[.nestMembers #[290, 276, 500, 502, 262, 267]] #[{ accessFlags := 1, nameIndex := 5, descriptorIndex := 6, attributes := #[] }, { accessFlags := 2, nameIndex := 71, descriptorIndex := 72, attributes := #[] }, { accessFlags := 2, nameIndex := 71, descriptorIndex := 47, attributes := #[] }, { accessFlags := 1, nameIndex := 363, descriptorIndex := 173, attributes := #[] }, { accessFlags := 1, nameIndex := 46, descriptorIndex := 47, attributes := #[] }, { accessFlags := 2, nameIndex := 133, descriptorIndex := 134, attributes := #[] }, { accessFlags := 1, nameIndex := 133, descriptorIndex := 96, attributes := #[] }] 33 2 #[148, 329, 331, 333] #[{ accessFlags := 26, nameIndex := 335, descriptorIndex := 336, attributes := #[] }, { accessFlags := 26, nameIndex := 340, descriptorIndex := 51, attributes := #[] }, { accessFlags := 26, nameIndex := 17, descriptorIndex := 14, attributes := #[] }, { accessFlags := 26, nameIndex := 41, descriptorIndex := 14, attributes := #[] }, { accessFlags := 128, nameIndex := 13, descriptorIndex := 14, attributes := #[] }, { accessFlags := 2, nameIndex := 50, descriptorIndex := 51, attributes := #[] }])
  fields := #[{ name := "serialVersionUID", type := .long, accessFlags := 26, slot := 0, constantValue := 0 }, { name := "DEFAULT_CAPACITY", type := .int, accessFlags := 26, slot := 1, constantValue := 0 }, { name := "EMPTY_ELEMENTDATA", type := (.array (.object "java/lang/Object")), accessFlags := 26, slot := 2, constantValue := 0 }, { name := "DEFAULTCAPACITY_EMPTY_ELEMENTDATA", type := (.array (.object "java/lang/Object")), accessFlags := 26, slot := 3, constantValue := 0 }, { name := "elementData", type := (.array (.object "java/lang/Object")), accessFlags := 128, slot := 1, constantValue := 0 }, { name := "size", type := .int, accessFlags := 2, slot := 2, constantValue := 0 }]
  methods := #[k12m0, k12m1, k12m2, k12m3, k12m4, k12m5, k12m6]
  instanceTypes := #[.int, (.array (.object "java/lang/Object")), .int]
  staticTypes := #[.long, .int, (.array (.object "java/lang/Object")), (.array (.object "java/lang/Object"))]
  resolved := Array.replicate 509 none
  statics := some 0 }

def pool13 : Array CpInfo := pool [(1, .methodref 2 3), (0, .class_ 4), (0, .nameAndType 5 6), (0, u "java/lang/Object"), (0, u "<init>"), (0, u "()V"), (0, .class_ 8), (0, u "java/lang/Record")] 13

def k13c0 : Code := { maxStack := 1, maxLocals := 1, code := jdk_30_method_1_code, exceptionTable := #[], attributes := #[] }
def k13m0 : Method := { name := "<init>", desc := "()V", sig := { parameters := [], returnType := none }, accessFlags := 4, code := some k13c0 }
/-- java/lang/Record -/
def k13 : Class := { plain "java/lang/Record" (some 0) with
  accessFlags := 1057
  interfaces := #[]
  cf := some (fileOf pool13 7 #[] #[{ accessFlags := 4, nameIndex := 5, descriptorIndex := 6, attributes := #[] }] 1057 2 #[] #[])
  fields := #[]
  methods := #[k13m0]
  instanceTypes := #[]
  staticTypes := #[]
  resolved := Array.replicate 22 none
  statics := none }

def pool14 : Array CpInfo := pool [(1, .interfaceMethodref 2 3), (0, .class_ 4), (0, .nameAndType 5 6), (0, u "java/util/List"), (0, u "isEmpty"), (0, u "()Z"), (10, .interfaceMethodref 2 18), (0, .nameAndType 19 20), (0, u "copyOf"), (0, u "(Ljava/util/Collection;)Ljava/util/List;"), (0, .class_ 22), (0, u "com/example/wee_table/weetable/model/GcRule$None"), (4, .class_ 29), (1, u "com/example/wee_table/weetable/model/GcRule"), (0, u "NONE"), (0, u "Lcom/example/wee_table/weetable/model/GcRule;"), (0, .class_ 33), (0, u "java/lang/Object"), (0, u "expires"), (0, u "(IJJ)Z"), (0, u "nonEmptyCopy"), (0, u "(Ljava/util/List;Ljava/lang/String;)Ljava/util/List;"), (9, .class_ 48), (0, u "com/example/wee_table/weetable/model/GcRule$Union"), (0, .class_ 50), (0, u "com/example/wee_table/weetable/model/GcRule$Intersection"), (0, .class_ 52), (0, u "com/example/wee_table/weetable/model/GcRule$MaxAge"), (0, .class_ 54), (0, u "com/example/wee_table/weetable/model/GcRule$MaxVersions")] 21

def k14m0 : Method := { name := "expires", desc := "(IJJ)Z", sig := { parameters := [.int, .long, .long], returnType := some .boolean }, accessFlags := 1025, code := none }
def k14c1 : Code := { maxStack := 3, maxLocals := 2, code := prog_12_method_2_code, exceptionTable := #[], attributes := #[] }
def k14m1 : Method := { name := "nonEmptyCopy", desc := "(Ljava/util/List;Ljava/lang/String;)Ljava/util/List;", sig := { parameters := [(.object "java/util/List"), (.object "java/lang/String")], returnType := some (.object "java/util/List") }, accessFlags := 10, code := some k14c1 }
/-- com/example/wee_table/weetable/model/GcRule -/
def k14 : Class := { plain "com/example/wee_table/weetable/model/GcRule" (some 0) with
  accessFlags := 1537
  interfaces := #[]
  cf := some (fileOf pool14 27 #[.nestMembers #[47, 49, 51, 53, 21]] #[{ accessFlags := 1025, nameIndex := 34, descriptorIndex := 35, attributes := #[] }, { accessFlags := 10, nameIndex := 36, descriptorIndex := 37, attributes := #[] }] 1537 32 #[] #[{ accessFlags := 25, nameIndex := 30, descriptorIndex := 31, attributes := #[] }])
  fields := #[{ name := "NONE", type := (.object "com/example/wee_table/weetable/model/GcRule"), accessFlags := 25, slot := 0, constantValue := 0 }]
  methods := #[k14m0, k14m1]
  instanceTypes := #[]
  staticTypes := #[(.object "com/example/wee_table/weetable/model/GcRule")]
  resolved := Array.replicate 76 none
  statics := some 1 }

def pool15 : Array CpInfo := pool [(1, .methodref 2 3), (0, .class_ 4), (0, .nameAndType 5 6), (0, u "java/lang/Record"), (0, u "<init>"), (0, u "()V"), (7, .fieldref 15 16), (0, .class_ 17), (0, .nameAndType 18 19), (0, u "com/example/wee_table/weetable/model/GcRule$MaxVersions"), (0, u "count"), (0, u "I"), (12, .class_ 33), (0, u "com/example/wee_table/weetable/model/GcRule"), (0, u "(I)V"), (4, u "expires"), (0, u "(IJJ)Z")] 24

def k15c0 : Code := { maxStack := 3, maxLocals := 2, code := prog_15_method_1_code, exceptionTable := #[], attributes := #[] }
def k15m0 : Method := { name := "<init>", desc := "(I)V", sig := { parameters := [.int], returnType := none }, accessFlags := 1, code := some k15c0 }
def k15c1 : Code := { maxStack := 2, maxLocals := 6, code := prog_15_method_2_code, exceptionTable := #[], attributes := #[] }
def k15m1 : Method := { name := "expires", desc := "(IJJ)Z", sig := { parameters := [.int, .long, .long], returnType := some .boolean }, accessFlags := 1, code := some k15c1 }
/-- com/example/wee_table/weetable/model/GcRule$MaxVersions -/
def k15 : Class := { plain "com/example/wee_table/weetable/model/GcRule$MaxVersions" (some 13) with
  accessFlags := 49
  interfaces := #[14]
  cf := some (fileOf pool15 15 #[.nestHost 32] #[{ accessFlags := 1, nameIndex := 5, descriptorIndex := 34, attributes := #[] }, { accessFlags := 1, nameIndex := 39, descriptorIndex := 40, attributes := #[] }] 49 2 #[32] #[{ accessFlags := 18, nameIndex := 18, descriptorIndex := 19, attributes := #[] }])
  fields := #[{ name := "count", type := .int, accessFlags := 18, slot := 0, constantValue := 0 }]
  methods := #[k15m0, k15m1]
  instanceTypes := #[.int]
  staticTypes := #[]
  resolved := Array.replicate 65 none
  statics := none }

def pool16 : Array CpInfo := pool [(1, .methodref 2 3), (0, .class_ 4), (0, .nameAndType 5 6), (0, u "java/lang/Record"), (0, u "<init>"), (0, u "()V"), (0, .string 8), (0, u "an intersection"), (0, .interfaceMethodref 10 11), (0, .class_ 12), (0, .nameAndType 13 14), (0, u "com/example/wee_table/weetable/model/GcRule"), (0, u "nonEmptyCopy"), (0, u "(Ljava/util/List;Ljava/lang/String;)Ljava/util/List;"), (0, .fieldref 16 17), (0, .class_ 18), (0, .nameAndType 19 20), (0, u "com/example/wee_table/weetable/model/GcRule$Intersection"), (0, u "rules"), (0, u "Ljava/util/List;"), (0, .interfaceMethodref 22 23), (0, .class_ 24), (0, .nameAndType 25 26), (0, u "java/util/List"), (0, u "iterator"), (0, u "()Ljava/util/Iterator;"), (0, .interfaceMethodref 28 29), (0, .class_ 30), (0, .nameAndType 31 32), (0, u "java/util/Iterator"), (0, u "hasNext"), (0, u "()Z"), (0, .interfaceMethodref 28 34), (0, .nameAndType 35 36), (0, u "next"), (0, u "()Ljava/lang/Object;"), (0, .interfaceMethodref 10 38), (0, .nameAndType 39 40), (0, u "expires"), (0, u "(IJJ)Z"), (14, u "(Ljava/util/List;)V")] 31

def k16c0 : Code := { maxStack := 2, maxLocals := 2, code := prog_13_method_1_code, exceptionTable := #[], attributes := #[] }
def k16m0 : Method := { name := "<init>", desc := "(Ljava/util/List;)V", sig := { parameters := [(.object "java/util/List")], returnType := none }, accessFlags := 1, code := some k16c0 }
def k16c1 : Code := { maxStack := 6, maxLocals := 8, code := prog_13_method_2_code, exceptionTable := #[], attributes := #[] }
def k16m1 : Method := { name := "expires", desc := "(IJJ)Z", sig := { parameters := [.int, .long, .long], returnType := some .boolean }, accessFlags := 1, code := some k16c1 }
/-- com/example/wee_table/weetable/model/GcRule$Intersection -/
def k16 : Class := { plain "com/example/wee_table/weetable/model/GcRule$Intersection" (some 13) with
  accessFlags := 49
  interfaces := #[14]
  cf := some (fileOf pool16 16 #[.nestHost 10] #[{ accessFlags := 1, nameIndex := 5, descriptorIndex := 55, attributes := #[] }, { accessFlags := 1, nameIndex := 39, descriptorIndex := 40, attributes := #[] }] 49 2 #[10] #[{ accessFlags := 18, nameIndex := 19, descriptorIndex := 20, attributes := #[] }])
  fields := #[{ name := "rules", type := (.object "java/util/List"), accessFlags := 18, slot := 0, constantValue := 0 }]
  methods := #[k16m0, k16m1]
  instanceTypes := #[(.object "java/util/List")]
  staticTypes := #[]
  resolved := Array.replicate 87 none
  statics := none }

def pool17 : Array CpInfo := pool [(1, .class_ 2), (0, u "java/lang/Comparable"), (0, .class_ 4), (0, u "java/lang/Object")] 7

/-- java/lang/Comparable -/
def k17 : Class := { plain "java/lang/Comparable" (some 0) with
  accessFlags := 1537
  interfaces := #[]
  cf := some (fileOf pool17 1 #[] #[] 1537 3 #[] #[])
  fields := #[]
  methods := #[]
  instanceTypes := #[]
  staticTypes := #[]
  resolved := Array.replicate 12 none
  statics := none }

def pool18 : Array CpInfo := pool [(2, .class_ 4), (1, u "java/lang/CharSequence"), (42, .class_ 48), (0, u "java/lang/CharSequence$1CodePointIterator"), (10, .class_ 60), (0, u "java/lang/CharSequence$1CharIterator"), (5, .class_ 67), (0, u "java/lang/Object")] 63

/-- java/lang/CharSequence -/
def k18 : Class := { plain "java/lang/CharSequence" (some 0) with
  accessFlags := 1537
  interfaces := #[]
  cf := some (fileOf pool18 2 #[.nestMembers #[47, 59]] #[] 1537 66 #[] #[])
  fields := #[]
  methods := #[]
  instanceTypes := #[]
  staticTypes := #[]
  resolved := Array.replicate 131 none
  statics := none }

def pool19 : Array CpInfo := pool [(1, .class_ 2), (0, u "java/lang/constant/Constable"), (0, .class_ 4), (0, u "java/lang/Object")] 6

/-- java/lang/constant/Constable -/
def k19 : Class := { plain "java/lang/constant/Constable" (some 0) with
  accessFlags := 1537
  interfaces := #[]
  cf := some (fileOf pool19 1 #[] #[] 1537 3 #[] #[])
  fields := #[]
  methods := #[]
  instanceTypes := #[]
  staticTypes := #[]
  resolved := Array.replicate 11 none
  statics := none }

def pool20 : Array CpInfo := pool [(1, .class_ 2), (0, u "java/lang/constant/ConstantDesc"), (0, .class_ 4), (0, u "java/lang/Object")] 32

/-- java/lang/constant/ConstantDesc -/
def k20 : Class := { plain "java/lang/constant/ConstantDesc" (some 0) with
  accessFlags := 1537
  interfaces := #[]
  cf := some (fileOf pool20 1 #[] #[] 1537 3 #[] #[])
  fields := #[]
  methods := #[]
  instanceTypes := #[]
  staticTypes := #[]
  resolved := Array.replicate 37 none
  statics := none }

def pool21 : Array CpInfo := pool [(2, .class_ 4), (1, u "java/lang/Object"), (0, u "<init>"), (0, u "()V"), (3, .class_ 12), (1, u "java/lang/String"), (0, u "value"), (0, u "[B"), (2, u "coder"), (0, u "B"), (2, u "hash"), (0, u "I"), (2, u "hashIsZero"), (0, u "Z"), (13, u "COMPACT_STRINGS"), (534, .class_ 576), (0, u "java/lang/CharSequence"), (22, u "CASE_INSENSITIVE_ORDER"), (0, u "Ljava/util/Comparator;"), (500, u "serialPersistentFields"), (0, u "[Ljava/io/ObjectStreamField;"), (0, .class_ 1104), (0, u "java/lang/String$CaseInsensitiveComparator"), (1, .class_ 1107), (0, u "java/io/Serializable"), (0, .class_ 1109), (0, u "java/lang/Comparable"), (0, .class_ 1111), (0, u "java/lang/constant/Constable"), (0, .class_ 1113), (0, u "java/lang/constant/ConstantDesc"), (2, u "serialVersionUID"), (0, u "J"), (3, u "REPL"), (0, u "C"), (2, u "LATIN1"), (1, u "UTF16")] 323

def k21m0 : Method := { name := "<init>", desc := "()V", sig := { parameters := [], returnType := none }, accessFlags := 1, code := none }
/-- java/lang/String -/
def k21 : Class := { plain "java/lang/String" (some 0) with
  accessFlags := 49
  interfaces := #[11, 17, 18, 19, 20]
  cf := some (fileOf pool21 10 #[.nestMembers #[1103]] #[{ accessFlags := 1, nameIndex := 5, descriptorIndex := 6, attributes := #[] }] 49 2 #[1106, 1108, 575, 1110, 1112] #[{ accessFlags := 18, nameIndex := 13, descriptorIndex := 14, attributes := #[] }, { accessFlags := 18, nameIndex := 17, descriptorIndex := 18, attributes := #[] }, { accessFlags := 2, nameIndex := 21, descriptorIndex := 22, attributes := #[] }, { accessFlags := 2, nameIndex := 25, descriptorIndex := 26, attributes := #[] }, { accessFlags := 26, nameIndex := 1116, descriptorIndex := 1117, attributes := #[] }, { accessFlags := 24, nameIndex := 40, descriptorIndex := 26, attributes := #[] }, { accessFlags := 26, nameIndex := 1101, descriptorIndex := 1102, attributes := #[] }, { accessFlags := 26, nameIndex := 1121, descriptorIndex := 1122, attributes := #[] }, { accessFlags := 25, nameIndex := 599, descriptorIndex := 600, attributes := #[] }, { accessFlags := 24, nameIndex := 1125, descriptorIndex := 18, attributes := #[] }, { accessFlags := 24, nameIndex := 1127, descriptorIndex := 18, attributes := #[] }])
  fields := #[{ name := "value", type := (.array .byte), accessFlags := 18, slot := 0, constantValue := 0 }, { name := "coder", type := .byte, accessFlags := 18, slot := 1, constantValue := 0 }, { name := "hash", type := .int, accessFlags := 2, slot := 2, constantValue := 0 }, { name := "hashIsZero", type := .boolean, accessFlags := 2, slot := 3, constantValue := 0 }, { name := "serialVersionUID", type := .long, accessFlags := 26, slot := 0, constantValue := 0 }, { name := "COMPACT_STRINGS", type := .boolean, accessFlags := 24, slot := 1, constantValue := 0 }, { name := "serialPersistentFields", type := (.array (.object "java/io/ObjectStreamField")), accessFlags := 26, slot := 2, constantValue := 0 }, { name := "REPL", type := .char, accessFlags := 26, slot := 3, constantValue := 0 }, { name := "CASE_INSENSITIVE_ORDER", type := (.object "java/util/Comparator"), accessFlags := 25, slot := 4, constantValue := 0 }, { name := "LATIN1", type := .byte, accessFlags := 24, slot := 5, constantValue := 0 }, { name := "UTF16", type := .byte, accessFlags := 24, slot := 6, constantValue := 0 }]
  methods := #[k21m0]
  instanceTypes := #[(.array .byte), .byte, .int, .boolean]
  staticTypes := #[.long, .boolean, (.array (.object "java/io/ObjectStreamField")), .char, (.object "java/util/Comparator"), .byte, .byte]
  resolved := Array.replicate 1451 none
  statics := none }

def pool22 : Array CpInfo := pool [(2, .class_ 4), (1, u "java/lang/Object"), (0, u "<init>"), (0, u "()V"), (3, .class_ 11), (0, u "java/util/ImmutableCollections$List12"), (0, .class_ 13), (0, u "java/util/ImmutableCollections$ListN"), (3, u "Z"), (0, .class_ 19), (0, u "java/util/List"), (0, .interfaceMethodref 21 22), (0, .class_ 23), (0, .nameAndType 24 25), (0, u "java/util/Collection"), (0, u "isEmpty"), (0, u "()Z"), (2, u "of"), (1, .interfaceMethodref 21 31), (0, .nameAndType 32 33), (0, u "toArray"), (0, u "()[Ljava/lang/Object;"), (0, .interfaceMethodref 18 35), (0, .nameAndType 28 36), (0, u "([Ljava/lang/Object;)Ljava/util/List;"), (0, .methodref 38 39), (0, .class_ 40), (0, .nameAndType 41 42), (0, u "java/util/Objects"), (0, u "requireNonNull"), (0, u "(Ljava/lang/Object;)Ljava/lang/Object;"), (0, .methodref 12 44), (0, .nameAndType 5 45), (0, u "([Ljava/lang/Object;Z)V"), (1, .class_ 49), (1, u "java/util/ImmutableCollections"), (0, u "$assertionsDisabled"), (5, u "[Ljava/lang/Object;"), (5, u "EMPTY_LIST"), (0, u "Ljava/util/ImmutableCollections$ListN;"), (8, u "EMPTY_LIST_NULLS"), (22, u "SALT32L"), (0, u "J"), (2, u "REVERSE"), (6, u "archivedObjects"), (2, u "EMPTY"), (0, u "Ljava/lang/Object;"), (0, .class_ 112), (0, u "java/util/ImmutableCollections$SetN"), (5, u "EMPTY_SET"), (0, u "Ljava/util/ImmutableCollections$SetN;"), (0, .class_ 121), (0, u "java/util/ImmutableCollections$MapN"), (3, u "EMPTY_MAP"), (0, u "Ljava/util/ImmutableCollections$MapN;"), (4, u "EXPAND_FACTOR"), (0, u "I"), (9, u "listCopy"), (0, u "(Ljava/util/Collection;)Ljava/util/List;"), (7, u "listFromArray"), (17, .class_ 170), (0, u "java/util/ImmutableCollections$MapN$MapNIterator"), (0, .class_ 172), (0, u "java/util/ImmutableCollections$MapN$1"), (0, .class_ 174), (0, u "java/util/ImmutableCollections$Map1"), (0, .class_ 176), (0, u "java/util/ImmutableCollections$AbstractImmutableMap"), (0, .class_ 178), (0, u "java/util/ImmutableCollections$SetN$SetNIterator"), (0, .class_ 180), (0, u "java/util/ImmutableCollections$Set12"), (0, .class_ 182), (0, u "java/util/ImmutableCollections$Set12$1"), (0, .class_ 184), (0, u "java/util/ImmutableCollections$AbstractImmutableSet"), (0, .class_ 186), (0, u "java/util/ImmutableCollections$SubList"), (0, .class_ 188), (0, u "java/util/ImmutableCollections$ListItr"), (0, .class_ 190), (0, u "java/util/ImmutableCollections$AbstractImmutableList"), (0, .class_ 192), (0, u "java/util/ImmutableCollections$AbstractImmutableCollection"), (0, .class_ 194), (0, u "java/util/ImmutableCollections$Access"), (0, .class_ 196), (0, u "java/util/ImmutableCollections$Access$1")] 16

def k22m0 : Method := { name := "<init>", desc := "()V", sig := { parameters := [], returnType := none }, accessFlags := 2, code := none }
def k22c1 : Code := { maxStack := 1, maxLocals := 2, code := jdk_56_method_3_code, exceptionTable := #[], attributes := #[] }
def k22m1 : Method := { name := "listCopy", desc := "(Ljava/util/Collection;)Ljava/util/List;", sig := { parameters := [(.object "java/util/Collection")], returnType := some (.object "java/util/List") }, accessFlags := 8, code := some k22c1 }
def k22c2 : Code := { maxStack := 4, maxLocals := 3, code := jdk_56_method_4_code, exceptionTable := #[], attributes := #[] }
def k22m2 : Method := { name := "listFromArray", desc := "([Ljava/lang/Object;)Ljava/util/List;", sig := { parameters := [(.array (.object "java/lang/Object"))], returnType := some (.object "java/util/List") }, accessFlags := 136, code := some k22c2 }
/-- java/util/ImmutableCollections -/
def k22 : Class := { plain "java/util/ImmutableCollections" (some 0) with
  accessFlags := 32
  interfaces := #[]
  cf := some (fileOf pool22 47 #[.nestMembers #[120, 169, 171, 173, 175, 111, 177, 179, 181, 183, 12, 10, 185, 187, 189, 191, 193, 195]] #[{ accessFlags := 2, nameIndex := 5, descriptorIndex := 6, attributes := #[] }, { accessFlags := 8, nameIndex := 142, descriptorIndex := 143, attributes := #[] }, { accessFlags := 136, nameIndex := 151, descriptorIndex := 36, attributes := #[] }] 32 2 #[] #[{ accessFlags := 26, nameIndex := 95, descriptorIndex := 96, attributes := #[] }, { accessFlags := 26, nameIndex := 99, descriptorIndex := 17, attributes := #[] }, { accessFlags := 10, nameIndex := 106, descriptorIndex := 56, attributes := #[] }, { accessFlags := 26, nameIndex := 109, descriptorIndex := 110, attributes := #[] }, { accessFlags := 24, nameIndex := 62, descriptorIndex := 63, attributes := #[] }, { accessFlags := 24, nameIndex := 72, descriptorIndex := 63, attributes := #[] }, { accessFlags := 24, nameIndex := 118, descriptorIndex := 119, attributes := #[] }, { accessFlags := 24, nameIndex := 125, descriptorIndex := 126, attributes := #[] }, { accessFlags := 24, nameIndex := 131, descriptorIndex := 132, attributes := #[] }, { accessFlags := 4120, nameIndex := 50, descriptorIndex := 17, attributes := #[] }])
  fields := #[{ name := "SALT32L", type := .long, accessFlags := 26, slot := 0, constantValue := 0 }, { name := "REVERSE", type := .boolean, accessFlags := 26, slot := 1, constantValue := 0 }, { name := "archivedObjects", type := (.array (.object "java/lang/Object")), accessFlags := 10, slot := 2, constantValue := 0 }, { name := "EMPTY", type := (.object "java/lang/Object"), accessFlags := 26, slot := 3, constantValue := 0 }, { name := "EMPTY_LIST", type := (.object "java/util/ImmutableCollections$ListN"), accessFlags := 24, slot := 4, constantValue := 0 }, { name := "EMPTY_LIST_NULLS", type := (.object "java/util/ImmutableCollections$ListN"), accessFlags := 24, slot := 5, constantValue := 0 }, { name := "EMPTY_SET", type := (.object "java/util/ImmutableCollections$SetN"), accessFlags := 24, slot := 6, constantValue := 0 }, { name := "EMPTY_MAP", type := (.object "java/util/ImmutableCollections$MapN"), accessFlags := 24, slot := 7, constantValue := 0 }, { name := "EXPAND_FACTOR", type := .int, accessFlags := 24, slot := 8, constantValue := 0 }, { name := "$assertionsDisabled", type := .boolean, accessFlags := 4120, slot := 9, constantValue := 0 }]
  methods := #[k22m0, k22m1, k22m2]
  instanceTypes := #[]
  staticTypes := #[.long, .boolean, (.array (.object "java/lang/Object")), (.object "java/lang/Object"), (.object "java/util/ImmutableCollections$ListN"), (.object "java/util/ImmutableCollections$ListN"), (.object "java/util/ImmutableCollections$SetN"), (.object "java/util/ImmutableCollections$MapN"), .int, .boolean]
  resolved := Array.replicate 213 none
  statics := some 2 }

def pool23 : Array CpInfo := pool [(1, .methodref 2 3), (0, .class_ 4), (0, .nameAndType 5 6), (0, u "java/util/AbstractCollection"), (0, u "<init>"), (0, u "()V"), (1, .class_ 10), (1, u "java/util/ImmutableCollections"), (2, .class_ 14), (0, u "java/util/ImmutableCollections$AbstractImmutableCollection")] 41

def k23c0 : Code := { maxStack := 1, maxLocals := 1, code := jdk_47_method_1_code, exceptionTable := #[], attributes := #[] }
def k23m0 : Method := { name := "<init>", desc := "()V", sig := { parameters := [], returnType := none }, accessFlags := 0, code := some k23c0 }
/-- java/util/ImmutableCollections$AbstractImmutableCollection -/
def k23 : Class := { plain "java/util/ImmutableCollections$AbstractImmutableCollection" (some 5) with
  accessFlags := 1056
  interfaces := #[]
  cf := some (fileOf pool23 13 #[.nestHost 8] #[{ accessFlags := 0, nameIndex := 5, descriptorIndex := 6, attributes := #[] }] 1056 2 #[] #[])
  fields := #[]
  methods := #[k23m0]
  instanceTypes := #[]
  staticTypes := #[]
  resolved := Array.replicate 56 none
  statics := none }

def pool24 : Array CpInfo := pool [(1, .methodref 2 3), (0, .class_ 4), (0, .nameAndType 5 6), (0, u "java/util/ImmutableCollections$AbstractImmutableCollection"), (0, u "<init>"), (0, u "()V"), (1, .class_ 10), (1, u "java/util/ImmutableCollections"), (2, .methodref 14 15), (0, .class_ 16), (0, .nameAndType 17 18), (0, u "java/util/ImmutableCollections$AbstractImmutableList"), (0, u "size"), (0, u "()I"), (42, .class_ 62), (0, u "java/util/ImmutableCollections$ListItr"), (0, .methodref 61 64), (0, .nameAndType 5 65), (0, u "(Ljava/util/List;I)V"), (11, .class_ 78), (0, u "java/util/List"), (2, u "iterator"), (0, u "()Ljava/util/Iterator;"), (41, .class_ 125), (0, u "java/util/RandomAccess")] 70

def k24c0 : Code := { maxStack := 1, maxLocals := 1, code := jdk_46_method_1_code, exceptionTable := #[], attributes := #[] }
def k24m0 : Method := { name := "<init>", desc := "()V", sig := { parameters := [], returnType := none }, accessFlags := 0, code := some k24c0 }
def k24c1 : Code := { maxStack := 4, maxLocals := 1, code := jdk_46_method_10_code, exceptionTable := #[], attributes := #[] }
def k24m1 : Method := { name := "iterator", desc := "()Ljava/util/Iterator;", sig := { parameters := [], returnType := some (.object "java/util/Iterator") }, accessFlags := 1, code := some k24c1 }
/-- java/util/ImmutableCollections$AbstractImmutableList -/
def k24 : Class := { plain "java/util/ImmutableCollections$AbstractImmutableList" (some 23) with
  accessFlags := 1056
  interfaces := #[7, 9]
  cf := some (fileOf pool24 14 #[.nestHost 8] #[{ accessFlags := 0, nameIndex := 5, descriptorIndex := 6, attributes := #[] }, { accessFlags := 1, nameIndex := 81, descriptorIndex := 82, attributes := #[] }] 1056 2 #[77, 124] #[])
  fields := #[]
  methods := #[k24m0, k24m1]
  instanceTypes := #[]
  staticTypes := #[]
  resolved := Array.replicate 196 none
  statics := none }

def pool25 : Array CpInfo := pool [(1, .methodref 2 3), (0, .class_ 4), (0, .nameAndType 5 6), (0, u "java/util/ImmutableCollections$AbstractImmutableList"), (0, u "<init>"), (0, u "()V"), (0, .methodref 8 9), (0, .class_ 10), (0, .nameAndType 11 12), (0, u "java/util/Objects"), (0, u "requireNonNull"), (0, u "(Ljava/lang/Object;)Ljava/lang/Object;"), (0, .fieldref 14 15), (0, .class_ 16), (0, .nameAndType 17 18), (0, u "java/util/ImmutableCollections$List12"), (0, u "e0"), (0, u "Ljava/lang/Object;"), (0, .fieldref 20 21), (0, .class_ 22), (0, .nameAndType 23 18), (0, u "java/util/ImmutableCollections"), (0, u "EMPTY"), (0, .fieldref 14 25), (0, .nameAndType 26 18), (0, u "e1"), (24, u "size"), (0, u "()I"), (17, .class_ 71), (0, u "java/io/Serializable"), (4, u "(Ljava/lang/Object;)V"), (8, u "(Ljava/lang/Object;Ljava/lang/Object;)V"), (4, u "get"), (0, u "(I)Ljava/lang/Object;")] 33

def k25c0 : Code := { maxStack := 2, maxLocals := 2, code := jdk_44_method_1_code, exceptionTable := #[], attributes := #[] }
def k25m0 : Method := { name := "<init>", desc := "(Ljava/lang/Object;)V", sig := { parameters := [(.object "java/lang/Object")], returnType := none }, accessFlags := 0, code := some k25c0 }
def k25c1 : Code := { maxStack := 2, maxLocals := 3, code := jdk_44_method_2_code, exceptionTable := #[], attributes := #[] }
def k25m1 : Method := { name := "<init>", desc := "(Ljava/lang/Object;Ljava/lang/Object;)V", sig := { parameters := [(.object "java/lang/Object"), (.object "java/lang/Object")], returnType := none }, accessFlags := 0, code := some k25c1 }
def k25c2 : Code := { maxStack := 2, maxLocals := 1, code := jdk_44_method_3_code, exceptionTable := #[], attributes := #[] }
def k25m2 : Method := { name := "size", desc := "()I", sig := { parameters := [], returnType := some .int }, accessFlags := 1, code := some k25c2 }
def k25c3 : Code := { maxStack := 2, maxLocals := 2, code := jdk_44_method_5_code, exceptionTable := #[], attributes := #[] }
def k25m3 : Method := { name := "get", desc := "(I)Ljava/lang/Object;", sig := { parameters := [.int], returnType := some (.object "java/lang/Object") }, accessFlags := 1, code := some k25c3 }
/-- java/util/ImmutableCollections$List12 -/
def k25 : Class := { plain "java/util/ImmutableCollections$List12" (some 24) with
  accessFlags := 48
  interfaces := #[11]
  cf := some (fileOf pool25 14 #[.nestHost 20] #[{ accessFlags := 0, nameIndex := 5, descriptorIndex := 76, attributes := #[] }, { accessFlags := 0, nameIndex := 5, descriptorIndex := 85, attributes := #[] }, { accessFlags := 1, nameIndex := 51, descriptorIndex := 52, attributes := #[] }, { accessFlags := 1, nameIndex := 90, descriptorIndex := 91, attributes := #[] }] 48 2 #[70] #[{ accessFlags := 18, nameIndex := 17, descriptorIndex := 18, attributes := #[] }, { accessFlags := 18, nameIndex := 26, descriptorIndex := 18, attributes := #[] }])
  fields := #[{ name := "e0", type := (.object "java/lang/Object"), accessFlags := 18, slot := 0, constantValue := 0 }, { name := "e1", type := (.object "java/lang/Object"), accessFlags := 18, slot := 1, constantValue := 0 }]
  methods := #[k25m0, k25m1, k25m2, k25m3]
  instanceTypes := #[(.object "java/lang/Object"), (.object "java/lang/Object")]
  staticTypes := #[]
  resolved := Array.replicate 125 none
  statics := none }

def pool26 : Array CpInfo := pool [(1, .methodref 2 3), (0, .class_ 4), (0, .nameAndType 5 6), (0, u "java/util/ImmutableCollections$AbstractImmutableList"), (0, u "<init>"), (0, u "()V"), (0, .fieldref 8 9), (0, .class_ 10), (0, .nameAndType 11 12), (0, u "java/util/ImmutableCollections$ListN"), (0, u "elements"), (0, u "[Ljava/lang/Object;"), (0, .fieldref 8 14), (0, .nameAndType 15 16), (0, u "allowNulls"), (0, u "Z"), (42, .class_ 60), (0, u "java/io/Serializable"), (4, u "([Ljava/lang/Object;Z)V"), (11, u "size"), (0, u "()I"), (0, u "get"), (0, u "(I)Ljava/lang/Object;"), (33, .class_ 115), (0, u "java/util/ImmutableCollections")] 3

def k26c0 : Code := { maxStack := 2, maxLocals := 3, code := jdk_45_method_1_code, exceptionTable := #[], attributes := #[] }
def k26m0 : Method := { name := "<init>", desc := "([Ljava/lang/Object;Z)V", sig := { parameters := [(.array (.object "java/lang/Object")), .boolean], returnType := none }, accessFlags := 2, code := some k26c0 }
def k26c1 : Code := { maxStack := 1, maxLocals := 1, code := jdk_45_method_3_code, exceptionTable := #[], attributes := #[] }
def k26m1 : Method := { name := "size", desc := "()I", sig := { parameters := [], returnType := some .int }, accessFlags := 1, code := some k26c1 }
def k26c2 : Code := { maxStack := 2, maxLocals := 2, code := jdk_45_method_4_code, exceptionTable := #[], attributes := #[] }
def k26m2 : Method := { name := "get", desc := "(I)Ljava/lang/Object;", sig := { parameters := [.int], returnType := some (.object "java/lang/Object") }, accessFlags := 1, code := some k26c2 }
/-- java/util/ImmutableCollections$ListN -/
def k26 : Class := { plain "java/util/ImmutableCollections$ListN" (some 24) with
  accessFlags := 48
  interfaces := #[11]
  cf := some (fileOf pool26 8 #[.nestHost 114] #[{ accessFlags := 2, nameIndex := 5, descriptorIndex := 65, attributes := #[] }, { accessFlags := 1, nameIndex := 77, descriptorIndex := 78, attributes := #[] }, { accessFlags := 1, nameIndex := 79, descriptorIndex := 80, attributes := #[] }] 48 2 #[59] #[{ accessFlags := 18, nameIndex := 11, descriptorIndex := 12, attributes := #[] }, { accessFlags := 18, nameIndex := 15, descriptorIndex := 16, attributes := #[] }])
  fields := #[{ name := "elements", type := (.array (.object "java/lang/Object")), accessFlags := 18, slot := 0, constantValue := 0 }, { name := "allowNulls", type := .boolean, accessFlags := 18, slot := 1, constantValue := 0 }]
  methods := #[k26m0, k26m1, k26m2]
  instanceTypes := #[(.array (.object "java/lang/Object")), .boolean]
  staticTypes := #[]
  resolved := Array.replicate 119 none
  statics := none }

def pool27 : Array CpInfo := pool [(2, .class_ 4), (1, u "java/lang/Object"), (0, u "<init>"), (0, u "()V"), (7, .class_ 16), (1, u "java/util/Arrays"), (57, .class_ 76), (1, u "java/util/Arrays$NaturalOrder"), (9, .methodref 2 87), (0, .nameAndType 88 89), (0, u "getClass"), (0, u "()Ljava/lang/Class;"), (20, .class_ 111), (0, u "[Ljava/lang/Object;"), (1, .class_ 115), (1, u "java/util/Arrays$LegacyMergeSort"), (1, u "Z"), (32, .methodref 151 152), (0, .class_ 153), (0, .nameAndType 154 155), (0, u "java/lang/System"), (0, u "arraycopy"), (0, u "(Ljava/lang/Object;ILjava/lang/Object;II)V"), (144, .methodref 14 301), (0, .nameAndType 302 303), (0, u "copyOf"), (0, u "([Ljava/lang/Object;ILjava/lang/Class;)[Ljava/lang/Object;"), (0, .methodref 305 306), (0, .class_ 307), (0, .nameAndType 308 309), (0, u "java/lang/Math"), (0, u "min"), (0, u "(II)I"), (65, .class_ 376), (0, u "java/util/Arrays$ArrayList"), (68, u "$assertionsDisabled"), (269, u "MIN_ARRAY_SORT_GRAN"), (0, u "I"), (2, u "INSERTIONSORT_THRESHOLD"), (140, u "([Ljava/lang/Object;I)[Ljava/lang/Object;"), (114, .class_ 976), (0, u "java/util/Arrays$ArrayItr")] 52

def k27m0 : Method := { name := "<init>", desc := "()V", sig := { parameters := [], returnType := none }, accessFlags := 2, code := none }
def k27c1 : Code := { maxStack := 3, maxLocals := 2, code := jdk_65_method_119_code, exceptionTable := #[], attributes := #[] }
def k27m1 : Method := { name := "copyOf", desc := "([Ljava/lang/Object;I)[Ljava/lang/Object;", sig := { parameters := [(.array (.object "java/lang/Object")), .int], returnType := some (.array (.object "java/lang/Object")) }, accessFlags := 9, code := some k27c1 }
def k27c2 : Code := { maxStack := 6, maxLocals := 4, code := jdk_65_method_120_code, exceptionTable := #[], attributes := #[] }
def k27m2 : Method := { name := "copyOf", desc := "([Ljava/lang/Object;ILjava/lang/Class;)[Ljava/lang/Object;", sig := { parameters := [(.array (.object "java/lang/Object")), .int, (.object "java/lang/Class")], returnType := some (.array (.object "java/lang/Object")) }, accessFlags := 9, code := some k27c2 }
/-- java/util/Arrays -/
def k27 : Class := { plain "java/util/Arrays" (some 0) with
  accessFlags := 49
  interfaces := #[]
  cf := some (fileOf pool27 14 #[.nestMembers #[975, 375, 113, 74]] #[{ accessFlags := 2, nameIndex := 5, descriptorIndex := 6, attributes := #[] }, { accessFlags := 9, nameIndex := 302, descriptorIndex := 860, attributes := #[] }, { accessFlags := 9, nameIndex := 302, descriptorIndex := 303, attributes := #[] }] 49 2 #[] #[{ accessFlags := 26, nameIndex := 715, descriptorIndex := 716, attributes := #[] }, { accessFlags := 26, nameIndex := 719, descriptorIndex := 716, attributes := #[] }, { accessFlags := 4120, nameIndex := 445, descriptorIndex := 117, attributes := #[] }])
  fields := #[{ name := "MIN_ARRAY_SORT_GRAN", type := .int, accessFlags := 26, slot := 0, constantValue := 0 }, { name := "INSERTIONSORT_THRESHOLD", type := .int, accessFlags := 26, slot := 1, constantValue := 0 }, { name := "$assertionsDisabled", type := .boolean, accessFlags := 4120, slot := 2, constantValue := 0 }]
  methods := #[k27m0, k27m1, k27m2]
  instanceTypes := #[]
  staticTypes := #[.int, .int, .boolean]
  resolved := Array.replicate 1029 none
  statics := none }

def pool28 : Array CpInfo := pool [(2, .class_ 4), (1, u "java/lang/Object"), (0, u "<init>"), (0, u "()V"), (1, .class_ 10), (1, u "java/lang/System"), (0, u "allowSecurityManager"), (0, u "I"), (16, u "cons"), (0, u "Ljava/io/Console;"), (77, .class_ 110), (1, u "java/lang/System$CallersHolder"), (43, u "initialErrStream"), (0, u "Ljava/io/PrintStream;"), (19, u "security"), (0, u "Ljava/lang/SecurityManager;"), (31, .class_ 209), (0, u "java/lang/System$1"), (7, u "props"), (0, u "Ljava/util/Properties;"), (2, u "lineSeparator"), (0, u "Ljava/lang/String;"), (96, .class_ 321), (1, u "java/lang/System$LoggerFinder"), (5, .class_ 328), (0, u "java/lang/System$Logger"), (67, u "err"), (2, u "out"), (91, u "notSupportedJnuEncoding"), (15, u "in"), (17, u "initialIn"), (0, u "Ljava/io/InputStream;"), (35, u "bootLayer"), (0, u "Ljava/lang/ModuleLayer;"), (99, .class_ 664), (0, u "java/lang/System$2"), (9, u "NEVER"), (2, u "MAYBE"), (49, u "arraycopy"), (0, u "(Ljava/lang/Object;ILjava/lang/Object;II)V"), (72, .class_ 802), (0, u "java/lang/System$Logger$Level")] 31

def k28m0 : Method := { name := "<init>", desc := "()V", sig := { parameters := [], returnType := none }, accessFlags := 2, code := none }
def k28m1 : Method := { name := "arraycopy", desc := "(Ljava/lang/Object;ILjava/lang/Object;II)V", sig := { parameters := [(.object "java/lang/Object"), .int, (.object "java/lang/Object"), .int, .int], returnType := none }, accessFlags := 265, code := none }
/-- java/lang/System -/
def k28 : Class := { plain "java/lang/System" (some 0) with
  accessFlags := 49
  interfaces := #[]
  cf := some (fileOf pool28 8 #[.nestMembers #[319, 327, 801, 108, 663, 208]] #[{ accessFlags := 2, nameIndex := 5, descriptorIndex := 6, attributes := #[] }, { accessFlags := 265, nameIndex := 727, descriptorIndex := 728, attributes := #[] }] 49 2 #[] #[{ accessFlags := 25, nameIndex := 507, descriptorIndex := 526, attributes := #[] }, { accessFlags := 25, nameIndex := 399, descriptorIndex := 155, attributes := #[] }, { accessFlags := 25, nameIndex := 396, descriptorIndex := 155, attributes := #[] }, { accessFlags := 10, nameIndex := 525, descriptorIndex := 526, attributes := #[] }, { accessFlags := 26, nameIndex := 674, descriptorIndex := 12, attributes := #[] }, { accessFlags := 26, nameIndex := 677, descriptorIndex := 12, attributes := #[] }, { accessFlags := 10, nameIndex := 11, descriptorIndex := 12, attributes := #[] }, { accessFlags := 74, nameIndex := 175, descriptorIndex := 176, attributes := #[] }, { accessFlags := 10, nameIndex := 491, descriptorIndex := 222, attributes := #[] }, { accessFlags := 74, nameIndex := 29, descriptorIndex := 30, attributes := #[] }, { accessFlags := 74, nameIndex := 154, descriptorIndex := 155, attributes := #[] }, { accessFlags := 10, nameIndex := 217, descriptorIndex := 218, attributes := #[] }, { accessFlags := 10, nameIndex := 221, descriptorIndex := 222, attributes := #[] }, { accessFlags := 8, nameIndex := 562, descriptorIndex := 563, attributes := #[] }])
  fields := #[{ name := "in", type := (.object "java/io/InputStream"), accessFlags := 25, slot := 0, constantValue := 0 }, { name := "out", type := (.object "java/io/PrintStream"), accessFlags := 25, slot := 1, constantValue := 0 }, { name := "err", type := (.object "java/io/PrintStream"), accessFlags := 25, slot := 2, constantValue := 0 }, { name := "initialIn", type := (.object "java/io/InputStream"), accessFlags := 10, slot := 3, constantValue := 0 }, { name := "NEVER", type := .int, accessFlags := 26, slot := 4, constantValue := 0 }, { name := "MAYBE", type := .int, accessFlags := 26, slot := 5, constantValue := 0 }, { name := "allowSecurityManager", type := .int, accessFlags := 10, slot := 6, constantValue := 0 }, { name := "security", type := (.object "java/lang/SecurityManager"), accessFlags := 74, slot := 7, constantValue := 0 }, { name := "notSupportedJnuEncoding", type := (.object "java/lang/String"), accessFlags := 10, slot := 8, constantValue := 0 }, { name := "cons", type := (.object "java/io/Console"), accessFlags := 74, slot := 9, constantValue := 0 }, { name := "initialErrStream", type := (.object "java/io/PrintStream"), accessFlags := 74, slot := 10, constantValue := 0 }, { name := "props", type := (.object "java/util/Properties"), accessFlags := 10, slot := 11, constantValue := 0 }, { name := "lineSeparator", type := (.object "java/lang/String"), accessFlags := 10, slot := 12, constantValue := 0 }, { name := "bootLayer", type := (.object "java/lang/ModuleLayer"), accessFlags := 8, slot := 13, constantValue := 0 }]
  methods := #[k28m0, k28m1]
  instanceTypes := #[]
  staticTypes := #[(.object "java/io/InputStream"), (.object "java/io/PrintStream"), (.object "java/io/PrintStream"), (.object "java/io/InputStream"), .int, .int, .int, (.object "java/lang/SecurityManager"), (.object "java/lang/String"), (.object "java/io/Console"), (.object "java/io/PrintStream"), (.object "java/util/Properties"), (.object "java/lang/String"), (.object "java/lang/ModuleLayer")]
  resolved := Array.replicate 834 none
  statics := none }

def pool29 : Array CpInfo := pool [(2, .class_ 4), (1, u "java/lang/Object"), (0, u "<init>"), (0, u "()V"), (35, .class_ 44), (1, u "java/util/Objects"), (0, u "requireNonNull"), (0, u "(Ljava/lang/Object;)Ljava/lang/Object;")] 137

def k29m0 : Method := { name := "<init>", desc := "()V", sig := { parameters := [], returnType := none }, accessFlags := 2, code := none }
def k29c1 : Code := { maxStack := 2, maxLocals := 1, code := jdk_31_method_10_code, exceptionTable := #[], attributes := #[] }
def k29m1 : Method := { name := "requireNonNull", desc := "(Ljava/lang/Object;)Ljava/lang/Object;", sig := { parameters := [(.object "java/lang/Object")], returnType := some (.object "java/lang/Object") }, accessFlags := 9, code := some k29c1 }
/-- java/util/Objects -/
def k29 : Class := { plain "java/util/Objects" (some 0) with
  accessFlags := 49
  interfaces := #[]
  cf := some (fileOf pool29 42 #[] #[{ accessFlags := 2, nameIndex := 5, descriptorIndex := 6, attributes := #[] }, { accessFlags := 9, nameIndex := 45, descriptorIndex := 46, attributes := #[] }] 49 2 #[] #[])
  fields := #[]
  methods := #[k29m0, k29m1]
  instanceTypes := #[]
  staticTypes := #[]
  resolved := Array.replicate 184 none
  statics := none }

def pool30 : Array CpInfo := pool [(16, .class_ 18), (1, u "java/util/Iterator"), (0, u "hasNext"), (0, u "()Z"), (2, u "next"), (0, u "()Ljava/lang/Object;"), (6, .class_ 32), (0, u "java/lang/Object")] 20

def k30m0 : Method := { name := "hasNext", desc := "()Z", sig := { parameters := [], returnType := some .boolean }, accessFlags := 1025, code := none }
def k30m1 : Method := { name := "next", desc := "()Ljava/lang/Object;", sig := { parameters := [], returnType := some (.object "java/lang/Object") }, accessFlags := 1025, code := none }
/-- java/util/Iterator -/
def k30 : Class := { plain "java/util/Iterator" (some 0) with
  accessFlags := 1537
  interfaces := #[]
  cf := some (fileOf pool30 16 #[] #[{ accessFlags := 1025, nameIndex := 19, descriptorIndex := 20, attributes := #[] }, { accessFlags := 1025, nameIndex := 23, descriptorIndex := 24, attributes := #[] }] 1537 31 #[] #[])
  fields := #[]
  methods := #[k30m0, k30m1]
  instanceTypes := #[]
  staticTypes := #[]
  resolved := Array.replicate 53 none
  statics := none }

def pool31 : Array CpInfo := pool [(1, .class_ 2), (0, u "java/util/ListIterator"), (0, .class_ 4), (0, u "java/lang/Object"), (0, .class_ 6), (0, u "java/util/Iterator")] 20

/-- java/util/ListIterator -/
def k31 : Class := { plain "java/util/ListIterator" (some 0) with
  accessFlags := 1537
  interfaces := #[30]
  cf := some (fileOf pool31 1 #[] #[] 1537 3 #[5] #[])
  fields := #[]
  methods := #[]
  instanceTypes := #[]
  staticTypes := #[]
  resolved := Array.replicate 27 none
  statics := none }

def pool32 : Array CpInfo := pool [(1, .methodref 2 3), (0, .class_ 4), (0, .nameAndType 5 6), (0, u "java/lang/Object"), (0, u "<init>"), (0, u "()V"), (0, .fieldref 8 9), (0, .class_ 10), (0, .nameAndType 11 12), (0, u "java/util/ImmutableCollections$ListItr"), (0, u "list"), (0, u "Ljava/util/List;"), (0, .fieldref 8 14), (0, .nameAndType 15 16), (0, u "size"), (0, u "I"), (0, .fieldref 8 18), (0, .nameAndType 19 16), (0, u "cursor"), (0, .fieldref 8 21), (0, .nameAndType 22 23), (0, u "isListIterator"), (0, u "Z"), (0, .interfaceMethodref 25 26), (0, .class_ 27), (0, .nameAndType 28 29), (0, u "java/util/List"), (0, u "get"), (0, u "(I)Ljava/lang/Object;"), (6, .class_ 38), (1, u "java/util/ImmutableCollections"), (2, .class_ 42), (0, u "java/util/ListIterator"), (4, u "(Ljava/util/List;I)V"), (11, u "hasNext"), (0, u "()Z"), (1, u "next"), (0, u "()Ljava/lang/Object;")] 22

def k32c0 : Code := { maxStack := 2, maxLocals := 3, code := jdk_53_method_1_code, exceptionTable := #[], attributes := #[] }
def k32m0 : Method := { name := "<init>", desc := "(Ljava/util/List;I)V", sig := { parameters := [(.object "java/util/List"), .int], returnType := none }, accessFlags := 0, code := some k32c0 }
def k32c1 : Code := { maxStack := 2, maxLocals := 1, code := jdk_53_method_3_code, exceptionTable := #[], attributes := #[] }
def k32m1 : Method := { name := "hasNext", desc := "()Z", sig := { parameters := [], returnType := some .boolean }, accessFlags := 1, code := some k32c1 }
def k32c2 : Code := { maxStack := 3, maxLocals := 3, code := jdk_53_method_4_code, exceptionTable := #[{ startPc := 0, endPc := 24, handlerPc := 25, catchType := 30 }], attributes := #[] }
def k32m2 : Method := { name := "next", desc := "()Ljava/lang/Object;", sig := { parameters := [], returnType := some (.object "java/lang/Object") }, accessFlags := 1, code := some k32c2 }
/-- java/util/ImmutableCollections$ListItr -/
def k32 : Class := { plain "java/util/ImmutableCollections$ListItr" (some 0) with
  accessFlags := 48
  interfaces := #[31]
  cf := some (fileOf pool32 8 #[.nestHost 36] #[{ accessFlags := 0, nameIndex := 5, descriptorIndex := 47, attributes := #[] }, { accessFlags := 1, nameIndex := 59, descriptorIndex := 60, attributes := #[] }, { accessFlags := 1, nameIndex := 62, descriptorIndex := 63, attributes := #[] }] 48 2 #[41] #[{ accessFlags := 18, nameIndex := 11, descriptorIndex := 12, attributes := #[] }, { accessFlags := 18, nameIndex := 15, descriptorIndex := 16, attributes := #[] }, { accessFlags := 18, nameIndex := 22, descriptorIndex := 23, attributes := #[] }, { accessFlags := 2, nameIndex := 19, descriptorIndex := 16, attributes := #[] }])
  fields := #[{ name := "list", type := (.object "java/util/List"), accessFlags := 18, slot := 0, constantValue := 0 }, { name := "size", type := .int, accessFlags := 18, slot := 1, constantValue := 0 }, { name := "isListIterator", type := .boolean, accessFlags := 18, slot := 2, constantValue := 0 }, { name := "cursor", type := .int, accessFlags := 2, slot := 3, constantValue := 0 }]
  methods := #[k32m0, k32m1, k32m2]
  instanceTypes := #[(.object "java/util/List"), .int, .boolean, .int]
  staticTypes := #[]
  resolved := Array.replicate 86 none
  statics := none }

def pool33 : Array CpInfo := pool [(2, .class_ 4), (1, u "java/lang/Record"), (0, u "<init>"), (0, u "()V"), (12, .class_ 20), (0, u "com/example/wee_table/weetable/model/GcRule$None"), (0, .class_ 22), (0, u "com/example/wee_table/weetable/model/GcRule"), (2, u "expires"), (0, u "(IJJ)Z")] 24

def k33m0 : Method := { name := "<init>", desc := "()V", sig := { parameters := [], returnType := none }, accessFlags := 1, code := none }
def k33c1 : Code := { maxStack := 1, maxLocals := 6, code := prog_16_method_2_code, exceptionTable := #[], attributes := #[] }
def k33m1 : Method := { name := "expires", desc := "(IJJ)Z", sig := { parameters := [.int, .long, .long], returnType := some .boolean }, accessFlags := 1, code := some k33c1 }
/-- com/example/wee_table/weetable/model/GcRule$None -/
def k33 : Class := { plain "com/example/wee_table/weetable/model/GcRule$None" (some 13) with
  accessFlags := 49
  interfaces := #[14]
  cf := some (fileOf pool33 19 #[.nestHost 21] #[{ accessFlags := 1, nameIndex := 5, descriptorIndex := 6, attributes := #[] }, { accessFlags := 1, nameIndex := 25, descriptorIndex := 26, attributes := #[] }] 49 2 #[21] #[])
  fields := #[]
  methods := #[k33m0, k33m1]
  instanceTypes := #[]
  staticTypes := #[]
  resolved := Array.replicate 51 none
  statics := none }

def pool34 : Array CpInfo := pool [(1, u "java/lang/Class"), (0, .class_ 1), (0, u "java/lang/Object"), (0, .class_ 3)] 0

/-- java/lang/Class -/
def k34 : Class := { plain "java/lang/Class" (some 0) with
  accessFlags := 49
  interfaces := #[]
  cf := some (fileOf pool34 2 #[] #[] 49 4 #[] #[])
  fields := #[]
  methods := #[]
  instanceTypes := #[]
  staticTypes := #[]
  resolved := Array.replicate 5 none
  statics := none }

/-- the primitive byte -/
def k35 : Class := { plain "byte" none with kind := .primitive 'B', accessFlags := 0x411 }
/-- [B -/
def k36 : Class := { plain "[B" (some 0) with kind := .array 35 .byte, interfaces := #[10, 11], accessFlags := 1041 }

/-- the primitive int -/
def k37 : Class := { plain "int" none with kind := .primitive 'I', accessFlags := 0x411 }
/-- [I -/
def k38 : Class := { plain "[I" (some 0) with kind := .array 37 .int, interfaces := #[10, 11], accessFlags := 1041 }

/-- [Ljava/lang/Object; -/
def k39 : Class := { plain "[Ljava/lang/Object;" (some 0) with kind := .array 0 (.object "java/lang/Object"), interfaces := #[10, 11], accessFlags := 1041, mirror := some 3 }

def heap : Heap := #[{ cls := 12, slots := #[.long 0, .int 0, .ref 5, .ref 6], vm := .statics 12 },
  { cls := 14, slots := #[.ref 4], vm := .statics 14 },
  { cls := 22, slots := #[.long 0, .int 0, .null, .ref 7, .ref 8, .null, .null, .null, .int 0, .int 1], vm := .statics 22 },
  { cls := 34, slots := #[], vm := .mirror 39 },
  { cls := 33, slots := #[], vm := .none },
  { cls := 39, slots := #[], vm := .none },
  { cls := 39, slots := #[], vm := .none },
  { cls := 0, slots := #[], vm := .none },
  { cls := 26, slots := #[.null, .int 0], vm := .none }]
def classes : Array Class := #[k0, k1, k2, k3, k4, k5, k6, k7, k8, k9, k10, k11, k12, k13, k14, k15, k16, k17, k18, k19, k20, k21, k22, k23, k24, k25, k26, k27, k28, k29, k30, k31, k32, k33, k34, k35, k36, k37, k38, k39]
def interned : List (Array UInt16 × Addr) := []
def slotsUsed : Nat := 17
def theMethod : MethodId := ⟨1, 3⟩
def args0 : Array Value := #[.int 3, .long 5, .long 7, .int 2, .int 4, .int 9]
def aboutOver (below : List Frame) : State where
  vm := { classes := classes, interned := interned.toArray }
  heap := heap
  slotsUsed := slotsUsed
  threads := #[{ frames := .invoking theMethod args0 :: below }]
def below0 : List Frame := [.native { method := ⟨0, 0⟩, args := #[] }]
def about1 : State := aboutOver below0
def p0 : Program := .bare "" "" ""
def e0 : Env := launch0.env 0 0 0
theorem w_frames : about1.frames = Frame.invoking theMethod args0 :: below0 := rfl
set_option maxRecDepth 65536 in
theorem w_args : argsFit about1.vm theMethod args0 = true := by decide +kernel
set_option maxRecDepth 65536 in
theorem w_heap : heapFits about1 = true := by decide +kernel
set_option maxRecDepth 65536 in
theorem w_runnable : about1.curStatus? = some .runnable := by decide +kernel
set_option maxRecDepth 65536 in
theorem w_alone : about1.alone = true := by decide +kernel
set_option maxRecDepth 65536 in
theorem w_named : about1.methodNamed? x = some theMethod := by decide +kernel
set_option maxRecDepth 65536 in
theorem w_hears : about1.hears theMethod below0 = true := by decide +kernel
set_option maxRecDepth 65536 in
theorem w_ripe : about1.ripe theMethod args0 below0 = true := by decide +kernel
theorem w_running : about1.status = .running := rfl
set_option maxRecDepth 65536 in
theorem w_room : about1.hasRoom e0.platform room_1 = true :=
  launch0.hasRoom_least _ room_1 (by decide +kernel) (by decide +kernel) (by decide +kernel) (by decide +kernel) (by decide +kernel) (by decide +kernel)
theorem allAtoms_all (ts : List Jvm.Cond) (a : Array Jvm.Value) (st : Jvm.State) : (allAtoms ts).before a st = ts.all (fun c => c.before a st) := by
  induction ts with
  | nil => rfl
  | cons c t ih =>
    show (Jvm.Cond.and c (allAtoms t)).before a st = _
    rw [Jvm.Cond.before_and, ih, List.all_cons]
def words1 : List Jvm.Cond := Jvm.Cond.code x code maxLocals ret :: tables_1
/-- a 'code' word, met by the world's own term for the bytes: nothing is compared byte by byte -/
theorem code_word {y : MethodName} {bytes : ByteArray} {mx : Nat} {rt : Option FieldType} {a : Array Value} {s : State} {m : MethodId} {meth : Method} {c : Code} (h1 : s.methodNamed? y = some m) (h2 : s.vm.method? m = some meth) (h3 : meth.code = some c) (h4 : c.code = bytes)
    (h5 : (c.maxLocals == mx && c.exceptionTable.isEmpty && decide (c.maxStack ≤ mostOperands) && decide (meth.sig.returnType = rt) && !meth.locks && decide (parseMethodDescriptor y.desc = some meth.sig)) = true) : (Jvm.Cond.code y bytes mx rt).before a s = true := by
  simp only [Bool.and_eq_true, beq_iff_eq, Bool.not_eq_true', decide_eq_true_eq] at h5
  obtain ⟨⟨⟨⟨⟨g1, g2⟩, g3⟩, g4⟩, g5⟩, g6⟩ := h5
  simp [Cond.before, Cond.holds, Cond.value, h1, h2, h3, h4, g1, g2, g3, g4, g5, g6]
def isCode : Jvm.Cond → Bool
  | .code _ _ _ _ => true
  | _ => false
theorem all_split {L : List Jvm.Cond} {P : Jvm.Cond → Bool} (h1 : L.all (fun c => isCode c || P c) = true) (h2 : ∀ c ∈ L.filter isCode, P c = true) : L.all P = true := by
  refine List.all_eq_true.mpr fun c hc => ?_
  have h := List.all_eq_true.mp h1 c hc
  rcases Bool.eq_false_or_eq_true (isCode c) with hi | hi
  · exact h2 c (List.mem_filter.mpr ⟨hc, hi⟩)
  · simpa [hi] using h
set_option maxRecDepth 65536 in
theorem w_c0 : (Jvm.Cond.code x code maxLocals ret).before args0 about1 = true := code_word (m := ⟨1, 3⟩) (meth := k1m3) (c := k1c3) (by decide +kernel) rfl rfl rfl (by decide +kernel)
set_option maxRecDepth 65536 in
theorem w_c1 : (Jvm.Cond.code ({ cls := "java/lang/Math", name := "max", desc := "(II)I" } : Jvm.MethodName) jdk_29_method_65_code (2 : Nat) (Option.some Jvm.ClassFile.FieldType.int)).before args0 about1 = true := code_word (m := ⟨2, 1⟩) (meth := k2m1) (c := k2c1) (by decide +kernel) rfl rfl rfl (by decide +kernel)
set_option maxRecDepth 65536 in
theorem w_c2 : (Jvm.Cond.code ({ cls := "java/util/ArrayList", name := "<init>", desc := "()V" } : Jvm.MethodName) jdk_38_method_2_code (1 : Nat) (Option.none : Option Jvm.ClassFile.FieldType)).before args0 about1 = true := code_word (m := ⟨12, 0⟩) (meth := k12m0) (c := k12c0) (by decide +kernel) rfl rfl rfl (by decide +kernel)
set_option maxRecDepth 65536 in
theorem w_c3 : (Jvm.Cond.code ({ cls := "java/util/AbstractList", name := "<init>", desc := "()V" } : Jvm.MethodName) jdk_39_method_1_code (1 : Nat) (Option.none : Option Jvm.ClassFile.FieldType)).before args0 about1 = true := code_word (m := ⟨8, 0⟩) (meth := k8m0) (c := k8c0) (by decide +kernel) rfl rfl rfl (by decide +kernel)
set_option maxRecDepth 65536 in
theorem w_c4 : (Jvm.Cond.code ({ cls := "java/util/AbstractCollection", name := "<init>", desc := "()V" } : Jvm.MethodName) jdk_22_method_1_code (1 : Nat) (Option.none : Option Jvm.ClassFile.FieldType)).before args0 about1 = true := code_word (m := ⟨5, 0⟩) (meth := k5m0) (c := k5c0) (by decide +kernel) rfl rfl rfl (by decide +kernel)
set_option maxRecDepth 65536 in
theorem w_c5 : (Jvm.Cond.code ({ cls := "java/lang/Object", name := "<init>", desc := "()V" } : Jvm.MethodName) object_method_1_code (1 : Nat) (Option.none : Option Jvm.ClassFile.FieldType)).before args0 about1 = true := code_word (m := ⟨0, 0⟩) (meth := k0m0) (c := k0c0) (by decide +kernel) rfl rfl rfl (by decide +kernel)
set_option maxRecDepth 65536 in
theorem w_c6 : (Jvm.Cond.code ({ cls := "com/example/wee_table/weetable/model/IntersectionExpiresPinLaw", name := "rule", desc := "(ZI)Lcom/example/wee_table/weetable/model/GcRule;" } : Jvm.MethodName) method_2_code (2 : Nat) (Option.some (Jvm.ClassFile.FieldType.object "com/example/wee_table/weetable/model/GcRule"))).before args0 about1 = true := code_word (m := ⟨1, 1⟩) (meth := k1m1) (c := k1c1) (by decide +kernel) rfl rfl rfl (by decide +kernel)
set_option maxRecDepth 65536 in
theorem w_c7 : (Jvm.Cond.code ({ cls := "com/example/wee_table/weetable/model/GcRule$MaxVersions", name := "<init>", desc := "(I)V" } : Jvm.MethodName) prog_15_method_1_code (2 : Nat) (Option.none : Option Jvm.ClassFile.FieldType)).before args0 about1 = true := code_word (m := ⟨15, 0⟩) (meth := k15m0) (c := k15c0) (by decide +kernel) rfl rfl rfl (by decide +kernel)
set_option maxRecDepth 65536 in
theorem w_c8 : (Jvm.Cond.code ({ cls := "java/lang/Record", name := "<init>", desc := "()V" } : Jvm.MethodName) jdk_30_method_1_code (1 : Nat) (Option.none : Option Jvm.ClassFile.FieldType)).before args0 about1 = true := code_word (m := ⟨13, 0⟩) (meth := k13m0) (c := k13c0) (by decide +kernel) rfl rfl rfl (by decide +kernel)
set_option maxRecDepth 65536 in
theorem w_c9 : (Jvm.Cond.code ({ cls := "java/util/ArrayList", name := "add", desc := "(Ljava/lang/Object;)Z" } : Jvm.MethodName) jdk_38_method_25_code (2 : Nat) (Option.some Jvm.ClassFile.FieldType.boolean)).before args0 about1 = true := code_word (m := ⟨12, 6⟩) (meth := k12m6) (c := k12c6) (by decide +kernel) rfl rfl rfl (by decide +kernel)
set_option maxRecDepth 65536 in
theorem w_c10 : (Jvm.Cond.code ({ cls := "java/util/ArrayList", name := "add", desc := "(Ljava/lang/Object;[Ljava/lang/Object;I)V" } : Jvm.MethodName) jdk_38_method_24_code (4 : Nat) (Option.none : Option Jvm.ClassFile.FieldType)).before args0 about1 = true := code_word (m := ⟨12, 5⟩) (meth := k12m5) (c := k12c5) (by decide +kernel) rfl rfl rfl (by decide +kernel)
set_option maxRecDepth 65536 in
theorem w_c11 : (Jvm.Cond.code ({ cls := "java/util/ArrayList", name := "grow", desc := "()[Ljava/lang/Object;" } : Jvm.MethodName) jdk_38_method_7_code (1 : Nat) (Option.some (Jvm.ClassFile.FieldType.array (Jvm.ClassFile.FieldType.object "java/lang/Object")))).before args0 about1 = true := code_word (m := ⟨12, 2⟩) (meth := k12m2) (c := k12c2) (by decide +kernel) rfl rfl rfl (by decide +kernel)
set_option maxRecDepth 65536 in
theorem w_c12 : (Jvm.Cond.code ({ cls := "java/util/ArrayList", name := "grow", desc := "(I)[Ljava/lang/Object;" } : Jvm.MethodName) jdk_38_method_6_code (4 : Nat) (Option.some (Jvm.ClassFile.FieldType.array (Jvm.ClassFile.FieldType.object "java/lang/Object")))).before args0 about1 = true := code_word (m := ⟨12, 1⟩) (meth := k12m1) (c := k12c1) (by decide +kernel) rfl rfl rfl (by decide +kernel)
set_option maxRecDepth 65536 in
theorem w_c13 : (Jvm.Cond.code ({ cls := "com/example/wee_table/weetable/model/GcRule$Intersection", name := "<init>", desc := "(Ljava/util/List;)V" } : Jvm.MethodName) prog_13_method_1_code (2 : Nat) (Option.none : Option Jvm.ClassFile.FieldType)).before args0 about1 = true := code_word (m := ⟨16, 0⟩) (meth := k16m0) (c := k16c0) (by decide +kernel) rfl rfl rfl (by decide +kernel)
set_option maxRecDepth 65536 in
theorem w_c14 : (Jvm.Cond.code ({ cls := "com/example/wee_table/weetable/model/GcRule", name := "nonEmptyCopy", desc := "(Ljava/util/List;Ljava/lang/String;)Ljava/util/List;" } : Jvm.MethodName) prog_12_method_2_code (2 : Nat) (Option.some (Jvm.ClassFile.FieldType.object "java/util/List"))).before args0 about1 = true := code_word (m := ⟨14, 1⟩) (meth := k14m1) (c := k14c1) (by decide +kernel) rfl rfl rfl (by decide +kernel)
set_option maxRecDepth 65536 in
theorem w_c15 : (Jvm.Cond.code ({ cls := "java/util/ArrayList", name := "isEmpty", desc := "()Z" } : Jvm.MethodName) jdk_38_method_9_code (1 : Nat) (Option.some Jvm.ClassFile.FieldType.boolean)).before args0 about1 = true := code_word (m := ⟨12, 3⟩) (meth := k12m3) (c := k12c3) (by decide +kernel) rfl rfl rfl (by decide +kernel)
set_option maxRecDepth 65536 in
theorem w_c16 : (Jvm.Cond.code ({ cls := "java/util/List", name := "copyOf", desc := "(Ljava/util/Collection;)Ljava/util/List;" } : Jvm.MethodName) jdk_40_method_48_code (1 : Nat) (Option.some (Jvm.ClassFile.FieldType.object "java/util/List"))).before args0 about1 = true := code_word (m := ⟨7, 4⟩) (meth := k7m4) (c := k7c4) (by decide +kernel) rfl rfl rfl (by decide +kernel)
set_option maxRecDepth 65536 in
theorem w_c17 : (Jvm.Cond.code ({ cls := "java/util/ImmutableCollections", name := "listCopy", desc := "(Ljava/util/Collection;)Ljava/util/List;" } : Jvm.MethodName) jdk_56_method_3_code (2 : Nat) (Option.some (Jvm.ClassFile.FieldType.object "java/util/List"))).before args0 about1 = true := code_word (m := ⟨22, 1⟩) (meth := k22m1) (c := k22c1) (by decide +kernel) rfl rfl rfl (by decide +kernel)
set_option maxRecDepth 65536 in
theorem w_c18 : (Jvm.Cond.code ({ cls := "java/util/ArrayList", name := "toArray", desc := "()[Ljava/lang/Object;" } : Jvm.MethodName) jdk_38_method_16_code (1 : Nat) (Option.some (Jvm.ClassFile.FieldType.array (Jvm.ClassFile.FieldType.object "java/lang/Object")))).before args0 about1 = true := code_word (m := ⟨12, 4⟩) (meth := k12m4) (c := k12c4) (by decide +kernel) rfl rfl rfl (by decide +kernel)
set_option maxRecDepth 65536 in
theorem w_c19 : (Jvm.Cond.code ({ cls := "java/util/Arrays", name := "copyOf", desc := "([Ljava/lang/Object;I)[Ljava/lang/Object;" } : Jvm.MethodName) jdk_65_method_119_code (2 : Nat) (Option.some (Jvm.ClassFile.FieldType.array (Jvm.ClassFile.FieldType.object "java/lang/Object")))).before args0 about1 = true := code_word (m := ⟨27, 1⟩) (meth := k27m1) (c := k27c1) (by decide +kernel) rfl rfl rfl (by decide +kernel)
set_option maxRecDepth 65536 in
theorem w_c20 : (Jvm.Cond.code ({ cls := "java/util/Arrays", name := "copyOf", desc := "([Ljava/lang/Object;ILjava/lang/Class;)[Ljava/lang/Object;" } : Jvm.MethodName) jdk_65_method_120_code (4 : Nat) (Option.some (Jvm.ClassFile.FieldType.array (Jvm.ClassFile.FieldType.object "java/lang/Object")))).before args0 about1 = true := code_word (m := ⟨27, 2⟩) (meth := k27m2) (c := k27c2) (by decide +kernel) rfl rfl rfl (by decide +kernel)
set_option maxRecDepth 65536 in
theorem w_c21 : (Jvm.Cond.code ({ cls := "java/lang/Math", name := "min", desc := "(II)I" } : Jvm.MethodName) jdk_29_method_69_code (2 : Nat) (Option.some Jvm.ClassFile.FieldType.int)).before args0 about1 = true := code_word (m := ⟨2, 2⟩) (meth := k2m2) (c := k2c2) (by decide +kernel) rfl rfl rfl (by decide +kernel)
set_option maxRecDepth 65536 in
theorem w_c22 : (Jvm.Cond.code ({ cls := "java/util/List", name := "of", desc := "([Ljava/lang/Object;)Ljava/util/List;" } : Jvm.MethodName) jdk_40_method_47_code (2 : Nat) (Option.some (Jvm.ClassFile.FieldType.object "java/util/List"))).before args0 about1 = true := code_word (m := ⟨7, 3⟩) (meth := k7m3) (c := k7c3) (by decide +kernel) rfl rfl rfl (by decide +kernel)
set_option maxRecDepth 65536 in
theorem w_c23 : (Jvm.Cond.code ({ cls := "java/util/ImmutableCollections$List12", name := "<init>", desc := "(Ljava/lang/Object;)V" } : Jvm.MethodName) jdk_44_method_1_code (2 : Nat) (Option.none : Option Jvm.ClassFile.FieldType)).before args0 about1 = true := code_word (m := ⟨25, 0⟩) (meth := k25m0) (c := k25c0) (by decide +kernel) rfl rfl rfl (by decide +kernel)
set_option maxRecDepth 65536 in
theorem w_c24 : (Jvm.Cond.code ({ cls := "java/util/ImmutableCollections$AbstractImmutableList", name := "<init>", desc := "()V" } : Jvm.MethodName) jdk_46_method_1_code (1 : Nat) (Option.none : Option Jvm.ClassFile.FieldType)).before args0 about1 = true := code_word (m := ⟨24, 0⟩) (meth := k24m0) (c := k24c0) (by decide +kernel) rfl rfl rfl (by decide +kernel)
set_option maxRecDepth 65536 in
theorem w_c25 : (Jvm.Cond.code ({ cls := "java/util/ImmutableCollections$AbstractImmutableCollection", name := "<init>", desc := "()V" } : Jvm.MethodName) jdk_47_method_1_code (1 : Nat) (Option.none : Option Jvm.ClassFile.FieldType)).before args0 about1 = true := code_word (m := ⟨23, 0⟩) (meth := k23m0) (c := k23c0) (by decide +kernel) rfl rfl rfl (by decide +kernel)
set_option maxRecDepth 65536 in
theorem w_c26 : (Jvm.Cond.code ({ cls := "java/util/Objects", name := "requireNonNull", desc := "(Ljava/lang/Object;)Ljava/lang/Object;" } : Jvm.MethodName) jdk_31_method_10_code (1 : Nat) (Option.some (Jvm.ClassFile.FieldType.object "java/lang/Object"))).before args0 about1 = true := code_word (m := ⟨29, 1⟩) (meth := k29m1) (c := k29c1) (by decide +kernel) rfl rfl rfl (by decide +kernel)
set_option maxRecDepth 65536 in
theorem w_c27 : (Jvm.Cond.code ({ cls := "com/example/wee_table/weetable/model/GcRule$Intersection", name := "expires", desc := "(IJJ)Z" } : Jvm.MethodName) prog_13_method_2_code (8 : Nat) (Option.some Jvm.ClassFile.FieldType.boolean)).before args0 about1 = true := code_word (m := ⟨16, 1⟩) (meth := k16m1) (c := k16c1) (by decide +kernel) rfl rfl rfl (by decide +kernel)
set_option maxRecDepth 65536 in
theorem w_c28 : (Jvm.Cond.code ({ cls := "java/util/ImmutableCollections$AbstractImmutableList", name := "iterator", desc := "()Ljava/util/Iterator;" } : Jvm.MethodName) jdk_46_method_10_code (1 : Nat) (Option.some (Jvm.ClassFile.FieldType.object "java/util/Iterator"))).before args0 about1 = true := code_word (m := ⟨24, 1⟩) (meth := k24m1) (c := k24c1) (by decide +kernel) rfl rfl rfl (by decide +kernel)
set_option maxRecDepth 65536 in
theorem w_c29 : (Jvm.Cond.code ({ cls := "java/util/ImmutableCollections$List12", name := "size", desc := "()I" } : Jvm.MethodName) jdk_44_method_3_code (1 : Nat) (Option.some Jvm.ClassFile.FieldType.int)).before args0 about1 = true := code_word (m := ⟨25, 2⟩) (meth := k25m2) (c := k25c2) (by decide +kernel) rfl rfl rfl (by decide +kernel)
set_option maxRecDepth 65536 in
theorem w_c30 : (Jvm.Cond.code ({ cls := "java/util/ImmutableCollections$ListItr", name := "<init>", desc := "(Ljava/util/List;I)V" } : Jvm.MethodName) jdk_53_method_1_code (3 : Nat) (Option.none : Option Jvm.ClassFile.FieldType)).before args0 about1 = true := code_word (m := ⟨32, 0⟩) (meth := k32m0) (c := k32c0) (by decide +kernel) rfl rfl rfl (by decide +kernel)
set_option maxRecDepth 65536 in
theorem w_c31 : (Jvm.Cond.code ({ cls := "java/util/ImmutableCollections$ListItr", name := "hasNext", desc := "()Z" } : Jvm.MethodName) jdk_53_method_3_code (1 : Nat) (Option.some Jvm.ClassFile.FieldType.boolean)).before args0 about1 = true := code_word (m := ⟨32, 1⟩) (meth := k32m1) (c := k32c1) (by decide +kernel) rfl rfl rfl (by decide +kernel)
set_option maxRecDepth 65536 in
theorem w_c32 : (Jvm.Cond.code ({ cls := "java/util/ImmutableCollections$List12", name := "get", desc := "(I)Ljava/lang/Object;" } : Jvm.MethodName) jdk_44_method_5_code (2 : Nat) (Option.some (Jvm.ClassFile.FieldType.object "java/lang/Object"))).before args0 about1 = true := code_word (m := ⟨25, 3⟩) (meth := k25m3) (c := k25c3) (by decide +kernel) rfl rfl rfl (by decide +kernel)
set_option maxRecDepth 65536 in
theorem w_c33 : (Jvm.Cond.code ({ cls := "com/example/wee_table/weetable/model/GcRule$MaxVersions", name := "expires", desc := "(IJJ)Z" } : Jvm.MethodName) prog_15_method_2_code (6 : Nat) (Option.some Jvm.ClassFile.FieldType.boolean)).before args0 about1 = true := code_word (m := ⟨15, 1⟩) (meth := k15m1) (c := k15c1) (by decide +kernel) rfl rfl rfl (by decide +kernel)
set_option maxRecDepth 65536 in
theorem w_c34 : (Jvm.Cond.code ({ cls := "com/example/wee_table/weetable/model/IntersectionExpiresPinLaw", name := "ref", desc := "(ZII)Z" } : Jvm.MethodName) method_3_code (3 : Nat) (Option.some Jvm.ClassFile.FieldType.boolean)).before args0 about1 = true := code_word (m := ⟨1, 2⟩) (meth := k1m2) (c := k1c2) (by decide +kernel) rfl rfl rfl (by decide +kernel)
set_option maxRecDepth 65536 in
theorem w_c35 : (Jvm.Cond.code ({ cls := "java/util/ImmutableCollections$List12", name := "<init>", desc := "(Ljava/lang/Object;Ljava/lang/Object;)V" } : Jvm.MethodName) jdk_44_method_2_code (3 : Nat) (Option.none : Option Jvm.ClassFile.FieldType)).before args0 about1 = true := code_word (m := ⟨25, 1⟩) (meth := k25m1) (c := k25c1) (by decide +kernel) rfl rfl rfl (by decide +kernel)
set_option maxRecDepth 65536 in
theorem w_c36 : (Jvm.Cond.code ({ cls := "com/example/wee_table/weetable/model/GcRule$None", name := "expires", desc := "(IJJ)Z" } : Jvm.MethodName) prog_16_method_2_code (6 : Nat) (Option.some Jvm.ClassFile.FieldType.boolean)).before args0 about1 = true := code_word (m := ⟨33, 1⟩) (meth := k33m1) (c := k33c1) (by decide +kernel) rfl rfl rfl (by decide +kernel)
set_option maxRecDepth 65536 in
theorem w_c37 : (Jvm.Cond.code ({ cls := "java/util/ImmutableCollections", name := "listFromArray", desc := "([Ljava/lang/Object;)Ljava/util/List;" } : Jvm.MethodName) jdk_56_method_4_code (3 : Nat) (Option.some (Jvm.ClassFile.FieldType.object "java/util/List"))).before args0 about1 = true := code_word (m := ⟨22, 2⟩) (meth := k22m2) (c := k22c2) (by decide +kernel) rfl rfl rfl (by decide +kernel)
set_option maxRecDepth 65536 in
theorem w_c38 : (Jvm.Cond.code ({ cls := "java/util/ImmutableCollections$ListN", name := "<init>", desc := "([Ljava/lang/Object;Z)V" } : Jvm.MethodName) jdk_45_method_1_code (3 : Nat) (Option.none : Option Jvm.ClassFile.FieldType)).before args0 about1 = true := code_word (m := ⟨26, 0⟩) (meth := k26m0) (c := k26c0) (by decide +kernel) rfl rfl rfl (by decide +kernel)
set_option maxRecDepth 65536 in
theorem w_c39 : (Jvm.Cond.code ({ cls := "java/util/ImmutableCollections$ListN", name := "size", desc := "()I" } : Jvm.MethodName) jdk_45_method_3_code (1 : Nat) (Option.some Jvm.ClassFile.FieldType.int)).before args0 about1 = true := code_word (m := ⟨26, 1⟩) (meth := k26m1) (c := k26c1) (by decide +kernel) rfl rfl rfl (by decide +kernel)
set_option maxRecDepth 65536 in
theorem w_c40 : (Jvm.Cond.code ({ cls := "java/util/ImmutableCollections$ListN", name := "get", desc := "(I)Ljava/lang/Object;" } : Jvm.MethodName) jdk_45_method_4_code (2 : Nat) (Option.some (Jvm.ClassFile.FieldType.object "java/lang/Object"))).before args0 about1 = true := code_word (m := ⟨26, 2⟩) (meth := k26m2) (c := k26c2) (by decide +kernel) rfl rfl rfl (by decide +kernel)
def codes1 : List Jvm.Cond := [Jvm.Cond.code x code maxLocals ret, Jvm.Cond.code ({ cls := "java/lang/Math", name := "max", desc := "(II)I" } : Jvm.MethodName) jdk_29_method_65_code (2 : Nat) (Option.some Jvm.ClassFile.FieldType.int), Jvm.Cond.code ({ cls := "java/util/ArrayList", name := "<init>", desc := "()V" } : Jvm.MethodName) jdk_38_method_2_code (1 : Nat) (Option.none : Option Jvm.ClassFile.FieldType), Jvm.Cond.code ({ cls := "java/util/AbstractList", name := "<init>", desc := "()V" } : Jvm.MethodName) jdk_39_method_1_code (1 : Nat) (Option.none : Option Jvm.ClassFile.FieldType), Jvm.Cond.code ({ cls := "java/util/AbstractCollection", name := "<init>", desc := "()V" } : Jvm.MethodName) jdk_22_method_1_code (1 : Nat) (Option.none : Option Jvm.ClassFile.FieldType), Jvm.Cond.code ({ cls := "java/lang/Object", name := "<init>", desc := "()V" } : Jvm.MethodName) object_method_1_code (1 : Nat) (Option.none : Option Jvm.ClassFile.FieldType), Jvm.Cond.code ({ cls := "com/example/wee_table/weetable/model/IntersectionExpiresPinLaw", name := "rule", desc := "(ZI)Lcom/example/wee_table/weetable/model/GcRule;" } : Jvm.MethodName) method_2_code (2 : Nat) (Option.some (Jvm.ClassFile.FieldType.object "com/example/wee_table/weetable/model/GcRule")), Jvm.Cond.code ({ cls := "com/example/wee_table/weetable/model/GcRule$MaxVersions", name := "<init>", desc := "(I)V" } : Jvm.MethodName) prog_15_method_1_code (2 : Nat) (Option.none : Option Jvm.ClassFile.FieldType), Jvm.Cond.code ({ cls := "java/lang/Record", name := "<init>", desc := "()V" } : Jvm.MethodName) jdk_30_method_1_code (1 : Nat) (Option.none : Option Jvm.ClassFile.FieldType), Jvm.Cond.code ({ cls := "java/util/ArrayList", name := "add", desc := "(Ljava/lang/Object;)Z" } : Jvm.MethodName) jdk_38_method_25_code (2 : Nat) (Option.some Jvm.ClassFile.FieldType.boolean), Jvm.Cond.code ({ cls := "java/util/ArrayList", name := "add", desc := "(Ljava/lang/Object;[Ljava/lang/Object;I)V" } : Jvm.MethodName) jdk_38_method_24_code (4 : Nat) (Option.none : Option Jvm.ClassFile.FieldType), Jvm.Cond.code ({ cls := "java/util/ArrayList", name := "grow", desc := "()[Ljava/lang/Object;" } : Jvm.MethodName) jdk_38_method_7_code (1 : Nat) (Option.some (Jvm.ClassFile.FieldType.array (Jvm.ClassFile.FieldType.object "java/lang/Object"))), Jvm.Cond.code ({ cls := "java/util/ArrayList", name := "grow", desc := "(I)[Ljava/lang/Object;" } : Jvm.MethodName) jdk_38_method_6_code (4 : Nat) (Option.some (Jvm.ClassFile.FieldType.array (Jvm.ClassFile.FieldType.object "java/lang/Object"))), Jvm.Cond.code ({ cls := "com/example/wee_table/weetable/model/GcRule$Intersection", name := "<init>", desc := "(Ljava/util/List;)V" } : Jvm.MethodName) prog_13_method_1_code (2 : Nat) (Option.none : Option Jvm.ClassFile.FieldType), Jvm.Cond.code ({ cls := "com/example/wee_table/weetable/model/GcRule", name := "nonEmptyCopy", desc := "(Ljava/util/List;Ljava/lang/String;)Ljava/util/List;" } : Jvm.MethodName) prog_12_method_2_code (2 : Nat) (Option.some (Jvm.ClassFile.FieldType.object "java/util/List")), Jvm.Cond.code ({ cls := "java/util/ArrayList", name := "isEmpty", desc := "()Z" } : Jvm.MethodName) jdk_38_method_9_code (1 : Nat) (Option.some Jvm.ClassFile.FieldType.boolean), Jvm.Cond.code ({ cls := "java/util/List", name := "copyOf", desc := "(Ljava/util/Collection;)Ljava/util/List;" } : Jvm.MethodName) jdk_40_method_48_code (1 : Nat) (Option.some (Jvm.ClassFile.FieldType.object "java/util/List")), Jvm.Cond.code ({ cls := "java/util/ImmutableCollections", name := "listCopy", desc := "(Ljava/util/Collection;)Ljava/util/List;" } : Jvm.MethodName) jdk_56_method_3_code (2 : Nat) (Option.some (Jvm.ClassFile.FieldType.object "java/util/List")), Jvm.Cond.code ({ cls := "java/util/ArrayList", name := "toArray", desc := "()[Ljava/lang/Object;" } : Jvm.MethodName) jdk_38_method_16_code (1 : Nat) (Option.some (Jvm.ClassFile.FieldType.array (Jvm.ClassFile.FieldType.object "java/lang/Object"))), Jvm.Cond.code ({ cls := "java/util/Arrays", name := "copyOf", desc := "([Ljava/lang/Object;I)[Ljava/lang/Object;" } : Jvm.MethodName) jdk_65_method_119_code (2 : Nat) (Option.some (Jvm.ClassFile.FieldType.array (Jvm.ClassFile.FieldType.object "java/lang/Object"))), Jvm.Cond.code ({ cls := "java/util/Arrays", name := "copyOf", desc := "([Ljava/lang/Object;ILjava/lang/Class;)[Ljava/lang/Object;" } : Jvm.MethodName) jdk_65_method_120_code (4 : Nat) (Option.some (Jvm.ClassFile.FieldType.array (Jvm.ClassFile.FieldType.object "java/lang/Object"))), Jvm.Cond.code ({ cls := "java/lang/Math", name := "min", desc := "(II)I" } : Jvm.MethodName) jdk_29_method_69_code (2 : Nat) (Option.some Jvm.ClassFile.FieldType.int), Jvm.Cond.code ({ cls := "java/util/List", name := "of", desc := "([Ljava/lang/Object;)Ljava/util/List;" } : Jvm.MethodName) jdk_40_method_47_code (2 : Nat) (Option.some (Jvm.ClassFile.FieldType.object "java/util/List")), Jvm.Cond.code ({ cls := "java/util/ImmutableCollections$List12", name := "<init>", desc := "(Ljava/lang/Object;)V" } : Jvm.MethodName) jdk_44_method_1_code (2 : Nat) (Option.none : Option Jvm.ClassFile.FieldType), Jvm.Cond.code ({ cls := "java/util/ImmutableCollections$AbstractImmutableList", name := "<init>", desc := "()V" } : Jvm.MethodName) jdk_46_method_1_code (1 : Nat) (Option.none : Option Jvm.ClassFile.FieldType), Jvm.Cond.code ({ cls := "java/util/ImmutableCollections$AbstractImmutableCollection", name := "<init>", desc := "()V" } : Jvm.MethodName) jdk_47_method_1_code (1 : Nat) (Option.none : Option Jvm.ClassFile.FieldType), Jvm.Cond.code ({ cls := "java/util/Objects", name := "requireNonNull", desc := "(Ljava/lang/Object;)Ljava/lang/Object;" } : Jvm.MethodName) jdk_31_method_10_code (1 : Nat) (Option.some (Jvm.ClassFile.FieldType.object "java/lang/Object")), Jvm.Cond.code ({ cls := "com/example/wee_table/weetable/model/GcRule$Intersection", name := "expires", desc := "(IJJ)Z" } : Jvm.MethodName) prog_13_method_2_code (8 : Nat) (Option.some Jvm.ClassFile.FieldType.boolean), Jvm.Cond.code ({ cls := "java/util/ImmutableCollections$AbstractImmutableList", name := "iterator", desc := "()Ljava/util/Iterator;" } : Jvm.MethodName) jdk_46_method_10_code (1 : Nat) (Option.some (Jvm.ClassFile.FieldType.object "java/util/Iterator")), Jvm.Cond.code ({ cls := "java/util/ImmutableCollections$List12", name := "size", desc := "()I" } : Jvm.MethodName) jdk_44_method_3_code (1 : Nat) (Option.some Jvm.ClassFile.FieldType.int), Jvm.Cond.code ({ cls := "java/util/ImmutableCollections$ListItr", name := "<init>", desc := "(Ljava/util/List;I)V" } : Jvm.MethodName) jdk_53_method_1_code (3 : Nat) (Option.none : Option Jvm.ClassFile.FieldType), Jvm.Cond.code ({ cls := "java/util/ImmutableCollections$ListItr", name := "hasNext", desc := "()Z" } : Jvm.MethodName) jdk_53_method_3_code (1 : Nat) (Option.some Jvm.ClassFile.FieldType.boolean), Jvm.Cond.code ({ cls := "java/util/ImmutableCollections$List12", name := "get", desc := "(I)Ljava/lang/Object;" } : Jvm.MethodName) jdk_44_method_5_code (2 : Nat) (Option.some (Jvm.ClassFile.FieldType.object "java/lang/Object")), Jvm.Cond.code ({ cls := "com/example/wee_table/weetable/model/GcRule$MaxVersions", name := "expires", desc := "(IJJ)Z" } : Jvm.MethodName) prog_15_method_2_code (6 : Nat) (Option.some Jvm.ClassFile.FieldType.boolean), Jvm.Cond.code ({ cls := "com/example/wee_table/weetable/model/IntersectionExpiresPinLaw", name := "ref", desc := "(ZII)Z" } : Jvm.MethodName) method_3_code (3 : Nat) (Option.some Jvm.ClassFile.FieldType.boolean), Jvm.Cond.code ({ cls := "java/util/ImmutableCollections$List12", name := "<init>", desc := "(Ljava/lang/Object;Ljava/lang/Object;)V" } : Jvm.MethodName) jdk_44_method_2_code (3 : Nat) (Option.none : Option Jvm.ClassFile.FieldType), Jvm.Cond.code ({ cls := "com/example/wee_table/weetable/model/GcRule$None", name := "expires", desc := "(IJJ)Z" } : Jvm.MethodName) prog_16_method_2_code (6 : Nat) (Option.some Jvm.ClassFile.FieldType.boolean), Jvm.Cond.code ({ cls := "java/util/ImmutableCollections", name := "listFromArray", desc := "([Ljava/lang/Object;)Ljava/util/List;" } : Jvm.MethodName) jdk_56_method_4_code (3 : Nat) (Option.some (Jvm.ClassFile.FieldType.object "java/util/List")), Jvm.Cond.code ({ cls := "java/util/ImmutableCollections$ListN", name := "<init>", desc := "([Ljava/lang/Object;Z)V" } : Jvm.MethodName) jdk_45_method_1_code (3 : Nat) (Option.none : Option Jvm.ClassFile.FieldType), Jvm.Cond.code ({ cls := "java/util/ImmutableCollections$ListN", name := "size", desc := "()I" } : Jvm.MethodName) jdk_45_method_3_code (1 : Nat) (Option.some Jvm.ClassFile.FieldType.int), Jvm.Cond.code ({ cls := "java/util/ImmutableCollections$ListN", name := "get", desc := "(I)Ljava/lang/Object;" } : Jvm.MethodName) jdk_45_method_4_code (2 : Nat) (Option.some (Jvm.ClassFile.FieldType.object "java/lang/Object"))]
set_option maxRecDepth 65536 in
theorem codes_eq : words1.filter isCode = codes1 := rfl
theorem w_codes : ∀ c ∈ words1.filter isCode, c.before args0 about1 = true := by
  rw [codes_eq]
  intro c hc
  simp only [codes1, List.mem_cons, List.not_mem_nil, or_false] at hc
  rcases hc with rfl | rfl | rfl | rfl | rfl | rfl | rfl | rfl | rfl | rfl | rfl | rfl | rfl | rfl | rfl | rfl | rfl | rfl | rfl | rfl | rfl | rfl | rfl | rfl | rfl | rfl | rfl | rfl | rfl | rfl | rfl | rfl | rfl | rfl | rfl | rfl | rfl | rfl | rfl | rfl | rfl
  · exact w_c0
  · exact w_c1
  · exact w_c2
  · exact w_c3
  · exact w_c4
  · exact w_c5
  · exact w_c6
  · exact w_c7
  · exact w_c8
  · exact w_c9
  · exact w_c10
  · exact w_c11
  · exact w_c12
  · exact w_c13
  · exact w_c14
  · exact w_c15
  · exact w_c16
  · exact w_c17
  · exact w_c18
  · exact w_c19
  · exact w_c20
  · exact w_c21
  · exact w_c22
  · exact w_c23
  · exact w_c24
  · exact w_c25
  · exact w_c26
  · exact w_c27
  · exact w_c28
  · exact w_c29
  · exact w_c30
  · exact w_c31
  · exact w_c32
  · exact w_c33
  · exact w_c34
  · exact w_c35
  · exact w_c36
  · exact w_c37
  · exact w_c38
  · exact w_c39
  · exact w_c40
set_option maxRecDepth 65536 in
theorem w_t1 : (words1.take 24).all (fun c => isCode c || c.before args0 about1) = true := by decide +kernel
set_option maxRecDepth 65536 in
theorem w_t2 : ((words1.drop 24).take 24).all (fun c => isCode c || c.before args0 about1) = true := by decide +kernel
set_option maxRecDepth 65536 in
theorem w_t3 : (((words1.drop 24).drop 24).take 24).all (fun c => isCode c || c.before args0 about1) = true := by decide +kernel
set_option maxRecDepth 65536 in
theorem w_t4 : ((((words1.drop 24).drop 24).drop 24).take 24).all (fun c => isCode c || c.before args0 about1) = true := by decide +kernel
set_option maxRecDepth 65536 in
theorem w_t5 : (((((words1.drop 24).drop 24).drop 24).drop 24).take 24).all (fun c => isCode c || c.before args0 about1) = true := by decide +kernel
set_option maxRecDepth 65536 in
theorem w_t6 : ((((((words1.drop 24).drop 24).drop 24).drop 24).drop 24).take 24).all (fun c => isCode c || c.before args0 about1) = true := by decide +kernel
set_option maxRecDepth 65536 in
theorem w_t7 : (((((((words1.drop 24).drop 24).drop 24).drop 24).drop 24).drop 24).take 24).all (fun c => isCode c || c.before args0 about1) = true := by decide +kernel
set_option maxRecDepth 65536 in
theorem w_t8 : ((((((((words1.drop 24).drop 24).drop 24).drop 24).drop 24).drop 24).drop 24).take 24).all (fun c => isCode c || c.before args0 about1) = true := by decide +kernel
set_option maxRecDepth 65536 in
theorem w_t9 : (((((((((words1.drop 24).drop 24).drop 24).drop 24).drop 24).drop 24).drop 24).drop 24).take 24).all (fun c => isCode c || c.before args0 about1) = true := by decide +kernel
set_option maxRecDepth 65536 in
theorem w_t10 : ((((((((((words1.drop 24).drop 24).drop 24).drop 24).drop 24).drop 24).drop 24).drop 24).drop 24).take 24).all (fun c => isCode c || c.before args0 about1) = true := by decide +kernel
set_option maxRecDepth 65536 in
theorem w_t11 : (((((((((((words1.drop 24).drop 24).drop 24).drop 24).drop 24).drop 24).drop 24).drop 24).drop 24).drop 24).take 24).all (fun c => isCode c || c.before args0 about1) = true := by decide +kernel
set_option maxRecDepth 65536 in
theorem w_t12 : ((((((((((((words1.drop 24).drop 24).drop 24).drop 24).drop 24).drop 24).drop 24).drop 24).drop 24).drop 24).drop 24).take 24).all (fun c => isCode c || c.before args0 about1) = true := by decide +kernel
set_option maxRecDepth 65536 in
theorem w_t13 : ((((((((((((words1.drop 24).drop 24).drop 24).drop 24).drop 24).drop 24).drop 24).drop 24).drop 24).drop 24).drop 24).drop 24).all (fun c => isCode c || c.before args0 about1) = true := by decide +kernel
theorem w_tables : (allAtoms (Jvm.Cond.code x code maxLocals ret :: tables_1)).before args0 about1 = true := by
  rw [allAtoms_all]
  show words1.all (fun c => c.before args0 about1) = true
  refine all_split ?_ w_codes
  rw [← List.take_append_drop 24 words1, List.all_append, w_t1, ← List.take_append_drop 24 (words1.drop 24), List.all_append, w_t2, ← List.take_append_drop 24 ((words1.drop 24).drop 24), List.all_append, w_t3, ← List.take_append_drop 24 (((words1.drop 24).drop 24).drop 24), List.all_append, w_t4, ← List.take_append_drop 24 ((((words1.drop 24).drop 24).drop 24).drop 24), List.all_append, w_t5, ← List.take_append_drop 24 (((((words1.drop 24).drop 24).drop 24).drop 24).drop 24), List.all_append, w_t6, ← List.take_append_drop 24 ((((((words1.drop 24).drop 24).drop 24).drop 24).drop 24).drop 24), List.all_append, w_t7, ← List.take_append_drop 24 (((((((words1.drop 24).drop 24).drop 24).drop 24).drop 24).drop 24).drop 24), List.all_append, w_t8, ← List.take_append_drop 24 ((((((((words1.drop 24).drop 24).drop 24).drop 24).drop 24).drop 24).drop 24).drop 24), List.all_append, w_t9, ← List.take_append_drop 24 (((((((((words1.drop 24).drop 24).drop 24).drop 24).drop 24).drop 24).drop 24).drop 24).drop 24), List.all_append, w_t10, ← List.take_append_drop 24 ((((((((((words1.drop 24).drop 24).drop 24).drop 24).drop 24).drop 24).drop 24).drop 24).drop 24).drop 24), List.all_append, w_t11, ← List.take_append_drop 24 (((((((((((words1.drop 24).drop 24).drop 24).drop 24).drop 24).drop 24).drop 24).drop 24).drop 24).drop 24).drop 24), List.all_append, w_t12, w_t13]
  rfl
set_option maxRecDepth 65536 in
theorem w_rest : rest_1_c.before args0 about1 = true := by decide +kernel
set_option maxRecDepth 65536 in
theorem w_case : (Jvm.Cond.and given_1 narrow_1).before args0 about1 = true := by decide +kernel
theorem w_applies : (headSpec (Jvm.Cond.code x code maxLocals ret :: tables_1) room_1).applies x e0.platform about1 = true :=
  (Spec.applies_iff w_frames).mpr ⟨w_running, w_runnable, w_alone, w_named, w_hears, w_ripe, w_room, w_tables⟩
theorem atStart : AtStart classFile x code maxLocals ret World_1 tables_1 room_1 Calls_1 rest_1 Pre_1 launch0 p0 e0 about1 theMethod args0 below0 :=
  ⟨lists_1, trivial, launch0.admits_env _ _ _, launch0.least_env, fairChoices_fair.cas, fairChoices_fair.clock, w_frames, w_args, w_heap, w_applies, ⟨⟨39, k39, 3, by decide +kernel, rfl, rfl, _, rfl, rfl⟩, trivial⟩, w_rest, w_case⟩
end start1
theorem witness_1 : WitnessClaimed_1 := ⟨start1.p0, start1.e0, start1.about1, start1.theMethod, start1.args0, start1.below0, start1.atStart⟩
end Jvm.Pilot.@@N@@
