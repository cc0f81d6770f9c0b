import JvmDerived
import JvmDerived.Pilot.@@N@@Statement
import JvmDerived.Pilot.@@N@@Code
set_option linter.unusedVariables false
set_option linter.unusedSimpArgs false
namespace Jvm.RoadKit
open Sem ClassFile Op Lib Jvm.Stand Jvm.Free Jvm.LawKit
section New
variable {p : Program} {l : Launch} {e : Env} {R : Room} {s : State} {m : MethodId} {args : Array Value} {below : List Frame} {meth : Method} {c : Code} {T : State} {locs : List Loc} {cells slots : Nat}
theorem retI (X : Stand p l e R s m args below meth c T locs cells slots) (hx : p.tables.exec = Jvm.exec) {pc : Nat} {Ls : Array Slot} {z : Int32} {rest : List Value} (hret : meth.sig.returnType = some .int) (hd : decode c.code pc = .ok (.ireturn, 1)) {fs : List Frame}
    (hl : ∀ (f : JFrame) (acts : List Action), f.method = m → f.locked = none → f.entered = [] → (doReturn e (T.setTop f) acts (some (.int z))).1 = T.setFrames fs) : Steps p.tables e below (T.setTop (mkF m pc Ls (.int z :: rest))) (T.setFrames fs) := by
  have hm' : T.vm.method? m = some meth := X.method'
  have hn : narrow .int (.int z) = .int z := rfl
  show Steps p.tables e below (T.setTop { method := m, pc := pc, locals := Ls, stack := _ :: rest, locked := none }) _
  jvm_step X.here [X.here.top, hx, hd, hm', hret, hn]
  first | (intro acts; rw [hl _ acts rfl rfl rfl]) | rw [hl _ _ rfl rfl rfl]
  exact Steps.refl _
end New
end Jvm.RoadKit
/- laws to paste: Road.backV, Road.eqW, Road.codOf (cut by pick.py; bodies as the Statement names them) -/
namespace Jvm.Pilot.@@N@@
namespace StrChars
open Jvm Sem ClassFile Op Lib Jvm.Stand Jvm.Free.XT Jvm.Free.ALB Jvm.Free.JM Jvm.Free
open Jvm.Lib.Cold (StaticIs)
/-- a char array whose places are chars -/
def Ch (a : Addr) (A : Cell) (U : State) : Prop := Arr .char a A U ∧ Typed .char A
theorem Ch.mv {a : Addr} {A : Cell} {U U' : State} (h : Ch a A U) (hal : U.vm.Alike U'.vm) (hh : U'.heap = U.heap) : Ch a A U' := ⟨h.1.mv hal hh, h.2⟩
theorem Ch.keep {a : Addr} {A : Cell} {U U' : State} (h : Ch a A U) (hal : U.vm.Alike U'.vm) (hk : U'.heap[a]? = some A) : Ch a A U' := ⟨h.1.keep hal hk, h.2⟩
/-- what place i of a char[]'s cell holds -/
def cv (A : Cell) (i : Nat) : Int32 := match A.slots[i]? with | some (.int x) => x | _ => 0
theorem Ch.get {a : Addr} {A : Cell} {U : State} (h : Ch a A U) {i : Nat} (hi : i < A.slots.size) : A.slots[i]? = some (.int (cv A i)) := by
  have e := Array.getElem?_eq_getElem hi
  have f := h.2 i _ e
  unfold cv; rw [e]
  generalize A.slots[i] = v at f
  cases v <;> simp [fits] at f ⊢
/-- the byte that i2b leaves of a char -/
def lo8 (x : Int32) : Int32 := x.toInt8.toInt32
theorem fits_lo8 (y : Int32) : fits .byte (.int (lo8 y)) = true := by
  have h1 := y.toInt8.le_toInt
  have h2 := y.toInt8.toInt_lt
  simp only [lo8, fits, Bool.and_eq_true, decide_eq_true_eq, Int32.le_iff_toInt_le, Int8.toInt_toInt32, show (-128 : Int32).toInt = -128 from by decide, show (127 : Int32).toInt = 127 from by decide]
  omega
/-- A' is A but that each place j of lo .. hi - 1 holds f j -/
def Laid (A A' : Cell) (lo hi : Nat) (f : Nat → Value) : Prop := A'.cls = A.cls ∧ A'.vm = A.vm ∧ A'.slots.size = A.slots.size ∧ ∀ i, A'.slots[i]? = if lo ≤ i ∧ i < hi then some (f i) else A.slots[i]?
theorem Laid.zero (A : Cell) (lo : Nat) (f : Nat → Value) : Laid A A lo (lo + 0) f := ⟨rfl, rfl, rfl, fun i => by rw [if_neg (by omega)]⟩
theorem Laid.step {A Ak : Cell} {lo k : Nat} {f : Nat → Value} {v : Value} (h : Laid A Ak lo k f) (hlo : lo ≤ k) (hk : k < Ak.slots.size) (hv : v = f k) : Laid A (Ak.setSlot k v) lo (k + 1) f := by
  refine ⟨h.1, h.2.1, by simpa [Cell.setSlot] using h.2.2.1, fun i => ?_⟩
  by_cases e : k = i
  · subst e; rw [Cell.slots_setSlot_self v hk, if_pos (by omega), hv]
  · rw [Cell.slots_setSlot_ne v e, h.2.2.2 i]
    by_cases q : lo ≤ i ∧ i < k
    · rw [if_pos q, if_pos (by omega)]
    · rw [if_neg q, if_neg (by omega)]
def U16 : String := "java/lang/StringUTF16"
namespace Cmp5
def yN : MethodName := ⟨"java/lang/StringUTF16", "compress", "([CI[BII)I"⟩
abbrev yB : ByteArray := jdk_52_method_21_code
theorem d0 : decode yB 0 = .ok (.iconst 0, 1) := by decide +kernel
theorem d1 : decode yB 1 = .ok (.istore 5, 2) := by decide +kernel
theorem d3 : decode yB 3 = .ok (.iload 5, 2) := by decide +kernel
theorem d5 : decode yB 5 = .ok (.iload 4, 2) := by decide +kernel
theorem d7 : decode yB 7 = .ok (.if_icmp (.ge) 37, 3) := by decide +kernel
theorem d10 : decode yB 10 = .ok (.aload_n 0, 1) := by decide +kernel
theorem d11 : decode yB 11 = .ok (.iload_n 1, 1) := by decide +kernel
theorem d12 : decode yB 12 = .ok (.caload, 1) := by decide +kernel
theorem d13 : decode yB 13 = .ok (.istore 6, 2) := by decide +kernel
theorem d15 : decode yB 15 = .ok (.iload 6, 2) := by decide +kernel
theorem d17 : decode yB 17 = .ok (.sipush 255, 3) := by decide +kernel
theorem d20 : decode yB 20 = .ok (.if_icmp (.le) 6, 3) := by decide +kernel
theorem d26 : decode yB 26 = .ok (.aload_n 2, 1) := by decide +kernel
theorem d27 : decode yB 27 = .ok (.iload_n 3, 1) := by decide +kernel
theorem d28 : decode yB 28 = .ok (.iload 6, 2) := by decide +kernel
theorem d30 : decode yB 30 = .ok (.i2b, 1) := by decide +kernel
theorem d31 : decode yB 31 = .ok (.bastore, 1) := by decide +kernel
theorem d32 : decode yB 32 = .ok (.iinc 1 1, 3) := by decide +kernel
theorem d35 : decode yB 35 = .ok (.iinc 3 1, 3) := by decide +kernel
theorem d38 : decode yB 38 = .ok (.iinc 5 1, 3) := by decide +kernel
theorem d41 : decode yB 41 = .ok (.goto (-38), 3) := by decide +kernel
theorem d44 : decode yB 44 = .ok (.iload 4, 2) := by decide +kernel
theorem d46 : decode yB 46 = .ok (.ireturn, 1) := by decide +kernel
def site : List Cond := []
def tab : Cond := tabOf yN yB 7 (some .int) site
def P (b : Addr) (A : Cell) (d : Addr) (B : Cell) (o q len : Nat) (args : Array Value) (s : State) : Prop := args = #[.ref b, .int (Int32.ofNat o), .ref d, .int (Int32.ofNat q), .int (Int32.ofNat len)] ∧ Ch b A s ∧ Arr .byte d B s ∧ b ≠ d ∧ o + len ≤ A.slots.size ∧ q + len ≤ B.slots.size ∧ ∀ i, i < len → ¬ 255 < cv A (o + i)
def E (b : Addr) (A : Cell) (d : Addr) (B : Cell) (o q len : Nat) (r : Option Value) (s u : State) : Prop := r = some (.int (Int32.ofNat len)) ∧ ∃ B', Put d B' s u ∧ Laid B B' q (q + len) (fun j => Value.int (lo8 (cv A (o + (j - q)))))
/-- no char of the range above 255: len; the places written hold each char's low byte -/
theorem law (l : Launch) (b : Addr) (A : Cell) (d : Addr) (B : Cell) (o q len : Nat) : Law l yN 5 5 0 0 yB 7 (some .int) site (P b A d B o q len) (E b A d B o q len) (copyLocs d q len) 0 0 := by
  refine Law.of_walk (plainFor_of_name (by decide +kernel)) (by decide +kernel) (by decide +kernel) (by decide) (fun _ _ h => by rw [h.1]; rfl) (fun _ U U' hal hh h => ⟨h.1, h.2.1.mv hal hh, h.2.2.1.mv hal hh, h.2.2.2⟩) (fun r U U' V V' h1 hal h2 h => ⟨h.1, h.2.elim fun B' q => ⟨B', q.1.mv h1 h2, q.2⟩⟩) ?_
  intro p e s m args below meth c s₁ X0 hexec hbytes hml hret hlk hnm hown hh0 W hP
  obtain ⟨rfl, hA, hB, hne, l1, l2, hp⟩ := hP
  have c1 : Steps p.tables e below (s₁.setTop (entryFrame m #[.ref b, .int (Int32.ofNat o), .ref d, .int (Int32.ofNat q), .int (Int32.ofNat len)] 7)) (s₁.setTop (mkF m 0 #[.val (.ref b), .val (.int (Int32.ofNat o)), .val (.ref d), .val (.int (Int32.ofNat q)), .val (.int (Int32.ofNat len)), .unset, .unset] [])) := entry rfl
  have hA0 := hA.1.mv X0.warmed.alike hh0
  have hB0 := hB.mv X0.warmed.alike hh0
  have a31 := hA.1.2.2.2
  have c2 : Steps p.tables e below (s₁.setTop (entryFrame m #[.ref b, .int (Int32.ofNat o), .ref d, .int (Int32.ofNat q), .int (Int32.ofNat len)] 7)) (s₁.setTop (mkF m 3 #[.val (.ref b), .val (.int (Int32.ofNat o)), .val (.ref d), .val (.int (Int32.ofNat q)), .val (.int (Int32.ofNat len)), .val (.int 0), .unset] [])) := c1.trans (by
    refine iconstV X0.here hexec rfl 0 (hb hbytes d0) (by decide) ?_
    refine XS.istore X0.here hexec rfl (hb hbytes d1) rfl rfl ?_
    exact Steps.refl _)
  have loop : ∀ (r i : Nat), i + r = len → ∀ (z : Slot), (z = .unset ∨ ∃ w, z = .val w ∧ w.category = 1) → ∀ (Tl : State) (Bk : Cell), Stand p l e { frames := 0, locals := 0, cells := 0, slots := 0 } s m #[.ref b, .int (Int32.ofNat o), .ref d, .int (Int32.ofNat q), .int (Int32.ofNat len)] below meth c Tl ([] ++ copyLocs d q i) 0 0 → Put d Bk s₁ Tl → Laid B Bk q (q + i) (fun j => Value.int (lo8 (cv A (o + (j - q))))) →
      Steps p.tables e below (s₁.setTop (entryFrame m #[.ref b, .int (Int32.ofNat o), .ref d, .int (Int32.ofNat q), .int (Int32.ofNat len)] 7)) (Tl.setTop (mkF m 3 #[.val (.ref b), .val (.int (Int32.ofNat (o + i))), .val (.ref d), .val (.int (Int32.ofNat (q + i))), .val (.int (Int32.ofNat len)), .val (.int (Int32.ofNat i)), z] [])) → ∃ (T' : State) (B' : Cell) (z' : Slot), Stand p l e { frames := 0, locals := 0, cells := 0, slots := 0 } s m #[.ref b, .int (Int32.ofNat o), .ref d, .int (Int32.ofNat q), .int (Int32.ofNat len)] below meth c T' ([] ++ copyLocs d q len) 0 0 ∧ Put d B' s₁ T' ∧ Laid B B' q (q + len) (fun j => Value.int (lo8 (cv A (o + (j - q))))) ∧
      Steps p.tables e below (s₁.setTop (entryFrame m #[.ref b, .int (Int32.ofNat o), .ref d, .int (Int32.ofNat q), .int (Int32.ofNat len)] 7)) (T'.setTop (mkF m 3 #[.val (.ref b), .val (.int (Int32.ofNat (o + len))), .val (.ref d), .val (.int (Int32.ofNat (q + len))), .val (.int (Int32.ofNat len)), .val (.int (Int32.ofNat len)), z'] [])) := by
    intro r
    induction r with
    | zero =>
      intro i hi z hz Tl Bk Xl pl fl cl
      have hil : i = len := by omega
      rw [hil] at Xl fl cl
      exact ⟨Tl, Bk, z, Xl, pl, fl, cl⟩
    | succ r ih =>
      intro i hi z hz Tl Bk Xl pl fl cl
      have all := X0.warmed.alike.symm.trans Xl.warmed.alike
      have hAl := hA0.keep all (pl.other hne hA0.1)
      have hBk := hB0.like all pl.1 fl.1 fl.2.1 fl.2.2.1
      have hlt : q + i < Bk.slots.size := by rw [fl.2.2.1]; omega
      have c3 : Steps p.tables e below (s₁.setTop (entryFrame m #[.ref b, .int (Int32.ofNat o), .ref d, .int (Int32.ofNat q), .int (Int32.ofNat len)] 7)) (Tl.setTop (mkF m 12 #[.val (.ref b), .val (.int (Int32.ofNat (o + i))), .val (.ref d), .val (.int (Int32.ofNat (q + i))), .val (.int (Int32.ofNat len)), .val (.int (Int32.ofNat i)), z] [.int (Int32.ofNat (o + i)), .ref b])) := cl.trans (by
        refine XS.iload Xl.here hexec rfl (hb hbytes d3) rfl ?_
        refine XS.iload Xl.here hexec rfl (hb hbytes d5) rfl ?_
        refine XS.icmpNo Xl.here hexec rfl (hb hbytes d7) rfl (ii_ge_f (lt32 (by omega) (by omega))) ?_
        refine XS.aloadN Xl.here hexec rfl (hb hbytes d10) rfl rfl ?_
        refine XS.iloadN Xl.here hexec rfl (hb hbytes d11) rfl ?_
        exact Steps.refl _)
      have c4 : Steps p.tables e below (s₁.setTop (entryFrame m #[.ref b, .int (Int32.ofNat o), .ref d, .int (Int32.ofNat q), .int (Int32.ofNat len)] 7)) (Tl.setTop (mkF m 13 #[.val (.ref b), .val (.int (Int32.ofNat (o + i))), .val (.ref d), .val (.int (Int32.ofNat (q + i))), .val (.int (Int32.ofNat len)), .val (.int (Int32.ofNat i)), z] [.int (cv A (o + i))])) := c3.trans (by
        refine Xl.aget hexec hAl rfl (hA.get (i := o + i) (by omega)) rfl rfl (hb hbytes d12) ?_
        exact Steps.refl _)
      have c5 : Steps p.tables e below (s₁.setTop (entryFrame m #[.ref b, .int (Int32.ofNat o), .ref d, .int (Int32.ofNat q), .int (Int32.ofNat len)] 7)) (Tl.setTop (mkF m 15 #[.val (.ref b), .val (.int (Int32.ofNat (o + i))), .val (.ref d), .val (.int (Int32.ofNat (q + i))), .val (.int (Int32.ofNat len)), .val (.int (Int32.ofNat i)), .val (.int (cv A (o + i)))] [])) := c4.trans (by
        refine XS.istoreS Xl.here hexec rfl (hb hbytes d13) rfl rfl hz ?_
        exact Steps.refl _)
      have c6 : Steps p.tables e below (s₁.setTop (entryFrame m #[.ref b, .int (Int32.ofNat o), .ref d, .int (Int32.ofNat q), .int (Int32.ofNat len)] 7)) (Tl.setTop (mkF m 31 #[.val (.ref b), .val (.int (Int32.ofNat (o + i))), .val (.ref d), .val (.int (Int32.ofNat (q + i))), .val (.int (Int32.ofNat len)), .val (.int (Int32.ofNat i)), .val (.int (cv A (o + i)))] [.int (lo8 (cv A (o + i))), .int (Int32.ofNat (q + i)), .ref d])) := c5.trans (by
        refine XS.iload Xl.here hexec rfl (hb hbytes d15) rfl ?_
        refine sipushV Xl.here hexec rfl 255 (hb hbytes d17) (by decide) ?_
        refine XS.icmpYes Xl.here hexec rfl (pc0 := 20) rfl (hb hbytes d20) rfl (ii_le_t (hp i (by omega))) (by decide) rfl ?_
        refine XS.aloadN Xl.here hexec rfl (hb hbytes d26) rfl rfl ?_
        refine XS.iloadN Xl.here hexec rfl (hb hbytes d27) rfl ?_
        refine XS.iload Xl.here hexec rfl (hb hbytes d28) rfl ?_
        refine i2b Xl.here hexec rfl (hb hbytes d30) rfl ?_
        exact Steps.refl _)
      obtain ⟨T7, X7, p7, st7⟩ := Xl.aput hexec hBk rfl hlt rfl (fits_lo8 (cv A (o + i))) (g := (mkF m 31 #[.val (.ref b), .val (.int (Int32.ofNat (o + i))), .val (.ref d), .val (.int (Int32.ofNat (q + i))), .val (.int (Int32.ofNat len)), .val (.int (Int32.ofNat i)), .val (.int (cv A (o + i)))] [.int (lo8 (cv A (o + i))), .int (Int32.ofNat (q + i)), .ref d])) rfl (rest := []) rfl (hb hbytes d31)
      have c8 : Steps p.tables e below (s₁.setTop (entryFrame m #[.ref b, .int (Int32.ofNat o), .ref d, .int (Int32.ofNat q), .int (Int32.ofNat len)] 7)) (T7.setTop (mkF m 32 #[.val (.ref b), .val (.int (Int32.ofNat (o + i))), .val (.ref d), .val (.int (Int32.ofNat (q + i))), .val (.int (Int32.ofNat len)), .val (.int (Int32.ofNat i)), .val (.int (cv A (o + i)))] [])) := c6.trans (st7 _ (Steps.refl _))
      have c9 : Steps p.tables e below (s₁.setTop (entryFrame m #[.ref b, .int (Int32.ofNat o), .ref d, .int (Int32.ofNat q), .int (Int32.ofNat len)] 7)) (T7.setTop (mkF m 3 #[.val (.ref b), .val (.int (Int32.ofNat (o + i) + 1)), .val (.ref d), .val (.int (Int32.ofNat (q + i) + 1)), .val (.int (Int32.ofNat len)), .val (.int (Int32.ofNat i + 1)), .val (.int (cv A (o + i)))] [])) := c8.trans (by
        refine iincV X7.here hexec rfl 1 (hb hbytes d32) (by decide) rfl rfl ?_
        refine iincV X7.here hexec rfl 1 (hb hbytes d35) (by decide) rfl rfl ?_
        refine iincV X7.here hexec rfl 1 (hb hbytes d38) (by decide) rfl rfl ?_
        refine XS.goto X7.here hexec rfl (pc0 := 41) rfl (hb hbytes d41) (by decide) rfl ?_
        exact Steps.refl _)
      have c10 : Steps p.tables e below (s₁.setTop (entryFrame m #[.ref b, .int (Int32.ofNat o), .ref d, .int (Int32.ofNat q), .int (Int32.ofNat len)] 7)) (T7.setTop (mkF m 3 #[.val (.ref b), .val (.int (Int32.ofNat (o + (i + 1)))), .val (.ref d), .val (.int (Int32.ofNat (q + (i + 1)))), .val (.int (Int32.ofNat len)), .val (.int (Int32.ofNat (i + 1))), .val (.int (cv A (o + i)))] [])) := by
        have := c9
        rw [succ32, succ32, succ32] at this
        exact this
      exact ih (i + 1) (by omega) _ (Or.inr ⟨_, rfl, rfl⟩) T7 _ (by rw [copyLocs_step, ← List.append_assoc]; exact X7) (pl.trans p7) (fl.step (by omega) hlt (by simp)) c10
  obtain ⟨T9, B9, z9, X9, p9, f9, g9⟩ := loop len 0 (by omega) .unset (Or.inl rfl) s₁ B (by simpa [copyLocs] using X0) ⟨hB0.1, fun _ _ => rfl, rfl⟩ (Laid.zero _ _ _) c2
  have c11 : Steps p.tables e below (s₁.setTop (entryFrame m #[.ref b, .int (Int32.ofNat o), .ref d, .int (Int32.ofNat q), .int (Int32.ofNat len)] 7)) (T9.setTop (mkF m 46 #[.val (.ref b), .val (.int (Int32.ofNat (o + len))), .val (.ref d), .val (.int (Int32.ofNat (q + len))), .val (.int (Int32.ofNat len)), .val (.int (Int32.ofNat len)), z9] [.int (Int32.ofNat len)])) := g9.trans (by
    refine XS.iload X9.here hexec rfl (hb hbytes d3) rfl ?_
    refine XS.iload X9.here hexec rfl (hb hbytes d5) rfl ?_
    refine XS.icmpYes X9.here hexec rfl (pc0 := 7) rfl (hb hbytes d7) rfl (ii_ge_t (nlt32 (by omega) (Nat.le_refl _))) (by decide) rfl ?_
    refine XS.iload X9.here hexec rfl (hb hbytes d44) rfl ?_
    exact Steps.refl _)
  exact ⟨T9, some (.int (Int32.ofNat len)), _, _, _, X9, by simp, rfl, rfl, (fun h => by cases h), ⟨rfl, B9, p9.from hh0, f9⟩, fun fs hl => c11.trans (X9.ireturnOut hexec hret rfl (Or.inl rfl) (hb hbytes d46) hl)⟩
end Cmp5
namespace Cmp3
def yN : MethodName := ⟨"java/lang/StringUTF16", "compress", "([CII)[B"⟩
abbrev yB : ByteArray := jdk_52_method_16_code
theorem d0 : decode yB 0 = .ok (.iload_n 2, 1) := by decide +kernel
theorem d1 : decode yB 1 = .ok (.newarray .byte, 2) := by decide +kernel
theorem d3 : decode yB 3 = .ok (.astore_n 3, 1) := by decide +kernel
theorem d4 : decode yB 4 = .ok (.aload_n 0, 1) := by decide +kernel
theorem d5 : decode yB 5 = .ok (.iload_n 1, 1) := by decide +kernel
theorem d6 : decode yB 6 = .ok (.aload_n 3, 1) := by decide +kernel
theorem d7 : decode yB 7 = .ok (.iconst 0, 1) := by decide +kernel
theorem d8 : decode yB 8 = .ok (.iload_n 2, 1) := by decide +kernel
theorem d9 : decode yB 9 = .ok (.invokestatic 115, 3) := by decide +kernel
theorem d12 : decode yB 12 = .ok (.istore 4, 2) := by decide +kernel
theorem d14 : decode yB 14 = .ok (.iload 4, 2) := by decide +kernel
theorem d16 : decode yB 16 = .ok (.iload_n 2, 1) := by decide +kernel
theorem d17 : decode yB 17 = .ok (.if_icmp (.eq) 40, 3) := by decide +kernel
theorem d57 : decode yB 57 = .ok (.aload_n 3, 1) := by decide +kernel
theorem d58 : decode yB 58 = .ok (.areturn, 1) := by decide +kernel
def site : List Cond := [.arrayClass .byte, Cmp5.tab] ++ staticW U16 115 Cmp5.yN
def tab : Cond := tabOf yN yB 6 (some (.array .byte)) site
def P (b : Addr) (A : Cell) (o len : Nat) (args : Array Value) (s : State) : Prop := args = #[.ref b, .int (Int32.ofNat o), .int (Int32.ofNat len)] ∧ Ch b A s ∧ o + len ≤ A.slots.size ∧ len ≤ 536870912 ∧ ∀ i, i < len → ¬ 255 < cv A (o + i)
def E (b : Addr) (A : Cell) (o len : Nat) (r : Option Value) (s u : State) : Prop := NewArr .byte "[B" len (fun j => .int (lo8 (cv A (o + j)))) r s u ∧ u.heap.size = s.heap.size + 1
/-- no char of the range above 255: a new byte[] of their low bytes -/
theorem law (l : Launch) (b : Addr) (A : Cell) (o len : Nat) : Law l yN 3 3 1 18 yB 6 (some (.array .byte)) site (P b A o len) (E b A o len) [] 1 len := by
  refine Law.of_walk (plainFor_of_name (by decide +kernel)) (by decide +kernel) (by decide +kernel) (by decide) (fun _ _ h => by rw [h.1]; rfl) (fun _ U U' hal hh h => ⟨h.1, h.2.1.mv hal hh, h.2.2⟩) (fun r U U' V V' h1 hal h2 h => ⟨NewArr.mv r U U' V V' h1 hal h2 h.1, by rw [h1, h2]; exact h.2⟩) ?_
  intro p e s m args below meth c s₁ X0 hexec hbytes hml hret hlk hnm hown hh0 W hP
  obtain ⟨rfl, hA, l1, l2, hp⟩ := hP
  have a31 := hA.1.2.2.2
  have c1 : Steps p.tables e below (s₁.setTop (entryFrame m #[.ref b, .int (Int32.ofNat o), .int (Int32.ofNat len)] 6)) (s₁.setTop (mkF m 0 #[.val (.ref b), .val (.int (Int32.ofNat o)), .val (.int (Int32.ofNat len)), .unset, .unset, .unset] [])) := entry rfl
  have c2 : Steps p.tables e below (s₁.setTop (entryFrame m #[.ref b, .int (Int32.ofNat o), .int (Int32.ofNat len)] 6)) (s₁.setTop (mkF m 1 #[.val (.ref b), .val (.int (Int32.ofNat o)), .val (.int (Int32.ofNat len)), .unset, .unset, .unset] [.int (Int32.ofNat len)])) := c1.trans (by
    refine XS.iloadN X0.here hexec rfl (hb hbytes d0) rfl ?_
    exact Steps.refl _)
  obtain ⟨T3, B3, X3, ba3, bs3, bv3, bh3, bf3, st3⟩ := X0.anew hexec (atype := .byte) (wk W (.arrayClass .byte)) rfl (by show len * 1 ≤ _; omega) (by omega) (g := (mkF m 1 #[.val (.ref b), .val (.int (Int32.ofNat o)), .val (.int (Int32.ofNat len)), .unset, .unset, .unset] [.int (Int32.ofNat len)])) rfl (hb hbytes d1) (rest := []) rfl (Nat.le_refl _) (by show 0 + len ≤ len; omega)
  rw [hh0] at ba3 st3
  have kp3 : XT.Kept s T3 := (XT.Kept.of_eq hh0).push bh3
  have hA3 := hA.keep X3.warmed.alike (kp3 _ _ hA.1.1)
  have hne : b ≠ s.heap.size := hA.1.ne
  have c4 : Steps p.tables e below (s₁.setTop (entryFrame m #[.ref b, .int (Int32.ofNat o), .int (Int32.ofNat len)] 6)) (T3.setTop (mkF m 3 #[.val (.ref b), .val (.int (Int32.ofNat o)), .val (.int (Int32.ofNat len)), .unset, .unset, .unset] [.ref s.heap.size])) := c2.trans (st3 _ (Steps.refl _))
  have c5 : Steps p.tables e below (s₁.setTop (entryFrame m #[.ref b, .int (Int32.ofNat o), .int (Int32.ofNat len)] 6)) (T3.setTop (mkF m 9 #[.val (.ref b), .val (.int (Int32.ofNat o)), .val (.int (Int32.ofNat len)), .val (.ref s.heap.size), .unset, .unset] [.int (Int32.ofNat len), .int 0, .ref s.heap.size, .int (Int32.ofNat o), .ref b])) := c4.trans (by
    refine XS.astoreN X3.here hexec rfl (hb hbytes d3) rfl rfl rfl ?_
    refine XS.aloadN X3.here hexec rfl (hb hbytes d4) rfl rfl ?_
    refine XS.iloadN X3.here hexec rfl (hb hbytes d5) rfl ?_
    refine XS.aloadN X3.here hexec rfl (hb hbytes d6) rfl rfl ?_
    refine iconstV X3.here hexec rfl 0 (hb hbytes d7) (by decide) ?_
    refine XS.iloadN X3.here hexec rfl (hb hbytes d8) rfl ?_
    exact Steps.refl _)
  obtain ⟨v6, T6, X6, E6, g6⟩ := X3.callS hexec (Cmp5.law l b A s.heap.size B3 o 0 len) hown (wks W (staticW U16 115 Cmp5.yN)) (wk W Cmp5.tab) (W := 0) (Nat.le_of_ble_eq_true rfl) (Nat.le_of_ble_eq_true rfl) (Nat.le_refl _) (by show 0 + len + 0 ≤ len; omega) (g := (mkF m 9 #[.val (.ref b), .val (.int (Int32.ofNat o)), .val (.int (Int32.ofNat len)), .val (.ref s.heap.size), .unset, .unset] [.int (Int32.ofNat len), .int (Int32.ofNat 0), .ref s.heap.size, .int (Int32.ofNat o), .ref b])) rfl (by rw [hml]; rfl) c5 (argsL := [.ref b, .int (Int32.ofNat o), .ref s.heap.size, .int (Int32.ofNat 0), .int (Int32.ofNat len)]) (rest := []) rfl rfl (by show 2 * 0 + 0 ≤ _; decide) (hb hbytes d9) (⟨rfl, hA3, ba3, hne, l1, by rw [bs3]; simp, hp⟩)
  obtain ⟨rfl, B6, p6, f6⟩ := E6
  have c7 : Steps p.tables e below (s₁.setTop (entryFrame m #[.ref b, .int (Int32.ofNat o), .int (Int32.ofNat len)] 6)) (T6.setTop (mkF m 12 #[.val (.ref b), .val (.int (Int32.ofNat o)), .val (.int (Int32.ofNat len)), .val (.ref s.heap.size), .unset, .unset] [.int (Int32.ofNat len)])) := g6
  have c8 : Steps p.tables e below (s₁.setTop (entryFrame m #[.ref b, .int (Int32.ofNat o), .int (Int32.ofNat len)] 6)) (T6.setTop (mkF m 58 #[.val (.ref b), .val (.int (Int32.ofNat o)), .val (.int (Int32.ofNat len)), .val (.ref s.heap.size), .val (.int (Int32.ofNat len)), .unset] [.ref s.heap.size])) := c7.trans (by
    refine XS.istore X6.here hexec rfl (hb hbytes d12) rfl rfl ?_
    refine XS.iload X6.here hexec rfl (hb hbytes d14) rfl ?_
    refine XS.iloadN X6.here hexec rfl (hb hbytes d16) rfl ?_
    refine XS.icmpYes X6.here hexec rfl (pc0 := 17) rfl (hb hbytes d17) rfl (ii_eq_t rfl) (by decide) rfl ?_
    refine XS.aloadN X6.here hexec rfl (hb hbytes d57) rfl rfl ?_
    exact Steps.refl _)
  have X8 := X6.wide (L' := []) (cells' := 1) (slots' := len) (fun x hx hlt => by
    simp only [List.nil_append, copyLocs, List.mem_map, List.mem_range] at hx
    obtain ⟨i, -, rfl⟩ := hx
    exact absurd hlt (Nat.lt_irrefl _)) (Nat.le_refl _) (by omega)
  exact ⟨T6, some (.ref s.heap.size), _, _, _, X8, rfl, rfl, rfl, (fun h => by cases h), ⟨⟨rfl, B6, ba3.like (X3.warmed.alike.symm.trans X6.warmed.alike) p6.1 f6.1 f6.2.1 f6.2.2.1, f6.2.1.trans bv3, by rw [X6.warmed.alike.findClass, f6.1]; exact bf3, by rw [f6.2.2.1, bs3]; simp, fun j hj => by rw [f6.2.2.2 j, if_pos (by omega)]; rfl, kp3.put p6 (Nat.le_refl _)⟩, by rw [p6.2.2, bh3, hh0]; simp⟩, fun fs hl => c8.trans (X8.areturnOut hexec rfl hret rfl (hb hbytes d58) hl)⟩
end Cmp3
namespace CodL
def yN : MethodName := ⟨"java/lang/StringUTF16", "coderFromArrayLen", "([BI)B"⟩
abbrev yB : ByteArray := jdk_52_method_15_code
theorem d0 : decode yB 0 = .ok (.iload_n 1, 1) := by decide +kernel
theorem d1 : decode yB 1 = .ok (.aload_n 0, 1) := by decide +kernel
theorem d2 : decode yB 2 = .ok (.arraylength, 1) := by decide +kernel
theorem d3 : decode yB 3 = .ok (.isub, 1) := by decide +kernel
theorem d4 : decode yB 4 = .ok (.bipush 31, 2) := by decide +kernel
theorem d6 : decode yB 6 = .ok (.iushr, 1) := by decide +kernel
theorem d7 : decode yB 7 = .ok (.i2b, 1) := by decide +kernel
theorem d8 : decode yB 8 = .ok (.ireturn, 1) := by decide +kernel
def site : List Cond := []
def tab : Cond := tabOf yN yB 2 (some .byte) site
def P (d : Addr) (B : Cell) (args : Array Value) (s : State) : Prop := args = #[.ref d, .int (Int32.ofNat B.slots.size)] ∧ Arr .byte d B s
def E (r : Option Value) (s u : State) : Prop := XT.PureE (some (.int 0)) r s u
/-- an array as long as the number of chars: LATIN1 -/
theorem law (l : Launch) (d : Addr) (B : Cell) : Law l yN 2 2 0 0 yB 2 (some .byte) site (P d B) E [] 0 0 := by
  refine Law.of_walk (plainFor_of_name (by decide +kernel)) (by decide +kernel) (by decide +kernel) (by decide) (fun _ _ h => by rw [h.1]; rfl) (fun _ U U' hal hh h => ⟨h.1, h.2.mv hal hh⟩) (fun r U U' V V' h1 hal h2 h => XT.PureE.mv r U U' V V' h1 hal h2 h) ?_
  intro p e s m args below meth c s₁ X0 hexec hbytes hml hret hlk hnm hown hh0 W hP
  obtain ⟨rfl, hB⟩ := hP
  have hB0 := hB.mv X0.warmed.alike hh0
  have c1 : Steps p.tables e below (s₁.setTop (entryFrame m #[.ref d, .int (Int32.ofNat B.slots.size)] 2)) (s₁.setTop (mkF m 0 #[.val (.ref d), .val (.int (Int32.ofNat B.slots.size))] [])) := entry rfl
  have c2 : Steps p.tables e below (s₁.setTop (entryFrame m #[.ref d, .int (Int32.ofNat B.slots.size)] 2)) (s₁.setTop (mkF m 2 #[.val (.ref d), .val (.int (Int32.ofNat B.slots.size))] [.ref d, .int (Int32.ofNat B.slots.size)])) := c1.trans (by
    refine XS.iloadN X0.here hexec rfl (hb hbytes d0) rfl ?_
    refine XS.aloadN X0.here hexec rfl (hb hbytes d1) rfl rfl ?_
    exact Steps.refl _)
  have c3 : Steps p.tables e below (s₁.setTop (entryFrame m #[.ref d, .int (Int32.ofNat B.slots.size)] 2)) (s₁.setTop (mkF m 8 #[.val (.ref d), .val (.int (Int32.ofNat B.slots.size))] [.int (lo8 (ushr (Int32.ofNat B.slots.size - Int32.ofNat B.slots.size) 31))])) := c2.trans (by
    refine X0.alen hexec hB0 rfl rfl (hb hbytes d2) ?_
    refine XS.isub X0.here hexec rfl (hb hbytes d3) rfl ?_
    refine bipushV X0.here hexec rfl 31 (hb hbytes d4) (by decide) ?_
    refine iushr X0.here hexec rfl (hb hbytes d6) rfl ?_
    refine i2b X0.here hexec rfl (hb hbytes d7) rfl ?_
    exact Steps.refl _)
  have e0 : lo8 (ushr (Int32.ofNat B.slots.size - Int32.ofNat B.slots.size) 31) = 0 := by rw [Int32.sub_self]; decide
  rw [e0] at c3
  exact ⟨s₁, some (.int 0), _, _, _, X0, rfl, rfl, rfl, (fun h => by cases h), ⟨rfl, hh0⟩, fun fs hl => c3.trans (X0.ireturnOut hexec hret rfl (Or.inr (Or.inr (Or.inl rfl))) (hb hbytes d8) hl)⟩
end CodL
/-- the String at a is Latin-1 over a new byte[] (the heap's one new cell): the low bytes of the len chars of A from o on; every cell but a is kept -/
def Got (a : Addr) (D : Cell) (fV fC : Field) (A : Cell) (o len : Nat) (r : Option Value) (s u : State) : Prop := r = none ∧ ∃ D' V : Cell, Blank "java/lang/String" a D' u ∧ Same D D' [fV.slot, fC.slot] ∧ D'.slots[fV.slot]? = some (.ref s.heap.size) ∧ D'.slots[fC.slot]? = some (.int 0) ∧ Arr .byte s.heap.size V u ∧ V.vm = .none ∧ u.vm.findClass "[B" = some V.cls ∧ V.slots.size = len ∧ (∀ j, j < len → V.slots[j]? = some (.int (lo8 (cv A (o + j))))) ∧ (∀ (y : Addr) (c : Cell), y ≠ a → s.heap[y]? = some c → u.heap[y]? = some c) ∧ u.heap.size = s.heap.size + 1
theorem Got.mv {a : Addr} {D A : Cell} {fV fC : Field} {o len : Nat} : ∀ r (U U' V V' : State), U'.heap = U.heap → V.vm.Alike V'.vm → V'.heap = V.heap → Got a D fV fC A o len r U V → Got a D fV fC A o len r U' V' :=
  fun r U U' V V' h1 hal h2 ⟨e0, D', X, a1, a2, a3, a4, a5, a6, a7, a8, a9, a10, a11⟩ => ⟨e0, D', X, a1.mv hal h2, a2, by rw [h1]; exact a3, a4, by rw [h1]; exact a5.mv hal h2, a6, by rw [hal.findClass]; exact a7, a8, a9, by rw [h1, h2]; exact a10, by rw [h1, h2]; exact a11⟩
namespace New4
def yN : MethodName := ⟨"java/lang/String", "<init>", "([CIILjava/lang/Void;)V"⟩
abbrev yB : ByteArray := jdk_42_method_149_code
theorem d0 : decode yB 0 = .ok (.aload_n 0, 1) := by decide +kernel
theorem d1 : decode yB 1 = .ok (.invokespecial 1, 3) := by decide +kernel
theorem d4 : decode yB 4 = .ok (.iload_n 3, 1) := by decide +kernel
theorem d5 : decode yB 5 = .ok (.ifCond (.ne) 22, 3) := by decide +kernel
theorem d27 : decode yB 27 = .ok (.getstatic 38, 3) := by decide +kernel
theorem d30 : decode yB 30 = .ok (.ifCond (.eq) 28, 3) := by decide +kernel
theorem d33 : decode yB 33 = .ok (.aload_n 1, 1) := by decide +kernel
theorem d34 : decode yB 34 = .ok (.iload_n 2, 1) := by decide +kernel
theorem d35 : decode yB 35 = .ok (.iload_n 3, 1) := by decide +kernel
theorem d36 : decode yB 36 = .ok (.invokestatic 177, 3) := by decide +kernel
theorem d39 : decode yB 39 = .ok (.astore 5, 2) := by decide +kernel
theorem d41 : decode yB 41 = .ok (.aload_n 0, 1) := by decide +kernel
theorem d42 : decode yB 42 = .ok (.aload 5, 2) := by decide +kernel
theorem d44 : decode yB 44 = .ok (.iload_n 3, 1) := by decide +kernel
theorem d45 : decode yB 45 = .ok (.invokestatic 47, 3) := by decide +kernel
theorem d48 : decode yB 48 = .ok (.putfield 15, 3) := by decide +kernel
theorem d51 : decode yB 51 = .ok (.aload_n 0, 1) := by decide +kernel
theorem d52 : decode yB 52 = .ok (.aload 5, 2) := by decide +kernel
theorem d54 : decode yB 54 = .ok (.putfield 9, 3) := by decide +kernel
theorem d57 : decode yB 57 = .ok (.return_, 1) := by decide +kernel
def site : List Cond := [.fieldLink "java/lang/String" 38 "java/lang/String" "COMPACT_STRINGS" "Z", Cmp3.tab, CodL.tab, .laysFinal "java/lang/String" "java/lang/String" "value" "[B", .fieldLink "java/lang/String" 9 "java/lang/String" "value" "[B", .laysFinal "java/lang/String" "java/lang/String" "coder" "B", .fieldLink "java/lang/String" 15 "java/lang/String" "coder" "B"] ++ objW "java/lang/String" 1 ++ staticW "java/lang/String" 177 Cmp3.yN ++ staticW "java/lang/String" 47 CodL.yN
def tab : Cond := tabOf yN yB 6 none site
def P (a : Addr) (D : Cell) (fV fC : Field) (b : Addr) (A : Cell) (z : Int32) (o len : Nat) (args : Array Value) (s : State) : Prop := args = #[.ref a, .ref b, .int (Int32.ofNat o), .int (Int32.ofNat len), .null] ∧ Blank "java/lang/String" a D s ∧ Found "java/lang/String" "value" "[B" fV s ∧ Found "java/lang/String" "coder" "B" fC s ∧ Ch b A s ∧ StaticIs s "java/lang/String" "COMPACT_STRINGS" "Z" (.int z) ∧ ¬ z = 0 ∧ 0 < len ∧ o + len ≤ A.slots.size ∧ len ≤ 536870912 ∧ ∀ i, i < len → ¬ 255 < cv A (o + i)
def E (a : Addr) (D : Cell) (fV fC : Field) (A : Cell) (o len : Nat) (r : Option Value) (s u : State) : Prop := Got a D fV fC A o len r s u
/-- len > 0, no char of the range above 255: a Latin-1 String of their low bytes -/
theorem law (l : Launch) (a : Addr) (D : Cell) (fV fC : Field) (b : Addr) (A : Cell) (z : Int32) (o len : Nat) : Law l yN 5 4 2 35 yB 6 none site (P a D fV fC b A z o len) (E a D fV fC A o len) [⟨a, fC.slot⟩, ⟨a, fV.slot⟩] 1 len := by
  refine Law.of_walk (plainFor_of_name (by decide +kernel)) (by decide +kernel) (by decide +kernel) (by decide) (fun _ _ h => by rw [h.1]; rfl) (fun _ U U' hal hh h => ⟨h.1, h.2.1.mv hal hh, h.2.2.1.al hal, h.2.2.2.1.al hal, h.2.2.2.2.1.mv hal hh, h.2.2.2.2.2.1.there hal hh, h.2.2.2.2.2.2⟩) (fun r U U' V V' h1 hal h2 h => Got.mv r U U' V V' h1 hal h2 h) ?_
  intro p e s m args below meth c s₁ X0 hexec hbytes hml hret hlk hnm hown hh0 W hP
  obtain ⟨rfl, hB, f1, f2, hA, s1, hz, l0, l1, l2, hp⟩ := hP
  have a31 := hA.1.2.2.2
  have c1 : Steps p.tables e below (s₁.setTop (entryFrame m #[.ref a, .ref b, .int (Int32.ofNat o), .int (Int32.ofNat len), .null] 6)) (s₁.setTop (mkF m 0 #[.val (.ref a), .val (.ref b), .val (.int (Int32.ofNat o)), .val (.int (Int32.ofNat len)), .val .null, .unset] [])) := entry rfl
  have c2 : Steps p.tables e below (s₁.setTop (entryFrame m #[.ref a, .ref b, .int (Int32.ofNat o), .int (Int32.ofNat len), .null] 6)) (s₁.setTop (mkF m 1 #[.val (.ref a), .val (.ref b), .val (.int (Int32.ofNat o)), .val (.int (Int32.ofNat len)), .val .null, .unset] [.ref a])) := c1.trans (by
    refine XS.aloadN X0.here hexec rfl (hb hbytes d0) rfl rfl ?_
    exact Steps.refl _)
  obtain ⟨T3, X3, q3, st3⟩ := X0.oinit hexec hown (wks W (objW "java/lang/String" 1)) (g := (mkF m 1 #[.val (.ref a), .val (.ref b), .val (.int (Int32.ofNat o)), .val (.int (Int32.ofNat len)), .val .null, .unset] [.ref a])) rfl (by rw [hml]; rfl) (rest := []) rfl (hb hbytes d1) (W := 0) (by show 2 * 0 + 0 ≤ _; decide) (Nat.le_of_ble_eq_true rfl) (Nat.le_of_ble_eq_true rfl)
  have hh3 := q3.trans hh0
  have c4 : Steps p.tables e below (s₁.setTop (entryFrame m #[.ref a, .ref b, .int (Int32.ofNat o), .int (Int32.ofNat len), .null] 6)) (T3.setTop (mkF m 27 #[.val (.ref a), .val (.ref b), .val (.int (Int32.ofNat o)), .val (.int (Int32.ofNat len)), .val .null, .unset] [])) := (c2.trans (st3 _ (Steps.refl _))).trans (by
    refine XS.iloadN X3.here hexec rfl (hb hbytes d4) rfl ?_
    refine XS.ifYes X3.here hexec rfl (pc0 := 5) rfl (hb hbytes d5) rfl (i0_ne_t (nz32 (by omega) l0)) (by decide) rfl ?_
    exact Steps.refl _)
  obtain ⟨T5, X5, q5, st5⟩ := X3.sget hexec hown (wk W (.fieldLink "java/lang/String" 38 "java/lang/String" "COMPACT_STRINGS" "Z")) s1 (fun _ _ h => by rw [hh3]; exact h) (g := (mkF m 27 #[.val (.ref a), .val (.ref b), .val (.int (Int32.ofNat o)), .val (.int (Int32.ofNat len)), .val .null, .unset] [])) rfl (hb hbytes d27)
  have hh5 := q5.trans hh3
  have c6 : Steps p.tables e below (s₁.setTop (entryFrame m #[.ref a, .ref b, .int (Int32.ofNat o), .int (Int32.ofNat len), .null] 6)) (T5.setTop (mkF m 30 #[.val (.ref a), .val (.ref b), .val (.int (Int32.ofNat o)), .val (.int (Int32.ofNat len)), .val .null, .unset] [.int z])) := c4.trans (st5 _ (Steps.refl _))
  have c7 : Steps p.tables e below (s₁.setTop (entryFrame m #[.ref a, .ref b, .int (Int32.ofNat o), .int (Int32.ofNat len), .null] 6)) (T5.setTop (mkF m 36 #[.val (.ref a), .val (.ref b), .val (.int (Int32.ofNat o)), .val (.int (Int32.ofNat len)), .val .null, .unset] [.int (Int32.ofNat len), .int (Int32.ofNat o), .ref b])) := c6.trans (by
    refine XS.ifNo X5.here hexec rfl (hb hbytes d30) rfl (i0_eq_f hz) ?_
    refine XS.aloadN X5.here hexec rfl (hb hbytes d33) rfl rfl ?_
    refine XS.iloadN X5.here hexec rfl (hb hbytes d34) rfl ?_
    refine XS.iloadN X5.here hexec rfl (hb hbytes d35) rfl ?_
    exact Steps.refl _)
  obtain ⟨v8, T8, X8, E8, g8⟩ := X5.callS hexec (Cmp3.law l b A o len) hown (wks W (staticW "java/lang/String" 177 Cmp3.yN)) (wk W Cmp3.tab) (W := 0) (Nat.le_of_ble_eq_true rfl) (Nat.le_of_ble_eq_true rfl) (Nat.le_refl _) (by show 0 + len ≤ len; omega) (g := (mkF m 36 #[.val (.ref a), .val (.ref b), .val (.int (Int32.ofNat o)), .val (.int (Int32.ofNat len)), .val .null, .unset] [.int (Int32.ofNat len), .int (Int32.ofNat o), .ref b])) rfl (by rw [hml]; rfl) c7 (argsL := [.ref b, .int (Int32.ofNat o), .int (Int32.ofNat len)]) (rest := []) rfl rfl (by show 2 * 0 + 0 ≤ _; decide) (hb hbytes d36) (⟨rfl, hA.mv X5.warmed.alike hh5, l1, l2, hp⟩)
  obtain ⟨e8, z8⟩ := E8
  obtain ⟨rfl, N, n1, n2, n3, n4, n5, n6⟩ := NewArr.mv _ T5 s _ _ hh5.symm (Vm.Alike.refl _) rfl e8
  rw [hh5] at z8
  have hB1 := hB.keep X8.warmed.alike (n6 _ _ hB.1)
  have hne : s.heap.size ≠ a := (Nat.ne_of_lt (Array.getElem?_eq_some_iff.mp hB.1).1).symm
  have c9 : Steps p.tables e below (s₁.setTop (entryFrame m #[.ref a, .ref b, .int (Int32.ofNat o), .int (Int32.ofNat len), .null] 6)) (T8.setTop (mkF m 39 #[.val (.ref a), .val (.ref b), .val (.int (Int32.ofNat o)), .val (.int (Int32.ofNat len)), .val .null, .unset] [.ref s.heap.size])) := g8
  have c10 : Steps p.tables e below (s₁.setTop (entryFrame m #[.ref a, .ref b, .int (Int32.ofNat o), .int (Int32.ofNat len), .null] 6)) (T8.setTop (mkF m 45 #[.val (.ref a), .val (.ref b), .val (.int (Int32.ofNat o)), .val (.int (Int32.ofNat len)), .val .null, .val (.ref s.heap.size)] [.int (Int32.ofNat N.slots.size), .ref s.heap.size, .ref a])) := by
    have hc : Steps p.tables e below (s₁.setTop (entryFrame m #[.ref a, .ref b, .int (Int32.ofNat o), .int (Int32.ofNat len), .null] 6)) (T8.setTop (mkF m 45 #[.val (.ref a), .val (.ref b), .val (.int (Int32.ofNat o)), .val (.int (Int32.ofNat len)), .val .null, .val (.ref s.heap.size)] [.int (Int32.ofNat len), .ref s.heap.size, .ref a])) := c9.trans (by
      refine XS.astore X8.here hexec rfl (hb hbytes d39) rfl rfl rfl ?_
      refine XS.aloadN X8.here hexec rfl (hb hbytes d41) rfl rfl ?_
      refine XS.aload X8.here hexec rfl (hb hbytes d42) rfl rfl ?_
      refine XS.iloadN X8.here hexec rfl (hb hbytes d44) rfl ?_
      exact Steps.refl _)
    rw [n4]; exact hc
  obtain ⟨v11, T11, X11, E11, g11⟩ := X8.callS hexec (CodL.law l s.heap.size N) hown (wks W (staticW "java/lang/String" 47 CodL.yN)) (wk W CodL.tab) (W := 1) (Nat.le_of_ble_eq_true rfl) (Nat.le_of_ble_eq_true rfl) (Nat.le_refl _) (by show 0 + len + 0 ≤ len; omega) (g := (mkF m 45 #[.val (.ref a), .val (.ref b), .val (.int (Int32.ofNat o)), .val (.int (Int32.ofNat len)), .val .null, .val (.ref s.heap.size)] [.int (Int32.ofNat N.slots.size), .ref s.heap.size, .ref a])) rfl (by rw [hml]; rfl) c10 (argsL := [.ref s.heap.size, .int (Int32.ofNat N.slots.size)]) (rest := [.ref a]) rfl rfl (by show 2 * 0 + (1 + 0) ≤ _; decide) (hb hbytes d45) (⟨rfl, n1⟩)
  obtain ⟨rfl, q11⟩ := E11
  have hB11 := hB1.mv (X8.warmed.alike.symm.trans X11.warmed.alike) q11
  have c12 : Steps p.tables e below (s₁.setTop (entryFrame m #[.ref a, .ref b, .int (Int32.ofNat o), .int (Int32.ofNat len), .null] 6)) (T11.setTop (mkF m 48 #[.val (.ref a), .val (.ref b), .val (.int (Int32.ofNat o)), .val (.int (Int32.ofNat len)), .val .null, .val (.ref s.heap.size)] [.int 0, .ref a])) := g11
  obtain ⟨T13, X13, p13, bl13, sl13, st13⟩ := X11.finit hexec hown (wk W (.fieldLink "java/lang/String" 15 "java/lang/String" "coder" "B")) (Or.inr ⟨_, (wk W (.laysFinal "java/lang/String" "java/lang/String" "coder" "B"))⟩) (Or.inl ⟨rfl, hnm⟩) f2 (Or.inl rfl) hB11 (t := .byte) (by decide +kernel) rfl (g := (mkF m 48 #[.val (.ref a), .val (.ref b), .val (.int (Int32.ofNat o)), .val (.int (Int32.ofNat len)), .val .null, .val (.ref s.heap.size)] [.int 0, .ref a])) rfl (rest := []) rfl (hb hbytes d48)
  have c14 : Steps p.tables e below (s₁.setTop (entryFrame m #[.ref a, .ref b, .int (Int32.ofNat o), .int (Int32.ofNat len), .null] 6)) (T13.setTop (mkF m 54 #[.val (.ref a), .val (.ref b), .val (.int (Int32.ofNat o)), .val (.int (Int32.ofNat len)), .val .null, .val (.ref s.heap.size)] [.ref s.heap.size, .ref a])) := (c12.trans (st13 _ (Steps.refl _))).trans (by
    refine XS.aloadN X13.here hexec rfl (hb hbytes d51) rfl rfl ?_
    refine XS.aload X13.here hexec rfl (hb hbytes d52) rfl rfl ?_
    exact Steps.refl _)
  obtain ⟨T15, X15, p15, bl15, sl15, st15⟩ := X13.finit hexec hown (wk W (.fieldLink "java/lang/String" 9 "java/lang/String" "value" "[B")) (Or.inr ⟨_, (wk W (.laysFinal "java/lang/String" "java/lang/String" "value" "[B"))⟩) (Or.inl ⟨rfl, hnm⟩) f1 (Or.inl rfl) bl13 (t := (.array .byte)) (by decide +kernel) rfl (g := (mkF m 54 #[.val (.ref a), .val (.ref b), .val (.int (Int32.ofNat o)), .val (.int (Int32.ofNat len)), .val .null, .val (.ref s.heap.size)] [.ref s.heap.size, .ref a])) rfl (rest := []) rfl (hb hbytes d54)
  have c16 : Steps p.tables e below (s₁.setTop (entryFrame m #[.ref a, .ref b, .int (Int32.ofNat o), .int (Int32.ofNat len), .null] 6)) (T15.setTop (mkF m 57 #[.val (.ref a), .val (.ref b), .val (.int (Int32.ofNat o)), .val (.int (Int32.ofNat len)), .val .null, .val (.ref s.heap.size)] [])) := c14.trans (st15 _ (Steps.refl _))
  have ap := apart (Or.inr ⟨_, (wk W (.laysFinal "java/lang/String" "java/lang/String" "value" "[B"))⟩) (Or.inr ⟨_, (wk W (.laysFinal "java/lang/String" "java/lang/String" "coder" "B"))⟩) f1 f2 (t₁ := .array .byte) (t₂ := .byte) (by decide +kernel) (by decide +kernel) (by decide)
  have al := X8.warmed.alike.symm.trans X15.warmed.alike
  have n7 : T11.heap[s.heap.size]? = some N := by rw [q11]; exact n1.1
  exact ⟨T15, none, _, _, _, X15, by simp, rfl, by omega, (fun _ => rfl), ⟨rfl, _, N, bl15, ((Same.refl D _).set _ (by simp)).set _ (by simp), sl15, (Cell.slots_setSlot_ne _ ap).trans sl13, n1.keep al (p15.other hne (p13.other hne n7)), n2, by rw [al.findClass]; exact n3, n4, n5, fun y c h1 h2 => p15.other h1 (p13.other h1 (by rw [q11]; exact n6 y c h2)), by rw [p15.2.2, p13.2.2, q11]; exact z8⟩, fun fs hl => c16.trans (X15.returnOut hexec hret (hb hbytes d57) hl)⟩
end New4
namespace New1
def yN : MethodName := ⟨"java/lang/String", "<init>", "([C)V"⟩
abbrev yB : ByteArray := jdk_42_method_3_code
theorem d0 : decode yB 0 = .ok (.aload_n 0, 1) := by decide +kernel
theorem d1 : decode yB 1 = .ok (.aload_n 1, 1) := by decide +kernel
theorem d2 : decode yB 2 = .ok (.iconst 0, 1) := by decide +kernel
theorem d3 : decode yB 3 = .ok (.aload_n 1, 1) := by decide +kernel
theorem d4 : decode yB 4 = .ok (.arraylength, 1) := by decide +kernel
theorem d5 : decode yB 5 = .ok (.aconst_null, 1) := by decide +kernel
theorem d6 : decode yB 6 = .ok (.invokespecial 27, 3) := by decide +kernel
theorem d9 : decode yB 9 = .ok (.return_, 1) := by decide +kernel
def site : List Cond := [New4.tab] ++ initW "java/lang/String" 27 New4.yN
def tab : Cond := tabOf yN yB 2 none site
def P (a : Addr) (D : Cell) (fV fC : Field) (b : Addr) (A : Cell) (z : Int32) (args : Array Value) (s : State) : Prop := args = #[.ref a, .ref b] ∧ Blank "java/lang/String" a D s ∧ Found "java/lang/String" "value" "[B" fV s ∧ Found "java/lang/String" "coder" "B" fC s ∧ Ch b A s ∧ StaticIs s "java/lang/String" "COMPACT_STRINGS" "Z" (.int z) ∧ ¬ z = 0 ∧ 0 < A.slots.size ∧ A.slots.size ≤ 536870912 ∧ ∀ i, i < A.slots.size → ¬ 255 < cv A i
def E (a : Addr) (D : Cell) (fV fC : Field) (A : Cell) (r : Option Value) (s u : State) : Prop := Got a D fV fC A 0 A.slots.size r s u
/-- new String(chars), not empty, no char above 255: a Latin-1 String of their low bytes -/
theorem law (l : Launch) (a : Addr) (D : Cell) (fV fC : Field) (b : Addr) (A : Cell) (z : Int32) : Law l yN 2 1 3 52 yB 2 none site (P a D fV fC b A z) (E a D fV fC A) [⟨a, fC.slot⟩, ⟨a, fV.slot⟩] 1 A.slots.size := by
  refine Law.of_walk (plainFor_of_name (by decide +kernel)) (by decide +kernel) (by decide +kernel) (by decide) (fun _ _ h => by rw [h.1]; rfl) (fun _ U U' hal hh h => ⟨h.1, h.2.1.mv hal hh, h.2.2.1.al hal, h.2.2.2.1.al hal, h.2.2.2.2.1.mv hal hh, h.2.2.2.2.2.1.there hal hh, h.2.2.2.2.2.2⟩) (fun r U U' V V' h1 hal h2 h => Got.mv r U U' V V' h1 hal h2 h) ?_
  intro p e s m args below meth c s₁ X0 hexec hbytes hml hret hlk hnm hown hh0 W hP
  obtain ⟨rfl, hB, f1, f2, hA, s1, hz, l0, l2, hp⟩ := hP
  have c1 : Steps p.tables e below (s₁.setTop (entryFrame m #[.ref a, .ref b] 2)) (s₁.setTop (mkF m 0 #[.val (.ref a), .val (.ref b)] [])) := entry rfl
  have c2 : Steps p.tables e below (s₁.setTop (entryFrame m #[.ref a, .ref b] 2)) (s₁.setTop (mkF m 6 #[.val (.ref a), .val (.ref b)] [.null, .int (Int32.ofNat A.slots.size), .int 0, .ref b, .ref a])) := c1.trans (by
    refine XS.aloadN X0.here hexec rfl (hb hbytes d0) rfl rfl ?_
    refine XS.aloadN X0.here hexec rfl (hb hbytes d1) rfl rfl ?_
    refine iconstV X0.here hexec rfl 0 (hb hbytes d2) (by decide) ?_
    refine XS.aloadN X0.here hexec rfl (hb hbytes d3) rfl rfl ?_
    refine X0.alen hexec (hA.1.mv X0.warmed.alike hh0) rfl rfl (hb hbytes d4) ?_
    refine XS.aconstNull X0.here hexec rfl (hb hbytes d5) ?_
    exact Steps.refl _)
  obtain ⟨v3, T3, X3, E3, g3⟩ := X0.callN hexec (New4.law l a D fV fC b A z 0 A.slots.size) rfl hown (wks W (initW "java/lang/String" 27 New4.yN)) (W New4.tab (by simp only [site, List.mem_cons, List.mem_append, true_or, or_true])) (W := 0) (Nat.le_of_ble_eq_true rfl) (Nat.le_of_ble_eq_true rfl) (Nat.le_refl _) (by show 0 + A.slots.size ≤ A.slots.size; omega) (g := (mkF m 6 #[.val (.ref a), .val (.ref b)] [.null, .int (Int32.ofNat A.slots.size), .int (Int32.ofNat 0), .ref b, .ref a])) rfl (by rw [hml]; rfl) c2 (argsL := [.ref b, .int (Int32.ofNat 0), .int (Int32.ofNat A.slots.size), .null]) (rest := []) rfl rfl (by show 2 * 0 + 0 ≤ _; decide) (hb hbytes d6) (⟨rfl, hB.mv X0.warmed.alike hh0, f1.al X0.warmed.alike, f2.al X0.warmed.alike, hA.mv X0.warmed.alike hh0, s1.there X0.warmed.alike hh0, hz, l0, by omega, l2, fun i hi => by rw [Nat.zero_add]; exact hp i hi⟩)
  have e0 := Got.mv _ s₁ s _ _ hh0.symm (Vm.Alike.refl _) rfl E3
  obtain rfl := e0.1
  have c4 : Steps p.tables e below (s₁.setTop (entryFrame m #[.ref a, .ref b] 2)) (T3.setTop (mkF m 9 #[.val (.ref a), .val (.ref b)] [])) := g3
  exact ⟨T3, none, _, _, _, X3, by simp, rfl, by omega, (fun _ => rfl), e0, fun fs hl => c4.trans (X3.returnOut hexec hret (hb hbytes d9) hl)⟩
theorem pays {l : Launch} {R : Room} {p : Program} {e : Env} {below : List Frame} {s : State} {sargs : Array Value} {len W : Nat} (a : Addr) (D : Cell) (fV fC : Field) (b : Addr) (A : Cell) (z : Int32) (htab : tab.before sargs s = true) (hfr : 4 ≤ R.frames) (hlo : W + 65 ≤ R.locals) :
    Back l R p e below s sargs yN len W (fun A₁ a₁ => A₁.cells + 1 ≤ R.cells ∧ A₁.slots + A.slots.size ≤ R.slots ∧ P a D fV fC b A z a₁ A₁.U) (fun A₁ _ v₁ B₁ => E a D fV fC A v₁ A₁.U B₁.U ∧ B₁.locs = A₁.locs ++ [⟨a, fC.slot⟩, ⟨a, fV.slot⟩] ∧ B₁.cells = A₁.cells + 1 ∧ B₁.slots = A₁.slots + A.slots.size) :=
  (law l a D fV fC b A z).pays htab hfr (by omega)
end New1
/-- the byte, read back as charAt reads it, is the char -/
theorem lo8_mask {x : Int32} (h0 : ¬ x < 0) (h1 : ¬ 255 < x) : lo8 x &&& 255 = x := by
  have t : ∀ k : Fin 256, lo8 (Int32.ofNat k.val) &&& 255 = Int32.ofNat k.val := by decide +kernel
  rw [Int32.lt_iff_toInt_lt] at h0 h1
  have e0 : (0 : Int32).toInt = 0 := rfl
  have e1 : (255 : Int32).toInt = 255 := rfl
  obtain ⟨k, hk⟩ : ∃ k : Nat, x.toInt = k := ⟨x.toInt.toNat, by omega⟩
  have hx : x = Int32.ofNat k := Int32.toInt_inj.mp (by rw [hk, Int32.toInt_ofNat_small (by omega)])
  rw [hx]
  exact t ⟨k, by omega⟩
end StrChars
namespace StrChars.Road
open Jvm Sem ClassFile Op Lib Jvm.Stand Jvm.Free Jvm.Free.XT
open Jvm.Lib.Cold (StaticIs)
abbrev ST : String := "java/lang/String"
/-- every table word that New1's law asks, flat -/
abbrev words : List Jvm.Cond := [.code New1.yN New1.yB 2 none, .initialized ST, .methodLink ST 27 New4.yN, .instanceMethod New4.yN,
  .code New4.yN New4.yB 6 none, .fieldLink ST 38 ST "COMPACT_STRINGS" "Z", .laysFinal ST ST "value" "[B", .fieldLink ST 9 ST "value" "[B", .laysFinal ST ST "coder" "B", .fieldLink ST 15 ST "coder" "B",
  .methodLink ST 1 Lib.objectInit, .instanceMethod Lib.objectInit, .code Lib.objectInit ⟨#[0xb1]⟩ 1 none, .methodLink ST 177 Cmp3.yN, .static Cmp3.yN, .methodLink ST 47 CodL.yN, .static CodL.yN,
  .code Cmp3.yN Cmp3.yB 6 (some (.array .byte)), .initialized U16, .arrayClass .byte, .methodLink U16 115 Cmp5.yN, .static Cmp5.yN, .code Cmp5.yN Cmp5.yB 7 (some .int), .code CodL.yN CodL.yB 2 (some .byte)]
theorem tab_of {a : Array Value} {s : State} (h : ∀ w ∈ words, w.before a s = true) : New1.tab.before a s = true := by
  have h5 : Cmp5.tab.before a s = true := unparts (wk h (.code Cmp5.yN Cmp5.yB 7 (some .int))) (wks h (.initialized Cmp5.yN.cls :: Cmp5.site))
  have hc : CodL.tab.before a s = true := unparts (wk h (.code CodL.yN CodL.yB 2 (some .byte))) (wks h (.initialized CodL.yN.cls :: CodL.site))
  have q5 : ∀ w ∈ Cmp5.tab :: words, w.before a s = true := fun w hw => (List.mem_cons.mp hw).elim (fun e => e ▸ h5) (h w)
  have h3 : Cmp3.tab.before a s = true := unparts (wk q5 (.code Cmp3.yN Cmp3.yB 6 (some (.array .byte)))) (wks q5 (.initialized Cmp3.yN.cls :: Cmp3.site))
  have q3 : ∀ w ∈ Cmp3.tab :: CodL.tab :: words, w.before a s = true := fun w hw => (List.mem_cons.mp hw).elim (fun e => e ▸ h3) fun hw => (List.mem_cons.mp hw).elim (fun e => e ▸ hc) (h w)
  have h4 : New4.tab.before a s = true := unparts (wk q3 (.code New4.yN New4.yB 6 none)) (wks q3 (.initialized New4.yN.cls :: New4.site))
  have q4 : ∀ w ∈ New4.tab :: words, w.before a s = true := fun w hw => (List.mem_cons.mp hw).elim (fun e => e ▸ h4) (h w)
  exact unparts (wk q4 (.code New1.yN New1.yB 2 none)) (wks q4 (.initialized New1.yN.cls :: New1.site))
/-- the words ride from the start Z to the walk's own state -/
theorem moved {Z s : State} {a0 args : Array Value} (hZ : Z.Warmed39 s.vm) (hw : ∀ d ∈ words, d.before a0 Z = true) : ∀ d ∈ words, d.before args s = true := fun d hd => by
  have q := hw d hd
  have t : ∀ d ∈ words, d = .arrayClass .byte ∨ (d.onTables && d.keepsFace) = true := by decide +kernel
  rcases t d hd with rfl | t
  · exact RoadKit.mvA hZ q
  · exact RoadKit.mv hZ q t
/-- WHAT COMES BACK, over the tables of the start Z: h the heap at the call, h' behind it -/
def Q (Z : State) (x : Addr) (A : Cell) (h : Heap) (v : Option Value) (h' : Heap) (L : List Loc) : Prop := v = none ∧ (∀ y ∈ L, y.base = x) ∧ RoadKit.Keep h h' [x] ∧ h'.size = h.size + 1 ∧ RoadKit.Exa Z h' x ST ∧ RoadKit.Fld Z h' x ST "value" "[B" (.ref h.size) ∧ RoadKit.Fld Z h' x ST "coder" "B" (.int 0) ∧
  (∃ V : Cell, RoadKit.Arr Z h' h.size V .byte ∧ V.vm = .none ∧ Z.vm.findClass "[B" = some V.cls ∧ V.slots.size = A.slots.size ∧ ∀ j, j < A.slots.size → V.slots[j]? = some (.int (lo8 (cv A j)))) ∧
  ∀ (O n d : String) (w : Value), RoadKit.Fld Z h x O n d w → RoadKit.slotOf Z O n d ≠ RoadKit.slotOf Z ST "value" "[B" → RoadKit.slotOf Z O n d ≠ RoadKit.slotOf Z ST "coder" "B" → RoadKit.Fld Z h' x O n d w
/-- **new String(chars) AT A CALL, IN THE ROAD'S FORM**: for specialBack behind newO: x the fresh String, b the char[] with the cell A -/
theorem back {p : Program} {l : Launch} {e : Env} {R : Room} {s : State} {args : Array Value} {below : List Frame} {len W : Nat} {Z : State} {a0 : Array Value} {h : Heap} (hZ : Z.Warmed39 s.vm) (hw : ∀ d ∈ words, d.before a0 Z = true) {kI : Nat} (wi : (Jvm.Cond.instantiable ST kI).before a0 Z = true)
    {x b : Addr} {A : Cell} {z : Int32} {v0 c0 : Value} (E : RoadKit.Exa Z h x ST) (V : RoadKit.Fld Z h x ST "value" "[B" v0) (C : RoadKit.Fld Z h x ST "coder" "B" c0) (K : RoadKit.Arr Z h b A .char) (hty : Typed .char A) (S : RoadKit.Sta Z h ST "COMPACT_STRINGS" "Z" (.int z)) (hz : ¬ z = 0)
    (l0 : 0 < A.slots.size) (l2 : A.slots.size ≤ 536870912) (hp : ∀ i, i < A.slots.size → ¬ 255 < cv A i) (hfr : 4 ≤ R.frames) (hlo : W + 65 ≤ R.locals) :
    Back l R p e below s args New1.yN len W (fun P a => a = #[.ref x, .ref b] ∧ P.U.heap = h ∧ P.cells + 1 ≤ R.cells ∧ P.slots + A.slots.size ≤ R.slots)
      (fun P _ v B => ∃ L, Q Z x A h v B.U.heap L ∧ B.locs = P.locs ++ L ∧ B.cells = P.cells + 1 ∧ B.slots = P.slots + A.slots.size) := by
  intro m meth c P g ig mk a X hg hsize hdg hW hn hp'
  obtain ⟨rfl, rfl, r1, r2⟩ := hp'
  have al : Z.vm.Alike P.U.vm := hZ.alike.trans X.warmed.alike
  obtain ⟨D, cfV, kV, iV, fV, hD, gV, stV, knV, obV, asV, slV⟩ := id V
  obtain ⟨D', cfC, kC, iC, fC, hD', gC, stC, -, -, asC, slC⟩ := id C
  cases hD.symm.trans hD'
  obtain ⟨D2, kD, e1, e2, e3, e4, e5⟩ := id E
  cases hD.symm.trans e1
  obtain ⟨c2, k2, i1, i2, i3, -⟩ := Cond.instantiable_spec wi
  cases e2.symm.trans i1
  cases e3.symm.trans i2
  obtain ⟨kU, u1, u2⟩ := al.2.2 _ _ e3
  have hB : Blank ST x D P.U := ⟨hD, ⟨knV, fun q hq => by rw [hq] at obV; cases obV⟩, by rw [al.findClass]; exact e2, kU, u1, by rw [u2]; exact i3, by rw [u2]; exact e5 i3⟩
  have F1 : Found ST "value" "[B" fV P.U := ⟨SBG.found_only al ⟨cfV, kV, iV, gV⟩, stV⟩
  have F2 : Found ST "coder" "B" fC P.U := ⟨SBG.found_only al ⟨cfC, kC, iC, gC⟩, stC⟩
  have hA : Ch b A P.U := ⟨⟨K.1, State.isArrayOf_alike al K.2.1, K.2.2, by omega⟩, hty⟩
  have hS : StaticIs P.U ST "COMPACT_STRINGS" "Z" (.int z) := by
    obtain ⟨cfS, iS, kS, fS, st, cS, t1, t2, t3, t4, t5, t6, t7⟩ := S
    exact StaticIs.there (s := { Z with heap := P.U.heap }) ⟨cfS, iS, kS, fS, st, cS, t1, t2, t3, t4, t5, (fun q => by rw [q] at t6; cases t6), t7⟩ al rfl
  obtain ⟨v, B, X', ⟨⟨hv, E', V', q1, q2, q3, q4, q5, q6, q7, q8, q9, q10, q11⟩, hl, hc, hs⟩, st⟩ := New1.pays x D fV fC b A z (tab_of (moved hZ hw)) hfr hlo m meth c P g ig mk _ X hg hsize hdg hW hn ⟨r1, r2, rfl, hB, F1, F2, hA, hS, hz, l0, l2, hp⟩
  have al' : Z.vm.Alike B.U.vm := hZ.alike.trans X'.warmed.alike
  have hsz : E'.slots.size = D.slots.size := by
    obtain ⟨-, -, -, kB, w1, w2, w3⟩ := q1
    obtain ⟨kB', y1, y2⟩ := al'.2.2 _ _ e3
    rw [q2.2.1] at w1
    cases w1.symm.trans y1
    rw [w3, e5 i3, y2]
  refine ⟨v, B, X', ⟨_, ⟨hv, ?_, ⟨by omega, fun y cy hy hn' => q10 y cy (by simpa using hn') hy, fun y cy hy => ?_⟩, q11, ⟨E', _, q1.1, by rw [q2.2.1]; exact e2, by rw [q2.2.1]; exact e3, by rw [q2.1]; exact obV, fun _ => by rw [hsz]; exact e5 i3⟩,
    ⟨E', cfV, kV, iV, fV, q1.1, gV, stV, by rw [q2.1]; exact knV, by rw [q2.1]; exact obV, by rw [q2.2.1]; exact asV, q3⟩, ⟨E', cfC, kC, iC, fC, q1.1, gC, stC, by rw [q2.1]; exact knV, by rw [q2.1]; exact obV, by rw [q2.2.1]; exact asC, q4⟩,
    ⟨V', ⟨q5.1, State.isArrayOf_alike al'.symm q5.2.1, q5.2.2.1⟩, q6, by rw [← al'.findClass]; exact q7, q8, fun j hj => by have := q9 j hj; rwa [Nat.zero_add] at this⟩, fun O n d w F n1 n2 => ?_⟩, hl, hc, hs⟩, st⟩
  · intro y hy
    simp only [List.mem_cons, List.not_mem_nil, or_false] at hy
    rcases hy with rfl | rfl <;> rfl
  · by_cases q : y = x
    · subst q
      cases hD.symm.trans hy
      exact ⟨E', q1.1, q2.2.1, q2.1, hsz⟩
    · exact ⟨cy, q10 y cy q hy, rfl, rfl, rfl⟩
  · obtain ⟨D3, cf, k, i, f, g1, g2, g3, g4, g5, g6, g7⟩ := F
    cases hD.symm.trans g1
    simp only [RoadKit.slotOf, g2, gV, gC, Option.map_some, Option.getD_some] at n1 n2
    exact ⟨E', cf, k, i, f, q1.1, g2, g3, by rw [q2.1]; exact g4, by rw [q2.1]; exact g5, by rw [q2.2.1]; exact g6, by rw [q2.2.2 f.slot (by simp [n1, n2])]; exact g7⟩
end StrChars.Road
namespace StrChars.Road
open Jvm Sem ClassFile Op Lib Jvm.Stand Jvm.Free Jvm.Free.XT
/-- WHAT COMES BACK, the byte[] as a list of values -/
def QA (Z : State) (x : Addr) (zn : Int32) (cs : List Int32) (h : Heap) (v : Option Value) (h' : Heap) (L : List Loc) : Prop := v = none ∧ (∀ y ∈ L, y.base = x) ∧ RoadKit.Keep h h' [x] ∧ h'.size = h.size + 1 ∧ RoadKit.Exa Z h' x ST ∧ RoadKit.Fld Z h' x ST "value" "[B" (.ref h.size) ∧ RoadKit.Fld Z h' x ST "coder" "B" (.int 0) ∧
  (∃ kb, Z.vm.findClass "[B" = some kb ∧ RoadKit.Arv Z h' h.size kb .byte zn (cs.map fun c => .int (lo8 c)) (.int 0)) ∧
  ∀ (O n d : String) (w : Value), RoadKit.Fld Z h x O n d w → RoadKit.slotOf Z O n d ≠ RoadKit.slotOf Z ST "value" "[B" → RoadKit.slotOf Z O n d ≠ RoadKit.slotOf Z ST "coder" "B" → RoadKit.Fld Z h' x O n d w
/-- **new String(chars) AT A CALL, THE ARRAYS AS LISTS**: the char[] at b holds cs, not empty, no char above 255 -/
theorem backArv {p : Program} {l : Launch} {e : Env} {R : Room} {s : State} {args : Array Value} {below : List Frame} {len W : Nat} {Z : State} {a0 : Array Value} {h : Heap} (hZ : Z.Warmed39 s.vm) (hw : ∀ d ∈ words, d.before a0 Z = true) {kI : Nat} (wi : (Jvm.Cond.instantiable ST kI).before a0 Z = true)
    {x b : Addr} {k : ClassId} {zn z : Int32} {cs : List Int32} {dv v0 c0 : Value} (E : RoadKit.Exa Z h x ST) (V : RoadKit.Fld Z h x ST "value" "[B" v0) (C : RoadKit.Fld Z h x ST "coder" "B" c0) (K : RoadKit.Arv Z h b k .char zn (cs.map Value.int) dv) (S : RoadKit.Sta Z h ST "COMPACT_STRINGS" "Z" (.int z)) (hz : ¬ z = 0)
    (hlen : zn.toNatClampNeg = cs.length) (h0 : 0 < cs.length) (hbig : cs.length ≤ 536870912) (hall : ∀ c ∈ cs, ¬ 255 < c) (hfr : 4 ≤ R.frames) (hlo : W + 65 ≤ R.locals) :
    Back l R p e below s args New1.yN len W (fun P a => a = #[.ref x, .ref b] ∧ P.U.heap = h ∧ P.cells + 1 ≤ R.cells ∧ P.slots + cs.length ≤ R.slots)
      (fun P _ v B => ∃ L, QA Z x zn cs h v B.U.heap L ∧ B.locs = P.locs ++ L ∧ B.cells = P.cells + 1 ∧ B.slots = P.slots + cs.length) := by
  obtain ⟨A, K1, K2, K3, K4, K5, K6⟩ := K
  have e : A.slots.size = cs.length := K3.trans hlen
  have hat : ∀ (i : Nat) (hi : i < cs.length), A.slots[i]? = some (.int cs[i]) := fun i hi => by rw [K5 i (by omega)]; simp [List.getD_eq_getElem?_getD, hi]
  have hcv : ∀ (i : Nat) (hi : i < cs.length), cv A i = cs[i] := fun i hi => by unfold cv; rw [hat i hi]
  have hty : Typed .char A := fun i v hv => by
    have hi : i < A.slots.size := (Array.getElem?_eq_some_iff.mp hv).1
    have q := K5 i hi
    rw [hv] at q
    rw [Option.some.inj q]
    exact K6 i hi
  refine Back.mono (back hZ hw wi E V C K1 hty S hz (by omega) (by omega) (fun i hi => by rw [hcv i (by omega)]; exact hall _ (List.getElem_mem _)) hfr hlo) (fun P a hp => ⟨hp.1, hp.2.1, hp.2.2.1, by rw [e]; exact hp.2.2.2⟩) (fun P a v B hp hq => ?_)
  obtain ⟨L, ⟨q1, q2, q3, q4, q5, q6, q7, ⟨V', v1, v2, v3, v4, v5⟩, q9⟩, hl, hc, hs⟩ := hq
  refine ⟨L, ⟨q1, q2, q3, q4, q5, q6, q7, ⟨V'.cls, v3, V', v1, rfl, by rw [v4, e, hlen], K4, fun i hi => ?_, fun i hi => ?_⟩, q9⟩, hl, hc, by rw [hs, e]⟩
  · have hi' : i < cs.length := by omega
    rw [v5 i (by omega), hcv i hi']; simp [List.getD_eq_getElem?_getD, hi']
  · have hi' : i < cs.length := by omega
    simp only [List.getD_eq_getElem?_getD, List.getElem?_map, List.getElem?_eq_getElem hi', Option.map_some, Option.getD_some]
    exact fits_lo8 _
end StrChars.Road
namespace StrChars.Road
open Jvm Sem ClassFile Op Lib Jvm.Stand Jvm.Free Jvm.Free.XT
/-- WHAT COMES BACK, in the writer's own shape -/
def QV (Z : State) (x : Addr) (N : Int32) (bs : List Int32) (h : Heap) (n0 : Nat) (v : Option Value) (h' : Heap) (L : List Loc) : Prop := v = none ∧ RoadKit.Fr n0 L ∧ RoadKit.Keep h h' [x] ∧ RoadKit.Exa Z h' x ST ∧ RoadKit.Fld Z h' x ST "coder" "B" (.int 0) ∧
  ∃ (t : Addr) (kb : ClassId), n0 ≤ t ∧ h.size ≤ t ∧ ¬ t = x ∧ RoadKit.Fld Z h' x ST "value" "[B" (.ref t) ∧ RoadKit.Arv Z h' t kb .byte N (bs.map Value.int) (.int 0)
/-- **new String(chars) AT A CALL, FOR THE WRITER**: a char[] of n known ints, each 0 to 255 -/
theorem backV {p : Program} {l : Launch} {e : Env} {R : Room} {s : State} {args : Array Value} {below : List Frame} {len W : Nat} {Z : State} {a0 : Array Value} {h : Heap} (hZ : Z.Warmed39 s.vm) (hw : ∀ d ∈ words, d.before a0 Z = true) {kI : Nat} (wi : (Jvm.Cond.instantiable ST kI).before a0 Z = true)
    {x b : Addr} {kC : ClassId} {cs bs : List Int32} {d v0 c0 : Value} {z N : Int32} {n n0 : Nat} (hx0 : n0 ≤ x) (hh0 : n0 ≤ h.size) (E : RoadKit.Exa Z h x ST) (V : RoadKit.Fld Z h x ST "value" "[B" v0) (C : RoadKit.Fld Z h x ST "coder" "B" c0) (K : RoadKit.Arv Z h b kC .char N (cs.map Value.int) d) (S : RoadKit.Sta Z h ST "COMPACT_STRINGS" "Z" (.int z)) (hz : ¬ z = 0)
    (hn : cs.length = n) (hN : N = Int32.ofNat n) (l0 : 0 < n) (l2 : n ≤ 4000) (hp : ∀ c ∈ cs, ¬ c < 0 ∧ ¬ (255 : Int32) < c) (hb : bs = cs.map (fun c => c.toInt8.toInt32)) (hfr : 4 ≤ R.frames) (hlo : W + 65 ≤ R.locals) :
    Back l R p e below s args (⟨"java/lang/String", "<init>", "([C)V"⟩ : MethodName) len W (fun P a => a = #[.ref x, .ref b] ∧ P.U.heap = h ∧ P.cells + 1 ≤ R.cells ∧ P.slots + n ≤ R.slots)
      (fun P _ v B => ∃ L, QV Z x N bs h n0 v B.U.heap L ∧ B.locs = P.locs ++ L ∧ B.cells = P.cells + 1 ∧ B.slots = P.slots + n) := by
  subst hn hN hb
  refine Back.mono (backArv hZ hw wi E V C K S hz (n32 (by omega)) l0 (by omega) (fun c hc => (hp c hc).2) hfr hlo) (fun P a hp => hp) (fun P a v B hp hq => ?_)
  obtain ⟨L, ⟨q1, q2, q3, q4, q5, q6, q7, ⟨kb, v1, v2⟩, q9⟩, hl, hc, hs⟩ := hq
  exact ⟨L, ⟨q1, fun y hy => by rw [q2 y hy]; exact hx0, q3, q5, q7, h.size, kb, hh0, Nat.le_refl _, Nat.ne_of_gt E.lt, q6, by rw [List.map_map]; exact v2⟩, hl, hc, hs⟩
end StrChars.Road
namespace StrChars
open Jvm Sem ClassFile Op Lib Jvm.Stand Jvm.Free.XT Jvm.Free.ALB Jvm.Free.JM Jvm.Free
open Jvm.Lib.Cold (StaticIs)
def hi8 (x : Int32) : Int32 := lo8 (x >>> ((8 : Int32) &&& 31))
/-- what StringUTF16.getChar makes of two bytes -/
def pairCh (u v : Int32) : Int32 := (((u &&& 255) <<< ((0 : Int32) &&& 31)) ||| ((v &&& 255) <<< ((8 : Int32) &&& 31))).toUInt32.toUInt16.toUInt32.toInt32
theorem lo8_and (x : Int32) : (lo8 x &&& 255).toBitVec.toNat = x.toBitVec.toNat % 256 := by
  have h : (lo8 x).toBitVec = (x.toBitVec.signExtend 8).signExtend 32 := by rw [lo8, Int8.toBitVec_toInt32, Int32.toBitVec_toInt8]
  rw [Int32.toBitVec_and, BitVec.toNat_and, h]
  have e : ((x.toBitVec.signExtend 8).signExtend 32).toNat % 256 = x.toBitVec.toNat % 256 := by
    rw [BitVec.toNat_signExtend]
    have hlt := x.toBitVec.isLt
    simp only [BitVec.toNat_setWidth, BitVec.toNat_signExtend]
    split <;> split <;> omega
  rw [← e]
  exact Nat.and_two_pow_sub_one_eq_mod _ 8
theorem pair_says {c : Int32} (h0 : ¬ c < 0) (h1 : ¬ 65535 < c) : pairCh (lo8 c) (hi8 c) = c := by
  rw [Int32.lt_iff_toInt_lt] at h0 h1
  have e0 : (0 : Int32).toInt = 0 := rfl
  have e1 : (65535 : Int32).toInt = 65535 := rfl
  have hc : c.toInt = c.toBitVec.toNat := by
    have := c.toBitVec.isLt
    have e : c.toInt = c.toBitVec.toInt := rfl
    rw [e] at h0 h1
    rw [e]
    rw [BitVec.toInt_eq_toNat_cond] at h0 h1 ⊢
    split at h0 <;> split <;> omega
  have hn : c.toBitVec.toNat < 65536 := by omega
  have a1 := lo8_and c
  have a2 : (hi8 c &&& 255).toBitVec.toNat = c.toBitVec.toNat / 256 := by
    rw [hi8, lo8_and]
    have e : ((8 : Int32) &&& 31) = 8 := by decide
    rw [e, Int32.toBitVec_shiftRight]
    have e2 : ((8 : Int32).toBitVec.smod 32) = 8#32 := by decide
    rw [e2, BitVec.sshiftRight_eq', BitVec.toNat_sshiftRight_of_msb_false (by rw [BitVec.msb_eq_false_iff_two_mul_lt]; omega)]
    show c.toBitVec.toNat >>> 8 % 256 = _
    rw [Nat.shiftRight_eq_div_pow]
    omega
  unfold pairCh
  apply Int32.toBitVec_inj.mp
  apply BitVec.eq_of_toNat_eq
  have f0 : ((0 : Int32) &&& 31) = 0 := by decide
  have f8 : ((8 : Int32) &&& 31) = 8 := by decide
  rw [f0, f8]
  have g : (((lo8 c &&& 255) <<< (0 : Int32)) ||| ((hi8 c &&& 255) <<< (8 : Int32))).toBitVec.toNat = c.toBitVec.toNat := by
    rw [Int32.toBitVec_or, Int32.toBitVec_shiftLeft, Int32.toBitVec_shiftLeft]
    have s0 : ((0 : Int32).toBitVec.smod 32) = 0#32 := by decide
    have s8 : ((8 : Int32).toBitVec.smod 32) = 8#32 := by decide
    rw [s0, s8, BitVec.toNat_or]
    simp only [BitVec.shiftLeft_eq', BitVec.toNat_shiftLeft, a1, a2]
    show (c.toBitVec.toNat % 256) <<< 0 % 2 ^ 32 ||| (c.toBitVec.toNat / 256) <<< 8 % 2 ^ 32 = _
    rw [Nat.shiftLeft_zero, Nat.mod_eq_of_lt (show c.toBitVec.toNat % 256 < 2 ^ 32 by omega), Nat.mod_eq_of_lt (show (c.toBitVec.toNat / 256) <<< 8 < 2 ^ 32 by rw [Nat.shiftLeft_eq]; omega), Nat.or_comm, ← Nat.shiftLeft_add_eq_or_of_lt (by omega), Nat.shiftLeft_eq]
    omega
  show BitVec.toNat (((((lo8 c &&& 255) <<< (0 : Int32)) ||| ((hi8 c &&& 255) <<< (8 : Int32))).toBitVec.setWidth 16).setWidth 32) = _
  rw [BitVec.toNat_setWidth, BitVec.toNat_setWidth, g]
  omega
end StrChars
namespace StrChars
open Jvm Sem ClassFile Op Lib Jvm.Stand Jvm.Free.XT Jvm.Free.ALB Jvm.Free.JM Jvm.Free
open Jvm.Lib.Cold (StaticIs)
/-- the array's cell V codes the n chars f 0 .. f (n - 1) by the coder cd, as the JDK does: coder 1 just where some char is above 255 -/
def Cod (cd : Int32) (n : Nat) (f : Nat → Int32) (V : Cell) : Prop := (cd = 0 ∧ V.slots.size = n ∧ ∀ j, j < n → V.slots[j]? = some (.int (lo8 (f j))) ∧ ¬ 255 < f j) ∨ (cd = 1 ∧ V.slots.size = 2 * n ∧ (∀ j, j < n → V.slots[2 * j]? = some (.int (lo8 (f j))) ∧ V.slots[2 * j + 1]? = some (.int (hi8 (f j)))) ∧ ∃ j, j < n ∧ 255 < f j)
/-- **x is a String of the n chars f 0 .. f (n - 1)**, Latin-1 or UTF-16; its array at t has the cell V -/
def Txt (x t : Addr) (V : Cell) (cd : Int32) (n : Nat) (f : Nat → Int32) (U : State) : Prop := Exact "java/lang/String" x U ∧ Has x "java/lang/String" "value" "[B" (.ref t) U ∧ Has x "java/lang/String" "coder" "B" (.int cd) U ∧ XT.Arr .byte t V U ∧ Cod cd n f V ∧ ∀ j, j < n → ¬ f j < 0 ∧ ¬ 65535 < f j
theorem Txt.mv {x t : Addr} {V : Cell} {cd : Int32} {n : Nat} {f : Nat → Int32} {U U' : State} (h : Txt x t V cd n f U) (hal : U.vm.Alike U'.vm) (hh : U'.heap = U.heap) : Txt x t V cd n f U' := ⟨h.1.mv hal hh, h.2.1.mv hal hh, h.2.2.1.mv hal hh, h.2.2.2.1.mv hal hh, h.2.2.2.2⟩
end StrChars
namespace StrChars.Road
open Jvm Sem ClassFile Op Lib Jvm.Stand Jvm.Free Jvm.Free.XT
open Jvm.Lib.Cold (StaticIs)
theorem consq {a : Array Value} {s : State} {c : Jvm.Cond} {L : List Jvm.Cond} (h0 : c.before a s = true) (h : ∀ w ∈ L, w.before a s = true) : ∀ w ∈ c :: L, w.before a s = true := fun w hw => (List.mem_cons.mp hw).elim (fun e => e ▸ h0) (h w)
/-- the bytes of the chars cs, low before high -/
def wideBytes : List Int32 → List Value
  | [] => []
  | c :: cs => .int (lo8 c) :: .int (hi8 c) :: wideBytes cs
theorem wide_lo (d : Value) : ∀ (cs : List Int32) (j : Nat), j < cs.length → (wideBytes cs).getD (2 * j) d = .int (lo8 (cs.getD j 0))
  | [], j, h => absurd h (Nat.not_lt_zero j)
  | c :: cs, 0, _ => rfl
  | c :: cs, j + 1, h => by
    have q := wide_lo d cs j (by simpa using h)
    rw [show 2 * (j + 1) = 2 * j + 1 + 1 from by omega]
    simpa [wideBytes] using q
theorem wide_hi (d : Value) : ∀ (cs : List Int32) (j : Nat), j < cs.length → (wideBytes cs).getD (2 * j + 1) d = .int (hi8 (cs.getD j 0))
  | [], j, h => absurd h (Nat.not_lt_zero j)
  | c :: cs, 0, _ => rfl
  | c :: cs, j + 1, h => by
    have q := wide_hi d cs j (by simpa using h)
    rw [show 2 * (j + 1) + 1 = 2 * j + 1 + 1 + 1 from by omega]
    simpa [wideBytes] using q
theorem low_at (d : Value) (cs : List Int32) (j : Nat) (h : j < cs.length) : (cs.map fun c => Value.int (lo8 c)).getD j d = .int (lo8 (cs.getD j 0)) := by
  simp [List.getD_eq_getElem?_getD, h]
/-- an array of N2 bytes vs codes the chars cs by the coder cd -/
def CodA (cs : List Int32) (cd N2 : Int32) (vs : List Value) : Prop := (cd = 0 ∧ N2 = Int32.ofNat cs.length ∧ vs = (cs.map fun c => Value.int (lo8 c)) ∧ ∀ c ∈ cs, ¬ 255 < c) ∨ (cd = 1 ∧ N2 = Int32.ofNat (2 * cs.length) ∧ vs = wideBytes cs ∧ ∃ c ∈ cs, 255 < c)
theorem CodA.cod {cs : List Int32} {cd N2 : Int32} {vs : List Value} {V : Cell} (h : CodA cs cd N2 vs) (hn : 2 * cs.length < 2 ^ 31) (hs : V.slots.size = N2.toNatClampNeg) (hv : RoadKit.Has V vs (.int 0)) : Cod cd cs.length (fun j => cs.getD j 0) V := by
  rcases h with ⟨rfl, rfl, rfl, h⟩ | ⟨rfl, rfl, rfl, c, hc, hw⟩
  · rw [n32 (by omega)] at hs
    exact Or.inl ⟨rfl, hs, fun j hj => ⟨by rw [hv j (by omega), low_at _ _ _ hj], by
      have e : cs.getD j 0 = cs[j] := by simp [List.getD_eq_getElem?_getD, hj]
      show ¬ 255 < cs.getD j 0
      rw [e]; exact h _ (List.getElem_mem _)⟩⟩
  · rw [n32 (by omega)] at hs
    obtain ⟨j, hj, rfl⟩ := List.getElem_of_mem hc
    exact Or.inr ⟨rfl, hs, fun j hj => ⟨by rw [hv _ (by omega), wide_lo _ _ _ hj], by rw [hv _ (by omega), wide_hi _ _ _ hj]⟩, j, hj, by
      have e : cs.getD j 0 = cs[j] := by simp [List.getD_eq_getElem?_getD, hj]
      show 255 < cs.getD j 0
      rw [e]; exact hw⟩
/-- an object of exactly java/lang/String, its two fields found: as the laws ask it -/
theorem strObj {Z U : State} {a0 : Array Value} {kI : Nat} (wi : (Jvm.Cond.instantiable ST kI).before a0 Z = true) (al : Z.vm.Alike U.vm) {x : Addr} {v0 c0 : Value} (E : RoadKit.Exa Z U.heap x ST) (V : RoadKit.Fld Z U.heap x ST "value" "[B" v0) (C : RoadKit.Fld Z U.heap x ST "coder" "B" c0) :
    ∃ (D : Cell) (fV fC : Field), Blank ST x D U ∧ Found ST "value" "[B" fV U ∧ Found ST "coder" "B" fC U ∧ D.slots[fV.slot]? = some v0 ∧ D.slots[fC.slot]? = some c0 ∧ RoadKit.slotOf Z ST "value" "[B" = fV.slot ∧ RoadKit.slotOf Z ST "coder" "B" = fC.slot := by
  obtain ⟨D, cfV, kV, iV, fV, hD, gV, stV, knV, obV, asV, slV⟩ := V
  obtain ⟨D', cfC, kC, iC, fC, hD', gC, stC, -, -, asC, slC⟩ := C
  cases hD.symm.trans hD'
  obtain ⟨D2, kD, e1, e2, e3, e4, e5⟩ := E
  cases hD.symm.trans e1
  obtain ⟨c2, k2, i1, i2, i3, -⟩ := Cond.instantiable_spec wi
  cases e2.symm.trans i1
  cases e3.symm.trans i2
  obtain ⟨kU, u1, u2⟩ := al.2.2 _ _ e3
  exact ⟨D, fV, fC, ⟨hD, ⟨knV, fun q hq => by rw [hq] at obV; cases obV⟩, by rw [al.findClass]; exact e2, kU, u1, by rw [u2]; exact i3, by rw [u2]; exact e5 i3⟩, ⟨SBG.found_only al ⟨cfV, kV, iV, gV⟩, stV⟩, ⟨SBG.found_only al ⟨cfC, kC, iC, gC⟩, stC⟩, slV, slC, by simp [RoadKit.slotOf, gV], by simp [RoadKit.slotOf, gC]⟩
theorem sta_is {Z U : State} (al : Z.vm.Alike U.vm) {C n d : String} {v : Value} (S : RoadKit.Sta Z U.heap C n d v) : StaticIs U C n d v := by
  obtain ⟨cfS, iS, kS, fS, st, cS, t1, t2, t3, t4, t5, t6, t7⟩ := S
  exact StaticIs.there (s := { Z with heap := U.heap }) ⟨cfS, iS, kS, fS, st, cS, t1, t2, t3, t4, t5, (fun q => by rw [q] at t6; cases t6), t7⟩ al rfl
end StrChars.Road
namespace StrChars
open Jvm Sem ClassFile Op Lib Jvm.Stand Jvm.Free.XT Jvm.Free.ALB Jvm.Free.JM Jvm.Free
open Jvm.Lib.Cold (StaticIs)
/-- what place i of a byte[]'s cell holds -/
def yv (A : Cell) (i : Nat) : Int32 := match A.slots[i]? with | some (.int x) => x | _ => 0
theorem yv_get {a : Addr} {A : Cell} {U : State} (h : XT.Arr .byte a A U) (ht : Typed .byte A) {i : Nat} (hi : i < A.slots.size) : A.slots[i]? = some (.int (yv A i)) := by
  have e := Array.getElem?_eq_getElem hi
  have f := ht i _ e
  unfold yv; rw [e]
  generalize A.slots[i] = v at f
  cases v <;> simp [fits] at f ⊢
/-- the two arrays are equal, place for place -/
def EqC (A B : Cell) : Prop := A.slots.size = B.slots.size ∧ ∀ i, i < A.slots.size → yv A i = yv B i
/-- a boolean that says whether p -/
def Says01 (q : Prop) (r : Option Value) (s u : State) : Prop := ∃ v : Int32, r = some (.int v) ∧ u.heap = s.heap ∧ ((v = 1 ∧ q) ∨ (v = 0 ∧ ¬ q))
theorem Says01.mv {q : Prop} : ∀ r (U U' V V' : State), U'.heap = U.heap → V.vm.Alike V'.vm → V'.heap = V.heap → Says01 q r U V → Says01 q r U' V' :=
  fun r U U' V V' h1 _ h2 ⟨v, a, b, c⟩ => ⟨v, a, by rw [h1, h2]; exact b, c⟩
namespace LEq
def yN : MethodName := ⟨"java/lang/StringLatin1", "equals", "([B[B)Z"⟩
abbrev yB : ByteArray := jdk_43_method_13_code
theorem d0 : decode yB 0 = .ok (.aload_n 0, 1) := by decide +kernel
theorem d1 : decode yB 1 = .ok (.arraylength, 1) := by decide +kernel
theorem d2 : decode yB 2 = .ok (.aload_n 1, 1) := by decide +kernel
theorem d3 : decode yB 3 = .ok (.arraylength, 1) := by decide +kernel
theorem d4 : decode yB 4 = .ok (.if_icmp (.ne) 30, 3) := by decide +kernel
theorem d7 : decode yB 7 = .ok (.iconst 0, 1) := by decide +kernel
theorem d8 : decode yB 8 = .ok (.istore_n 2, 1) := by decide +kernel
theorem d9 : decode yB 9 = .ok (.iload_n 2, 1) := by decide +kernel
theorem d10 : decode yB 10 = .ok (.aload_n 0, 1) := by decide +kernel
theorem d11 : decode yB 11 = .ok (.arraylength, 1) := by decide +kernel
theorem d12 : decode yB 12 = .ok (.if_icmp (.ge) 20, 3) := by decide +kernel
theorem d15 : decode yB 15 = .ok (.aload_n 0, 1) := by decide +kernel
theorem d16 : decode yB 16 = .ok (.iload_n 2, 1) := by decide +kernel
theorem d17 : decode yB 17 = .ok (.baload, 1) := by decide +kernel
theorem d18 : decode yB 18 = .ok (.aload_n 1, 1) := by decide +kernel
theorem d19 : decode yB 19 = .ok (.iload_n 2, 1) := by decide +kernel
theorem d20 : decode yB 20 = .ok (.baload, 1) := by decide +kernel
theorem d21 : decode yB 21 = .ok (.if_icmp (.eq) 5, 3) := by decide +kernel
theorem d24 : decode yB 24 = .ok (.iconst 0, 1) := by decide +kernel
theorem d25 : decode yB 25 = .ok (.ireturn, 1) := by decide +kernel
theorem d26 : decode yB 26 = .ok (.iinc 2 1, 3) := by decide +kernel
theorem d29 : decode yB 29 = .ok (.goto (-20), 3) := by decide +kernel
theorem d32 : decode yB 32 = .ok (.iconst 1, 1) := by decide +kernel
theorem d33 : decode yB 33 = .ok (.ireturn, 1) := by decide +kernel
theorem d34 : decode yB 34 = .ok (.iconst 0, 1) := by decide +kernel
theorem d35 : decode yB 35 = .ok (.ireturn, 1) := by decide +kernel
def site : List Cond := []
def tab : Cond := tabOf yN yB 3 (some .boolean) site
def P (a : Addr) (A : Cell) (b : Addr) (B : Cell) (args : Array Value) (s : State) : Prop := args = #[.ref a, .ref b] ∧ XT.Arr .byte a A s ∧ Typed .byte A ∧ XT.Arr .byte b B s ∧ Typed .byte B
/-- whether two byte[] are equal, place for place -/
theorem law (l : Launch) (a : Addr) (A : Cell) (b : Addr) (B : Cell) : Law l yN 2 2 0 0 yB 3 (some .boolean) site (P a A b B) (Says01 (EqC A B)) [] 0 0 := by
  refine Law.of_walk (plainFor_of_name (by decide +kernel)) (by decide +kernel) (by decide +kernel) (by decide) (fun _ _ h => by rw [h.1]; rfl) (fun _ U U' hal hh h => ⟨h.1, h.2.1.mv hal hh, h.2.2.1, h.2.2.2.1.mv hal hh, h.2.2.2.2⟩) (fun r U U' V V' h1 hal h2 h => Says01.mv r U U' V V' h1 hal h2 h) ?_
  intro p e s m args below meth c s₁ X0 hexec hbytes hml hret hlk hnm hown hh0 W hP
  obtain ⟨rfl, hA, tA, hB, tB⟩ := hP
  have a31 := hA.2.2.2
  have b31 := hB.2.2.2
  have hA0 := hA.mv X0.warmed.alike hh0
  have hB0 := hB.mv X0.warmed.alike hh0
  have c1 : Steps p.tables e below (s₁.setTop (entryFrame m #[.ref a, .ref b] 3)) (s₁.setTop (mkF m 0 #[.val (.ref a), .val (.ref b), .unset] [])) := entry rfl
  have c2 : Steps p.tables e below (s₁.setTop (entryFrame m #[.ref a, .ref b] 3)) (s₁.setTop (mkF m 4 #[.val (.ref a), .val (.ref b), .unset] [.int (Int32.ofNat B.slots.size), .int (Int32.ofNat A.slots.size)])) := c1.trans (by
    refine XS.aloadN X0.here hexec rfl (hb hbytes d0) rfl rfl ?_
    refine X0.alen hexec hA0 rfl rfl (hb hbytes d1) ?_
    refine XS.aloadN X0.here hexec rfl (hb hbytes d2) rfl rfl ?_
    refine X0.alen hexec hB0 rfl rfl (hb hbytes d3) ?_
    exact Steps.refl _)
  by_cases hs : A.slots.size = B.slots.size
  · have c3 : Steps p.tables e below (s₁.setTop (entryFrame m #[.ref a, .ref b] 3)) (s₁.setTop (mkF m 9 #[.val (.ref a), .val (.ref b), .val (.int 0)] [])) := c2.trans (by
      refine XS.icmpNo X0.here hexec rfl (hb hbytes d4) rfl (ii_ne_f (by rw [hs])) ?_
      refine iconstV X0.here hexec rfl 0 (hb hbytes d7) (by decide) ?_
      refine XS.istoreN X0.here hexec rfl (hb hbytes d8) rfl rfl ?_
      exact Steps.refl _)
    have loop : ∀ (r i : Nat), i + r = A.slots.size → (∀ j, j < i → yv A j = yv B j) → Steps p.tables e below (s₁.setTop (entryFrame m #[.ref a, .ref b] 3)) (s₁.setTop (mkF m 9 #[.val (.ref a), .val (.ref b), .val (.int (Int32.ofNat i))] [])) → ∃ (pc : Nat) (Ls : Array Slot) (v : Int32), (pc = 25 ∨ pc = 33) ∧ ((v = 1 ∧ EqC A B) ∨ (v = 0 ∧ ¬ EqC A B)) ∧ Steps p.tables e below (s₁.setTop (entryFrame m #[.ref a, .ref b] 3)) (s₁.setTop (mkF m pc Ls [.int v])) := by
      intro r
      induction r with
      | zero =>
        intro i hi he cl
        exact ⟨33, _, 1, Or.inr rfl, Or.inl ⟨rfl, hs, fun j hj => he j (by omega)⟩, cl.trans (by
          refine XS.iloadN X0.here hexec rfl (hb hbytes d9) rfl ?_
          refine XS.aloadN X0.here hexec rfl (hb hbytes d10) rfl rfl ?_
          refine X0.alen hexec hA0 rfl rfl (hb hbytes d11) ?_
          refine XS.icmpYes X0.here hexec rfl (pc0 := 12) rfl (hb hbytes d12) rfl (ii_ge_t (nlt32 (by omega) (by omega))) (by decide) rfl ?_
          refine iconstV X0.here hexec rfl 1 (hb hbytes d32) (by decide) ?_
          exact Steps.refl _)⟩
      | succ r ih =>
        intro i hi he cl
        have c4 : Steps p.tables e below (s₁.setTop (entryFrame m #[.ref a, .ref b] 3)) (s₁.setTop (mkF m 21 #[.val (.ref a), .val (.ref b), .val (.int (Int32.ofNat i))] [.int (yv B i), .int (yv A i)])) := cl.trans (by
          refine XS.iloadN X0.here hexec rfl (hb hbytes d9) rfl ?_
          refine XS.aloadN X0.here hexec rfl (hb hbytes d10) rfl rfl ?_
          refine X0.alen hexec hA0 rfl rfl (hb hbytes d11) ?_
          refine XS.icmpNo X0.here hexec rfl (hb hbytes d12) rfl (ii_ge_f (lt32 (by omega) (by omega))) ?_
          refine XS.aloadN X0.here hexec rfl (hb hbytes d15) rfl rfl ?_
          refine XS.iloadN X0.here hexec rfl (hb hbytes d16) rfl ?_
          refine X0.aget hexec hA0 rfl (yv_get hA tA (i := i) (by omega)) rfl rfl (hb hbytes d17) ?_
          refine XS.aloadN X0.here hexec rfl (hb hbytes d18) rfl rfl ?_
          refine XS.iloadN X0.here hexec rfl (hb hbytes d19) rfl ?_
          refine X0.aget hexec hB0 rfl (yv_get hB tB (i := i) (by omega)) rfl rfl (hb hbytes d20) ?_
          exact Steps.refl _)
        by_cases hv : yv A i = yv B i
        · have c5 : Steps p.tables e below (s₁.setTop (entryFrame m #[.ref a, .ref b] 3)) (s₁.setTop (mkF m 9 #[.val (.ref a), .val (.ref b), .val (.int (Int32.ofNat i + 1))] [])) := c4.trans (by
            refine XS.icmpYes X0.here hexec rfl (pc0 := 21) rfl (hb hbytes d21) rfl (ii_eq_t hv) (by decide) rfl ?_
            refine iincV X0.here hexec rfl 1 (hb hbytes d26) (by decide) rfl rfl ?_
            refine XS.goto X0.here hexec rfl (pc0 := 29) rfl (hb hbytes d29) (by decide) rfl ?_
            exact Steps.refl _)
          rw [succ32] at c5
          exact ih (i + 1) (by omega) (fun j hj => by
            by_cases e : j = i
            · rw [e]; exact hv
            · exact he j (by omega)) c5
        · exact ⟨25, _, 0, Or.inl rfl, Or.inr ⟨rfl, fun q => hv (q.2 i (by omega))⟩, c4.trans (by
            refine XS.icmpNo X0.here hexec rfl (hb hbytes d21) rfl (ii_eq_f hv) ?_
            refine iconstV X0.here hexec rfl 0 (hb hbytes d24) (by decide) ?_
            exact Steps.refl _)⟩
    obtain ⟨pc, Ls, v, hpc, hv, cz⟩ := loop A.slots.size 0 (by omega) (fun j hj => absurd hj (Nat.not_lt_zero j)) c3
    have nv : narrow .boolean (.int v) = .int v := by rcases hv with ⟨rfl, -⟩ | ⟨rfl, -⟩ <;> rfl
    rcases hpc with rfl | rfl
    · exact ⟨s₁, some (.int v), _, _, _, X0, rfl, rfl, rfl, (fun h => by cases h), ⟨v, rfl, hh0, hv⟩, fun fs hl => cz.trans (X0.ireturnOut hexec hret nv (Or.inr (Or.inl rfl)) (hb hbytes d25) hl)⟩
    · exact ⟨s₁, some (.int v), _, _, _, X0, rfl, rfl, rfl, (fun h => by cases h), ⟨v, rfl, hh0, hv⟩, fun fs hl => cz.trans (X0.ireturnOut hexec hret nv (Or.inr (Or.inl rfl)) (hb hbytes d33) hl)⟩
  · have c3 : Steps p.tables e below (s₁.setTop (entryFrame m #[.ref a, .ref b] 3)) (s₁.setTop (mkF m 35 #[.val (.ref a), .val (.ref b), .unset] [.int 0])) := c2.trans (by
      refine XS.icmpYes X0.here hexec rfl (pc0 := 4) rfl (hb hbytes d4) rfl (ii_ne_t (ne32 a31 b31 hs)) (by decide) rfl ?_
      refine iconstV X0.here hexec rfl 0 (hb hbytes d34) (by decide) ?_
      exact Steps.refl _)
    exact ⟨s₁, some (.int 0), _, _, _, X0, rfl, rfl, rfl, (fun h => by cases h), ⟨0, rfl, hh0, Or.inr ⟨rfl, fun q => hs q.1⟩⟩, fun fs hl => c3.trans (X0.ireturnOut hexec hret rfl (Or.inr (Or.inl rfl)) (hb hbytes d35) hl)⟩
end LEq
theorem Cod.ty {cd : Int32} {n : Nat} {f : Nat → Int32} {V : Cell} (h : Cod cd n f V) : Typed .byte V := fun i v hv => by
  have hi : i < V.slots.size := (Array.getElem?_eq_some_iff.mp hv).1
  rcases h with ⟨-, k1, k2⟩ | ⟨-, k1, k2, -⟩
  · rw [(k2 i (by omega)).1] at hv; cases hv; exact fits_lo8 _
  · rcases Nat.mod_two_eq_zero_or_one i with e | e
    · obtain ⟨j, rfl⟩ : ∃ j, i = 2 * j := ⟨i / 2, by omega⟩
      rw [(k2 j (by omega)).1] at hv; cases hv; exact fits_lo8 _
    · obtain ⟨j, rfl⟩ : ∃ j, i = 2 * j + 1 := ⟨i / 2, by omega⟩
      rw [(k2 j (by omega)).2] at hv; cases hv; exact fits_lo8 _
/-- the same text -/
def SameT (n : Nat) (f : Nat → Int32) (k : Nat) (g : Nat → Int32) : Prop := n = k ∧ ∀ j, j < n → f j = g j
theorem lo8_inj {x y : Int32} (h0 : ¬ x < 0) (h1 : ¬ 255 < x) (k0 : ¬ y < 0) (k1 : ¬ 255 < y) (h : lo8 x = lo8 y) : x = y := by
  rw [← lo8_mask h0 h1, ← lo8_mask k0 k1, h]
/-- arrays coded by one coder are equal just where the texts are -/
theorem Cod.eqv {cd : Int32} {n k : Nat} {f g : Nat → Int32} {V V' : Cell} (h : Cod cd n f V) (h' : Cod cd k g V') (hf : ∀ j, j < n → ¬ f j < 0 ∧ ¬ 65535 < f j) (hg : ∀ j, j < k → ¬ g j < 0 ∧ ¬ 65535 < g j) : EqC V V' ↔ SameT n f k g := by
  have yvv : ∀ {W : Cell} {i : Nat} {x : Int32}, W.slots[i]? = some (.int x) → yv W i = x := fun q => by unfold yv; rw [q]
  rcases h with ⟨rfl, k1, k2⟩ | ⟨rfl, k1, k2, -⟩
  · rcases h' with ⟨-, m1, m2⟩ | ⟨e, -⟩
    · constructor
      · rintro ⟨e1, e2⟩
        refine ⟨by omega, fun j hj => ?_⟩
        have q := e2 j (by omega)
        rw [yvv (k2 j hj).1, yvv (m2 j (by omega)).1] at q
        exact lo8_inj (hf j hj).1 (k2 j hj).2 (hg j (by omega)).1 (m2 j (by omega)).2 q
      · rintro ⟨rfl, e2⟩
        refine ⟨by omega, fun j hj => ?_⟩
        rw [yvv (k2 j (by omega)).1, yvv (m2 j (by omega)).1, e2 j (by omega)]
    · exact absurd e (by decide)
  · rcases h' with ⟨e, -⟩ | ⟨-, m1, m2, -⟩
    · exact absurd e (by decide)
    · constructor
      · rintro ⟨e1, e2⟩
        refine ⟨by omega, fun j hj => ?_⟩
        have q1 := e2 (2 * j) (by omega)
        have q2 := e2 (2 * j + 1) (by omega)
        rw [yvv (k2 j hj).1, yvv (m2 j (by omega)).1] at q1
        rw [yvv (k2 j hj).2, yvv (m2 j (by omega)).2] at q2
        rw [← pair_says (hf j hj).1 (hf j hj).2, ← pair_says (hg j (by omega)).1 (hg j (by omega)).2, q1, q2]
      · rintro ⟨rfl, e2⟩
        refine ⟨by omega, fun i hi => ?_⟩
        rcases Nat.mod_two_eq_zero_or_one i with e | e
        · obtain ⟨j, rfl⟩ : ∃ j, i = 2 * j := ⟨i / 2, by omega⟩
          rw [yvv (k2 j (by omega)).1, yvv (m2 j (by omega)).1, e2 j (by omega)]
        · obtain ⟨j, rfl⟩ : ∃ j, i = 2 * j + 1 := ⟨i / 2, by omega⟩
          rw [yvv (k2 j (by omega)).2, yvv (m2 j (by omega)).2, e2 j (by omega)]
/-- two codings differ: so do the texts -/
theorem Cod.dif {cd cd' : Int32} {n k : Nat} {f g : Nat → Int32} {V V' : Cell} (h : Cod cd n f V) (h' : Cod cd' k g V') (hne : ¬ cd = cd') : ¬ SameT n f k g := by
  rintro ⟨rfl, e⟩
  rcases h with ⟨rfl, -, k2⟩ | ⟨rfl, -, -, j, hj, hw⟩
  · rcases h' with ⟨rfl, -⟩ | ⟨-, -, -, j, hj, hw⟩
    · exact hne rfl
    · exact (k2 j hj).2 (by rw [e j hj]; exact hw)
  · rcases h' with ⟨-, -, m2⟩ | ⟨rfl, -⟩
    · exact (m2 j hj).2 (by rw [← e j hj]; exact hw)
    · exact hne rfl
/-- an object of exactly C is an instance of C -/
theorem cinst {p : Program} {l : Launch} {e : Env} {R : Room} {s : State} {m : MethodId} {args : Array Value} {below : List Frame} {meth : Method} {c : Code} {T : State} {locs : List Loc} {cells slots : Nat} (X : Stand p l e R s m args below meth c T locs cells slots) (hexec : p.tables.exec = Jvm.exec) {own C : String} {index : Nat} (hown : s.vm.findClass own = some m.cls) (hlink : (Cond.classLink own index C).before args s = true) {a : Addr} (hE : Exact C a T)
    {g : JFrame} (hg : g.method = m) {rest : List Value} (hstack : g.stack = .ref a :: rest) (hdg : decode c.code g.pc = .ok (.instanceof index, 3)) :
    ∃ T', Stand p l e R s m args below meth c T' locs cells slots ∧ T'.heap = T.heap ∧ ∀ target, Steps p.tables e below (T'.setTop { g with pc := g.pc + 3, stack := .int 1 :: rest }) target → Steps p.tables e below (T.setTop g) target := by
  obtain ⟨cB, h1, D, h2, h3, h4⟩ := hE
  have h1' : s.vm.findClass C = some cB := by rw [← X.warmed.alike.findClass]; exact h1
  obtain ⟨vm', X', st⟩ := X.instanceofYes hexec hown hlink h2 h4 h1' (by rw [h3]; exact Jvm.Free.SB.assignable_self _ _) hg hstack hdg
  exact ⟨_, X', rfl, st⟩
theorem cself {p : Program} {l : Launch} {e : Env} {R : Room} {s : State} {m : MethodId} {args : Array Value} {below : List Frame} {meth : Method} {c : Code} {T : State} {locs : List Loc} {cells slots : Nat} (X : Stand p l e R s m args below meth c T locs cells slots) (hexec : p.tables.exec = Jvm.exec) {own C : String} {index : Nat} (hown : s.vm.findClass own = some m.cls) (hlink : (Cond.classLink own index C).before args s = true) {a : Addr} (hE : Exact C a T)
    {g : JFrame} (hg : g.method = m) {rest : List Value} (hstack : g.stack = .ref a :: rest) (hdg : decode c.code g.pc = .ok (.checkcast index, 3)) :
    ∃ T', Stand p l e R s m args below meth c T' locs cells slots ∧ T'.heap = T.heap ∧ ∀ target, Steps p.tables e below (T'.setTop { g with pc := g.pc + 3, stack := .ref a :: rest }) target → Steps p.tables e below (T.setTop g) target := by
  obtain ⟨cB, h1, D, h2, h3, h4⟩ := hE
  have h1' : s.vm.findClass C = some cB := by rw [← X.warmed.alike.findClass]; exact h1
  obtain ⟨vm', X', st⟩ := X.checkcastYes hexec hown hlink h2 h4 h1' (by rw [h3]; exact Jvm.Free.SB.assignable_self _ _) hg hstack hdg
  exact ⟨_, X', rfl, fun t h => st t (by rw [← hstack] at h; exact h)⟩
namespace SEq
def yN : MethodName := ⟨"java/lang/String", "equals", "(Ljava/lang/Object;)Z"⟩
abbrev yB : ByteArray := jdk_42_method_66_code
theorem d0 : decode yB 0 = .ok (.aload_n 0, 1) := by decide +kernel
theorem d1 : decode yB 1 = .ok (.aload_n 1, 1) := by decide +kernel
theorem d2 : decode yB 2 = .ok (.if_acmp (.ne) 5, 3) := by decide +kernel
theorem d5 : decode yB 5 = .ok (.iconst 1, 1) := by decide +kernel
theorem d6 : decode yB 6 = .ok (.ireturn, 1) := by decide +kernel
theorem d7 : decode yB 7 = .ok (.aload_n 1, 1) := by decide +kernel
theorem d8 : decode yB 8 = .ok (.instanceof 10, 3) := by decide +kernel
theorem d11 : decode yB 11 = .ok (.ifCond (.eq) 43, 3) := by decide +kernel
theorem d14 : decode yB 14 = .ok (.aload_n 1, 1) := by decide +kernel
theorem d15 : decode yB 15 = .ok (.checkcast 10, 3) := by decide +kernel
theorem d18 : decode yB 18 = .ok (.astore_n 2, 1) := by decide +kernel
theorem d19 : decode yB 19 = .ok (.getstatic 38, 3) := by decide +kernel
theorem d22 : decode yB 22 = .ok (.ifCond (.eq) 14, 3) := by decide +kernel
theorem d25 : decode yB 25 = .ok (.aload_n 0, 1) := by decide +kernel
theorem d26 : decode yB 26 = .ok (.getfield 15, 3) := by decide +kernel
theorem d29 : decode yB 29 = .ok (.aload_n 2, 1) := by decide +kernel
theorem d30 : decode yB 30 = .ok (.getfield 15, 3) := by decide +kernel
theorem d33 : decode yB 33 = .ok (.if_icmp (.ne) 21, 3) := by decide +kernel
theorem d36 : decode yB 36 = .ok (.aload_n 0, 1) := by decide +kernel
theorem d37 : decode yB 37 = .ok (.getfield 9, 3) := by decide +kernel
theorem d40 : decode yB 40 = .ok (.aload_n 2, 1) := by decide +kernel
theorem d41 : decode yB 41 = .ok (.getfield 9, 3) := by decide +kernel
theorem d44 : decode yB 44 = .ok (.invokestatic 541, 3) := by decide +kernel
theorem d47 : decode yB 47 = .ok (.ifCond (.eq) 7, 3) := by decide +kernel
theorem d50 : decode yB 50 = .ok (.iconst 1, 1) := by decide +kernel
theorem d51 : decode yB 51 = .ok (.goto 4, 3) := by decide +kernel
theorem d54 : decode yB 54 = .ok (.iconst 0, 1) := by decide +kernel
theorem d55 : decode yB 55 = .ok (.ireturn, 1) := by decide +kernel
def site : List Cond := [.classLink "java/lang/String" 10 "java/lang/String", .fieldLink "java/lang/String" 38 "java/lang/String" "COMPACT_STRINGS" "Z", .fieldLink "java/lang/String" 15 "java/lang/String" "coder" "B", .fieldLink "java/lang/String" 9 "java/lang/String" "value" "[B", LEq.tab] ++ staticW "java/lang/String" 541 LEq.yN
def tab : Cond := tabOf yN yB 3 (some .boolean) site
def P (x t : Addr) (V : Cell) (cd : Int32) (n : Nat) (f : Nat → Int32) (y t' : Addr) (V' : Cell) (cd' : Int32) (k : Nat) (g : Nat → Int32) (z : Int32) (args : Array Value) (s : State) : Prop := args = #[.ref x, .ref y] ∧ Txt x t V cd n f s ∧ Txt y t' V' cd' k g s ∧ StaticIs s "java/lang/String" "COMPACT_STRINGS" "Z" (.int z) ∧ ¬ z = 0
/-- equals(Object) of two Strings: whether the texts are the same -/
theorem law (l : Launch) (x t : Addr) (V : Cell) (cd : Int32) (n : Nat) (f : Nat → Int32) (y t' : Addr) (V' : Cell) (cd' : Int32) (k : Nat) (g : Nat → Int32) (z : Int32) : Law l yN 2 1 1 14 yB 3 (some .boolean) site (P x t V cd n f y t' V' cd' k g z) (Says01 (SameT n f k g)) [] 0 0 := by
  refine Law.of_walk (plainFor_of_name (by decide +kernel)) (by decide +kernel) (by decide +kernel) (by decide) (fun _ _ h => by rw [h.1]; rfl) (fun _ U U' hal hh h => ⟨h.1, h.2.1.mv hal hh, h.2.2.1.mv hal hh, h.2.2.2.1.there hal hh, h.2.2.2.2⟩) (fun r U U' V V' h1 hal h2 h => Says01.mv r U U' V V' h1 hal h2 h) ?_
  intro p e s m args below meth c s₁ X0 hexec hbytes hml hret hlk hnm hown hh0 W hP
  obtain ⟨rfl, hx, hy, s1, hz⟩ := hP
  have c1 : Steps p.tables e below (s₁.setTop (entryFrame m #[.ref x, .ref y] 3)) (s₁.setTop (mkF m 2 #[.val (.ref x), .val (.ref y), .unset] [.ref y, .ref x])) := Steps.trans (entry rfl) (by
    show Steps p.tables e below (s₁.setTop (mkF m 0 #[.val (.ref x), .val (.ref y), .unset] [])) _
    refine XS.aloadN X0.here hexec rfl (hb hbytes d0) rfl rfl ?_
    refine XS.aloadN X0.here hexec rfl (hb hbytes d1) rfl rfl ?_
    exact Steps.refl _)
  by_cases hxy : x = y
  · have c2 : Steps p.tables e below (s₁.setTop (entryFrame m #[.ref x, .ref y] 3)) (s₁.setTop (mkF m 6 #[.val (.ref x), .val (.ref y), .unset] [.int 1])) := c1.trans (by
      refine acmpNo X0.here hexec rfl (hb hbytes d2) rfl rfl rfl (by simp [acmp, hxy]) ?_
      refine iconstV X0.here hexec rfl 1 (hb hbytes d5) (by decide) ?_
      exact Steps.refl _)
    subst hxy
    have ec : cd = cd' := by
      obtain ⟨D, fd, a1, a2, a3⟩ := hx.2.2.1
      obtain ⟨D', fd', b1, b2, b3⟩ := hy.2.2.1
      cases a1.symm.trans b1
      obtain ⟨q1, q2, q3, q4⟩ := a2.1
      obtain ⟨r1, r2, r3, r4⟩ := b2.1
      cases q4.symm.trans r4
      cases a3.symm.trans b3; rfl
    have et : t = t' := by
      obtain ⟨D, fd, a1, a2, a3⟩ := hx.2.1
      obtain ⟨D', fd', b1, b2, b3⟩ := hy.2.1
      cases a1.symm.trans b1
      obtain ⟨q1, q2, q3, q4⟩ := a2.1
      obtain ⟨r1, r2, r3, r4⟩ := b2.1
      cases q4.symm.trans r4
      cases a3.symm.trans b3; rfl
    subst ec et
    have ev : V = V' := by cases hx.2.2.2.1.1.symm.trans hy.2.2.2.1.1; rfl
    subst ev
    have hs : SameT n f k g := (Cod.eqv hx.2.2.2.2.1 hy.2.2.2.2.1 hx.2.2.2.2.2 hy.2.2.2.2.2).mp ⟨rfl, fun _ _ => rfl⟩
    exact ⟨s₁, some (.int 1), _, _, _, X0, rfl, rfl, rfl, (fun h => by cases h), ⟨1, rfl, hh0, Or.inl ⟨rfl, hs⟩⟩, fun fs hl => c2.trans (X0.ireturnOut hexec hret rfl (Or.inr (Or.inl rfl)) (hb hbytes d6) hl)⟩
  · have c2 : Steps p.tables e below (s₁.setTop (entryFrame m #[.ref x, .ref y] 3)) (s₁.setTop (mkF m 8 #[.val (.ref x), .val (.ref y), .unset] [.ref y])) := c1.trans (by
      refine acmpYes X0.here hexec rfl (pc0 := 2) rfl (hb hbytes d2) rfl rfl rfl (by simp [acmp, hxy]) (by decide) rfl ?_
      refine XS.aloadN X0.here hexec rfl (hb hbytes d7) rfl rfl ?_
      exact Steps.refl _)
    obtain ⟨T3, X3, q3, st3⟩ := cinst X0 hexec hown (wk W (.classLink "java/lang/String" 10 "java/lang/String")) (hy.mv X0.warmed.alike hh0).1 (g := (mkF m 8 #[.val (.ref x), .val (.ref y), .unset] [.ref y])) rfl (rest := []) rfl (hb hbytes d8)
    have hh3 := q3.trans hh0
    have c4 : Steps p.tables e below (s₁.setTop (entryFrame m #[.ref x, .ref y] 3)) (T3.setTop (mkF m 15 #[.val (.ref x), .val (.ref y), .unset] [.ref y])) := (c2.trans (st3 _ (Steps.refl _))).trans (by
      refine XS.ifNo X3.here hexec rfl (hb hbytes d11) rfl (i0_eq_f (by decide)) ?_
      refine XS.aloadN X3.here hexec rfl (hb hbytes d14) rfl rfl ?_
      exact Steps.refl _)
    obtain ⟨T5, X5, q5, st5⟩ := cself X3 hexec hown (wk W (.classLink "java/lang/String" 10 "java/lang/String")) (hy.mv X3.warmed.alike hh3).1 (g := (mkF m 15 #[.val (.ref x), .val (.ref y), .unset] [.ref y])) rfl (rest := []) rfl (hb hbytes d15)
    have hh5 := q5.trans hh3
    have c6 : Steps p.tables e below (s₁.setTop (entryFrame m #[.ref x, .ref y] 3)) (T5.setTop (mkF m 19 #[.val (.ref x), .val (.ref y), .val (.ref y)] [])) := (c4.trans (st5 _ (Steps.refl _))).trans (by
      refine XS.astoreN X5.here hexec rfl (hb hbytes d18) rfl rfl rfl ?_
      exact Steps.refl _)
    obtain ⟨T7, X7, q7, st7⟩ := X5.sget hexec hown (wk W (.fieldLink "java/lang/String" 38 "java/lang/String" "COMPACT_STRINGS" "Z")) s1 (fun _ _ h => by rw [hh5]; exact h) (g := (mkF m 19 #[.val (.ref x), .val (.ref y), .val (.ref y)] [])) rfl (hb hbytes d19)
    have hh7 := q7.trans hh5
    have c8 : Steps p.tables e below (s₁.setTop (entryFrame m #[.ref x, .ref y] 3)) (T7.setTop (mkF m 26 #[.val (.ref x), .val (.ref y), .val (.ref y)] [.ref x])) := (c6.trans (st7 _ (Steps.refl _))).trans (by
      refine XS.ifNo X7.here hexec rfl (hb hbytes d22) rfl (i0_eq_f hz) ?_
      refine XS.aloadN X7.here hexec rfl (hb hbytes d25) rfl rfl ?_
      exact Steps.refl _)
    obtain ⟨T9, X9, q9, st9⟩ := X7.hget hexec hown (wk W (.fieldLink "java/lang/String" 15 "java/lang/String" "coder" "B")) (hx.mv X7.warmed.alike hh7).2.2.1 (g := (mkF m 26 #[.val (.ref x), .val (.ref y), .val (.ref y)] [.ref x])) rfl (rest := []) rfl (hb hbytes d26)
    have hh9 := q9.trans hh7
    have c10 : Steps p.tables e below (s₁.setTop (entryFrame m #[.ref x, .ref y] 3)) (T9.setTop (mkF m 30 #[.val (.ref x), .val (.ref y), .val (.ref y)] [.ref y, .int cd])) := (c8.trans (st9 _ (Steps.refl _))).trans (by
      refine XS.aloadN X9.here hexec rfl (hb hbytes d29) rfl rfl ?_
      exact Steps.refl _)
    obtain ⟨T11, X11, q11, st11⟩ := X9.hget hexec hown (wk W (.fieldLink "java/lang/String" 15 "java/lang/String" "coder" "B")) (hy.mv X9.warmed.alike hh9).2.2.1 (g := (mkF m 30 #[.val (.ref x), .val (.ref y), .val (.ref y)] [.ref y, .int cd])) rfl (rest := [.int cd]) rfl (hb hbytes d30)
    have hh11 := q11.trans hh9
    have c12 : Steps p.tables e below (s₁.setTop (entryFrame m #[.ref x, .ref y] 3)) (T11.setTop (mkF m 33 #[.val (.ref x), .val (.ref y), .val (.ref y)] [.int cd', .int cd])) := c10.trans (st11 _ (Steps.refl _))
    by_cases hcd : cd = cd'
    · subst hcd
      have c13 : Steps p.tables e below (s₁.setTop (entryFrame m #[.ref x, .ref y] 3)) (T11.setTop (mkF m 37 #[.val (.ref x), .val (.ref y), .val (.ref y)] [.ref x])) := c12.trans (by
        refine XS.icmpNo X11.here hexec rfl (hb hbytes d33) rfl (ii_ne_f rfl) ?_
        refine XS.aloadN X11.here hexec rfl (hb hbytes d36) rfl rfl ?_
        exact Steps.refl _)
      obtain ⟨T14, X14, q14, st14⟩ := X11.hget hexec hown (wk W (.fieldLink "java/lang/String" 9 "java/lang/String" "value" "[B")) (hx.mv X11.warmed.alike hh11).2.1 (g := (mkF m 37 #[.val (.ref x), .val (.ref y), .val (.ref y)] [.ref x])) rfl (rest := []) rfl (hb hbytes d37)
      have hh14 := q14.trans hh11
      have c15 : Steps p.tables e below (s₁.setTop (entryFrame m #[.ref x, .ref y] 3)) (T14.setTop (mkF m 41 #[.val (.ref x), .val (.ref y), .val (.ref y)] [.ref y, .ref t])) := (c13.trans (st14 _ (Steps.refl _))).trans (by
        refine XS.aloadN X14.here hexec rfl (hb hbytes d40) rfl rfl ?_
        exact Steps.refl _)
      obtain ⟨T16, X16, q16, st16⟩ := X14.hget hexec hown (wk W (.fieldLink "java/lang/String" 9 "java/lang/String" "value" "[B")) (hy.mv X14.warmed.alike hh14).2.1 (g := (mkF m 41 #[.val (.ref x), .val (.ref y), .val (.ref y)] [.ref y, .ref t])) rfl (rest := [.ref t]) rfl (hb hbytes d41)
      have hh16 := q16.trans hh14
      have c17 : Steps p.tables e below (s₁.setTop (entryFrame m #[.ref x, .ref y] 3)) (T16.setTop (mkF m 44 #[.val (.ref x), .val (.ref y), .val (.ref y)] [.ref t', .ref t])) := c15.trans (st16 _ (Steps.refl _))
      obtain ⟨v18, T18, X18, E18, g18⟩ := X16.callS hexec (LEq.law l t V t' V') hown (wks W (staticW "java/lang/String" 541 LEq.yN)) (wk W LEq.tab) (W := 0) (Nat.le_of_ble_eq_true rfl) (Nat.le_of_ble_eq_true rfl) (Nat.le_refl _) (Nat.le_refl _) (g := (mkF m 44 #[.val (.ref x), .val (.ref y), .val (.ref y)] [.ref t', .ref t])) rfl (by rw [hml]; rfl) c17 (argsL := [.ref t, .ref t']) (rest := []) rfl rfl (by show 2 * 0 + 0 ≤ _; decide) (hb hbytes d44) (⟨rfl, hx.2.2.2.1.mv X16.warmed.alike hh16, hx.2.2.2.2.1.ty, hy.2.2.2.1.mv X16.warmed.alike hh16, hy.2.2.2.2.1.ty⟩)
      obtain ⟨v, rfl, q18, hv⟩ := E18
      have iff := Cod.eqv hx.2.2.2.2.1 hy.2.2.2.2.1 hx.2.2.2.2.2 hy.2.2.2.2.2
      rcases hv with ⟨rfl, he⟩ | ⟨rfl, he⟩
      · have c19 : Steps p.tables e below (s₁.setTop (entryFrame m #[.ref x, .ref y] 3)) (T18.setTop (mkF m 55 #[.val (.ref x), .val (.ref y), .val (.ref y)] [.int 1])) := Steps.trans g18 (by
          refine XS.ifNo X18.here hexec rfl (hb hbytes d47) rfl (i0_eq_f (by decide)) ?_
          refine iconstV X18.here hexec rfl 1 (hb hbytes d50) (by decide) ?_
          refine XS.goto X18.here hexec rfl (pc0 := 51) rfl (hb hbytes d51) (by decide) rfl ?_
          exact Steps.refl _)
        exact ⟨T18, some (.int 1), _, _, _, X18, rfl, rfl, rfl, (fun h => by cases h), ⟨1, rfl, q18.trans hh16, Or.inl ⟨rfl, iff.mp he⟩⟩, fun fs hl => c19.trans (X18.ireturnOut hexec hret rfl (Or.inr (Or.inl rfl)) (hb hbytes d55) hl)⟩
      · have c19 : Steps p.tables e below (s₁.setTop (entryFrame m #[.ref x, .ref y] 3)) (T18.setTop (mkF m 55 #[.val (.ref x), .val (.ref y), .val (.ref y)] [.int 0])) := Steps.trans g18 (by
          refine XS.ifYes X18.here hexec rfl (pc0 := 47) rfl (hb hbytes d47) rfl (i0_eq_t rfl) (by decide) rfl ?_
          refine iconstV X18.here hexec rfl 0 (hb hbytes d54) (by decide) ?_
          exact Steps.refl _)
        exact ⟨T18, some (.int 0), _, _, _, X18, rfl, rfl, rfl, (fun h => by cases h), ⟨0, rfl, q18.trans hh16, Or.inr ⟨rfl, fun q => he (iff.mpr q)⟩⟩, fun fs hl => c19.trans (X18.ireturnOut hexec hret rfl (Or.inr (Or.inl rfl)) (hb hbytes d55) hl)⟩
    · have c13 : Steps p.tables e below (s₁.setTop (entryFrame m #[.ref x, .ref y] 3)) (T11.setTop (mkF m 55 #[.val (.ref x), .val (.ref y), .val (.ref y)] [.int 0])) := c12.trans (by
        refine XS.icmpYes X11.here hexec rfl (pc0 := 33) rfl (hb hbytes d33) rfl (ii_ne_t hcd) (by decide) rfl ?_
        refine iconstV X11.here hexec rfl 0 (hb hbytes d54) (by decide) ?_
        exact Steps.refl _)
      exact ⟨T11, some (.int 0), _, _, _, X11, rfl, rfl, rfl, (fun h => by cases h), ⟨0, rfl, hh11, Or.inr ⟨rfl, Cod.dif hx.2.2.2.2.1 hy.2.2.2.2.1 hcd⟩⟩, fun fs hl => c13.trans (X11.ireturnOut hexec hret rfl (Or.inr (Or.inl rfl)) (hb hbytes d55) hl)⟩
theorem pays {l : Launch} {R : Room} {p : Program} {e : Env} {below : List Frame} {s : State} {sargs : Array Value} {len W : Nat} (x t : Addr) (V : Cell) (cd : Int32) (n : Nat) (f : Nat → Int32) (y t' : Addr) (V' : Cell) (cd' : Int32) (k : Nat) (g : Nat → Int32) (z : Int32) (htab : tab.before sargs s = true) (hfr : 2 ≤ R.frames) (hlo : W + 28 ≤ R.locals) :
    Back l R p e below s sargs yN len W (fun A₁ a₁ => A₁.cells + 0 ≤ R.cells ∧ A₁.slots + 0 ≤ R.slots ∧ P x t V cd n f y t' V' cd' k g z a₁ A₁.U) (fun A₁ _ v₁ B₁ => Says01 (SameT n f k g) v₁ A₁.U B₁.U ∧ B₁.locs = A₁.locs ++ [] ∧ B₁.cells = A₁.cells + 0 ∧ B₁.slots = A₁.slots + 0) :=
  (law l x t V cd n f y t' V' cd' k g z).pays htab hfr (by omega)
end SEq
end StrChars
namespace StrChars.Road
open Jvm Sem ClassFile Op Lib Jvm.Stand Jvm.Free Jvm.Free.XT
open Jvm.Lib.Cold (StaticIs)
/-- the words of String.equals(Object) -/
abbrev wordsEq : List Jvm.Cond := [.code SEq.yN SEq.yB 3 (some .boolean), .initialized ST, .classLink ST 10 ST, .fieldLink ST 38 ST "COMPACT_STRINGS" "Z", .fieldLink ST 15 ST "coder" "B", .fieldLink ST 9 ST "value" "[B", .methodLink ST 541 LEq.yN, .static LEq.yN, .code LEq.yN LEq.yB 3 (some .boolean), .initialized "java/lang/StringLatin1"]
theorem tabEq_of {a : Array Value} {s : State} (h : ∀ w ∈ wordsEq, w.before a s = true) : SEq.tab.before a s = true := by
  have hl : LEq.tab.before a s = true := unparts (wk h (.code LEq.yN LEq.yB 3 (some .boolean))) (wks h (.initialized LEq.yN.cls :: LEq.site))
  have q := consq hl h
  exact unparts (wk q (.code SEq.yN SEq.yB 3 (some .boolean))) (wks q (.initialized SEq.yN.cls :: SEq.site))
theorem movedEq {Z s : State} {a0 args : Array Value} (hZ : Z.Warmed39 s.vm) (hw : ∀ d ∈ wordsEq, d.before a0 Z = true) : ∀ d ∈ wordsEq, d.before args s = true := fun d hd => by
  have t : ∀ d ∈ wordsEq, (d.onTables && d.keepsFace) = true := by decide +kernel
  exact RoadKit.mv hZ (hw d hd) (t d hd)
/-- the road's facts of a String, as the laws ask it -/
theorem txt_of {Z U : State} {a0 : Array Value} {kI : Nat} (wi : (Jvm.Cond.instantiable ST kI).before a0 Z = true) (al : Z.vm.Alike U.vm) {x t : Addr} {kb : ClassId} {cs : List Int32} {cd N2 : Int32} {vs : List Value} (E : RoadKit.Exa Z U.heap x ST) (V : RoadKit.Fld Z U.heap x ST "value" "[B" (.ref t)) (C : RoadKit.Fld Z U.heap x ST "coder" "B" (.int cd)) (K : RoadKit.Arv Z U.heap t kb .byte N2 vs (.int 0)) (hc : CodA cs cd N2 vs) (hb : ∀ c ∈ cs, ¬ c < 0 ∧ ¬ (65535 : Int32) < c) (l2 : cs.length ≤ 4000) :
    ∃ A, Txt x t A cd cs.length (fun j => cs.getD j 0) U := by
  obtain ⟨A, K1, K2, K3, K4, K5, K6⟩ := K
  have hcod := hc.cod (by omega) K3 K5
  obtain ⟨D, fV, fC, hB, F1, F2, g1, g2, -, -⟩ := strObj wi al E V C
  exact ⟨A, ⟨_, hB.2.2.1, D, hB.1, rfl, by cases q : D.vm <;> first | rfl | exact absurd q (hB.2.1.2 _)⟩, Has.of hB F1 g1, Has.of hB F2 g2, ⟨K1.1, State.isArrayOf_alike al K1.2.1, K1.2.2, by rcases hcod with ⟨-, q, -⟩ | ⟨-, q, -⟩ <;> omega⟩, hcod, fun j hj => by
    have e : cs.getD j 0 = cs[j] := by simp [List.getD_eq_getElem?_getD, hj]
    show ¬ cs.getD j 0 < 0 ∧ ¬ 65535 < cs.getD j 0
    rw [e]; exact hb _ (List.getElem_mem _)⟩
theorem same_list (cs ds : List Int32) : SameT cs.length (fun j => cs.getD j 0) ds.length (fun j => ds.getD j 0) ↔ cs = ds := by
  constructor
  · rintro ⟨e, q⟩
    refine List.ext_getElem e fun j h1 h2 => ?_
    have := q j h1
    simpa [List.getD_eq_getElem?_getD, h1, h2] using this
  · rintro rfl
    exact ⟨rfl, fun _ _ => rfl⟩
/-- **equals(Object) OF TWO SUCH STRINGS**: 1 just where the chars are the same -/
theorem eqW {p : Program} {l : Launch} {e : Env} {R : Room} {s : State} {args : Array Value} {below : List Frame} {len W : Nat} {Z : State} {a0 : Array Value} {h : Heap} (hZ : Z.Warmed39 s.vm) (hw : ∀ d ∈ wordsEq, d.before a0 Z = true) {kI : Nat} (wi : (Jvm.Cond.instantiable ST kI).before a0 Z = true)
    {x t : Addr} {kb : ClassId} {cs : List Int32} {cd N2 : Int32} {vs : List Value} (E : RoadKit.Exa Z h x ST) (V : RoadKit.Fld Z h x ST "value" "[B" (.ref t)) (C : RoadKit.Fld Z h x ST "coder" "B" (.int cd)) (K : RoadKit.Arv Z h t kb .byte N2 vs (.int 0)) (hc : CodA cs cd N2 vs) (hb : ∀ c ∈ cs, ¬ c < 0 ∧ ¬ (65535 : Int32) < c) (l2 : cs.length ≤ 4000)
    {y t' : Addr} {kb' : ClassId} {ds : List Int32} {cd' N2' : Int32} {vs' : List Value} (E' : RoadKit.Exa Z h y ST) (V' : RoadKit.Fld Z h y ST "value" "[B" (.ref t')) (C' : RoadKit.Fld Z h y ST "coder" "B" (.int cd')) (K' : RoadKit.Arv Z h t' kb' .byte N2' vs' (.int 0)) (hc' : CodA ds cd' N2' vs') (hb' : ∀ c ∈ ds, ¬ c < 0 ∧ ¬ (65535 : Int32) < c) (l2' : ds.length ≤ 4000)
    {z : Int32} (S : RoadKit.Sta Z h ST "COMPACT_STRINGS" "Z" (.int z)) (hz : ¬ z = 0) (hfr : 2 ≤ R.frames) (hlo : W + 28 ≤ R.locals) :
    Back l R p e below s args (⟨"java/lang/String", "equals", "(Ljava/lang/Object;)Z"⟩ : MethodName) len W (fun P a => a = #[.ref x, .ref y] ∧ P.U.heap = h ∧ P.cells + 0 ≤ R.cells ∧ P.slots + 0 ≤ R.slots)
      (fun P _ v B => ∃ L, (((v = some (.int 1) ∧ cs = ds) ∨ (v = some (.int 0) ∧ ¬ cs = ds)) ∧ L = [] ∧ B.U.heap = h) ∧ B.locs = P.locs ++ L ∧ B.cells = P.cells + 0 ∧ B.slots = P.slots + 0) := by
  intro m meth c P g ig mk a X hg hsize hdg hW hn hp'
  obtain ⟨rfl, rfl, r1, r2⟩ := hp'
  have al : Z.vm.Alike P.U.vm := hZ.alike.trans X.warmed.alike
  obtain ⟨A, hx⟩ := txt_of wi al E V C K hc hb l2
  obtain ⟨A', hy⟩ := txt_of wi al E' V' C' K' hc' hb' l2'
  obtain ⟨v, B, X', ⟨⟨w, hv, hh, hq⟩, hl, hk, hs⟩, st⟩ := SEq.pays x t A cd cs.length (fun j => cs.getD j 0) y t' A' cd' ds.length (fun j => ds.getD j 0) z (tabEq_of (movedEq hZ hw)) hfr hlo m meth c P g ig mk _ X hg hsize hdg hW hn ⟨r1, r2, rfl, hx, hy, sta_is al S, hz⟩
  refine ⟨v, B, X', ⟨[], ⟨?_, rfl, hh⟩, hl, hk, hs⟩, st⟩
  rcases hq with ⟨rfl, q⟩ | ⟨rfl, q⟩
  · exact Or.inl ⟨hv, (same_list cs ds).mp q⟩
  · exact Or.inr ⟨hv, fun e => q ((same_list cs ds).mpr e)⟩
end StrChars.Road
namespace StrChars.Road
open Jvm Sem ClassFile Op Lib Jvm.Stand Jvm.Free Jvm.Free.XT
open Jvm.Lib.Cold (StaticIs)
/-- what backV says of its String, as the contracts of this text ask it: cs's low bytes, coder 0 -/
theorem codOf {cs : List Int32} {n : Nat} (hn : cs.length = n) (hb : ∀ c ∈ cs, ¬ 255 < c) : CodA cs 0 (Int32.ofNat n) ((cs.map lo8).map Value.int) := Or.inl ⟨rfl, by rw [hn], by simp [List.map_map, Function.comp_def], hb⟩
end StrChars.Road
end Jvm.Pilot.@@N@@

namespace Jvm.Pilot.@@N@@
open Jvm Jvm.ClassFile Sem Op Lib Jvm.Free Jvm.Stand Jvm.LawKit Jvm.RoadKit Bundle Jvm.Pilot.@@N@@.Jvm.D
/-- the run comes from A to some end of which R holds -/
def Goes (tb : Tables) (e : Env) (below : List Frame) (A : State) (R : State → Outcome → Prop) : Prop := ∃ t o, Steps tb e below A t ∧ R t o
theorem Goes.to {tb : Tables} {e : Env} {below : List Frame} {A B : State} {R : State → Outcome → Prop} (k : ∀ t, Steps tb e below A t → Steps tb e below B t) (h : Goes tb e below A R) : Goes tb e below B R := by
  obtain ⟨t, o, h1, h2⟩ := h
  exact ⟨t, o, k t h1, h2⟩
/-- how a body ends: it has returned, of value and heap Q holds, and no more than that many cells and slots are new -/
theorem own_wk {p : Program} {l : Launch} {e : Env} {R : Room} {s : State} {m : MethodId} {args : Array Value} {below : List Frame} {meth : Method} {c : Code} {T : State} {locs : List Loc} {c1 n1 c2 n2 : Nat} (X : Stand p l e R s m args below meth c T locs c1 n1) (hc : c1 ≤ c2) (hn : n1 ≤ n2) : Stand p l e R s m args below meth c T locs c2 n2 := { X with same := X.same.mono hc hn }
def own_R (below : List Frame) (s : State) (Q : Option Value → Heap → List Loc → Prop) (k n : Nat) : State → Outcome → Prop := fun s₂ o => s₂.status = .running ∧ Ended s₂ below o ∧ ∃ v L, o = .returned v ∧ Q v s₂.heap L ∧ FrameEnd s o s₂ L k n
theorem Goes.tr {tb : Tables} {e : Env} {below : List Frame} {A B : State} {R : State → Outcome → Prop} (k : Steps tb e below B A) (h : Goes tb e below A R) : Goes tb e below B R := Goes.to (fun _ z => k.trans z) h


theorem own_hw {a0 : Array Value} {Z : State} (hw : ∀ d ∈ tables_1, d.before a0 Z = true) {d : Jvm.Cond} (i : Nat) (h : tables_1[i]? = some d) : d.before a0 Z = true := hw d (List.mem_of_getElem? h)
theorem gx {tb : Tables} {e : Env} {below : List Frame} {A B : State} {R : State → Outcome → Prop} (k : ∀ {t : State}, Steps tb e below A t → Steps tb e below B t) (h : Goes tb e below A R) : Goes tb e below B R := Goes.to (fun _ => k) h
theorem own_W {a b W : Nat} (ha : a = 0) (hb : b = W) : 2 * a + b ≤ W := by omega
abbrev own_n0 : MethodName := ⟨"java/lang/String", "coder", "()B"⟩
abbrev own_n1 : MethodName := ⟨"java/lang/String", "length", "()I"⟩
abbrev own_n2 : MethodName := ⟨"jdk/internal/util/Preconditions", "checkIndex", "(IILjava/util/function/BiFunction;)I"⟩
abbrev own_n3 : MethodName := ⟨"java/lang/String", "checkIndex", "(II)V"⟩
abbrev own_n4 : MethodName := ⟨"java/lang/StringLatin1", "charAt", "([BI)C"⟩
abbrev own_n5 : MethodName := ⟨"java/lang/String", "isLatin1", "()Z"⟩
abbrev own_n6 : MethodName := ⟨"java/lang/String", "charAt", "(I)C"⟩
abbrev own_n7 : MethodName := ⟨"com/example/polgen/polgen/model/MultiplicityNamedPinLaw", "at", "(Ljava/lang/String;I)C"⟩
abbrev own_n8 : MethodName := ⟨"java/util/Objects", "requireNonNull", "(Ljava/lang/Object;)Ljava/lang/Object;"⟩
abbrev own_n9 : MethodName := ⟨"java/util/Optional", "<init>", "(Ljava/lang/Object;)V"⟩
abbrev own_n10 : MethodName := ⟨"java/util/Optional", "of", "(Ljava/lang/Object;)Ljava/util/Optional;"⟩
abbrev own_n11 : MethodName := ⟨"java/util/Optional", "empty", "()Ljava/util/Optional;"⟩
abbrev own_n12 : MethodName := ⟨"java/util/Optional", "orElse", "(Ljava/lang/Object;)Ljava/lang/Object;"⟩
abbrev own_n13 : MethodName := ⟨"java/lang/String", "equals", "(Ljava/lang/Object;)Z"⟩
abbrev own_n14 : MethodName := ⟨"com/example/polgen/polgen/model/Multiplicity", "values", "()[Lcom/example/polgen/polgen/model/Multiplicity;"⟩
abbrev own_n15 : MethodName := ⟨"java/lang/String", "<init>", "([CIILjava/lang/Void;)V"⟩
abbrev own_n16 : MethodName := ⟨"java/lang/String", "<init>", "([C)V"⟩
abbrev own_n17 : MethodName := ⟨"com/example/polgen/polgen/model/MultiplicityNamedPinLaw", "make", "([CI)Ljava/lang/String;"⟩
abbrev own_n18 : MethodName := ⟨"com/example/polgen/polgen/model/Multiplicity", "named", "(Ljava/lang/String;)Ljava/util/Optional;"⟩


/-- how a law ends that loads literals -/
def own_RW (below : List Frame) (s : State) (Q : Option Value → Heap → List Loc → Prop) (k n : Nat) : State → Outcome → Prop := fun s₂ o => s₂.status = .running ∧ Ended s₂ below o ∧ ∃ v L, o = .returned v ∧ Q v s₂.heap L ∧ ReturnedEndW s o s₂ L k n
theorem own_txt (text : String) (vs : List Value) (h : (text.toList.all fun c => decide (c.toNat < 256)) = true) (e : text.toList.map (fun c => Value.int (Jvm.Lit.byteI c.toNat.toUInt16)) = vs) : (∀ c ∈ text.toList, c.toNat < 256) ∧ text.toList.map (fun c => Value.int (Jvm.Lit.byteI c.toNat.toUInt16)) = vs :=
  ⟨fun c hc => of_decide_eq_true (List.all_eq_true.mp h c hc), e⟩
theorem own_wS {a0 : Array Value} {Z : State} (hw : ∀ d ∈ tables_1, d.before a0 Z = true) : ∀ a ∈ Bundle.stringAtoms, a.before a0 Z = true := by
  intro d hd
  simp only [Bundle.stringAtoms, Bundle.sN, List.mem_cons, List.not_mem_nil, or_false] at hd
  rcases hd with rfl | rfl | rfl | rfl | rfl | rfl | rfl
  · exact (own_hw hw 2 rfl)
  · exact (own_hw hw 3 rfl)
  · exact (own_hw hw 4 rfl)
  · exact (own_hw hw 5 rfl)
  · exact (own_hw hw 6 rfl)
  · exact (own_hw hw 7 rfl)
  · exact (own_hw hw 8 rfl)
def own_EL : List (String × Nat) := [("com/example/polgen/polgen/model/MultiplicityNamedPinLaw", 9), ("com/example/polgen/polgen/model/MultiplicityNamedPinLaw", 11), ("com/example/polgen/polgen/model/MultiplicityNamedPinLaw", 13), ("java/lang/String", 7)]
theorem own_lat (text : String) (h : (text.toList.all fun c => decide (c.toNat < 256)) = true) : ∀ c ∈ text.toList, c.toNat < 256 := fun c hc => of_decide_eq_true (List.all_eq_true.mp h c hc)
theorem own_EW {a0 : Array Value} {Z : State} (hw : ∀ d ∈ tables_1, d.before a0 Z = true) : EW Z a0 own_EL := (EW.cons (own_hw hw 1 rfl) (own_lat _ (by decide)) (EW.cons (own_hw hw 132 rfl) (own_lat _ (by decide)) (EW.cons (own_hw hw 133 rfl) (own_lat _ (by decide)) (EW.cons (own_hw hw 140 rfl) (own_lat _ (by decide)) EW.nil))))

/-- how a body ends that may load literals: the invariant on the booked ones goes on -/
def own_RH (Z : State) (below : List Frame) (s : State) (Q : Option Value → Heap → List Loc → Prop) (k n : Nat) : State → Outcome → Prop := fun s₂ o => s₂.status = .running ∧ Ended s₂ below o ∧ ∃ v L, o = .returned v ∧ Q v s₂.heap L ∧ CHr Z own_EL s.vm s.heap s₂.vm s₂.heap ∧ ReturnedEndW s o s₂ L k n


def own_ch1 (w : Int32) : Int32 := nar .char ((w &&& (255 : Int32)).toUInt32.toUInt16.toUInt32.toInt32)
def own_ch (w : Int32) : Int32 := nar .char (own_ch1 w)


theorem own_safe {Z : State} {EL : List (String × Nat)} {vm : Vm} {h : Heap} {x : Addr} (hal : Z.vm.Alike vm) (E : Exa Z h x "java/lang/String") (F0 : Fld Z h x "java/lang/String" "value" "[B" .null) : Safe Z EL vm h x := fun B => by
  obtain ⟨cell, k, e1, e2, e3, -, -⟩ := E
  obtain ⟨p, -, u, a, -, q, -, F, rfl | rfl⟩ := B
  · obtain ⟨cell', cf, kf, i, f, g1, g2, g3, g4, g5, g6, g7⟩ := F0
    cases (show h[q.sa]? = some q.sC from F.ha).symm.trans g1
    obtain ⟨cS, ⟨⟨s1, s2, s3, ⟨cv, kv, iv, s4, s4'⟩, s5, s6, s7, s8, -⟩, -, -⟩, -⟩ := F
    obtain ⟨k', z⟩ := ff_back (U := Wst Z vm h) hal s4
    cases g2.symm.trans z
    rw [s8] at g7; cases g7
  · cases (show h[q.sd]? = some q.SA from F.hd).symm.trans e1
    obtain ⟨cS, -, -, f, -⟩ := F
    have f' : vm.findClass "[B" = some q.SA.cls := f
    rw [hal.findClass] at f'
    obtain ⟨k1, q1, q2⟩ := Vm.findClass_spec f'
    obtain ⟨k2, q3, q4⟩ := Vm.findClass_spec e2
    cases q1.symm.trans q3
    exact absurd (q2.symm.trans q4) (by decide)
theorem own_staK {Z : State} {h h' : Heap} {x : Addr} {K0 C n d : String} {w : Value} (K : Keep h h' [x]) (E : Exa Z h x K0) (F : Sta Z h C n d w) : Sta Z h' C n d w := by
  obtain ⟨cf, i, k, f, st, cell, h1, h2, h3, h4, h5, h6, h7⟩ := F
  obtain ⟨cx, kx, e1, e2, e3, e4, e5⟩ := E
  have ne : st ≠ x := fun e => by
    subst e
    cases h5.symm.trans e1
    simp_all
  exact ⟨cf, i, k, f, st, cell, h1, h2, h3, h4, K.2.1 _ _ h5 (ninS ne nin0), h6, h7⟩
theorem own_sta0 {Z : State} {h h' : Heap} {C n d : String} {w : Value} (K : Keep h h' []) (F : Sta Z h C n d w) : Sta Z h' C n d w := by
  obtain ⟨cf, i, k, f, st, cell, h1, h2, h3, h4, h5, h6, h7⟩ := F
  exact ⟨cf, i, k, f, st, cell, h1, h2, h3, h4, K.2.1 _ _ h5 nin0, h6, h7⟩
theorem own_shr0 (z : Int32) : (z >>> ((0 : Int32) &&& 31)) = z := by
  apply Int32.toInt_inj.mp
  have k := c_ishr z (0 : Int32) 0 (by decide)
  rw [k]; show z.toInt / ((1 : Nat) : Int) = _; omega
def own_atc (i z w : Int32) : Int32 := if i < z then nar .char (own_ch w) else 0
def own_pick (cs : List Int32) (a b c : Addr) : Value := if [(111 : Int32), (110 : Int32), (101 : Int32)] = cs then .ref a else if [(111 : Int32), (112 : Int32), (116 : Int32), (105 : Int32), (111 : Int32), (110 : Int32), (97 : Int32), (108 : Int32)] = cs then .ref b else if [(109 : Int32), (97 : Int32), (110 : Int32), (121 : Int32)] = cs then .ref c else .null

theorem d2_0 : decode jdk_42_method_152_code 0 = .ok (.getstatic 38, 3) := by decide +kernel
theorem d2_3 : decode jdk_42_method_152_code 3 = .ok (.ifCond .eq 10, 3) := by decide +kernel
theorem d2_6 : decode jdk_42_method_152_code 6 = .ok (.aload_n 0, 1) := by decide +kernel
theorem d2_7 : decode jdk_42_method_152_code 7 = .ok (.getfield 15, 3) := by decide +kernel
theorem d2_10 : decode jdk_42_method_152_code 10 = .ok (.goto 4, 3) := by decide +kernel
theorem d2_14 : decode jdk_42_method_152_code 14 = .ok (.ireturn, 1) := by decide +kernel
theorem own_pn_2 : plainName "java/lang/String" = true := by first | (simp [plainName, overriddenIn]; done) | decide +kernel
theorem own_ef_own_rm2 (m : MethodId) (x0 : Addr) : entryFrame m #[(.ref x0)] 1 = mkF m 0 #[.val (.ref x0)] [] := by first | (simp [entryFrame, mkF, argsToLocals, Value.category]; done) | rfl
def own_Q_own_rm2 (Z : State) (x0 : Addr) (cs : Int32) (h0 : Heap) (n0 : Nat) (v : Option Value) (h : Heap) (L : List Loc) : Prop := v = some (.int (0 : Int32)) ∧ Fr n0 L ∧ h = h0
abbrev own_r_own_rm2 : Room := ({ frames := 0, cells := 0, slots := 0, locals := 0 } : Room)

set_option maxRecDepth 65536 in
set_option maxHeartbeats 40000000 in
theorem own_rm2 (l : Launch) (Z : State) (a0 : Array Value) (hw : ∀ d ∈ tables_1, d.before a0 Z = true) (ws : List Jvm.Cond) (x0 : Addr) (cs : Int32) (h0 : Heap) (n0 : Nat) (Z0 : n0 ≤ h0.size) (FC : Fld Z h0 x0 "java/lang/String" "coder" "B" (.int (0 : Int32))) (SC : Sta Z h0 "java/lang/String" "COMPACT_STRINGS" "Z" (.int cs)) (hcs : ¬ (cs = (0 : Int32))) :
    MetFree l own_n0 (head1 (Jvm.Cond.code own_n0 jdk_42_method_152_code 1 (some .byte) :: ws) own_r_own_rm2) (fun a U => a = #[(.ref x0)] ∧ Z.Warmed39 U.vm ∧ U.heap = h0) (fun _ _ _ _ _ => True) (fun _ U o U' => ∃ v L, o = .returned v ∧ own_Q_own_rm2 Z x0 cs h0 n0 v U'.heap L ∧ FrameEnd U o U' L own_r_own_rm2.cells own_r_own_rm2.slots) := by
  refine MetFree.of_bodySF (plainFor_of_name own_pn_2) hisR ?_
  intro p e s m args below meth c s₁ Bd hml0 hP hK
  obtain ⟨rfl, hZ, hh⟩ := hP
  have hx := Bd.exec
  have hby := Bd.bytes
  have hml : c.maxLocals = 1 := hml0
  have hown : s.vm.findClass "java/lang/String" = some m.cls := findClass_of_methodNamed Bd.named
  have hnm := (name_of_methodNamed Bd.named Bd.method).1
  have X0 : Stand p l e own_r_own_rm2 s m #[(.ref x0)] below meth c s₁ [] 0 0 := Stand.of_body Bd
  have e0 : s₁.heap = h0 := by rw [← hh, Bd.state]; rfl
  have N0 := Fr.nil n0
  show Goes p.tables e below _ (own_R below s (own_Q_own_rm2 Z x0 cs h0 n0) own_r_own_rm2.cells own_r_own_rm2.slots)
  refine Goes.to (fun t k => castTop (own_ef_own_rm2 m x0) k) ?_
  obtain ⟨T1, X1, e1, st1⟩ := getS2 X0 hx hZ hown (host := "") (Or.inl (own_hw hw 20 rfl)) Via.refl e0 SC (g := (mkF m 0 #[.val (.ref x0)] [])) rfl (hb hby d2_0)
  refine Goes.to st1 ?_
  refine gx (XS.ifNo X1.here hx rfl (hb hby d2_3) rfl ((if0 _ _).trans (feq hcs).1)) ?_
  refine gx (XS.aloadN X1.here hx rfl (hb hby d2_6) rfl rfl) ?_
  obtain ⟨T2, X2, e2, st2⟩ := getF X1 hx hZ hown (host := "") (Or.inl (own_hw hw 21 rfl)) Via.refl e1 FC (g := (mkF m 7 #[.val (.ref x0)] [(.ref x0)])) rfl rfl (hb hby d2_7)
  refine Goes.to st2 ?_
  refine gx (XS.goto X2.here hx rfl (pc0 := 10) (pc' := 14) rfl (hb hby d2_10) (by decide) (by decide)) ?_
  show Goes p.tables e below (T2.setTop (mkF m 14 #[.val (.ref x0)] [(.int (0 : Int32))])) _
  obtain ⟨fs, hr, hrun, hended, hW, hsame⟩ := X2.leave (v := some (.int (0 : Int32))) (fun h => by rw [Bd.returns] at h; cases h)
  have hv : (some (.int (0 : Int32)) : Option Value) = some (.int (0 : Int32)) := by
    rfl
  exact ⟨_, _, retN X2 hx (t := .byte) Bd.returns (by simp) (hb hby d2_14) hr, hrun, hended, _, _, rfl, ⟨hv, N0, e2⟩, ⟨_, rfl⟩, hW, hsame.mono (by decide) (by decide)⟩

theorem d1_0 : decode jdk_42_method_54_code 0 = .ok (.aload_n 0, 1) := by decide +kernel
theorem d1_1 : decode jdk_42_method_54_code 1 = .ok (.getfield 9, 3) := by decide +kernel
theorem d1_4 : decode jdk_42_method_54_code 4 = .ok (.arraylength, 1) := by decide +kernel
theorem d1_5 : decode jdk_42_method_54_code 5 = .ok (.aload_n 0, 1) := by decide +kernel
theorem d1_6 : decode jdk_42_method_54_code 6 = .ok (.invokevirtual 335, 3) := by decide +kernel
theorem d1_9 : decode jdk_42_method_54_code 9 = .ok (.ishr, 1) := by decide +kernel
theorem d1_10 : decode jdk_42_method_54_code 10 = .ok (.ireturn, 1) := by decide +kernel
theorem own_pd_pqB : parseMethodDescriptor "()B" = some ⟨[], some .byte⟩ := by decide +kernel
theorem own_pn_1 : plainName "java/lang/String" = true := by first | (simp [plainName, overriddenIn]; done) | decide +kernel
theorem own_ef_own_rm1 (m : MethodId) (x0 : Addr) : entryFrame m #[(.ref x0)] 1 = mkF m 0 #[.val (.ref x0)] [] := by first | (simp [entryFrame, mkF, argsToLocals, Value.category]; done) | rfl
def own_Q_own_rm1 (Z : State) (x0 : Addr) (bv : Addr) (kb : ClassId) (z : Int32) (vs : List Value) (cs : Int32) (h0 : Heap) (n0 : Nat) (v : Option Value) (h : Heap) (L : List Loc) : Prop := v = some (.int z) ∧ Fr n0 L ∧ h = h0
abbrev own_r_own_rm1 : Room := ({ frames := 1, cells := 0, slots := 0, locals := 13 } : Room)

set_option maxRecDepth 65536 in
set_option maxHeartbeats 40000000 in
theorem own_rm1 (l : Launch) (Z : State) (a0 : Array Value) (hw : ∀ d ∈ tables_1, d.before a0 Z = true) (ws : List Jvm.Cond) (x0 : Addr) (bv : Addr) (kb : ClassId) (z : Int32) (vs : List Value) (cs : Int32) (h0 : Heap) (n0 : Nat) (Z0 : n0 ≤ h0.size) (EX : Exa Z h0 x0 "java/lang/String") (FC : Fld Z h0 x0 "java/lang/String" "coder" "B" (.int (0 : Int32))) (FV : Fld Z h0 x0 "java/lang/String" "value" "[B" (.ref bv)) (VA : Arv Z h0 bv kb .byte z vs (.int (0 : Int32))) (SC : Sta Z h0 "java/lang/String" "COMPACT_STRINGS" "Z" (.int cs)) (hcs : ¬ (cs = (0 : Int32))) :
    MetFree l own_n1 (head1 (Jvm.Cond.code own_n1 jdk_42_method_54_code 1 (some .int) :: ws) own_r_own_rm1) (fun a U => a = #[(.ref x0)] ∧ Z.Warmed39 U.vm ∧ U.heap = h0) (fun _ _ _ _ _ => True) (fun _ U o U' => ∃ v L, o = .returned v ∧ own_Q_own_rm1 Z x0 bv kb z vs cs h0 n0 v U'.heap L ∧ FrameEnd U o U' L own_r_own_rm1.cells own_r_own_rm1.slots) := by
  refine MetFree.of_bodySF (plainFor_of_name own_pn_1) hisR ?_
  intro p e s m args below meth c s₁ Bd hml0 hP hK
  obtain ⟨rfl, hZ, hh⟩ := hP
  have hx := Bd.exec
  have hby := Bd.bytes
  have hml : c.maxLocals = 1 := hml0
  have hown : s.vm.findClass "java/lang/String" = some m.cls := findClass_of_methodNamed Bd.named
  have hnm := (name_of_methodNamed Bd.named Bd.method).1
  have X0 : Stand p l e own_r_own_rm1 s m #[(.ref x0)] below meth c s₁ [] 0 0 := Stand.of_body Bd
  have e0 : s₁.heap = h0 := by rw [← hh, Bd.state]; rfl
  have N0 := Fr.nil n0
  show Goes p.tables e below _ (own_R below s (own_Q_own_rm1 Z x0 bv kb z vs cs h0 n0) own_r_own_rm1.cells own_r_own_rm1.slots)
  refine Goes.to (fun t k => castTop (own_ef_own_rm1 m x0) k) ?_
  refine gx (XS.aloadN X0.here hx rfl (hb hby d1_0) rfl rfl) ?_
  obtain ⟨T1, X1, e1, st1⟩ := getF X0 hx hZ hown (host := "") (Or.inl (own_hw hw 14 rfl)) Via.refl e0 FV (g := (mkF m 1 #[.val (.ref x0)] [(.ref x0)])) rfl rfl (hb hby d1_1)
  refine Goes.to st1 ?_
  obtain ⟨cl2, Ar2, -, S2, N2, -, -⟩ := id VA
  refine Goes.to (fun _ k => X1.arraylength hx (by rw [e1]; exact Ar2.1) (State.isArrayOf_alike hZ.alike Ar2.2.1) (g := (mkF m 4 #[.val (.ref x0)] [(.ref bv)])) rfl rfl (hb hby d1_4) _ k) ?_
  rw [len_of S2 N2]
  refine gx (XS.aloadN X1.here hx rfl (hb hby d1_5) rfl rfl) ?_
  obtain ⟨cq3, kq3, q3a, q3b, q3c⟩ := isOf hZ e1 EX
  obtain ⟨_, _, ⟨T3, L3, k3, n3⟩, -, X3, ⟨Lc3, hQ3, l3, y3, z3⟩, st3⟩ := X1.virtualBack hx (y := own_n0) (z := own_n0) hown (mvT hZ (own_hw hw 15 rfl)) (mvT hZ (own_hw hw 16 rfl)) (notFace_of_selects (args := #[]) (mvT hZ (own_hw hw 18 rfl))) (mvT hZ (own_hw hw 18 rfl)) (mvT hZ (own_hw hw 17 rfl)) (by decide) (backOf (W := 1) (own_rm2 l Z a0 hw [] x0 cs h0 n0 Z0 FC SC hcs) hZ (own_hw hw 19 rfl) (own_hw hw 2 rfl) (by decide) (by decide)) q3a q3c (g := (mkF m 6 #[.val (.ref x0)] [(.ref x0), (.int z)])) rfl (by rw [hml]; rfl) (Steps.refl _) (argsL := []) (rest := [(.int z)]) (lenOf own_pd_pqB rfl) rfl (own_W rfl rfl) (hb hby d1_6) (fun _ _ => ⟨rfl, e1, (by decide : 0 + 0 ≤ _), (by decide : 0 + 0 ≤ _)⟩)
  dsimp only [Pt.U, Pt.locs, Pt.cells, Pt.slots] at X3 l3 y3 z3 st3 hQ3
  subst l3 y3 z3
  obtain ⟨hv3, Nq3, hp3_0⟩ := hQ3
  have N3 := Fr.app N0 Nq3
  subst hv3
  refine Goes.tr st3 ?_
  refine gx (XS.ishr X3.here hx rfl (hb hby d1_9) rfl) ?_
  show Goes p.tables e below (T3.setTop (mkF m 10 #[.val (.ref x0)] [(.int (z >>> ((0 : Int32) &&& 31)))])) _
  obtain ⟨fs, hr, hrun, hended, hW, hsame⟩ := X3.leave (v := some (.int (z >>> ((0 : Int32) &&& 31)))) (fun h => by rw [Bd.returns] at h; cases h)
  have hv : (some (.int (z >>> ((0 : Int32) &&& 31))) : Option Value) = some (.int z) := by
    rw [own_shr0]
  exact ⟨_, _, retI X3 hx Bd.returns (hb hby d1_10) hr, hrun, hended, _, _, rfl, ⟨hv, N3, hp3_0⟩, ⟨_, rfl⟩, hW, hsame.mono (by decide) (by decide)⟩

theorem d8_0 : decode jdk_41_method_11_code 0 = .ok (.iload_n 0, 1) := by decide +kernel
theorem d8_1 : decode jdk_41_method_11_code 1 = .ok (.ifCond .lt 8, 3) := by decide +kernel
theorem d8_4 : decode jdk_41_method_11_code 4 = .ok (.iload_n 0, 1) := by decide +kernel
theorem d8_5 : decode jdk_41_method_11_code 5 = .ok (.iload_n 1, 1) := by decide +kernel
theorem d8_6 : decode jdk_41_method_11_code 6 = .ok (.if_icmp .lt 10, 3) := by decide +kernel
theorem d8_16 : decode jdk_41_method_11_code 16 = .ok (.iload_n 0, 1) := by decide +kernel
theorem d8_17 : decode jdk_41_method_11_code 17 = .ok (.ireturn, 1) := by decide +kernel
theorem own_pn_8 : plainName "jdk/internal/util/Preconditions" = true := by first | (simp [plainName, overriddenIn]; done) | decide +kernel
theorem own_ef_own_rmPN (m : MethodId) (x0 : Int32) (x1 : Int32) : entryFrame m #[(.int x0), (.int x1), .null] 3 = mkF m 0 #[.val (.int x0), .val (.int x1), .val .null] [] := by first | (simp [entryFrame, mkF, argsToLocals, Value.category]; done) | rfl
def own_Q_own_rmPN (Z : State) (x0 : Int32) (x1 : Int32)  (h0 : Heap) (n0 : Nat) (v : Option Value) (h : Heap) (L : List Loc) : Prop := v = some (.int x0) ∧ Fr n0 L ∧ h = h0
abbrev own_r_own_rmPN : Room := ({ frames := 0, cells := 0, slots := 0, locals := 0 } : Room)

set_option maxRecDepth 65536 in
set_option maxHeartbeats 40000000 in
theorem own_rmPN (l : Launch) (Z : State) (a0 : Array Value) (hw : ∀ d ∈ tables_1, d.before a0 Z = true) (ws : List Jvm.Cond) (x0 : Int32) (x1 : Int32)  (h0 : Heap) (n0 : Nat) (Z0 : n0 ≤ h0.size) (hi0 : ¬ (x0 < (0 : Int32))) (hi1 : x0 < x1) :
    MetFree l own_n2 (head1 (Jvm.Cond.code own_n2 jdk_41_method_11_code 3 (some .int) :: ws) own_r_own_rmPN) (fun a U => a = #[(.int x0), (.int x1), .null] ∧ Z.Warmed39 U.vm ∧ U.heap = h0) (fun _ _ _ _ _ => True) (fun _ U o U' => ∃ v L, o = .returned v ∧ own_Q_own_rmPN Z x0 x1 h0 n0 v U'.heap L ∧ FrameEnd U o U' L own_r_own_rmPN.cells own_r_own_rmPN.slots) := by
  refine MetFree.of_bodySF (plainFor_of_name own_pn_8) hisR ?_
  intro p e s m args below meth c s₁ Bd hml0 hP hK
  obtain ⟨rfl, hZ, hh⟩ := hP
  have hx := Bd.exec
  have hby := Bd.bytes
  have hml : c.maxLocals = 3 := hml0
  have hown : s.vm.findClass "jdk/internal/util/Preconditions" = some m.cls := findClass_of_methodNamed Bd.named
  have hnm := (name_of_methodNamed Bd.named Bd.method).1
  have X0 : Stand p l e own_r_own_rmPN s m #[(.int x0), (.int x1), .null] below meth c s₁ [] 0 0 := Stand.of_body Bd
  have e0 : s₁.heap = h0 := by rw [← hh, Bd.state]; rfl
  have N0 := Fr.nil n0
  show Goes p.tables e below _ (own_R below s (own_Q_own_rmPN Z x0 x1 h0 n0) own_r_own_rmPN.cells own_r_own_rmPN.slots)
  refine Goes.to (fun t k => castTop (own_ef_own_rmPN m x0 x1) k) ?_
  refine gx (XS.iloadN X0.here hx rfl (hb hby d8_0) rfl) ?_
  refine gx (XS.ifNo X0.here hx rfl (hb hby d8_1) rfl ((if0 _ _).trans (flt hi0).1)) ?_
  refine gx (XS.iloadN X0.here hx rfl (hb hby d8_4) rfl) ?_
  refine gx (XS.iloadN X0.here hx rfl (hb hby d8_5) rfl) ?_
  refine gx (XS.icmpYes X0.here hx rfl (pc0 := 6) (pc' := 16) rfl (hb hby d8_6) rfl (tlt hi1).1 (by decide) (by decide)) ?_
  show Goes p.tables e below (s₁.setTop (mkF m 16 #[.val (.int x0), .val (.int x1), .val .null] [])) _
  refine gx (XS.iloadN X0.here hx rfl (hb hby d8_16) rfl) ?_
  show Goes p.tables e below (s₁.setTop (mkF m 17 #[.val (.int x0), .val (.int x1), .val .null] [(.int x0)])) _
  obtain ⟨fs, hr, hrun, hended, hW, hsame⟩ := X0.leave (v := some (.int x0)) (fun h => by rw [Bd.returns] at h; cases h)
  have hv : (some (.int x0) : Option Value) = some (.int x0) := by
    rfl
  exact ⟨_, _, retI X0 hx Bd.returns (hb hby d8_17) hr, hrun, hended, _, _, rfl, ⟨hv, N0, e0⟩, ⟨_, rfl⟩, hW, hsame.mono (by decide) (by decide)⟩

theorem own_ef_own_rmPR (m : MethodId) (x0 : Int32) (x1 : Int32) (x2 : Addr) : entryFrame m #[(.int x0), (.int x1), (.ref x2)] 3 = mkF m 0 #[.val (.int x0), .val (.int x1), .val (.ref x2)] [] := by first | (simp [entryFrame, mkF, argsToLocals, Value.category]; done) | rfl
def own_Q_own_rmPR (Z : State) (x0 : Int32) (x1 : Int32) (x2 : Addr)  (h0 : Heap) (n0 : Nat) (v : Option Value) (h : Heap) (L : List Loc) : Prop := v = some (.int x0) ∧ Fr n0 L ∧ h = h0
abbrev own_r_own_rmPR : Room := ({ frames := 0, cells := 0, slots := 0, locals := 0 } : Room)

set_option maxRecDepth 65536 in
set_option maxHeartbeats 40000000 in
theorem own_rmPR (l : Launch) (Z : State) (a0 : Array Value) (hw : ∀ d ∈ tables_1, d.before a0 Z = true) (ws : List Jvm.Cond) (x0 : Int32) (x1 : Int32) (x2 : Addr)  (h0 : Heap) (n0 : Nat) (Z0 : n0 ≤ h0.size) (hi0 : ¬ (x0 < (0 : Int32))) (hi1 : x0 < x1) :
    MetFree l own_n2 (head1 (Jvm.Cond.code own_n2 jdk_41_method_11_code 3 (some .int) :: ws) own_r_own_rmPR) (fun a U => a = #[(.int x0), (.int x1), (.ref x2)] ∧ Z.Warmed39 U.vm ∧ U.heap = h0) (fun _ _ _ _ _ => True) (fun _ U o U' => ∃ v L, o = .returned v ∧ own_Q_own_rmPR Z x0 x1 x2 h0 n0 v U'.heap L ∧ FrameEnd U o U' L own_r_own_rmPR.cells own_r_own_rmPR.slots) := by
  refine MetFree.of_bodySF (plainFor_of_name own_pn_8) hisR ?_
  intro p e s m args below meth c s₁ Bd hml0 hP hK
  obtain ⟨rfl, hZ, hh⟩ := hP
  have hx := Bd.exec
  have hby := Bd.bytes
  have hml : c.maxLocals = 3 := hml0
  have hown : s.vm.findClass "jdk/internal/util/Preconditions" = some m.cls := findClass_of_methodNamed Bd.named
  have hnm := (name_of_methodNamed Bd.named Bd.method).1
  have X0 : Stand p l e own_r_own_rmPR s m #[(.int x0), (.int x1), (.ref x2)] below meth c s₁ [] 0 0 := Stand.of_body Bd
  have e0 : s₁.heap = h0 := by rw [← hh, Bd.state]; rfl
  have N0 := Fr.nil n0
  show Goes p.tables e below _ (own_R below s (own_Q_own_rmPR Z x0 x1 x2 h0 n0) own_r_own_rmPR.cells own_r_own_rmPR.slots)
  refine Goes.to (fun t k => castTop (own_ef_own_rmPR m x0 x1 x2) k) ?_
  refine gx (XS.iloadN X0.here hx rfl (hb hby d8_0) rfl) ?_
  refine gx (XS.ifNo X0.here hx rfl (hb hby d8_1) rfl ((if0 _ _).trans (flt hi0).1)) ?_
  refine gx (XS.iloadN X0.here hx rfl (hb hby d8_4) rfl) ?_
  refine gx (XS.iloadN X0.here hx rfl (hb hby d8_5) rfl) ?_
  refine gx (XS.icmpYes X0.here hx rfl (pc0 := 6) (pc' := 16) rfl (hb hby d8_6) rfl (tlt hi1).1 (by decide) (by decide)) ?_
  show Goes p.tables e below (s₁.setTop (mkF m 16 #[.val (.int x0), .val (.int x1), .val (.ref x2)] [])) _
  refine gx (XS.iloadN X0.here hx rfl (hb hby d8_16) rfl) ?_
  show Goes p.tables e below (s₁.setTop (mkF m 17 #[.val (.int x0), .val (.int x1), .val (.ref x2)] [(.int x0)])) _
  obtain ⟨fs, hr, hrun, hended, hW, hsame⟩ := X0.leave (v := some (.int x0)) (fun h => by rw [Bd.returns] at h; cases h)
  have hv : (some (.int x0) : Option Value) = some (.int x0) := by
    rfl
  exact ⟨_, _, retI X0 hx Bd.returns (hb hby d8_17) hr, hrun, hended, _, _, rfl, ⟨hv, N0, e0⟩, ⟨_, rfl⟩, hW, hsame.mono (by decide) (by decide)⟩

theorem d7_0 : decode jdk_42_method_155_code 0 = .ok (.iload_n 0, 1) := by decide +kernel
theorem d7_1 : decode jdk_42_method_155_code 1 = .ok (.iload_n 1, 1) := by decide +kernel
theorem d7_2 : decode jdk_42_method_155_code 2 = .ok (.getstatic 1053, 3) := by decide +kernel
theorem d7_5 : decode jdk_42_method_155_code 5 = .ok (.invokestatic 1059, 3) := by decide +kernel
theorem d7_8 : decode jdk_42_method_155_code 8 = .ok (.pop, 1) := by decide +kernel
theorem d7_9 : decode jdk_42_method_155_code 9 = .ok (.return_, 1) := by decide +kernel
theorem own_pd_pIILjavalutillfunctionlBiFunctionsqI : parseMethodDescriptor "(IILjava/util/function/BiFunction;)I" = some ⟨[.int, .int, (.object "java/util/function/BiFunction")], some .int⟩ := by decide +kernel
theorem own_pn_7 : plainName "java/lang/String" = true := by first | (simp [plainName, overriddenIn]; done) | decide +kernel
theorem own_ef_own_rm7 (m : MethodId) (x0 : Int32) (x1 : Int32) : entryFrame m #[(.int x0), (.int x1)] 2 = mkF m 0 #[.val (.int x0), .val (.int x1)] [] := by first | (simp [entryFrame, mkF, argsToLocals, Value.category]; done) | rfl
def own_Q_own_rm7 (Z : State) (x0 : Int32) (x1 : Int32) (fm : Value) (h0 : Heap) (n0 : Nat) (v : Option Value) (h : Heap) (L : List Loc) : Prop := v = none ∧ Fr n0 L ∧ h = h0
abbrev own_r_own_rm7 : Room := ({ frames := 1, cells := 0, slots := 0, locals := 14 } : Room)

set_option maxRecDepth 65536 in
set_option maxHeartbeats 40000000 in
theorem own_rm7 (l : Launch) (Z : State) (a0 : Array Value) (hw : ∀ d ∈ tables_1, d.before a0 Z = true) (ws : List Jvm.Cond) (x0 : Int32) (x1 : Int32) (fm : Value) (h0 : Heap) (n0 : Nat) (Z0 : n0 ≤ h0.size) (SF : Sta Z h0 "jdk/internal/util/Preconditions" "SIOOBE_FORMATTER" "Ljava/util/function/BiFunction;" fm) (hfm : fm.isRef = true) (hi0 : ¬ (x0 < (0 : Int32))) (hi1 : x0 < x1) :
    MetFree l own_n3 (head1 (Jvm.Cond.code own_n3 jdk_42_method_155_code 2 none :: ws) own_r_own_rm7) (fun a U => a = #[(.int x0), (.int x1)] ∧ Z.Warmed39 U.vm ∧ U.heap = h0) (fun _ _ _ _ _ => True) (fun _ U o U' => ∃ v L, o = .returned v ∧ own_Q_own_rm7 Z x0 x1 fm h0 n0 v U'.heap L ∧ FrameEnd U o U' L own_r_own_rm7.cells own_r_own_rm7.slots) := by
  refine MetFree.of_bodySF (plainFor_of_name own_pn_7) hisR ?_
  intro p e s m args below meth c s₁ Bd hml0 hP hK
  obtain ⟨rfl, hZ, hh⟩ := hP
  have hx := Bd.exec
  have hby := Bd.bytes
  have hml : c.maxLocals = 2 := hml0
  have hown : s.vm.findClass "java/lang/String" = some m.cls := findClass_of_methodNamed Bd.named
  have hnm := (name_of_methodNamed Bd.named Bd.method).1
  have X0 : Stand p l e own_r_own_rm7 s m #[(.int x0), (.int x1)] below meth c s₁ [] 0 0 := Stand.of_body Bd
  have e0 : s₁.heap = h0 := by rw [← hh, Bd.state]; rfl
  have N0 := Fr.nil n0
  show Goes p.tables e below _ (own_R below s (own_Q_own_rm7 Z x0 x1 fm h0 n0) own_r_own_rm7.cells own_r_own_rm7.slots)
  refine Goes.to (fun t k => castTop (own_ef_own_rm7 m x0 x1) k) ?_
  rcases ref_cases hfm with rfl | ⟨af, rfl⟩
  · refine gx (XS.iloadN X0.here hx rfl (hb hby d7_0) rfl) ?_
    refine gx (XS.iloadN X0.here hx rfl (hb hby d7_1) rfl) ?_
    obtain ⟨T1, X1, e1, st1⟩ := getS2 X0 hx hZ hown (host := "") (Or.inl (own_hw hw 43 rfl)) Via.refl e0 SF (g := (mkF m 2 #[.val (.int x0), .val (.int x1)] [(.int x1), (.int x0)])) rfl (hb hby d7_2)
    refine Goes.to st1 ?_
    obtain ⟨_, _, ⟨T2, L2, k2, n2⟩, -, X2, ⟨Lc2, hQ2, l2, y2, z2⟩, st2⟩ := Jvm.LawKit.callS X1 hx (y := own_n2) hown (mvT hZ (own_hw hw 45 rfl)) (mvT hZ (own_hw hw 46 rfl)) (mvT hZ (own_hw hw 44 rfl)) (mvT hZ (own_hw hw 47 rfl)) (by decide) (backOf (W := 0) (own_rmPN l Z a0 hw [] x0 x1 h0 n0 Z0 hi0 hi1) hZ (own_hw hw 47 rfl) (own_hw hw 44 rfl) (by decide) (by decide)) (g := (mkF m 5 #[.val (.int x0), .val (.int x1)] [.null, (.int x1), (.int x0)])) rfl (by rw [hml]; rfl) (argsL := [(.int x0), (.int x1), .null]) (rest := []) (lenOf own_pd_pIILjavalutillfunctionlBiFunctionsqI rfl) rfl (own_W rfl rfl) (hb hby d7_5) (fun _ _ => ⟨rfl, e1, (by decide : 0 + 0 ≤ _), (by decide : 0 + 0 ≤ _)⟩)
    dsimp only [Pt.U, Pt.locs, Pt.cells, Pt.slots] at X2 l2 y2 z2 st2 hQ2
    subst l2 y2 z2
    obtain ⟨hv2, Nq2, hp2_0⟩ := hQ2
    have N2 := Fr.app N0 Nq2
    subst hv2
    refine Goes.to st2 ?_
    refine gx (XS.pop X2.here hx rfl (hb hby d7_8) rfl rfl) ?_
    show Goes p.tables e below (T2.setTop (mkF m 9 #[.val (.int x0), .val (.int x1)] [])) _
    obtain ⟨fs, hr, hrun, hended, hW, hsame⟩ := X2.leave (v := none) (fun _ => rfl)
    have hv : (none : Option Value) = none := by
      rfl
    exact ⟨_, _, X2.returnOut hx Bd.returns (hb hby d7_9) hr, hrun, hended, _, _, rfl, ⟨hv, N2, hp2_0⟩, ⟨_, rfl⟩, hW, hsame.mono (by decide) (by decide)⟩
  · refine gx (XS.iloadN X0.here hx rfl (hb hby d7_0) rfl) ?_
    refine gx (XS.iloadN X0.here hx rfl (hb hby d7_1) rfl) ?_
    obtain ⟨T3, X3, e3, st3⟩ := getS2 X0 hx hZ hown (host := "") (Or.inl (own_hw hw 43 rfl)) Via.refl e0 SF (g := (mkF m 2 #[.val (.int x0), .val (.int x1)] [(.int x1), (.int x0)])) rfl (hb hby d7_2)
    refine Goes.to st3 ?_
    obtain ⟨_, _, ⟨T4, L4, k4, n4⟩, -, X4, ⟨Lc4, hQ4, l4, y4, z4⟩, st4⟩ := Jvm.LawKit.callS X3 hx (y := own_n2) hown (mvT hZ (own_hw hw 45 rfl)) (mvT hZ (own_hw hw 46 rfl)) (mvT hZ (own_hw hw 44 rfl)) (mvT hZ (own_hw hw 47 rfl)) (by decide) (backOf (W := 0) (own_rmPR l Z a0 hw [] x0 x1 af h0 n0 Z0 hi0 hi1) hZ (own_hw hw 47 rfl) (own_hw hw 44 rfl) (by decide) (by decide)) (g := (mkF m 5 #[.val (.int x0), .val (.int x1)] [(.ref af), (.int x1), (.int x0)])) rfl (by rw [hml]; rfl) (argsL := [(.int x0), (.int x1), (.ref af)]) (rest := []) (lenOf own_pd_pIILjavalutillfunctionlBiFunctionsqI rfl) rfl (own_W rfl rfl) (hb hby d7_5) (fun _ _ => ⟨rfl, e3, (by decide : 0 + 0 ≤ _), (by decide : 0 + 0 ≤ _)⟩)
    dsimp only [Pt.U, Pt.locs, Pt.cells, Pt.slots] at X4 l4 y4 z4 st4 hQ4
    subst l4 y4 z4
    obtain ⟨hv4, Nq4, hp4_0⟩ := hQ4
    have N4 := Fr.app N0 Nq4
    subst hv4
    refine Goes.to st4 ?_
    refine gx (XS.pop X4.here hx rfl (hb hby d7_8) rfl rfl) ?_
    show Goes p.tables e below (T4.setTop (mkF m 9 #[.val (.int x0), .val (.int x1)] [])) _
    obtain ⟨fs, hr, hrun, hended, hW, hsame⟩ := X4.leave (v := none) (fun _ => rfl)
    have hv : (none : Option Value) = none := by
      rfl
    exact ⟨_, _, X4.returnOut hx Bd.returns (hb hby d7_9) hr, hrun, hended, _, _, rfl, ⟨hv, N4, hp4_0⟩, ⟨_, rfl⟩, hW, hsame.mono (by decide) (by decide)⟩

theorem d6_0 : decode jdk_43_method_2_code 0 = .ok (.iload_n 1, 1) := by decide +kernel
theorem d6_1 : decode jdk_43_method_2_code 1 = .ok (.aload_n 0, 1) := by decide +kernel
theorem d6_2 : decode jdk_43_method_2_code 2 = .ok (.arraylength, 1) := by decide +kernel
theorem d6_3 : decode jdk_43_method_2_code 3 = .ok (.invokestatic 9, 3) := by decide +kernel
theorem d6_6 : decode jdk_43_method_2_code 6 = .ok (.aload_n 0, 1) := by decide +kernel
theorem d6_7 : decode jdk_43_method_2_code 7 = .ok (.iload_n 1, 1) := by decide +kernel
theorem d6_8 : decode jdk_43_method_2_code 8 = .ok (.baload, 1) := by decide +kernel
theorem d6_9 : decode jdk_43_method_2_code 9 = .ok (.sipush 255, 3) := by decide +kernel
theorem d6_12 : decode jdk_43_method_2_code 12 = .ok (.iand, 1) := by decide +kernel
theorem d6_13 : decode jdk_43_method_2_code 13 = .ok (.i2c, 1) := by decide +kernel
theorem d6_14 : decode jdk_43_method_2_code 14 = .ok (.ireturn, 1) := by decide +kernel
theorem own_pd_pIIqV : parseMethodDescriptor "(II)V" = some ⟨[.int, .int], none⟩ := by decide +kernel
theorem own_pn_6 : plainName "java/lang/StringLatin1" = true := by first | (simp [plainName, overriddenIn]; done) | decide +kernel
theorem own_ef_own_rm6 (m : MethodId) (x0 : Addr) (x1 : Int32) : entryFrame m #[(.ref x0), (.int x1)] 2 = mkF m 0 #[.val (.ref x0), .val (.int x1)] [] := by first | (simp [entryFrame, mkF, argsToLocals, Value.category]; done) | rfl
def own_Q_own_rm6 (Z : State) (x0 : Addr) (x1 : Int32) (kb : ClassId) (z : Int32) (vs : List Value) (w : Int32) (fm : Value) (h0 : Heap) (n0 : Nat) (v : Option Value) (h : Heap) (L : List Loc) : Prop := v = some (.int (own_ch1 w)) ∧ Fr n0 L ∧ h = h0
abbrev own_r_own_rm6 : Room := ({ frames := 2, cells := 0, slots := 0, locals := 27 } : Room)

set_option maxRecDepth 65536 in
set_option maxHeartbeats 40000000 in
theorem own_rm6 (l : Launch) (Z : State) (a0 : Array Value) (hw : ∀ d ∈ tables_1, d.before a0 Z = true) (ws : List Jvm.Cond) (x0 : Addr) (x1 : Int32) (kb : ClassId) (z : Int32) (vs : List Value) (w : Int32) (fm : Value) (h0 : Heap) (n0 : Nat) (Z0 : n0 ≤ h0.size) (VA : Arv Z h0 x0 kb .byte z vs (.int (0 : Int32))) (SF : Sta Z h0 "jdk/internal/util/Preconditions" "SIOOBE_FORMATTER" "Ljava/util/function/BiFunction;" fm) (hfm : fm.isRef = true) (hi0 : ¬ (x1 < (0 : Int32))) (hi1 : x1 < z) (Hw : vs.getD x1.toNatClampNeg (.int (0 : Int32)) = .int w) :
    MetFree l own_n4 (head1 (Jvm.Cond.code own_n4 jdk_43_method_2_code 2 (some .char) :: ws) own_r_own_rm6) (fun a U => a = #[(.ref x0), (.int x1)] ∧ Z.Warmed39 U.vm ∧ U.heap = h0) (fun _ _ _ _ _ => True) (fun _ U o U' => ∃ v L, o = .returned v ∧ own_Q_own_rm6 Z x0 x1 kb z vs w fm h0 n0 v U'.heap L ∧ FrameEnd U o U' L own_r_own_rm6.cells own_r_own_rm6.slots) := by
  refine MetFree.of_bodySF (plainFor_of_name own_pn_6) hisR ?_
  intro p e s m args below meth c s₁ Bd hml0 hP hK
  obtain ⟨rfl, hZ, hh⟩ := hP
  have hx := Bd.exec
  have hby := Bd.bytes
  have hml : c.maxLocals = 2 := hml0
  have hown : s.vm.findClass "java/lang/StringLatin1" = some m.cls := findClass_of_methodNamed Bd.named
  have hnm := (name_of_methodNamed Bd.named Bd.method).1
  have X0 : Stand p l e own_r_own_rm6 s m #[(.ref x0), (.int x1)] below meth c s₁ [] 0 0 := Stand.of_body Bd
  have e0 : s₁.heap = h0 := by rw [← hh, Bd.state]; rfl
  have N0 := Fr.nil n0
  show Goes p.tables e below _ (own_R below s (own_Q_own_rm6 Z x0 x1 kb z vs w fm h0 n0) own_r_own_rm6.cells own_r_own_rm6.slots)
  refine Goes.to (fun t k => castTop (own_ef_own_rm6 m x0 x1) k) ?_
  refine gx (XS.iloadN X0.here hx rfl (hb hby d6_0) rfl) ?_
  refine gx (XS.aloadN X0.here hx rfl (hb hby d6_1) rfl rfl) ?_
  obtain ⟨cl1, Ar1, -, S1, N1, -, -⟩ := id VA
  refine Goes.to (fun _ k => X0.arraylength hx (by rw [e0]; exact Ar1.1) (State.isArrayOf_alike hZ.alike Ar1.2.1) (g := (mkF m 2 #[.val (.ref x0), .val (.int x1)] [(.ref x0), (.int x1)])) rfl rfl (hb hby d6_2) _ k) ?_
  rw [len_of S1 N1]
  obtain ⟨_, _, ⟨T2, L2, k2, n2⟩, -, X2, ⟨Lc2, hQ2, l2, y2, z2⟩, st2⟩ := Jvm.LawKit.callS X0 hx (y := own_n3) hown (mvT hZ (own_hw hw 40 rfl)) (mvT hZ (own_hw hw 41 rfl)) (mvT hZ (own_hw hw 2 rfl)) (mvT hZ (own_hw hw 42 rfl)) (by decide) (backOf (W := 0) (own_rm7 l Z a0 hw [] x1 z fm h0 n0 Z0 SF hfm hi0 hi1) hZ (own_hw hw 42 rfl) (own_hw hw 2 rfl) (by decide) (by decide)) (g := (mkF m 3 #[.val (.ref x0), .val (.int x1)] [(.int z), (.int x1)])) rfl (by rw [hml]; rfl) (argsL := [(.int x1), (.int z)]) (rest := []) (lenOf own_pd_pIIqV rfl) rfl (own_W rfl rfl) (hb hby d6_3) (fun _ _ => ⟨rfl, e0, (by decide : 0 + 0 ≤ _), (by decide : 0 + 0 ≤ _)⟩)
  dsimp only [Pt.U, Pt.locs, Pt.cells, Pt.slots] at X2 l2 y2 z2 st2 hQ2
  subst l2 y2 z2
  obtain ⟨hv2, Nq2, hp2_0⟩ := hQ2
  have N2 := Fr.app N0 Nq2
  subst hv2
  refine Goes.to st2 ?_
  refine gx (XS.aloadN X2.here hx rfl (hb hby d6_6) rfl rfl) ?_
  refine gx (XS.iloadN X2.here hx rfl (hb hby d6_7) rfl) ?_
  show Goes p.tables e below (T2.setTop (mkF m 8 #[.val (.ref x0), .val (.int x1)] [(.int x1), (.ref x0)])) _
  obtain ⟨cl3, Ar3, q3, S3, N3, H3, G3⟩ := id VA
  have hin3 := inb_of S3 ⟨hi0, hi1⟩
  have hat3 := Has.at H3 hin3 Hw
  refine gx (X2.baloadBytes hx (j := x1) (v := (.int w)) (by rw [hp2_0]; exact Ar3.1) (State.isArrayOf_alike hZ.alike Ar3.2.1) Ar3.2.2 hin3 hat3 (g := (mkF m 8 #[.val (.ref x0), .val (.int x1)] [(.int x1), (.ref x0)])) rfl rfl (hb hby d6_8) _) ?_
  refine gx (XS.sipush X2.here hx rfl (hb hby d6_9)) ?_
  refine gx (XS.iand X2.here hx rfl (hb hby d6_12) rfl) ?_
  refine gx (XS.i2c X2.here hx rfl (hb hby d6_13) rfl) ?_
  show Goes p.tables e below (T2.setTop (mkF m 14 #[.val (.ref x0), .val (.int x1)] [(.int ((w &&& (255 : Int32)).toUInt32.toUInt16.toUInt32.toInt32))])) _
  obtain ⟨fs, hr, hrun, hended, hW, hsame⟩ := X2.leave (v := some (.int (nar .char ((w &&& (255 : Int32)).toUInt32.toUInt16.toUInt32.toInt32)))) (fun h => by rw [Bd.returns] at h; cases h)
  have hv : (some (.int (nar .char ((w &&& (255 : Int32)).toUInt32.toUInt16.toUInt32.toInt32))) : Option Value) = some (.int (own_ch1 w)) := by
    rfl
  exact ⟨_, _, retN X2 hx (t := .char) Bd.returns (by simp) (hb hby d6_14) hr, hrun, hended, _, _, rfl, ⟨hv, N2, hp2_0⟩, ⟨_, rfl⟩, hW, hsame.mono (by decide) (by decide)⟩

theorem d5_0 : decode jdk_42_method_154_code 0 = .ok (.getstatic 38, 3) := by decide +kernel
theorem d5_3 : decode jdk_42_method_154_code 3 = .ok (.ifCond .eq 14, 3) := by decide +kernel
theorem d5_6 : decode jdk_42_method_154_code 6 = .ok (.aload_n 0, 1) := by decide +kernel
theorem d5_7 : decode jdk_42_method_154_code 7 = .ok (.getfield 15, 3) := by decide +kernel
theorem d5_10 : decode jdk_42_method_154_code 10 = .ok (.ifCond .ne 7, 3) := by decide +kernel
theorem d5_13 : decode jdk_42_method_154_code 13 = .ok (.iconst 1, 1) := by decide +kernel
theorem d5_14 : decode jdk_42_method_154_code 14 = .ok (.goto 4, 3) := by decide +kernel
theorem d5_18 : decode jdk_42_method_154_code 18 = .ok (.ireturn, 1) := by decide +kernel
theorem own_pn_5 : plainName "java/lang/String" = true := by first | (simp [plainName, overriddenIn]; done) | decide +kernel
theorem own_ef_own_rm5 (m : MethodId) (x0 : Addr) : entryFrame m #[(.ref x0)] 1 = mkF m 0 #[.val (.ref x0)] [] := by first | (simp [entryFrame, mkF, argsToLocals, Value.category]; done) | rfl
def own_Q_own_rm5 (Z : State) (x0 : Addr) (cs : Int32) (h0 : Heap) (n0 : Nat) (v : Option Value) (h : Heap) (L : List Loc) : Prop := v = some (.int (1 : Int32)) ∧ Fr n0 L ∧ h = h0
abbrev own_r_own_rm5 : Room := ({ frames := 0, cells := 0, slots := 0, locals := 0 } : Room)

set_option maxRecDepth 65536 in
set_option maxHeartbeats 40000000 in
theorem own_rm5 (l : Launch) (Z : State) (a0 : Array Value) (hw : ∀ d ∈ tables_1, d.before a0 Z = true) (ws : List Jvm.Cond) (x0 : Addr) (cs : Int32) (h0 : Heap) (n0 : Nat) (Z0 : n0 ≤ h0.size) (FC : Fld Z h0 x0 "java/lang/String" "coder" "B" (.int (0 : Int32))) (SC : Sta Z h0 "java/lang/String" "COMPACT_STRINGS" "Z" (.int cs)) (hcs : ¬ (cs = (0 : Int32))) :
    MetFree l own_n5 (head1 (Jvm.Cond.code own_n5 jdk_42_method_154_code 1 (some .boolean) :: ws) own_r_own_rm5) (fun a U => a = #[(.ref x0)] ∧ Z.Warmed39 U.vm ∧ U.heap = h0) (fun _ _ _ _ _ => True) (fun _ U o U' => ∃ v L, o = .returned v ∧ own_Q_own_rm5 Z x0 cs h0 n0 v U'.heap L ∧ FrameEnd U o U' L own_r_own_rm5.cells own_r_own_rm5.slots) := by
  refine MetFree.of_bodySF (plainFor_of_name own_pn_5) hisR ?_
  intro p e s m args below meth c s₁ Bd hml0 hP hK
  obtain ⟨rfl, hZ, hh⟩ := hP
  have hx := Bd.exec
  have hby := Bd.bytes
  have hml : c.maxLocals = 1 := hml0
  have hown : s.vm.findClass "java/lang/String" = some m.cls := findClass_of_methodNamed Bd.named
  have hnm := (name_of_methodNamed Bd.named Bd.method).1
  have X0 : Stand p l e own_r_own_rm5 s m #[(.ref x0)] below meth c s₁ [] 0 0 := Stand.of_body Bd
  have e0 : s₁.heap = h0 := by rw [← hh, Bd.state]; rfl
  have N0 := Fr.nil n0
  show Goes p.tables e below _ (own_R below s (own_Q_own_rm5 Z x0 cs h0 n0) own_r_own_rm5.cells own_r_own_rm5.slots)
  refine Goes.to (fun t k => castTop (own_ef_own_rm5 m x0) k) ?_
  obtain ⟨T1, X1, e1, st1⟩ := getS2 X0 hx hZ hown (host := "") (Or.inl (own_hw hw 20 rfl)) Via.refl e0 SC (g := (mkF m 0 #[.val (.ref x0)] [])) rfl (hb hby d5_0)
  refine Goes.to st1 ?_
  refine gx (XS.ifNo X1.here hx rfl (hb hby d5_3) rfl ((if0 _ _).trans (feq hcs).1)) ?_
  refine gx (XS.aloadN X1.here hx rfl (hb hby d5_6) rfl rfl) ?_
  obtain ⟨T2, X2, e2, st2⟩ := getF X1 hx hZ hown (host := "") (Or.inl (own_hw hw 21 rfl)) Via.refl e1 FC (g := (mkF m 7 #[.val (.ref x0)] [(.ref x0)])) rfl rfl (hb hby d5_7)
  refine Goes.to st2 ?_
  refine gx (XS.ifNo X2.here hx rfl (hb hby d5_10) rfl ((if0 _ _).trans (teq (by decide : (0 : Int32) = (0 : Int32))).2)) ?_
  refine gx (XS.iconst X2.here hx rfl (hb hby d5_13)) ?_
  refine gx (XS.goto X2.here hx rfl (pc0 := 14) (pc' := 18) rfl (hb hby d5_14) (by decide) (by decide)) ?_
  show Goes p.tables e below (T2.setTop (mkF m 18 #[.val (.ref x0)] [(.int (1 : Int32))])) _
  obtain ⟨fs, hr, hrun, hended, hW, hsame⟩ := X2.leave (v := some (.int (1 : Int32))) (fun h => by rw [Bd.returns] at h; cases h)
  have hv : (some (.int (1 : Int32)) : Option Value) = some (.int (1 : Int32)) := by
    rfl
  exact ⟨_, _, retN X2 hx (t := .boolean) Bd.returns (by simp) (hb hby d5_18) hr, hrun, hended, _, _, rfl, ⟨hv, N0, e2⟩, ⟨_, rfl⟩, hW, hsame.mono (by decide) (by decide)⟩

theorem d4_0 : decode jdk_42_method_56_code 0 = .ok (.aload_n 0, 1) := by decide +kernel
theorem d4_1 : decode jdk_42_method_56_code 1 = .ok (.invokevirtual 492, 3) := by decide +kernel
theorem d4_4 : decode jdk_42_method_56_code 4 = .ok (.ifCond .eq 12, 3) := by decide +kernel
theorem d4_7 : decode jdk_42_method_56_code 7 = .ok (.aload_n 0, 1) := by decide +kernel
theorem d4_8 : decode jdk_42_method_56_code 8 = .ok (.getfield 9, 3) := by decide +kernel
theorem d4_11 : decode jdk_42_method_56_code 11 = .ok (.iload_n 1, 1) := by decide +kernel
theorem d4_12 : decode jdk_42_method_56_code 12 = .ok (.invokestatic 495, 3) := by decide +kernel
theorem d4_15 : decode jdk_42_method_56_code 15 = .ok (.ireturn, 1) := by decide +kernel
theorem own_pd_pqZ : parseMethodDescriptor "()Z" = some ⟨[], some .boolean⟩ := by decide +kernel
theorem own_pd_paBIqC : parseMethodDescriptor "([BI)C" = some ⟨[(.array .byte), .int], some .char⟩ := by decide +kernel
theorem own_pn_4 : plainName "java/lang/String" = true := by first | (simp [plainName, overriddenIn]; done) | decide +kernel
theorem own_ef_own_rm4 (m : MethodId) (x0 : Addr) (x1 : Int32) : entryFrame m #[(.ref x0), (.int x1)] 2 = mkF m 0 #[.val (.ref x0), .val (.int x1)] [] := by first | (simp [entryFrame, mkF, argsToLocals, Value.category]; done) | rfl
def own_Q_own_rm4 (Z : State) (x0 : Addr) (x1 : Int32) (bv : Addr) (kb : ClassId) (z : Int32) (vs : List Value) (w : Int32) (cs : Int32) (fm : Value) (h0 : Heap) (n0 : Nat) (v : Option Value) (h : Heap) (L : List Loc) : Prop := v = some (.int (own_ch w)) ∧ Fr n0 L ∧ h = h0
abbrev own_r_own_rm4 : Room := ({ frames := 3, cells := 0, slots := 0, locals := 40 } : Room)

set_option maxRecDepth 65536 in
set_option maxHeartbeats 40000000 in
theorem own_rm4 (l : Launch) (Z : State) (a0 : Array Value) (hw : ∀ d ∈ tables_1, d.before a0 Z = true) (ws : List Jvm.Cond) (x0 : Addr) (x1 : Int32) (bv : Addr) (kb : ClassId) (z : Int32) (vs : List Value) (w : Int32) (cs : Int32) (fm : Value) (h0 : Heap) (n0 : Nat) (Z0 : n0 ≤ h0.size) (EX : Exa Z h0 x0 "java/lang/String") (FC : Fld Z h0 x0 "java/lang/String" "coder" "B" (.int (0 : Int32))) (FV : Fld Z h0 x0 "java/lang/String" "value" "[B" (.ref bv)) (VA : Arv Z h0 bv kb .byte z vs (.int (0 : Int32))) (SC : Sta Z h0 "java/lang/String" "COMPACT_STRINGS" "Z" (.int cs)) (hcs : ¬ (cs = (0 : Int32))) (SF : Sta Z h0 "jdk/internal/util/Preconditions" "SIOOBE_FORMATTER" "Ljava/util/function/BiFunction;" fm) (hfm : fm.isRef = true) (hi0 : ¬ (x1 < (0 : Int32))) (hi1 : x1 < z) (Hw : vs.getD x1.toNatClampNeg (.int (0 : Int32)) = .int w) :
    MetFree l own_n6 (head1 (Jvm.Cond.code own_n6 jdk_42_method_56_code 2 (some .char) :: ws) own_r_own_rm4) (fun a U => a = #[(.ref x0), (.int x1)] ∧ Z.Warmed39 U.vm ∧ U.heap = h0) (fun _ _ _ _ _ => True) (fun _ U o U' => ∃ v L, o = .returned v ∧ own_Q_own_rm4 Z x0 x1 bv kb z vs w cs fm h0 n0 v U'.heap L ∧ FrameEnd U o U' L own_r_own_rm4.cells own_r_own_rm4.slots) := by
  refine MetFree.of_bodySF (plainFor_of_name own_pn_4) hisR ?_
  intro p e s m args below meth c s₁ Bd hml0 hP hK
  obtain ⟨rfl, hZ, hh⟩ := hP
  have hx := Bd.exec
  have hby := Bd.bytes
  have hml : c.maxLocals = 2 := hml0
  have hown : s.vm.findClass "java/lang/String" = some m.cls := findClass_of_methodNamed Bd.named
  have hnm := (name_of_methodNamed Bd.named Bd.method).1
  have X0 : Stand p l e own_r_own_rm4 s m #[(.ref x0), (.int x1)] below meth c s₁ [] 0 0 := Stand.of_body Bd
  have e0 : s₁.heap = h0 := by rw [← hh, Bd.state]; rfl
  have N0 := Fr.nil n0
  show Goes p.tables e below _ (own_R below s (own_Q_own_rm4 Z x0 x1 bv kb z vs w cs fm h0 n0) own_r_own_rm4.cells own_r_own_rm4.slots)
  refine Goes.to (fun t k => castTop (own_ef_own_rm4 m x0 x1) k) ?_
  refine gx (XS.aloadN X0.here hx rfl (hb hby d4_0) rfl rfl) ?_
  obtain ⟨cq1, kq1, q1a, q1b, q1c⟩ := isOf hZ e0 EX
  obtain ⟨_, _, ⟨T1, L1, k1, n1⟩, -, X1, ⟨Lc1, hQ1, l1, y1, z1⟩, st1⟩ := X0.virtualBack hx (y := own_n5) (z := own_n5) hown (mvT hZ (own_hw hw 31 rfl)) (mvT hZ (own_hw hw 32 rfl)) (notFace_of_selects (args := #[]) (mvT hZ (own_hw hw 34 rfl))) (mvT hZ (own_hw hw 34 rfl)) (mvT hZ (own_hw hw 33 rfl)) (by decide) (backOf (W := 0) (own_rm5 l Z a0 hw [] x0 cs h0 n0 Z0 FC SC hcs) hZ (own_hw hw 35 rfl) (own_hw hw 2 rfl) (by decide) (by decide)) q1a q1c (g := (mkF m 1 #[.val (.ref x0), .val (.int x1)] [(.ref x0)])) rfl (by rw [hml]; rfl) (Steps.refl _) (argsL := []) (rest := []) (lenOf own_pd_pqZ rfl) rfl (own_W rfl rfl) (hb hby d4_1) (fun _ _ => ⟨rfl, e0, (by decide : 0 + 0 ≤ _), (by decide : 0 + 0 ≤ _)⟩)
  dsimp only [Pt.U, Pt.locs, Pt.cells, Pt.slots] at X1 l1 y1 z1 st1 hQ1
  subst l1 y1 z1
  obtain ⟨hv1, Nq1, hp1_0⟩ := hQ1
  have N1 := Fr.app N0 Nq1
  subst hv1
  refine Goes.tr st1 ?_
  refine gx (XS.ifNo X1.here hx rfl (hb hby d4_4) rfl ((if0 _ _).trans (feq (by decide : ¬ ((1 : Int32) = (0 : Int32)))).1)) ?_
  refine gx (XS.aloadN X1.here hx rfl (hb hby d4_7) rfl rfl) ?_
  obtain ⟨T2, X2, e2, st2⟩ := getF X1 hx hZ hown (host := "") (Or.inl (own_hw hw 14 rfl)) Via.refl hp1_0 FV (g := (mkF m 8 #[.val (.ref x0), .val (.int x1)] [(.ref x0)])) rfl rfl (hb hby d4_8)
  refine Goes.to st2 ?_
  refine gx (XS.iloadN X2.here hx rfl (hb hby d4_11) rfl) ?_
  obtain ⟨_, _, ⟨T3, L3, k3, n3⟩, -, X3, ⟨Lc3, hQ3, l3, y3, z3⟩, st3⟩ := Jvm.LawKit.callS X2 hx (y := own_n4) hown (mvT hZ (own_hw hw 36 rfl)) (mvT hZ (own_hw hw 37 rfl)) (mvT hZ (own_hw hw 38 rfl)) (mvT hZ (own_hw hw 39 rfl)) (by decide) (backOf (W := 0) (own_rm6 l Z a0 hw [] bv x1 kb z vs w fm h0 n0 Z0 VA SF hfm hi0 hi1 Hw) hZ (own_hw hw 39 rfl) (own_hw hw 38 rfl) (by decide) (by decide)) (g := (mkF m 12 #[.val (.ref x0), .val (.int x1)] [(.int x1), (.ref bv)])) rfl (by rw [hml]; rfl) (argsL := [(.ref bv), (.int x1)]) (rest := []) (lenOf own_pd_paBIqC rfl) rfl (own_W rfl rfl) (hb hby d4_12) (fun _ _ => ⟨rfl, e2, (by decide : 0 + 0 ≤ _), (by decide : 0 + 0 ≤ _)⟩)
  dsimp only [Pt.U, Pt.locs, Pt.cells, Pt.slots] at X3 l3 y3 z3 st3 hQ3
  subst l3 y3 z3
  obtain ⟨hv3, Nq3, hp3_0⟩ := hQ3
  have N3 := Fr.app N1 Nq3
  subst hv3
  refine Goes.to st3 ?_
  show Goes p.tables e below (T3.setTop (mkF m 15 #[.val (.ref x0), .val (.int x1)] [(.int (own_ch1 w))])) _
  obtain ⟨fs, hr, hrun, hended, hW, hsame⟩ := X3.leave (v := some (.int (nar .char (own_ch1 w)))) (fun h => by rw [Bd.returns] at h; cases h)
  have hv : (some (.int (nar .char (own_ch1 w))) : Option Value) = some (.int (own_ch w)) := by
    rfl
  exact ⟨_, _, retN X3 hx (t := .char) Bd.returns (by simp) (hb hby d4_15) hr, hrun, hended, _, _, rfl, ⟨hv, N3, hp3_0⟩, ⟨_, rfl⟩, hW, hsame.mono (by decide) (by decide)⟩

theorem d3_0 : decode method_3_code 0 = .ok (.iload_n 1, 1) := by decide +kernel
theorem d3_1 : decode method_3_code 1 = .ok (.aload_n 0, 1) := by decide +kernel
theorem d3_2 : decode method_3_code 2 = .ok (.invokevirtual 15, 3) := by decide +kernel
theorem d3_5 : decode method_3_code 5 = .ok (.if_icmp .ge 11, 3) := by decide +kernel
theorem d3_8 : decode method_3_code 8 = .ok (.aload_n 0, 1) := by decide +kernel
theorem d3_9 : decode method_3_code 9 = .ok (.iload_n 1, 1) := by decide +kernel
theorem d3_10 : decode method_3_code 10 = .ok (.invokevirtual 58, 3) := by decide +kernel
theorem d3_13 : decode method_3_code 13 = .ok (.goto 4, 3) := by decide +kernel
theorem d3_16 : decode method_3_code 16 = .ok (.iconst 0, 1) := by decide +kernel
theorem d3_17 : decode method_3_code 17 = .ok (.ireturn, 1) := by decide +kernel
theorem own_pd_pqI : parseMethodDescriptor "()I" = some ⟨[], some .int⟩ := by decide +kernel
theorem own_pd_pIqC : parseMethodDescriptor "(I)C" = some ⟨[.int], some .char⟩ := by decide +kernel
theorem own_pn_3 : plainName "com/example/polgen/polgen/model/MultiplicityNamedPinLaw" = true := by first | (simp [plainName, overriddenIn]; done) | decide +kernel
theorem own_ef_own_rm3 (m : MethodId) (x0 : Addr) (x1 : Int32) : entryFrame m #[(.ref x0), (.int x1)] 2 = mkF m 0 #[.val (.ref x0), .val (.int x1)] [] := by first | (simp [entryFrame, mkF, argsToLocals, Value.category]; done) | rfl
def own_Q_own_rm3 (Z : State) (x0 : Addr) (x1 : Int32) (bv : Addr) (kb : ClassId) (z : Int32) (vs : List Value) (w : Int32) (cs : Int32) (fm : Value) (h0 : Heap) (n0 : Nat) (v : Option Value) (h : Heap) (L : List Loc) : Prop := v = some (.int (own_atc x1 z w)) ∧ Fr n0 L ∧ h = h0
abbrev own_r_own_rm3 : Room := ({ frames := 4, cells := 0, slots := 0, locals := 53 } : Room)

set_option maxRecDepth 65536 in
set_option maxHeartbeats 40000000 in
theorem own_rm3 (l : Launch) (Z : State) (a0 : Array Value) (hw : ∀ d ∈ tables_1, d.before a0 Z = true) (ws : List Jvm.Cond) (x0 : Addr) (x1 : Int32) (bv : Addr) (kb : ClassId) (z : Int32) (vs : List Value) (w : Int32) (cs : Int32) (fm : Value) (h0 : Heap) (n0 : Nat) (Z0 : n0 ≤ h0.size) (EX : Exa Z h0 x0 "java/lang/String") (FC : Fld Z h0 x0 "java/lang/String" "coder" "B" (.int (0 : Int32))) (FV : Fld Z h0 x0 "java/lang/String" "value" "[B" (.ref bv)) (VA : Arv Z h0 bv kb .byte z vs (.int (0 : Int32))) (SC : Sta Z h0 "java/lang/String" "COMPACT_STRINGS" "Z" (.int cs)) (hcs : ¬ (cs = (0 : Int32))) (SF : Sta Z h0 "jdk/internal/util/Preconditions" "SIOOBE_FORMATTER" "Ljava/util/function/BiFunction;" fm) (hfm : fm.isRef = true) (hi0 : ¬ (x1 < (0 : Int32))) (Hw : x1 < z → vs.getD x1.toNatClampNeg (.int (0 : Int32)) = .int w) :
    MetFree l own_n7 (head1 (Jvm.Cond.code own_n7 method_3_code 2 (some .char) :: ws) own_r_own_rm3) (fun a U => a = #[(.ref x0), (.int x1)] ∧ Z.Warmed39 U.vm ∧ U.heap = h0) (fun _ _ _ _ _ => True) (fun _ U o U' => ∃ v L, o = .returned v ∧ own_Q_own_rm3 Z x0 x1 bv kb z vs w cs fm h0 n0 v U'.heap L ∧ FrameEnd U o U' L own_r_own_rm3.cells own_r_own_rm3.slots) := by
  refine MetFree.of_bodySF (plainFor_of_name own_pn_3) hisR ?_
  intro p e s m args below meth c s₁ Bd hml0 hP hK
  obtain ⟨rfl, hZ, hh⟩ := hP
  have hx := Bd.exec
  have hby := Bd.bytes
  have hml : c.maxLocals = 2 := hml0
  have hown : s.vm.findClass "com/example/polgen/polgen/model/MultiplicityNamedPinLaw" = some m.cls := findClass_of_methodNamed Bd.named
  have hnm := (name_of_methodNamed Bd.named Bd.method).1
  have X0 : Stand p l e own_r_own_rm3 s m #[(.ref x0), (.int x1)] below meth c s₁ [] 0 0 := Stand.of_body Bd
  have e0 : s₁.heap = h0 := by rw [← hh, Bd.state]; rfl
  have N0 := Fr.nil n0
  show Goes p.tables e below _ (own_R below s (own_Q_own_rm3 Z x0 x1 bv kb z vs w cs fm h0 n0) own_r_own_rm3.cells own_r_own_rm3.slots)
  refine Goes.to (fun t k => castTop (own_ef_own_rm3 m x0 x1) k) ?_
  refine gx (XS.iloadN X0.here hx rfl (hb hby d3_0) rfl) ?_
  refine gx (XS.aloadN X0.here hx rfl (hb hby d3_1) rfl rfl) ?_
  obtain ⟨cq1, kq1, q1a, q1b, q1c⟩ := isOf hZ e0 EX
  obtain ⟨_, _, ⟨T1, L1, k1, n1⟩, -, X1, ⟨Lc1, hQ1, l1, y1, z1⟩, st1⟩ := X0.virtualBack hx (y := own_n1) (z := own_n1) hown (mvT hZ (own_hw hw 9 rfl)) (mvT hZ (own_hw hw 10 rfl)) (notFace_of_selects (args := #[]) (mvT hZ (own_hw hw 12 rfl))) (mvT hZ (own_hw hw 12 rfl)) (mvT hZ (own_hw hw 11 rfl)) (by decide) (backOf (W := 1) (own_rm1 l Z a0 hw [] x0 bv kb z vs cs h0 n0 Z0 EX FC FV VA SC hcs) hZ (own_hw hw 13 rfl) (own_hw hw 2 rfl) (by decide) (by decide)) q1a q1c (g := (mkF m 2 #[.val (.ref x0), .val (.int x1)] [(.ref x0), (.int x1)])) rfl (by rw [hml]; rfl) (Steps.refl _) (argsL := []) (rest := [(.int x1)]) (lenOf own_pd_pqI rfl) rfl (own_W rfl rfl) (hb hby d3_2) (fun _ _ => ⟨rfl, e0, (by decide : 0 + 0 ≤ _), (by decide : 0 + 0 ≤ _)⟩)
  dsimp only [Pt.U, Pt.locs, Pt.cells, Pt.slots] at X1 l1 y1 z1 st1 hQ1
  subst l1 y1 z1
  obtain ⟨hv1, Nq1, hp1_0⟩ := hQ1
  have N1 := Fr.app N0 Nq1
  subst hv1
  refine Goes.tr st1 ?_
  by_cases hc2 : x1 < z
  · refine gx (XS.icmpNo X1.here hx rfl (hb hby d3_5) rfl (tlt hc2).2.1) ?_
    refine gx (XS.aloadN X1.here hx rfl (hb hby d3_8) rfl rfl) ?_
    refine gx (XS.iloadN X1.here hx rfl (hb hby d3_9) rfl) ?_
    obtain ⟨cq3, kq3, q3a, q3b, q3c⟩ := isOf hZ hp1_0 EX
    obtain ⟨_, _, ⟨T3, L3, k3, n3⟩, -, X3, ⟨Lc3, hQ3, l3, y3, z3⟩, st3⟩ := X1.virtualBack hx (y := own_n6) (z := own_n6) hown (mvT hZ (own_hw hw 26 rfl)) (mvT hZ (own_hw hw 27 rfl)) (notFace_of_selects (args := #[]) (mvT hZ (own_hw hw 29 rfl))) (mvT hZ (own_hw hw 29 rfl)) (mvT hZ (own_hw hw 28 rfl)) (by decide) (backOf (W := 0) (own_rm4 l Z a0 hw [] x0 x1 bv kb z vs w cs fm h0 n0 Z0 EX FC FV VA SC hcs SF hfm hi0 hc2 (Hw hc2)) hZ (own_hw hw 30 rfl) (own_hw hw 2 rfl) (by decide) (by decide)) q3a q3c (g := (mkF m 10 #[.val (.ref x0), .val (.int x1)] [(.int x1), (.ref x0)])) rfl (by rw [hml]; rfl) (Steps.refl _) (argsL := [(.int x1)]) (rest := []) (lenOf own_pd_pIqC rfl) rfl (own_W rfl rfl) (hb hby d3_10) (fun _ _ => ⟨rfl, hp1_0, (by decide : 0 + 0 ≤ _), (by decide : 0 + 0 ≤ _)⟩)
    dsimp only [Pt.U, Pt.locs, Pt.cells, Pt.slots] at X3 l3 y3 z3 st3 hQ3
    subst l3 y3 z3
    obtain ⟨hv3, Nq3, hp3_0⟩ := hQ3
    have N3 := Fr.app N1 Nq3
    subst hv3
    refine Goes.tr st3 ?_
    refine gx (XS.goto X3.here hx rfl (pc0 := 13) (pc' := 17) rfl (hb hby d3_13) (by decide) (by decide)) ?_
    show Goes p.tables e below (T3.setTop (mkF m 17 #[.val (.ref x0), .val (.int x1)] [(.int (own_ch w))])) _
    obtain ⟨fs, hr, hrun, hended, hW, hsame⟩ := X3.leave (v := some (.int (nar .char (own_ch w)))) (fun h => by rw [Bd.returns] at h; cases h)
    have hv : (some (.int (nar .char (own_ch w))) : Option Value) = some (.int (own_atc x1 z w)) := by
      rw [own_atc, if_pos hc2]
    exact ⟨_, _, retN X3 hx (t := .char) Bd.returns (by simp) (hb hby d3_17) hr, hrun, hended, _, _, rfl, ⟨hv, N3, hp3_0⟩, ⟨_, rfl⟩, hW, hsame.mono (by decide) (by decide)⟩
  · refine gx (XS.icmpYes X1.here hx rfl (pc0 := 5) (pc' := 16) rfl (hb hby d3_5) rfl (flt hc2).2.1 (by decide) (by decide)) ?_
    refine gx (XS.iconst X1.here hx rfl (hb hby d3_16)) ?_
    show Goes p.tables e below (T1.setTop (mkF m 17 #[.val (.ref x0), .val (.int x1)] [(.int (0 : Int32))])) _
    obtain ⟨fs, hr, hrun, hended, hW, hsame⟩ := X1.leave (v := some (.int (0 : Int32))) (fun h => by rw [Bd.returns] at h; cases h)
    have hv : (some (.int (0 : Int32)) : Option Value) = some (.int (own_atc x1 z w)) := by
      rw [own_atc, if_neg hc2]
    exact ⟨_, _, retN X1 hx (t := .char) Bd.returns (by simp) (hb hby d3_17) hr, hrun, hended, _, _, rfl, ⟨hv, N1, hp1_0⟩, ⟨_, rfl⟩, hW, hsame.mono (by decide) (by decide)⟩

theorem d21_0 : decode jdk_31_method_10_code 0 = .ok (.aload_n 0, 1) := by decide +kernel
theorem d21_1 : decode jdk_31_method_10_code 1 = .ok (.ifnonnull 11, 3) := by decide +kernel
theorem d21_12 : decode jdk_31_method_10_code 12 = .ok (.aload_n 0, 1) := by decide +kernel
theorem d21_13 : decode jdk_31_method_10_code 13 = .ok (.areturn, 1) := by decide +kernel
theorem own_pn_21 : plainName "java/util/Objects" = true := by first | (simp [plainName, overriddenIn]; done) | decide +kernel
theorem own_ef_own_rm21 (m : MethodId) (x0 : Addr) : entryFrame m #[(.ref x0)] 1 = mkF m 0 #[.val (.ref x0)] [] := by first | (simp [entryFrame, mkF, argsToLocals, Value.category]; done) | rfl
def own_Q_own_rm21 (Z : State) (x0 : Addr)  (h0 : Heap) (n0 : Nat) (v : Option Value) (h : Heap) (L : List Loc) : Prop := v = some (.ref x0) ∧ Fr n0 L ∧ h = h0
abbrev own_r_own_rm21 : Room := ({ frames := 0, cells := 0, slots := 0, locals := 0 } : Room)

set_option maxRecDepth 65536 in
set_option maxHeartbeats 40000000 in
theorem own_rm21 (l : Launch) (Z : State) (a0 : Array Value) (hw : ∀ d ∈ tables_1, d.before a0 Z = true) (ws : List Jvm.Cond) (x0 : Addr)  (h0 : Heap) (n0 : Nat) (Z0 : n0 ≤ h0.size)  :
    MetFree l own_n8 (head1 (Jvm.Cond.code own_n8 jdk_31_method_10_code 1 (some (.object "java/lang/Object")) :: ws) own_r_own_rm21) (fun a U => a = #[(.ref x0)] ∧ Z.Warmed39 U.vm ∧ U.heap = h0) (fun _ _ _ _ _ => True) (fun _ U o U' => ∃ v L, o = .returned v ∧ own_Q_own_rm21 Z x0 h0 n0 v U'.heap L ∧ FrameEnd U o U' L own_r_own_rm21.cells own_r_own_rm21.slots) := by
  refine MetFree.of_bodySF (plainFor_of_name own_pn_21) hisR ?_
  intro p e s m args below meth c s₁ Bd hml0 hP hK
  obtain ⟨rfl, hZ, hh⟩ := hP
  have hx := Bd.exec
  have hby := Bd.bytes
  have hml : c.maxLocals = 1 := hml0
  have hown : s.vm.findClass "java/util/Objects" = some m.cls := findClass_of_methodNamed Bd.named
  have hnm := (name_of_methodNamed Bd.named Bd.method).1
  have X0 : Stand p l e own_r_own_rm21 s m #[(.ref x0)] below meth c s₁ [] 0 0 := Stand.of_body Bd
  have e0 : s₁.heap = h0 := by rw [← hh, Bd.state]; rfl
  have N0 := Fr.nil n0
  show Goes p.tables e below _ (own_R below s (own_Q_own_rm21 Z x0 h0 n0) own_r_own_rm21.cells own_r_own_rm21.slots)
  refine Goes.to (fun t k => castTop (own_ef_own_rm21 m x0) k) ?_
  refine gx (XS.aloadN X0.here hx rfl (hb hby d21_0) rfl rfl) ?_
  refine gx (XS.ifnonnullYes X0.here hx rfl (pc0 := 1) (pc' := 12) rfl (hb hby d21_1) rfl (by decide) (by decide)) ?_
  refine gx (XS.aloadN X0.here hx rfl (hb hby d21_12) rfl rfl) ?_
  show Goes p.tables e below (s₁.setTop (mkF m 13 #[.val (.ref x0)] [(.ref x0)])) _
  obtain ⟨fs, hr, hrun, hended, hW, hsame⟩ := X0.leave (v := some (.ref x0)) (fun h => by rw [Bd.returns] at h; cases h)
  have hv : (some (.ref x0) : Option Value) = some (.ref x0) := by
    rfl
  exact ⟨_, _, retOut X0 hx Bd.returns rfl (Or.inr (Or.inr (Or.inr (Or.inr ⟨rfl, rfl, rfl⟩)))) (hb hby d21_13) hr, hrun, hended, _, _, rfl, ⟨hv, N0, e0⟩, ⟨_, rfl⟩, hW, hsame.mono (by decide) (by decide)⟩

theorem d22_0 : decode jdk_32_method_2_code 0 = .ok (.aload_n 0, 1) := by decide +kernel
theorem d22_1 : decode jdk_32_method_2_code 1 = .ok (.invokespecial 7, 3) := by decide +kernel
theorem d22_4 : decode jdk_32_method_2_code 4 = .ok (.aload_n 0, 1) := by decide +kernel
theorem d22_5 : decode jdk_32_method_2_code 5 = .ok (.aload_n 1, 1) := by decide +kernel
theorem d22_6 : decode jdk_32_method_2_code 6 = .ok (.putfield 13, 3) := by decide +kernel
theorem d22_9 : decode jdk_32_method_2_code 9 = .ok (.return_, 1) := by decide +kernel
theorem own_pn_22 : plainName "java/util/Optional" = true := by first | (simp [plainName, overriddenIn]; done) | decide +kernel
theorem own_ef_own_rm22 (m : MethodId) (x0 : Addr) (x1 : Addr) : entryFrame m #[(.ref x0), (.ref x1)] 2 = mkF m 0 #[.val (.ref x0), .val (.ref x1)] [] := by first | (simp [entryFrame, mkF, argsToLocals, Value.category]; done) | rfl
def own_Q_own_rm22 (Z : State) (x0 : Addr) (x1 : Addr)  (h0 : Heap) (n0 : Nat) (v : Option Value) (h : Heap) (L : List Loc) : Prop := v = none ∧ Fr n0 L ∧ Keep h0 h [x0] ∧ Exa Z h x0 "java/util/Optional" ∧ Fld Z h x0 "java/util/Optional" "value" "Ljava/lang/Object;" (.ref x1)
abbrev own_r_own_rm22 : Room := ({ frames := 1, cells := 0, slots := 0, locals := 12 } : Room)

set_option maxRecDepth 65536 in
set_option maxHeartbeats 40000000 in
theorem own_rm22 (l : Launch) (Z : State) (a0 : Array Value) (hw : ∀ d ∈ tables_1, d.before a0 Z = true) (ws : List Jvm.Cond) (x0 : Addr) (x1 : Addr)  (h0 : Heap) (n0 : Nat) (Z0 : n0 ≤ h0.size) (E_x0 : Exa Z h0 x0 "java/util/Optional") (g_x0 : n0 ≤ x0) (F_x0_0 : Fld Z h0 x0 "java/util/Optional" "value" "Ljava/lang/Object;" .null) :
    MetFree l own_n9 (head1 (Jvm.Cond.code own_n9 jdk_32_method_2_code 2 none :: ws) own_r_own_rm22) (fun a U => a = #[(.ref x0), (.ref x1)] ∧ Z.Warmed39 U.vm ∧ U.heap = h0) (fun _ _ _ _ _ => True) (fun _ U o U' => ∃ v L, o = .returned v ∧ own_Q_own_rm22 Z x0 x1 h0 n0 v U'.heap L ∧ FrameEnd U o U' L own_r_own_rm22.cells own_r_own_rm22.slots) := by
  refine MetFree.of_bodySF (plainFor_of_name own_pn_22) hisR ?_
  intro p e s m args below meth c s₁ Bd hml0 hP hK
  obtain ⟨rfl, hZ, hh⟩ := hP
  have hx := Bd.exec
  have hby := Bd.bytes
  have hml : c.maxLocals = 2 := hml0
  have hown : s.vm.findClass "java/util/Optional" = some m.cls := findClass_of_methodNamed Bd.named
  have hnm := (name_of_methodNamed Bd.named Bd.method).1
  have X0 : Stand p l e own_r_own_rm22 s m #[(.ref x0), (.ref x1)] below meth c s₁ [] 0 0 := Stand.of_body Bd
  have e0 : s₁.heap = h0 := by rw [← hh, Bd.state]; rfl
  have N0 := Fr.nil n0
  show Goes p.tables e below _ (own_R below s (own_Q_own_rm22 Z x0 x1 h0 n0) own_r_own_rm22.cells own_r_own_rm22.slots)
  refine Goes.to (fun t k => castTop (own_ef_own_rm22 m x0 x1) k) ?_
  refine gx (XS.aloadN X0.here hx rfl (hb hby d22_0) rfl rfl) ?_
  obtain ⟨T1, X1, e1, st1⟩ := initO X0 hx hZ hown (own_hw hw 121 rfl) (own_hw hw 60 rfl) (own_hw hw 61 rfl) e0 (g := (mkF m 1 #[.val (.ref x0), .val (.ref x1)] [(.ref x0)])) rfl (by rw [hml]; rfl) rfl (hb hby d22_1) (by decide) (W := 0) (own_W rfl rfl) (by decide)
  refine Goes.to st1 ?_
  refine gx (XS.aloadN X1.here hx rfl (hb hby d22_4) rfl rfl) ?_
  refine gx (XS.aloadN X1.here hx rfl (hb hby d22_5) rfl rfl) ?_
  obtain ⟨T2, h2, X2, e2, W2, st2⟩ := putF X1 hx hZ hown (host := "") (Or.inl (own_hw hw 122 rfl)) Via.refl e1 F_x0_0 E_x0 (Or.inr ⟨(own_hw hw 123 rfl), rfl, hnm⟩) (own_hw hw 112 rfl) (ty := (.object "java/lang/Object")) (by decide) rfl rfl (g := (mkF m 6 #[.val (.ref x0), .val (.ref x1)] [(.ref x1), (.ref x0)])) rfl rfl (hb hby d22_6)
  subst e2
  have F3 := E_x0.wr W2
  have N2 := Fr.snoc X2 N0 g_x0
  have K2 : Keep h0 T2.heap [x0] := (Keep.refl h0 [x0]).wr W2 (Or.inl (List.mem_of_getElem? (i := 0) rfl))
  have F5 : Fld Z T2.heap x0 "java/util/Optional" "value" "Ljava/lang/Object;" (.ref x1) := F_x0_0.same W2
  refine Goes.to st2 ?_
  show Goes p.tables e below (T2.setTop (mkF m 9 #[.val (.ref x0), .val (.ref x1)] [])) _
  obtain ⟨fs, hr, hrun, hended, hW, hsame⟩ := X2.leave (v := none) (fun _ => rfl)
  have hv : (none : Option Value) = none := by
    rfl
  exact ⟨_, _, X2.returnOut hx Bd.returns (hb hby d22_9) hr, hrun, hended, _, _, rfl, ⟨hv, N2, (by show Keep h0 T2.heap [x0]; exact K2), (by show Exa Z T2.heap x0 "java/util/Optional"; exact F3), (by show Fld Z T2.heap x0 "java/util/Optional" "value" "Ljava/lang/Object;" (.ref x1); exact F5)⟩, ⟨_, rfl⟩, hW, hsame.mono (by decide) (by decide)⟩

theorem d20_0 : decode jdk_32_method_3_code 0 = .ok (.new 2, 3) := by decide +kernel
theorem d20_3 : decode jdk_32_method_3_code 3 = .ok (.dup, 1) := by decide +kernel
theorem d20_4 : decode jdk_32_method_3_code 4 = .ok (.aload_n 0, 1) := by decide +kernel
theorem d20_5 : decode jdk_32_method_3_code 5 = .ok (.invokestatic 17, 3) := by decide +kernel
theorem d20_8 : decode jdk_32_method_3_code 8 = .ok (.invokespecial 23, 3) := by decide +kernel
theorem d20_11 : decode jdk_32_method_3_code 11 = .ok (.areturn, 1) := by decide +kernel
theorem own_pd_pLjavallanglObjectsqLjavallanglObjects : parseMethodDescriptor "(Ljava/lang/Object;)Ljava/lang/Object;" = some ⟨[(.object "java/lang/Object")], some (.object "java/lang/Object")⟩ := by decide +kernel
theorem own_pd_pLjavallanglObjectsqV : parseMethodDescriptor "(Ljava/lang/Object;)V" = some ⟨[(.object "java/lang/Object")], none⟩ := by decide +kernel
theorem own_pn_20 : plainName "java/util/Optional" = true := by first | (simp [plainName, overriddenIn]; done) | decide +kernel
theorem own_ef_own_rm20 (m : MethodId) (x0 : Addr) : entryFrame m #[(.ref x0)] 1 = mkF m 0 #[.val (.ref x0)] [] := by first | (simp [entryFrame, mkF, argsToLocals, Value.category]; done) | rfl
def own_Q_own_rm20 (Z : State) (x0 : Addr)  (h0 : Heap) (n0 : Nat) (v : Option Value) (h : Heap) (L : List Loc) : Prop := ∃ op : Addr, v = some (.ref op) ∧ Fr n0 L ∧ h0.size ≤ op ∧ Keep h0 h [] ∧ Exa Z h op "java/util/Optional" ∧ Fld Z h op "java/util/Optional" "value" "Ljava/lang/Object;" (.ref x0)
abbrev own_r_own_rm20 : Room := ({ frames := 2, cells := 1, slots := 1, locals := 26 } : Room)

set_option maxRecDepth 65536 in
set_option maxHeartbeats 40000000 in
theorem own_rm20 (l : Launch) (Z : State) (a0 : Array Value) (hw : ∀ d ∈ tables_1, d.before a0 Z = true) (ws : List Jvm.Cond) (x0 : Addr)  (h0 : Heap) (n0 : Nat) (Z0 : n0 ≤ h0.size)  :
    MetFree l own_n10 (head1 (Jvm.Cond.code own_n10 jdk_32_method_3_code 1 (some (.object "java/util/Optional")) :: ws) own_r_own_rm20) (fun a U => a = #[(.ref x0)] ∧ Z.Warmed39 U.vm ∧ U.heap = h0) (fun _ _ _ _ _ => True) (fun _ U o U' => ∃ v L, o = .returned v ∧ own_Q_own_rm20 Z x0 h0 n0 v U'.heap L ∧ FrameEnd U o U' L own_r_own_rm20.cells own_r_own_rm20.slots) := by
  refine MetFree.of_bodySF (plainFor_of_name own_pn_20) hisR ?_
  intro p e s m args below meth c s₁ Bd hml0 hP hK
  obtain ⟨rfl, hZ, hh⟩ := hP
  have hx := Bd.exec
  have hby := Bd.bytes
  have hml : c.maxLocals = 1 := hml0
  have hown : s.vm.findClass "java/util/Optional" = some m.cls := findClass_of_methodNamed Bd.named
  have hnm := (name_of_methodNamed Bd.named Bd.method).1
  have X0 : Stand p l e own_r_own_rm20 s m #[(.ref x0)] below meth c s₁ [] 0 0 := Stand.of_body Bd
  have e0 : s₁.heap = h0 := by rw [← hh, Bd.state]; rfl
  have N0 := Fr.nil n0
  show Goes p.tables e below _ (own_R below s (own_Q_own_rm20 Z x0 h0 n0) own_r_own_rm20.cells own_r_own_rm20.slots)
  refine Goes.to (fun t k => castTop (own_ef_own_rm20 m x0) k) ?_
  obtain ⟨T1, h1, X1, e1, E1, A1, D1, -, st1⟩ := newO X0 hx hZ hown (own_hw hw 111 rfl) (own_hw hw 112 rfl) (own_hw hw 109 rfl) e0 (g := (mkF m 0 #[.val (.ref x0)] [])) rfl (hb hby d20_0) (by decide) (by decide)
  obtain ⟨b1, g1⟩ : ∃ z, z = h0.size := ⟨_, rfl⟩
  rw [← g1] at A1 D1 st1
  subst e1
  have g_b1 : n0 ≤ b1 := Nat.le_trans Z0 (Nat.le_of_eq g1.symm)
  have Z1 : n0 ≤ T1.heap.size := Nat.le_trans Z0 E1.1
  have sz_b1 : h0.size ≤ b1 := Nat.le_trans (Keep.refl h0 []).1 (Nat.le_of_eq g1.symm)
  have K1 : Keep h0 T1.heap [] := (Keep.refl h0 []).ext E1
  have F2 : Fld Z T1.heap b1 "java/util/Optional" "value" "Ljava/lang/Object;" .null := D1 (Or.inr (own_hw hw 123 rfl)) (ty := (.object "java/lang/Object")) (by decide)
  refine Goes.to st1 ?_
  refine gx (XS.dup X1.here hx rfl (hb hby d20_3) rfl rfl) ?_
  refine gx (XS.aloadN X1.here hx rfl (hb hby d20_4) rfl rfl) ?_
  obtain ⟨_, _, ⟨T3, L3, k3, n3⟩, -, X3, ⟨Lc3, hQ3, l3, y3, z3⟩, st3⟩ := Jvm.LawKit.callS X1 hx (y := own_n8) hown (mvT hZ (own_hw hw 113 rfl)) (mvT hZ (own_hw hw 114 rfl)) (mvT hZ (own_hw hw 115 rfl)) (mvT hZ (own_hw hw 116 rfl)) (by decide) (backOf (W := 2) (own_rm21 l Z a0 hw [] x0 T1.heap n0 Z1 ) hZ (own_hw hw 116 rfl) (own_hw hw 115 rfl) (by decide) (by decide)) (g := (mkF m 5 #[.val (.ref x0)] [(.ref x0), (.ref b1), (.ref b1)])) rfl (by rw [hml]; rfl) (argsL := [(.ref x0)]) (rest := [(.ref b1), (.ref b1)]) (lenOf own_pd_pLjavallanglObjectsqLjavallanglObjects rfl) rfl (own_W rfl rfl) (hb hby d20_5) (fun _ _ => ⟨rfl, rfl, (by decide : 1 + 0 ≤ _), (by decide : 1 + 0 ≤ _)⟩)
  dsimp only [Pt.U, Pt.locs, Pt.cells, Pt.slots] at X3 l3 y3 z3 st3 hQ3
  subst l3 y3 z3
  obtain ⟨hv3, Nq3, hp3_0⟩ := hQ3
  have N3 := Fr.app N0 Nq3
  subst hv3
  refine Goes.to st3 ?_
  obtain ⟨_, _, ⟨T4, L4, k4, n4⟩, -, X4, ⟨Lc4, hQ4, l4, y4, z4⟩, st4⟩ := X3.specialBack hx (y := own_n9) rfl hown (mvT hZ (own_hw hw 117 rfl)) (mvT hZ (own_hw hw 118 rfl)) (mvT hZ (own_hw hw 120 rfl)) (by decide) (backOf (W := 1) (own_rm22 l Z a0 hw [] b1 x0 T1.heap n0 Z1 A1 g_b1 F2) hZ (own_hw hw 120 rfl) (own_hw hw 109 rfl) (by decide) (by decide)) (g := (mkF m 8 #[.val (.ref x0)] [(.ref x0), (.ref b1), (.ref b1)])) rfl (by rw [hml]; rfl) (Steps.refl _) (a := b1) (argsL := [(.ref x0)]) (rest := [(.ref b1)]) (lenOf own_pd_pLjavallanglObjectsqV rfl) rfl (own_W rfl rfl) (hb hby d20_8) (fun _ _ => ⟨rfl, hp3_0, (by decide : 1 + 0 ≤ _), (by decide : 1 + 0 ≤ _)⟩)
  dsimp only [Pt.U, Pt.locs, Pt.cells, Pt.slots] at X4 l4 y4 z4 st4 hQ4
  subst l4 y4 z4
  obtain ⟨hv4, Nq4, hp4_0, hp4_1, hp4_2⟩ := hQ4
  have N4 := Fr.app N3 Nq4
  have Kc4 : Keep h0 T4.heap [] := K1.trans hp4_0 (allS (Or.inr sz_b1) all0)
  subst hv4
  refine Goes.tr st4 ?_
  show Goes p.tables e below (T4.setTop (mkF m 11 #[.val (.ref x0)] [(.ref b1)])) _
  obtain ⟨fs, hr, hrun, hended, hW, hsame⟩ := X4.leave (v := some (.ref b1)) (fun h => by rw [Bd.returns] at h; cases h)
  exact ⟨_, _, retOut X4 hx Bd.returns rfl (Or.inr (Or.inr (Or.inr (Or.inr ⟨rfl, rfl, rfl⟩)))) (hb hby d20_11) hr, hrun, hended, _, _, rfl, ⟨b1, rfl, N4, sz_b1, (by show Keep h0 T4.heap []; exact Kc4), (by show Exa Z T4.heap b1 "java/util/Optional"; exact hp4_1), (by show Fld Z T4.heap b1 "java/util/Optional" "value" "Ljava/lang/Object;" (.ref x0); exact hp4_2)⟩, ⟨_, rfl⟩, hW, hsame.mono (by decide) (by decide)⟩

theorem d24_0 : decode jdk_32_method_1_code 0 = .ok (.getstatic 1, 3) := by decide +kernel
theorem d24_3 : decode jdk_32_method_1_code 3 = .ok (.astore_n 0, 1) := by decide +kernel
theorem d24_4 : decode jdk_32_method_1_code 4 = .ok (.aload_n 0, 1) := by decide +kernel
theorem d24_5 : decode jdk_32_method_1_code 5 = .ok (.areturn, 1) := by decide +kernel
theorem own_pn_24 : plainName "java/util/Optional" = true := by first | (simp [plainName, overriddenIn]; done) | decide +kernel
theorem own_ef_own_rm24 (m : MethodId)  : entryFrame m #[] 1 = mkF m 0 #[.unset] [] := by first | (simp [entryFrame, mkF, argsToLocals, Value.category]; done) | rfl
def own_Q_own_rm24 (Z : State)  (aE : Addr) (h0 : Heap) (n0 : Nat) (v : Option Value) (h : Heap) (L : List Loc) : Prop := v = some (.ref aE) ∧ Fr n0 L ∧ h = h0
abbrev own_r_own_rm24 : Room := ({ frames := 0, cells := 0, slots := 0, locals := 0 } : Room)

set_option maxRecDepth 65536 in
set_option maxHeartbeats 40000000 in
theorem own_rm24 (l : Launch) (Z : State) (a0 : Array Value) (hw : ∀ d ∈ tables_1, d.before a0 Z = true) (ws : List Jvm.Cond)  (aE : Addr) (h0 : Heap) (n0 : Nat) (Z0 : n0 ≤ h0.size) (SE : Sta Z h0 "java/util/Optional" "EMPTY" "Ljava/util/Optional;" (.ref aE)) :
    MetFree l own_n11 (head1 (Jvm.Cond.code own_n11 jdk_32_method_1_code 1 (some (.object "java/util/Optional")) :: ws) own_r_own_rm24) (fun a U => a = #[] ∧ Z.Warmed39 U.vm ∧ U.heap = h0) (fun _ _ _ _ _ => True) (fun _ U o U' => ∃ v L, o = .returned v ∧ own_Q_own_rm24 Z aE h0 n0 v U'.heap L ∧ FrameEnd U o U' L own_r_own_rm24.cells own_r_own_rm24.slots) := by
  refine MetFree.of_bodySF (plainFor_of_name own_pn_24) hisR ?_
  intro p e s m args below meth c s₁ Bd hml0 hP hK
  obtain ⟨rfl, hZ, hh⟩ := hP
  have hx := Bd.exec
  have hby := Bd.bytes
  have hml : c.maxLocals = 1 := hml0
  have hown : s.vm.findClass "java/util/Optional" = some m.cls := findClass_of_methodNamed Bd.named
  have hnm := (name_of_methodNamed Bd.named Bd.method).1
  have X0 : Stand p l e own_r_own_rm24 s m #[] below meth c s₁ [] 0 0 := Stand.of_body Bd
  have e0 : s₁.heap = h0 := by rw [← hh, Bd.state]; rfl
  have N0 := Fr.nil n0
  show Goes p.tables e below _ (own_R below s (own_Q_own_rm24 Z aE h0 n0) own_r_own_rm24.cells own_r_own_rm24.slots)
  refine Goes.to (fun t k => castTop (own_ef_own_rm24 m ) k) ?_
  obtain ⟨T1, X1, e1, st1⟩ := getS2 X0 hx hZ hown (host := "") (Or.inl (own_hw hw 137 rfl)) Via.refl e0 SE (g := (mkF m 0 #[.unset] [])) rfl (hb hby d24_0)
  refine Goes.to st1 ?_
  refine gx (XS.astoreN X1.here hx rfl (hb hby d24_3) rfl rfl (l' := #[.val (.ref aE)]) rfl) ?_
  refine gx (XS.aloadN X1.here hx rfl (hb hby d24_4) rfl rfl) ?_
  show Goes p.tables e below (T1.setTop (mkF m 5 #[.val (.ref aE)] [(.ref aE)])) _
  obtain ⟨fs, hr, hrun, hended, hW, hsame⟩ := X1.leave (v := some (.ref aE)) (fun h => by rw [Bd.returns] at h; cases h)
  have hv : (some (.ref aE) : Option Value) = some (.ref aE) := by
    rfl
  exact ⟨_, _, retOut X1 hx Bd.returns rfl (Or.inr (Or.inr (Or.inr (Or.inr ⟨rfl, rfl, rfl⟩)))) (hb hby d24_5) hr, hrun, hended, _, _, rfl, ⟨hv, N0, e1⟩, ⟨_, rfl⟩, hW, hsame.mono (by decide) (by decide)⟩

theorem d23_0 : decode jdk_32_method_15_code 0 = .ok (.aload_n 0, 1) := by decide +kernel
theorem d23_1 : decode jdk_32_method_15_code 1 = .ok (.getfield 13, 3) := by decide +kernel
theorem d23_4 : decode jdk_32_method_15_code 4 = .ok (.ifnull 10, 3) := by decide +kernel
theorem d23_14 : decode jdk_32_method_15_code 14 = .ok (.aload_n 1, 1) := by decide +kernel
theorem d23_15 : decode jdk_32_method_15_code 15 = .ok (.areturn, 1) := by decide +kernel
theorem own_pn_23 : plainName "java/util/Optional" = true := by first | (simp [plainName, overriddenIn]; done) | decide +kernel
theorem own_ef_own_rmOEN (m : MethodId) (x0 : Addr) : entryFrame m #[(.ref x0), .null] 2 = mkF m 0 #[.val (.ref x0), .val .null] [] := by first | (simp [entryFrame, mkF, argsToLocals, Value.category]; done) | rfl
def own_Q_own_rmOEN (Z : State) (x0 : Addr)  (h0 : Heap) (n0 : Nat) (v : Option Value) (h : Heap) (L : List Loc) : Prop := v = some .null ∧ Fr n0 L ∧ h = h0
abbrev own_r_own_rmOEN : Room := ({ frames := 0, cells := 0, slots := 0, locals := 0 } : Room)

set_option maxRecDepth 65536 in
set_option maxHeartbeats 40000000 in
theorem own_rmOEN (l : Launch) (Z : State) (a0 : Array Value) (hw : ∀ d ∈ tables_1, d.before a0 Z = true) (ws : List Jvm.Cond) (x0 : Addr)  (h0 : Heap) (n0 : Nat) (Z0 : n0 ≤ h0.size) (FO : Fld Z h0 x0 "java/util/Optional" "value" "Ljava/lang/Object;" .null) :
    MetFree l own_n12 (head1 (Jvm.Cond.code own_n12 jdk_32_method_15_code 2 (some (.object "java/lang/Object")) :: ws) own_r_own_rmOEN) (fun a U => a = #[(.ref x0), .null] ∧ Z.Warmed39 U.vm ∧ U.heap = h0) (fun _ _ _ _ _ => True) (fun _ U o U' => ∃ v L, o = .returned v ∧ own_Q_own_rmOEN Z x0 h0 n0 v U'.heap L ∧ FrameEnd U o U' L own_r_own_rmOEN.cells own_r_own_rmOEN.slots) := by
  refine MetFree.of_bodySF (plainFor_of_name own_pn_23) hisR ?_
  intro p e s m args below meth c s₁ Bd hml0 hP hK
  obtain ⟨rfl, hZ, hh⟩ := hP
  have hx := Bd.exec
  have hby := Bd.bytes
  have hml : c.maxLocals = 2 := hml0
  have hown : s.vm.findClass "java/util/Optional" = some m.cls := findClass_of_methodNamed Bd.named
  have hnm := (name_of_methodNamed Bd.named Bd.method).1
  have X0 : Stand p l e own_r_own_rmOEN s m #[(.ref x0), .null] below meth c s₁ [] 0 0 := Stand.of_body Bd
  have e0 : s₁.heap = h0 := by rw [← hh, Bd.state]; rfl
  have N0 := Fr.nil n0
  show Goes p.tables e below _ (own_R below s (own_Q_own_rmOEN Z x0 h0 n0) own_r_own_rmOEN.cells own_r_own_rmOEN.slots)
  refine Goes.to (fun t k => castTop (own_ef_own_rmOEN m x0) k) ?_
  refine gx (XS.aloadN X0.here hx rfl (hb hby d23_0) rfl rfl) ?_
  obtain ⟨T1, X1, e1, st1⟩ := getF X0 hx hZ hown (host := "") (Or.inl (own_hw hw 122 rfl)) Via.refl e0 FO (g := (mkF m 1 #[.val (.ref x0), .val .null] [(.ref x0)])) rfl rfl (hb hby d23_1)
  refine Goes.to st1 ?_
  refine gx (XS.ifnullYes X1.here hx rfl (pc0 := 4) (pc' := 14) rfl (hb hby d23_4) rfl (by decide) (by decide)) ?_
  refine gx (XS.aloadN X1.here hx rfl (hb hby d23_14) rfl rfl) ?_
  show Goes p.tables e below (T1.setTop (mkF m 15 #[.val (.ref x0), .val .null] [.null])) _
  obtain ⟨fs, hr, hrun, hended, hW, hsame⟩ := X1.leave (v := some .null) (fun h => by rw [Bd.returns] at h; cases h)
  have hv : (some .null : Option Value) = some .null := by
    rfl
  exact ⟨_, _, retOut X1 hx Bd.returns rfl (Or.inr (Or.inr (Or.inr (Or.inr ⟨rfl, rfl, rfl⟩)))) (hb hby d23_15) hr, hrun, hended, _, _, rfl, ⟨hv, N0, e1⟩, ⟨_, rfl⟩, hW, hsame.mono (by decide) (by decide)⟩

theorem d23_7 : decode jdk_32_method_15_code 7 = .ok (.aload_n 0, 1) := by decide +kernel
theorem d23_8 : decode jdk_32_method_15_code 8 = .ok (.getfield 13, 3) := by decide +kernel
theorem d23_11 : decode jdk_32_method_15_code 11 = .ok (.goto 4, 3) := by decide +kernel
theorem own_ef_own_rmOER (m : MethodId) (x0 : Addr) : entryFrame m #[(.ref x0), .null] 2 = mkF m 0 #[.val (.ref x0), .val .null] [] := by first | (simp [entryFrame, mkF, argsToLocals, Value.category]; done) | rfl
def own_Q_own_rmOER (Z : State) (x0 : Addr) (u : Addr) (h0 : Heap) (n0 : Nat) (v : Option Value) (h : Heap) (L : List Loc) : Prop := v = some (.ref u) ∧ Fr n0 L ∧ h = h0
abbrev own_r_own_rmOER : Room := ({ frames := 0, cells := 0, slots := 0, locals := 0 } : Room)

set_option maxRecDepth 65536 in
set_option maxHeartbeats 40000000 in
theorem own_rmOER (l : Launch) (Z : State) (a0 : Array Value) (hw : ∀ d ∈ tables_1, d.before a0 Z = true) (ws : List Jvm.Cond) (x0 : Addr) (u : Addr) (h0 : Heap) (n0 : Nat) (Z0 : n0 ≤ h0.size) (FO : Fld Z h0 x0 "java/util/Optional" "value" "Ljava/lang/Object;" (.ref u)) :
    MetFree l own_n12 (head1 (Jvm.Cond.code own_n12 jdk_32_method_15_code 2 (some (.object "java/lang/Object")) :: ws) own_r_own_rmOER) (fun a U => a = #[(.ref x0), .null] ∧ Z.Warmed39 U.vm ∧ U.heap = h0) (fun _ _ _ _ _ => True) (fun _ U o U' => ∃ v L, o = .returned v ∧ own_Q_own_rmOER Z x0 u h0 n0 v U'.heap L ∧ FrameEnd U o U' L own_r_own_rmOER.cells own_r_own_rmOER.slots) := by
  refine MetFree.of_bodySF (plainFor_of_name own_pn_23) hisR ?_
  intro p e s m args below meth c s₁ Bd hml0 hP hK
  obtain ⟨rfl, hZ, hh⟩ := hP
  have hx := Bd.exec
  have hby := Bd.bytes
  have hml : c.maxLocals = 2 := hml0
  have hown : s.vm.findClass "java/util/Optional" = some m.cls := findClass_of_methodNamed Bd.named
  have hnm := (name_of_methodNamed Bd.named Bd.method).1
  have X0 : Stand p l e own_r_own_rmOER s m #[(.ref x0), .null] below meth c s₁ [] 0 0 := Stand.of_body Bd
  have e0 : s₁.heap = h0 := by rw [← hh, Bd.state]; rfl
  have N0 := Fr.nil n0
  show Goes p.tables e below _ (own_R below s (own_Q_own_rmOER Z x0 u h0 n0) own_r_own_rmOER.cells own_r_own_rmOER.slots)
  refine Goes.to (fun t k => castTop (own_ef_own_rmOER m x0) k) ?_
  refine gx (XS.aloadN X0.here hx rfl (hb hby d23_0) rfl rfl) ?_
  obtain ⟨T1, X1, e1, st1⟩ := getF X0 hx hZ hown (host := "") (Or.inl (own_hw hw 122 rfl)) Via.refl e0 FO (g := (mkF m 1 #[.val (.ref x0), .val .null] [(.ref x0)])) rfl rfl (hb hby d23_1)
  refine Goes.to st1 ?_
  refine gx (XS.ifnullNo X1.here hx rfl (hb hby d23_4) rfl) ?_
  refine gx (XS.aloadN X1.here hx rfl (hb hby d23_7) rfl rfl) ?_
  obtain ⟨T2, X2, e2, st2⟩ := getF X1 hx hZ hown (host := "") (Or.inl (own_hw hw 122 rfl)) Via.refl e1 FO (g := (mkF m 8 #[.val (.ref x0), .val .null] [(.ref x0)])) rfl rfl (hb hby d23_8)
  refine Goes.to st2 ?_
  refine gx (XS.goto X2.here hx rfl (pc0 := 11) (pc' := 15) rfl (hb hby d23_11) (by decide) (by decide)) ?_
  show Goes p.tables e below (T2.setTop (mkF m 15 #[.val (.ref x0), .val .null] [(.ref u)])) _
  obtain ⟨fs, hr, hrun, hended, hW, hsame⟩ := X2.leave (v := some (.ref u)) (fun h => by rw [Bd.returns] at h; cases h)
  have hv : (some (.ref u) : Option Value) = some (.ref u) := by
    rfl
  exact ⟨_, _, retOut X2 hx Bd.returns rfl (Or.inr (Or.inr (Or.inr (Or.inr ⟨rfl, rfl, rfl⟩)))) (hb hby d23_15) hr, hrun, hended, _, _, rfl, ⟨hv, N0, e2⟩, ⟨_, rfl⟩, hW, hsame.mono (by decide) (by decide)⟩

theorem d16_0 : decode jdk_42_method_66_code 0 = .ok (.aload_n 0, 1) := by decide +kernel
theorem d16_1 : decode jdk_42_method_66_code 1 = .ok (.aload_n 1, 1) := by decide +kernel
theorem d16_2 : decode jdk_42_method_66_code 2 = .ok (.if_acmp .ne 5, 3) := by decide +kernel
theorem d16_7 : decode jdk_42_method_66_code 7 = .ok (.aload_n 1, 1) := by decide +kernel
theorem d16_8 : decode jdk_42_method_66_code 8 = .ok (.instanceof 10, 3) := by decide +kernel
theorem d16_11 : decode jdk_42_method_66_code 11 = .ok (.ifCond .eq 43, 3) := by decide +kernel
theorem d16_54 : decode jdk_42_method_66_code 54 = .ok (.iconst 0, 1) := by decide +kernel
theorem d16_55 : decode jdk_42_method_66_code 55 = .ok (.ireturn, 1) := by decide +kernel
theorem own_pn_16 : plainName "java/lang/String" = true := by first | (simp [plainName, overriddenIn]; done) | decide +kernel
theorem own_ef_own_rmEQN (m : MethodId) (x0 : Addr) : entryFrame m #[(.ref x0), .null] 3 = mkF m 0 #[.val (.ref x0), .val .null, .unset] [] := by first | (simp [entryFrame, mkF, argsToLocals, Value.category]; done) | rfl
def own_Q_own_rmEQN (Z : State) (x0 : Addr)  (h0 : Heap) (n0 : Nat) (v : Option Value) (h : Heap) (L : List Loc) : Prop := v = some (.int (0 : Int32)) ∧ Fr n0 L ∧ h = h0
abbrev own_r_own_rmEQN : Room := ({ frames := 0, cells := 0, slots := 0, locals := 0 } : Room)

set_option maxRecDepth 65536 in
set_option maxHeartbeats 40000000 in
theorem own_rmEQN (l : Launch) (Z : State) (a0 : Array Value) (hw : ∀ d ∈ tables_1, d.before a0 Z = true) (ws : List Jvm.Cond) (x0 : Addr)  (h0 : Heap) (n0 : Nat) (Z0 : n0 ≤ h0.size)  :
    MetFree l own_n13 (head1 (Jvm.Cond.code own_n13 jdk_42_method_66_code 3 (some .boolean) :: ws) own_r_own_rmEQN) (fun a U => a = #[(.ref x0), .null] ∧ Z.Warmed39 U.vm ∧ U.heap = h0) (fun _ _ _ _ _ => True) (fun _ U o U' => ∃ v L, o = .returned v ∧ own_Q_own_rmEQN Z x0 h0 n0 v U'.heap L ∧ FrameEnd U o U' L own_r_own_rmEQN.cells own_r_own_rmEQN.slots) := by
  refine MetFree.of_bodySF (plainFor_of_name own_pn_16) hisR ?_
  intro p e s m args below meth c s₁ Bd hml0 hP hK
  obtain ⟨rfl, hZ, hh⟩ := hP
  have hx := Bd.exec
  have hby := Bd.bytes
  have hml : c.maxLocals = 3 := hml0
  have hown : s.vm.findClass "java/lang/String" = some m.cls := findClass_of_methodNamed Bd.named
  have hnm := (name_of_methodNamed Bd.named Bd.method).1
  have X0 : Stand p l e own_r_own_rmEQN s m #[(.ref x0), .null] below meth c s₁ [] 0 0 := Stand.of_body Bd
  have e0 : s₁.heap = h0 := by rw [← hh, Bd.state]; rfl
  have N0 := Fr.nil n0
  show Goes p.tables e below _ (own_R below s (own_Q_own_rmEQN Z x0 h0 n0) own_r_own_rmEQN.cells own_r_own_rmEQN.slots)
  refine Goes.to (fun t k => castTop (own_ef_own_rmEQN m x0) k) ?_
  refine gx (XS.aloadN X0.here hx rfl (hb hby d16_0) rfl rfl) ?_
  refine gx (XS.aloadN X0.here hx rfl (hb hby d16_1) rfl rfl) ?_
  refine gx (Jvm.RoadKit.acmp (g := (mkF m 2 #[.val (.ref x0), .val .null, .unset] [.null, (.ref x0)])) X0 hx rfl rfl rfl (pc0 := 2) (pc' := 7) (same := false) rfl (hb hby d16_2) rfl (decide_eq_false nofun) (by decide) (by decide)) ?_
  refine gx (XS.aloadN X0.here hx rfl (hb hby d16_7) rfl rfl) ?_
  refine gx (X0.instanceofNull hx (g := (mkF m 8 #[.val (.ref x0), .val .null, .unset] [.null])) rfl rfl (hb hby d16_8) _) ?_
  refine gx (XS.ifYes X0.here hx rfl (pc0 := 11) (pc' := 54) rfl (hb hby d16_11) rfl ((if0 _ _).trans (teq (by decide : (0 : Int32) = (0 : Int32))).1) (by decide) (by decide)) ?_
  refine gx (XS.iconst X0.here hx rfl (hb hby d16_54)) ?_
  show Goes p.tables e below (s₁.setTop (mkF m 55 #[.val (.ref x0), .val .null, .unset] [(.int (0 : Int32))])) _
  obtain ⟨fs, hr, hrun, hended, hW, hsame⟩ := X0.leave (v := some (.int (0 : Int32))) (fun h => by rw [Bd.returns] at h; cases h)
  have hv : (some (.int (0 : Int32)) : Option Value) = some (.int (0 : Int32)) := by
    rfl
  exact ⟨_, _, retN X0 hx (t := .boolean) Bd.returns (by simp) (hb hby d16_55) hr, hrun, hended, _, _, rfl, ⟨hv, N0, e0⟩, ⟨_, rfl⟩, hW, hsame.mono (by decide) (by decide)⟩

theorem d19_0 : decode prog_21_method_1_code 0 = .ok (.getstatic 13, 3) := by decide +kernel
theorem d19_3 : decode prog_21_method_1_code 3 = .ok (.invokevirtual 17, 3) := by decide +kernel
theorem d19_6 : decode prog_21_method_1_code 6 = .ok (.checkcast 18, 3) := by decide +kernel
theorem d19_9 : decode prog_21_method_1_code 9 = .ok (.areturn, 1) := by decide +kernel
theorem own_pn_19 : plainName "com/example/polgen/polgen/model/Multiplicity" = true := by first | (simp [plainName, overriddenIn]; done) | decide +kernel
theorem own_ef_own_rm19 (m : MethodId)  : entryFrame m #[] 0 = mkF m 0 #[] [] := by first | (simp [entryFrame, mkF, argsToLocals, Value.category]; done) | rfl
def own_Q_own_rm19 (Z : State)  (aV : Addr) (kV : ClassId) (a1 : Addr) (a2 : Addr) (a3 : Addr) (h0 : Heap) (n0 : Nat) (v : Option Value) (h : Heap) (L : List Loc) : Prop := ∃ av : Addr, v = some (.ref av) ∧ Fr n0 L ∧ h0.size ≤ av ∧ Keep h0 h [] ∧ Arv Z h av kV (.object "com/example/polgen/polgen/model/Multiplicity") (3 : Int32) [(.ref a1), (.ref a2), (.ref a3)] .null
abbrev own_r_own_rm19 : Room := ({ frames := 1, cells := 1, slots := 3, locals := 14 } : Room)

set_option maxRecDepth 65536 in
set_option maxHeartbeats 40000000 in
theorem own_rm19 (l : Launch) (Z : State) (a0 : Array Value) (hw : ∀ d ∈ tables_1, d.before a0 Z = true) (ws : List Jvm.Cond)  (aV : Addr) (kV : ClassId) (a1 : Addr) (a2 : Addr) (a3 : Addr) (h0 : Heap) (n0 : Nat) (Z0 : n0 ≤ h0.size) (SV : Sta Z h0 "com/example/polgen/polgen/model/Multiplicity" "$VALUES" "[Lcom/example/polgen/polgen/model/Multiplicity;" (.ref aV)) (VV : Arv Z h0 aV kV (.object "com/example/polgen/polgen/model/Multiplicity") (3 : Int32) [(.ref a1), (.ref a2), (.ref a3)] .null) (EV : Exa Z h0 aV "[Lcom/example/polgen/polgen/model/Multiplicity;") :
    MetFree l own_n14 (head1 (Jvm.Cond.code own_n14 prog_21_method_1_code 0 (some (.array (.object "com/example/polgen/polgen/model/Multiplicity"))) :: ws) own_r_own_rm19) (fun a U => a = #[] ∧ Z.Warmed39 U.vm ∧ U.heap = h0) (fun _ _ _ _ _ => True) (fun _ U o U' => ∃ v L, o = .returned v ∧ own_Q_own_rm19 Z aV kV a1 a2 a3 h0 n0 v U'.heap L ∧ FrameEnd U o U' L own_r_own_rm19.cells own_r_own_rm19.slots) := by
  refine MetFree.of_bodySF (plainFor_of_name own_pn_19) hisR ?_
  intro p e s m args below meth c s₁ Bd hml0 hP hK
  obtain ⟨rfl, hZ, hh⟩ := hP
  have hx := Bd.exec
  have hby := Bd.bytes
  have hml : c.maxLocals = 0 := hml0
  have hown : s.vm.findClass "com/example/polgen/polgen/model/Multiplicity" = some m.cls := findClass_of_methodNamed Bd.named
  have hnm := (name_of_methodNamed Bd.named Bd.method).1
  have X0 : Stand p l e own_r_own_rm19 s m #[] below meth c s₁ [] 0 0 := Stand.of_body Bd
  have e0 : s₁.heap = h0 := by rw [← hh, Bd.state]; rfl
  have N0 := Fr.nil n0
  show Goes p.tables e below _ (own_R below s (own_Q_own_rm19 Z aV kV a1 a2 a3 h0 n0) own_r_own_rm19.cells own_r_own_rm19.slots)
  refine Goes.to (fun t k => castTop (own_ef_own_rm19 m ) k) ?_
  obtain ⟨T1, X1, e1, st1⟩ := getS2 X0 hx hZ hown (host := "") (Or.inl (own_hw hw 90 rfl)) Via.refl e0 SV (g := (mkF m 0 #[] [])) rfl (hb hby d19_0)
  refine Goes.to st1 ?_
  show Goes p.tables e below (T1.setTop (mkF m 3 #[] [(.ref aV)])) _
  obtain ⟨cl2, Ar2, q2, S2, N2, H2, G2⟩ := id VV
  have FC2 : FitC Z cl2 := fitC_of Ar2 fun i hi v hv => by rw [H2 i hi] at hv; cases hv; exact G2 i hi
  obtain ⟨T3, h3, X3, e3, E3, A3, Ex3, st3⟩ := cloneA X1 hx hZ hown (own_hw hw 92 rfl) (own_hw hw 93 rfl) (own_hw hw 97 rfl) (own_hw hw 95 rfl) (own_hw hw 96 rfl) (own_hw hw 98 rfl) e1 Ar2 EV FC2 (g := (mkF m 3 #[] [(.ref aV)])) rfl (by rw [hml]; rfl) rfl (hb hby d19_3) (by decide) (W := 0) (cap := 3) (own_W rfl rfl) (by decide) (by rw [S2]; decide) (by decide) (by decide)
  obtain ⟨b3, g3⟩ : ∃ z, z = h0.size := ⟨_, rfl⟩
  rw [← g3] at A3 Ex3 st3
  subst e3
  have sz_b3 : h0.size ≤ b3 := Nat.le_trans (Keep.refl h0 []).1 (Nat.le_of_eq g3.symm)
  have K3 : Keep h0 T3.heap [] := (Keep.refl h0 []).ext E3
  have V3 : Arv Z T3.heap b3 kV (.object "com/example/polgen/polgen/model/Multiplicity") (3 : Int32) [(.ref a1), (.ref a2), (.ref a3)] .null := ⟨cloneOf cl2, A3, q2, S2, N2, H2, G2⟩
  refine Goes.to st3 ?_
  obtain ⟨T8, X8, e8, st8⟩ := castY X3 hx hZ hown (own_hw hw 102 rfl) rfl (Ins.self Ex3) (g := (mkF m 6 #[] [(.ref b3)])) rfl rfl (hb hby d19_6)
  refine Goes.to st8 ?_
  show Goes p.tables e below (T8.setTop (mkF m 9 #[] [(.ref b3)])) _
  obtain ⟨fs, hr, hrun, hended, hW, hsame⟩ := X8.leave (v := some (.ref b3)) (fun h => by rw [Bd.returns] at h; cases h)
  exact ⟨_, _, retOut X8 hx Bd.returns rfl (Or.inr (Or.inr (Or.inr (Or.inr ⟨rfl, rfl, rfl⟩)))) (hb hby d19_9) hr, hrun, hended, _, _, rfl, ⟨b3, rfl, N0, sz_b3, (by show Keep h0 T8.heap []; rw [e8]; exact K3), (by show Arv Z T8.heap b3 kV (.object "com/example/polgen/polgen/model/Multiplicity") (3 : Int32) [(.ref a1), (.ref a2), (.ref a3)] .null; rw [e8]; exact V3)⟩, ⟨_, rfl⟩, hW, hsame.mono (by decide) (by decide)⟩


def P8 (c : Int32) : Prop := ¬ c < 0 ∧ ¬ (255 : Int32) < c
theorem own_p8_iff (c : Int32) : P8 c ↔ 0 ≤ c.toInt ∧ c.toInt ≤ 255 := by
  have k0 : (0 : Int32).toInt = 0 := rfl
  have k1 : (255 : Int32).toInt = 255 := rfl
  have a := Int32.lt_iff_toInt_lt (x := c) (y := 0)
  have b := Int32.lt_iff_toInt_lt (x := 255) (y := c)
  unfold P8
  rw [a, b]; omega
theorem own_p8i2c {y : Int32} (h : P8 y) : P8 (y.toUInt32.toUInt16.toUInt32.toInt32) := by
  rw [own_p8_iff] at *
  have k := c_i2c y
  omega
theorem own_p8nar {y : Int32} (h : P8 y) : P8 (nar .char y) := own_p8i2c h
theorem own_p8and (z : Int32) : P8 (z &&& (255 : Int32)) := by
  rw [own_p8_iff]
  have k := c_mask z (255 : Int32) 8 (by decide) (by decide)
  omega
theorem own_p8andl (z : Int64) : P8 ((z &&& (255 : Int64)).toInt32) := by
  rw [own_p8_iff]
  have k := c_maskL z (255 : Int64) 8 (by decide) (by decide)
  have k2 := c_l2i (z &&& (255 : Int64))
  have k3 := rng32 ((z &&& (255 : Int64)).toInt32)
  omega
theorem own_a0 {P : Int32 → Prop} : ∀ c ∈ ([] : List Int32), P c := nofun
theorem own_aS {P : Int32 → Prop} {a : Int32} {l : List Int32} (h : P a) (k : ∀ c ∈ l, P c) : ∀ c ∈ a :: l, P c := by
  intro c hc
  rcases List.mem_cons.mp hc with rfl | q
  · exact h
  · exact k c q
theorem own_set8 {l : List Int32} {i : Nat} {y : Int32} (h : ∀ c ∈ l, P8 c) (k : P8 y) : ∀ c ∈ l.set i y, P8 c := by
  intro c hc
  rcases List.mem_or_eq_of_mem_set hc with q | rfl
  · exact h c q
  · exact k
def own_c (ls : List Int32) (j : Int32) : Int32 := ls.getD j.toNatClampNeg 0
theorem own_cat (ls : List Int32) (j : Int32) : (ls.map Value.int).getD j.toNatClampNeg (.int (0 : Int32)) = .int (own_c ls j) := by
  unfold own_c
  simp only [List.getD_eq_getElem?_getD, List.getElem?_map]
  cases ls[j.toNatClampNeg]? <;> rfl
theorem own_cP {ls : List Int32} (h : ∀ c ∈ ls, P8 c) (j : Int32) : P8 (nar .char (own_c ls j)) := by
  refine own_p8nar ?_
  unfold own_c
  rw [List.getD_eq_getElem?_getD]
  cases q : ls[j.toNatClampNeg]? with
  | none => exact ⟨by decide, by decide⟩
  | some c => exact h c (List.mem_of_getElem? q)
theorem own_up {cs : List Int32} (h : ∀ c ∈ cs, P8 c) : ∀ c ∈ cs, ¬ c < 0 ∧ ¬ (65535 : Int32) < c := by
  intro c hc
  have k := h c hc
  refine ⟨k.1, fun q => ?_⟩
  rw [own_p8_iff] at k
  have k2 := Int32.lt_iff_toInt_lt.mp q
  have k1 : (65535 : Int32).toInt = 65535 := rfl
  omega
theorem own_hwEq {a0 : Array Value} {Z : State} (hw : ∀ d ∈ tables_1, d.before a0 Z = true) : ∀ d ∈ StrChars.Road.wordsEq, d.before a0 Z = true := fun d hd => hw d ((by decide +kernel : ∀ d ∈ StrChars.Road.wordsEq, d ∈ tables_1) d hd)
theorem own_hwV {a0 : Array Value} {Z : State} (hw : ∀ d ∈ tables_1, d.before a0 Z = true) : ∀ d ∈ StrChars.Road.words, d.before a0 Z = true := fun d hd => hw d ((by decide +kernel : ∀ d ∈ StrChars.Road.words, d ∈ tables_1) d hd)

theorem own_cod_one : StrChars.Road.CodA [(111 : Int32), (110 : Int32), (101 : Int32)] 0 (3 : Int32) [(.int (111 : Int32)), (.int (110 : Int32)), (.int (101 : Int32))] := Or.inl ⟨rfl, rfl, rfl, by decide⟩
theorem own_p8_one : ∀ c ∈ [(111 : Int32), (110 : Int32), (101 : Int32)], P8 c := by unfold P8; decide
theorem own_cod_optional : StrChars.Road.CodA [(111 : Int32), (112 : Int32), (116 : Int32), (105 : Int32), (111 : Int32), (110 : Int32), (97 : Int32), (108 : Int32)] 0 (8 : Int32) [(.int (111 : Int32)), (.int (112 : Int32)), (.int (116 : Int32)), (.int (105 : Int32)), (.int (111 : Int32)), (.int (110 : Int32)), (.int (97 : Int32)), (.int (108 : Int32))] := Or.inl ⟨rfl, rfl, rfl, by decide⟩
theorem own_p8_optional : ∀ c ∈ [(111 : Int32), (112 : Int32), (116 : Int32), (105 : Int32), (111 : Int32), (110 : Int32), (97 : Int32), (108 : Int32)], P8 c := by unfold P8; decide
theorem own_cod_many : StrChars.Road.CodA [(109 : Int32), (97 : Int32), (110 : Int32), (121 : Int32)] 0 (4 : Int32) [(.int (109 : Int32)), (.int (97 : Int32)), (.int (110 : Int32)), (.int (121 : Int32))] := Or.inl ⟨rfl, rfl, rfl, by decide⟩
theorem own_p8_many : ∀ c ∈ [(109 : Int32), (97 : Int32), (110 : Int32), (121 : Int32)], P8 c := by unfold P8; decide
theorem d11_0 : decode jdk_42_method_149_code 0 = .ok (.aload_n 0, 1) := by decide +kernel
theorem d11_1 : decode jdk_42_method_149_code 1 = .ok (.invokespecial 1, 3) := by decide +kernel
theorem d11_4 : decode jdk_42_method_149_code 4 = .ok (.iload_n 3, 1) := by decide +kernel
theorem d11_5 : decode jdk_42_method_149_code 5 = .ok (.ifCond .ne 22, 3) := by decide +kernel
theorem d11_8 : decode jdk_42_method_149_code 8 = .ok (.aload_n 0, 1) := by decide +kernel
theorem d11_9 : decode jdk_42_method_149_code 9 = .ok (.ldc 7, 2) := by decide +kernel
theorem d11_11 : decode jdk_42_method_149_code 11 = .ok (.getfield 9, 3) := by decide +kernel
theorem d11_14 : decode jdk_42_method_149_code 14 = .ok (.putfield 9, 3) := by decide +kernel
theorem d11_17 : decode jdk_42_method_149_code 17 = .ok (.aload_n 0, 1) := by decide +kernel
theorem d11_18 : decode jdk_42_method_149_code 18 = .ok (.ldc 7, 2) := by decide +kernel
theorem d11_20 : decode jdk_42_method_149_code 20 = .ok (.getfield 15, 3) := by decide +kernel
theorem d11_23 : decode jdk_42_method_149_code 23 = .ok (.putfield 15, 3) := by decide +kernel
theorem d11_26 : decode jdk_42_method_149_code 26 = .ok (.return_, 1) := by decide +kernel
theorem own_pn_11 : plainName "java/lang/String" = true := by first | (simp [plainName, overriddenIn]; done) | decide +kernel
theorem own_ef_own_rm11 (m : MethodId) (x0 : Addr) (x1 : Addr) (x2 : Int32) (x3 : Int32) : entryFrame m #[(.ref x0), (.ref x1), (.int x2), (.int x3), .null] 6 = mkF m 0 #[.val (.ref x0), .val (.ref x1), .val (.int x2), .val (.int x3), .val .null, .unset] [] := by first | (simp [entryFrame, mkF, argsToLocals, Value.category]; done) | rfl
def own_Q_own_rm11 (Z : State) (x0 : Addr) (x1 : Addr) (x2 : Int32) (x3 : Int32)  (h0 : Heap) (n0 : Nat) (v : Option Value) (h : Heap) (L : List Loc) : Prop := ∃ (t : Addr) (kb : ClassId), v = none ∧ Fr n0 L ∧ Keep h0 h [x0] ∧ Exa Z h x0 "java/lang/String" ∧ Fld Z h x0 "java/lang/String" "coder" "B" (.int (0 : Int32)) ∧ Fld Z h x0 "java/lang/String" "value" "[B" (.ref t) ∧ Arv Z h t kb .byte (0 : Int32) [] (.int (0 : Int32))
abbrev own_r_own_rm11 : Room := ({ frames := 1, cells := 4, slots := 8, locals := 12 } : Room)

set_option maxRecDepth 65536 in
set_option maxHeartbeats 40000000 in
theorem own_rm11 (l : Launch) (Z : State) (a0 : Array Value) (hw : ∀ d ∈ tables_1, d.before a0 Z = true) (ws : List Jvm.Cond) (x0 : Addr) (x1 : Addr) (x2 : Int32) (x3 : Int32)  (h0 : Heap) (n0 : Nat) (Z0 : n0 ≤ h0.size) (E_x0 : Exa Z h0 x0 "java/lang/String") (g_x0 : n0 ≤ x0) (F_x0 : Fld Z h0 x0 "java/lang/String" "value" "[B" .null) (C_x0 : Fld Z h0 x0 "java/lang/String" "coder" "B" (.int (0 : Int32))) (h3 : x3 = (0 : Int32)) :
    MetFree l own_n15 (head1 (Jvm.Cond.code own_n15 jdk_42_method_149_code 6 none :: ws) own_r_own_rm11) (fun a U => a = #[(.ref x0), (.ref x1), (.int x2), (.int x3), .null] ∧ Z.Warmed39 U.vm ∧ U.heap = h0 ∧ CHv Z own_EL U.vm h0) (fun _ _ _ _ _ => True) (fun _ U o U' => ∃ v L, o = .returned v ∧ own_Q_own_rm11 Z x0 x1 x2 x3 h0 n0 v U'.heap L ∧ CHr Z own_EL U.vm U.heap U'.vm U'.heap ∧ ReturnedEndW U o U' L own_r_own_rm11.cells own_r_own_rm11.slots) := by
  refine MetFree.of_bodySF (plainFor_of_name own_pn_11) hisR ?_
  intro p e s m args below meth c s₁ Bd hml0 hP hK
  obtain ⟨rfl, hZ, hh, hCH⟩ := hP
  have hx := Bd.exec
  have hby := Bd.bytes
  have hml : c.maxLocals = 6 := hml0
  have hown : s.vm.findClass "java/lang/String" = some m.cls := findClass_of_methodNamed Bd.named
  have hnm := (name_of_methodNamed Bd.named Bd.method).1
  have X0 : Stand p l e own_r_own_rm11 (s.setVm s.vm) m #[(.ref x0), (.ref x1), (.int x2), (.int x3), .null] below meth c s₁ [] 0 0 := Stand.of_body Bd
  have e0 : s₁.heap = h0 := by rw [← hh, Bd.state]; rfl
  have N0 := Fr.nil n0
  have hS0 : s.Since s.vm h0.size := (State.WarmedH.refl s).since _
  have own_wS' : ∀ a ∈ Bundle.stringAtoms, a.before a0 Z = true := own_wS hw
  have hEL := own_EW hw
  have R0 := CHr.refl hCH
  have Sf0 : Safe Z own_EL s.vm h0 x0 := own_safe hZ.alike E_x0 F_x0
  show Goes p.tables e below _ (own_RH Z below s (own_Q_own_rm11 Z x0 x1 x2 x3 h0 n0) own_r_own_rm11.cells own_r_own_rm11.slots)
  refine Goes.to (fun t k => castTop (own_ef_own_rm11 m x0 x1 x2 x3) k) ?_
  refine gx (XS.aloadN X0.here hx rfl (hb hby d11_0) rfl rfl) ?_
  obtain ⟨T1, X1, e1, st1⟩ := initO X0 hx hZ hown (own_hw hw 59 rfl) (own_hw hw 60 rfl) (own_hw hw 61 rfl) e0 (g := (mkF m 1 #[.val (.ref x0), .val (.ref x1), .val (.int x2), .val (.int x3), .val .null, .unset] [(.ref x0)])) rfl (by rw [hml]; rfl) rfl (hb hby d11_1) (by decide) (W := 0) (own_W rfl rfl) (by decide)
  refine Goes.to st1 ?_
  refine gx (XS.iloadN X1.here hx rfl (hb hby d11_4) rfl) ?_
  refine gx (XS.ifNo X1.here hx rfl (hb hby d11_5) rfl ((if0 _ _).trans (teq h3).2)) ?_
  refine gx (XS.aloadN X1.here hx rfl (hb hby d11_8) rfl rfl) ?_
  obtain ⟨a2, T2, h2, kk2, b2, k2, X2, e2, E2, hS2, hk2, hZ2, hown2, A2, C2, V2, W2, la2, lb2, Rr2, Lt2, Ns2, st2⟩ := ldcCH (s := s) X1 hx hZ hown (own_hw hw 140 rfl) own_wS' e1 hS0 (Nat.le_refl _) hEL (by decide) R0.1 (vs := []) (z := (0 : Int32)) (own_txt _ _ (by decide) rfl) (by decide) rfl (g := (mkF m 9 #[.val (.ref x0), .val (.ref x1), .val (.int x2), .val (.int x3), .val .null, .unset] [(.ref x0)])) rfl (hb hby d11_9) (n := 0) (by decide) (by decide) (by decide) (by decide)
  subst e2
  have Sf3 := Rr2.safe E_x0.lt Sf0
  have F4 := E_x0.ext E2
  have F5 := F_x0.ext E2
  have F6 := C_x0.ext E2
  have R2 := R0.trans Rr2
  have hZ := hZ2
  have hown := hown2
  have K2 : Keep h0 T2.heap [x0] := (Keep.refl h0 [x0]).ext E2
  refine Goes.to st2 ?_
  obtain ⟨T7, X7, e7, st7⟩ := getF X2 hx hZ hown (host := "") (Or.inl (own_hw hw 14 rfl)) Via.refl rfl V2 (g := (mkF m 11 #[.val (.ref x0), .val (.ref x1), .val (.int x2), .val (.int x3), .val .null, .unset] [(.ref a2), (.ref x0)])) rfl rfl (hb hby d11_11)
  refine Goes.to st7 ?_
  obtain ⟨T8, h8, X8, e8, W8, st8⟩ := putF X7 hx hZ hown (host := "") (Or.inl (own_hw hw 14 rfl)) Via.refl e7 F5 F4 (Or.inr ⟨(own_hw hw 5 rfl), rfl, hnm⟩) (own_hw hw 3 rfl) (ty := (.array .byte)) (by decide) rfl rfl (g := (mkF m 14 #[.val (.ref x0), .val (.ref x1), .val (.int x2), .val (.int x3), .val .null, .unset] [(.ref b2), (.ref x0)])) rfl rfl (hb hby d11_14)
  subst e8
  have Sf9 := Safe.wr W8 Sf3 R2.1 Sf3
  have R10 := R2.trans (CHr.wr W8 Sf3 R2.1)
  have hk11 := Nat.le_trans hk2 (Nat.le_of_eq W8.size.symm)
  have F12 := F4.wr W8
  have F14 := F6.other W8 (Or.inr (slot_ne (Or.inr (own_hw hw 6 rfl)) (Or.inr (own_hw hw 5 rfl)) (by decide) (t := .byte) (t' := (.array .byte)) (by decide) (by decide)))
  have F18 := W2.other W8 (Ne.symm (Ns2 x0 Sf3).2)
  have N8 := Fr.snoc X8 N0 g_x0
  have K8 : Keep h0 T8.heap [x0] := K2.wr W8 (Or.inl (List.mem_of_getElem? (i := 0) rfl))
  have F19 : Fld Z T8.heap x0 "java/lang/String" "value" "[B" (.ref b2) := F5.same W8
  refine Goes.to st8 ?_
  refine gx (XS.aloadN X8.here hx rfl (hb hby d11_17) rfl rfl) ?_
  obtain ⟨a20, T20, h20, kk20, b20, k20, X20, e20, E20, hS20, hk20, hZ20, hown20, A20, C20, V20, W20, la20, lb20, Rr20, Lt20, Ns20, st20⟩ := ldcCH (s := s) X8 hx hZ hown (own_hw hw 140 rfl) own_wS' rfl hS2 hk11 hEL (by decide) R10.1 (vs := []) (z := (0 : Int32)) (own_txt _ _ (by decide) rfl) (by decide) rfl (g := (mkF m 18 #[.val (.ref x0), .val (.ref x1), .val (.int x2), .val (.int x3), .val .null, .unset] [(.ref x0)])) rfl (hb hby d11_18) (n := 0) (by decide) (by decide) (by decide) (by decide)
  subst e20
  have Sf21 := Rr20.safe F12.lt Sf9
  have F22 := F12.ext E20
  have F23 := F19.ext E20
  have F24 := F14.ext E20
  have F28 := F18.ext E20
  have R20 := R10.trans Rr20
  have hZ := hZ20
  have hown := hown20
  have K20 : Keep h0 T20.heap [x0] := K8.ext E20
  refine Goes.to st20 ?_
  obtain ⟨T29, X29, e29, st29⟩ := getF X20 hx hZ hown (host := "") (Or.inl (own_hw hw 21 rfl)) Via.refl rfl C20 (g := (mkF m 20 #[.val (.ref x0), .val (.ref x1), .val (.int x2), .val (.int x3), .val .null, .unset] [(.ref a20), (.ref x0)])) rfl rfl (hb hby d11_20)
  refine Goes.to st29 ?_
  obtain ⟨T30, h30, X30, e30, W30, st30⟩ := putFN X29 hx hZ hown (own_hw hw 21 rfl) Via.refl e29 F24 F22 (Or.inr ⟨(own_hw hw 6 rfl), rfl, hnm⟩) (own_hw hw 3 rfl) (ty := .byte) (v' := (.int ((0 : Int32).toInt8.toInt32))) (by decide) rfl (fits_nar_byte _) (g := (mkF m 23 #[.val (.ref x0), .val (.ref x1), .val (.int x2), .val (.int x3), .val .null, .unset] [(.int (0 : Int32)), (.ref x0)])) rfl rfl (hb hby d11_23)
  subst e30
  have R32 := R20.trans (CHr.wr W30 Sf21 R20.1)
  have hk33 := Nat.le_trans hk20 (Nat.le_of_eq W30.size.symm)
  have F34 := F22.wr W30
  have F35 := F23.other W30 (Or.inr (slot_ne (Or.inr (own_hw hw 5 rfl)) (Or.inr (own_hw hw 6 rfl)) (by decide) (t := (.array .byte)) (t' := .byte) (by decide) (by decide)))
  have F40 := F28.other W30 (Ne.symm (Ns2 x0 Sf3).2)
  have N30 := Fr.snoc X30 N8 g_x0
  have K30 : Keep h0 T30.heap [x0] := K20.wr W30 (Or.inl (List.mem_of_getElem? (i := 0) rfl))
  have F45 : Fld Z T30.heap x0 "java/lang/String" "coder" "B" (.int ((0 : Int32).toInt8.toInt32)) := F24.same W30
  refine Goes.to st30 ?_
  show Goes p.tables e below (T30.setTop (mkF m 26 #[.val (.ref x0), .val (.ref x1), .val (.int x2), .val (.int x3), .val .null, .unset] [])) _
  have hkl := Nat.le_trans hk33 (Nat.le_refl T30.heap.size)
  obtain ⟨fs, hr, hrun, hended, hEnd⟩ := X30.leaveW (s := s) hS20 hkl (v := none) (fun _ => rfl)
  have hRl : CHr Z own_EL s.vm s.heap T30.vm T30.heap := by
    rw [hh]
    exact R32.trans (CHv.at (s := s) X30 hZ hEL R32.1)
  exact ⟨_, _, X30.returnOut hx Bd.returns (hb hby d11_26) hr, hrun, hended, _, _, rfl, ⟨b2, k2, rfl, N30, (by show Keep h0 T30.heap [x0]; exact K30), (by show Exa Z T30.heap x0 "java/lang/String"; exact F34), (by show Fld Z T30.heap x0 "java/lang/String" "coder" "B" (.int (0 : Int32)); exact F45), (by show Fld Z T30.heap x0 "java/lang/String" "value" "[B" (.ref b2); exact F35), (by show Arv Z T30.heap b2 k2 .byte (0 : Int32) [] (.int (0 : Int32)); exact F40)⟩, hRl, hEnd.1, hEnd.2.1, hEnd.2.2.1, hEnd.2.2.2.mono (by decide) (by decide)⟩

theorem d10_0 : decode jdk_42_method_3_code 0 = .ok (.aload_n 0, 1) := by decide +kernel
theorem d10_1 : decode jdk_42_method_3_code 1 = .ok (.aload_n 1, 1) := by decide +kernel
theorem d10_2 : decode jdk_42_method_3_code 2 = .ok (.iconst 0, 1) := by decide +kernel
theorem d10_3 : decode jdk_42_method_3_code 3 = .ok (.aload_n 1, 1) := by decide +kernel
theorem d10_4 : decode jdk_42_method_3_code 4 = .ok (.arraylength, 1) := by decide +kernel
theorem d10_5 : decode jdk_42_method_3_code 5 = .ok (.aconst_null, 1) := by decide +kernel
theorem d10_6 : decode jdk_42_method_3_code 6 = .ok (.invokespecial 27, 3) := by decide +kernel
theorem d10_9 : decode jdk_42_method_3_code 9 = .ok (.return_, 1) := by decide +kernel
theorem own_pd_paCIILjavallanglVoidsqV : parseMethodDescriptor "([CIILjava/lang/Void;)V" = some ⟨[(.array .char), .int, .int, (.object "java/lang/Void")], none⟩ := by decide +kernel
theorem own_pn_10 : plainName "java/lang/String" = true := by first | (simp [plainName, overriddenIn]; done) | decide +kernel
theorem own_ef_own_rm10 (m : MethodId) (x0 : Addr) (x1 : Addr) : entryFrame m #[(.ref x0), (.ref x1)] 2 = mkF m 0 #[.val (.ref x0), .val (.ref x1)] [] := by first | (simp [entryFrame, mkF, argsToLocals, Value.category]; done) | rfl
def own_Q_own_rm10 (Z : State) (x0 : Addr) (x1 : Addr) (kc : ClassId) (h0 : Heap) (n0 : Nat) (v : Option Value) (h : Heap) (L : List Loc) : Prop := ∃ (t : Addr) (kb : ClassId), v = none ∧ Fr n0 L ∧ Keep h0 h [x0] ∧ Exa Z h x0 "java/lang/String" ∧ Fld Z h x0 "java/lang/String" "coder" "B" (.int (0 : Int32)) ∧ Fld Z h x0 "java/lang/String" "value" "[B" (.ref t) ∧ Arv Z h t kb .byte (0 : Int32) [] (.int (0 : Int32))
abbrev own_r_own_rm10 : Room := ({ frames := 2, cells := 4, slots := 8, locals := 29 } : Room)

set_option maxRecDepth 65536 in
set_option maxHeartbeats 40000000 in
theorem own_rm10 (l : Launch) (Z : State) (a0 : Array Value) (hw : ∀ d ∈ tables_1, d.before a0 Z = true) (ws : List Jvm.Cond) (x0 : Addr) (x1 : Addr) (kc : ClassId) (h0 : Heap) (n0 : Nat) (Z0 : n0 ≤ h0.size) (E_x0 : Exa Z h0 x0 "java/lang/String") (g_x0 : n0 ≤ x0) (F_x0 : Fld Z h0 x0 "java/lang/String" "value" "[B" .null) (C_x0 : Fld Z h0 x0 "java/lang/String" "coder" "B" (.int (0 : Int32))) (VC : Arv Z h0 x1 kc .char (0 : Int32) [] (.int (0 : Int32))) :
    MetFree l own_n16 (head1 (Jvm.Cond.code own_n16 jdk_42_method_3_code 2 none :: ws) own_r_own_rm10) (fun a U => a = #[(.ref x0), (.ref x1)] ∧ Z.Warmed39 U.vm ∧ U.heap = h0 ∧ CHv Z own_EL U.vm h0) (fun _ _ _ _ _ => True) (fun _ U o U' => ∃ v L, o = .returned v ∧ own_Q_own_rm10 Z x0 x1 kc h0 n0 v U'.heap L ∧ CHr Z own_EL U.vm U.heap U'.vm U'.heap ∧ ReturnedEndW U o U' L own_r_own_rm10.cells own_r_own_rm10.slots) := by
  refine MetFree.of_bodySF (plainFor_of_name own_pn_10) hisR ?_
  intro p e s m args below meth c s₁ Bd hml0 hP hK
  obtain ⟨rfl, hZ, hh, hCH⟩ := hP
  have hx := Bd.exec
  have hby := Bd.bytes
  have hml : c.maxLocals = 2 := hml0
  have hown : s.vm.findClass "java/lang/String" = some m.cls := findClass_of_methodNamed Bd.named
  have hnm := (name_of_methodNamed Bd.named Bd.method).1
  have X0 : Stand p l e own_r_own_rm10 (s.setVm s.vm) m #[(.ref x0), (.ref x1)] below meth c s₁ [] 0 0 := Stand.of_body Bd
  have e0 : s₁.heap = h0 := by rw [← hh, Bd.state]; rfl
  have N0 := Fr.nil n0
  have hS0 : s.Since s.vm h0.size := (State.WarmedH.refl s).since _
  have own_wS' : ∀ a ∈ Bundle.stringAtoms, a.before a0 Z = true := own_wS hw
  have hEL := own_EW hw
  have R0 := CHr.refl hCH
  have Sf0 : Safe Z own_EL s.vm h0 x0 := own_safe hZ.alike E_x0 F_x0
  show Goes p.tables e below _ (own_RH Z below s (own_Q_own_rm10 Z x0 x1 kc h0 n0) own_r_own_rm10.cells own_r_own_rm10.slots)
  refine Goes.to (fun t k => castTop (own_ef_own_rm10 m x0 x1) k) ?_
  refine gx (XS.aloadN X0.here hx rfl (hb hby d10_0) rfl rfl) ?_
  refine gx (XS.aloadN X0.here hx rfl (hb hby d10_1) rfl rfl) ?_
  refine gx (XS.iconst X0.here hx rfl (hb hby d10_2)) ?_
  refine gx (XS.aloadN X0.here hx rfl (hb hby d10_3) rfl rfl) ?_
  obtain ⟨cl1, Ar1, -, S1, N1, -, -⟩ := id VC
  refine Goes.to (fun _ k => X0.arraylength hx (by rw [e0]; exact Ar1.1) (State.isArrayOf_alike hZ.alike Ar1.2.1) (g := (mkF m 4 #[.val (.ref x0), .val (.ref x1)] [(.ref x1), (.int (0 : Int32)), (.ref x1), (.ref x0)])) rfl rfl (hb hby d10_4) _ k) ?_
  rw [len_of S1 N1]
  refine gx (XS.aconstNull X0.here hx rfl (hb hby d10_5)) ?_
  obtain ⟨_, _, ⟨T2, L2, k2, n2⟩, -, X2, hSn2, hgr2, ⟨Lc2, hQ2, l2, y2, z2, Rr2⟩, st2⟩ := X0.specialBackS hx (y := own_n15) rfl hown (mvT hZ (own_hw hw 55 rfl)) (mvT hZ (own_hw hw 56 rfl)) (mvT hZ (own_hw hw 58 rfl)) (by decide) (backOfSH (s := s) (vm0 := s.vm) (W := 0) (own_rm11 l Z a0 hw [] x0 x1 (0 : Int32) (0 : Int32) h0 n0 Z0 E_x0 g_x0 F_x0 C_x0 rfl) hZ (own_hw hw 58 rfl) (own_hw hw 2 rfl) (by decide) (by decide) hEL R0.1) (g := (mkF m 6 #[.val (.ref x0), .val (.ref x1)] [.null, (.int (0 : Int32)), (.int (0 : Int32)), (.ref x1), (.ref x0)])) rfl (by rw [hml]; rfl) (Steps.refl _) (a := x0) (argsL := [(.ref x1), (.int (0 : Int32)), (.int (0 : Int32)), .null]) (rest := []) (lenOf own_pd_paCIILjavallanglVoidsqV rfl) rfl (own_W rfl rfl) (hb hby d10_6) (fun _ _ => ⟨rfl, e0, (by decide : 0 + 4 ≤ _), (by decide : 0 + 8 ≤ _)⟩)
  dsimp only [Pt.U, Pt.locs, Pt.cells, Pt.slots] at X2 hSn2 hgr2 l2 y2 z2 st2 hQ2 Rr2
  subst l2 y2 z2
  obtain ⟨X2, hS2, hZ2, hown2⟩ := rebS (s := s) hS0 (Nat.le_refl _) X2 hSn2 (by rw [← e0]; exact hgr2) hZ hown
  have R2 := R0.trans Rr2
  have hZ := hZ2
  have hown := hown2
  obtain ⟨t2, kt2, hv2, Nq2, K2, Ei2, Ci2, Vi2, Ai2⟩ := hQ2
  subst hv2
  have N2 := Fr.app N0 Nq2
  have Kc2 : Keep h0 T2.heap [x0] := (Keep.refl h0 [x0]).trans K2 (allS (Or.inl (List.mem_of_getElem? (i := 0) rfl)) all0)
  refine Goes.tr st2 ?_
  show Goes p.tables e below (T2.setTop (mkF m 9 #[.val (.ref x0), .val (.ref x1)] [])) _
  have hkl := Nat.le_trans (Nat.le_refl _) (Nat.le_refl T2.heap.size)
  obtain ⟨fs, hr, hrun, hended, hEnd⟩ := X2.leaveW (s := s) hS2 hkl (v := none) (fun _ => rfl)
  have hRl : CHr Z own_EL s.vm s.heap T2.vm T2.heap := by
    rw [hh]
    exact R2.trans (CHv.at (s := s) X2 hZ hEL R2.1)
  exact ⟨_, _, X2.returnOut hx Bd.returns (hb hby d10_9) hr, hrun, hended, _, _, rfl, ⟨t2, kt2, rfl, N2, (by show Keep h0 T2.heap [x0]; exact Kc2), (by show Exa Z T2.heap x0 "java/lang/String"; exact Ei2), (by show Fld Z T2.heap x0 "java/lang/String" "coder" "B" (.int (0 : Int32)); exact Ci2), (by show Fld Z T2.heap x0 "java/lang/String" "value" "[B" (.ref t2); exact Vi2), (by show Arv Z T2.heap t2 kt2 .byte (0 : Int32) [] (.int (0 : Int32)); exact Ai2)⟩, hRl, hEnd.1, hEnd.2.1, hEnd.2.2.1, hEnd.2.2.2.mono (by decide) (by decide)⟩

theorem d9_0 : decode method_4_code 0 = .ok (.iload_n 1, 1) := by decide +kernel
theorem d9_1 : decode method_4_code 1 = .ok (.ifCond .gt 14, 3) := by decide +kernel
theorem d9_4 : decode method_4_code 4 = .ok (.new 16, 3) := by decide +kernel
theorem d9_7 : decode method_4_code 7 = .ok (.dup, 1) := by decide +kernel
theorem d9_8 : decode method_4_code 8 = .ok (.iconst 0, 1) := by decide +kernel
theorem d9_9 : decode method_4_code 9 = .ok (.newarray .char, 2) := by decide +kernel
theorem d9_11 : decode method_4_code 11 = .ok (.invokespecial 62, 3) := by decide +kernel
theorem d9_14 : decode method_4_code 14 = .ok (.areturn, 1) := by decide +kernel
theorem d9_15 : decode method_4_code 15 = .ok (.iload_n 1, 1) := by decide +kernel
theorem d9_16 : decode method_4_code 16 = .ok (.iconst 1, 1) := by decide +kernel
theorem d9_17 : decode method_4_code 17 = .ok (.if_icmp .ne 20, 3) := by decide +kernel
theorem d9_20 : decode method_4_code 20 = .ok (.new 16, 3) := by decide +kernel
theorem d9_23 : decode method_4_code 23 = .ok (.dup, 1) := by decide +kernel
theorem d9_24 : decode method_4_code 24 = .ok (.iconst 1, 1) := by decide +kernel
theorem d9_25 : decode method_4_code 25 = .ok (.newarray .char, 2) := by decide +kernel
theorem d9_27 : decode method_4_code 27 = .ok (.dup, 1) := by decide +kernel
theorem d9_28 : decode method_4_code 28 = .ok (.iconst 0, 1) := by decide +kernel
theorem d9_29 : decode method_4_code 29 = .ok (.aload_n 0, 1) := by decide +kernel
theorem d9_30 : decode method_4_code 30 = .ok (.iconst 0, 1) := by decide +kernel
theorem d9_31 : decode method_4_code 31 = .ok (.caload, 1) := by decide +kernel
theorem d9_32 : decode method_4_code 32 = .ok (.castore, 1) := by decide +kernel
theorem d9_33 : decode method_4_code 33 = .ok (.invokespecial 62, 3) := by decide +kernel
theorem d9_36 : decode method_4_code 36 = .ok (.areturn, 1) := by decide +kernel
theorem d9_37 : decode method_4_code 37 = .ok (.iload_n 1, 1) := by decide +kernel
theorem d9_38 : decode method_4_code 38 = .ok (.iconst 2, 1) := by decide +kernel
theorem d9_39 : decode method_4_code 39 = .ok (.if_icmp .ne 26, 3) := by decide +kernel
theorem d9_42 : decode method_4_code 42 = .ok (.new 16, 3) := by decide +kernel
theorem d9_45 : decode method_4_code 45 = .ok (.dup, 1) := by decide +kernel
theorem d9_46 : decode method_4_code 46 = .ok (.iconst 2, 1) := by decide +kernel
theorem d9_47 : decode method_4_code 47 = .ok (.newarray .char, 2) := by decide +kernel
theorem d9_49 : decode method_4_code 49 = .ok (.dup, 1) := by decide +kernel
theorem d9_50 : decode method_4_code 50 = .ok (.iconst 0, 1) := by decide +kernel
theorem d9_51 : decode method_4_code 51 = .ok (.aload_n 0, 1) := by decide +kernel
theorem d9_52 : decode method_4_code 52 = .ok (.iconst 0, 1) := by decide +kernel
theorem d9_53 : decode method_4_code 53 = .ok (.caload, 1) := by decide +kernel
theorem d9_54 : decode method_4_code 54 = .ok (.castore, 1) := by decide +kernel
theorem d9_55 : decode method_4_code 55 = .ok (.dup, 1) := by decide +kernel
theorem d9_56 : decode method_4_code 56 = .ok (.iconst 1, 1) := by decide +kernel
theorem d9_57 : decode method_4_code 57 = .ok (.aload_n 0, 1) := by decide +kernel
theorem d9_58 : decode method_4_code 58 = .ok (.iconst 1, 1) := by decide +kernel
theorem d9_59 : decode method_4_code 59 = .ok (.caload, 1) := by decide +kernel
theorem d9_60 : decode method_4_code 60 = .ok (.castore, 1) := by decide +kernel
theorem d9_61 : decode method_4_code 61 = .ok (.invokespecial 62, 3) := by decide +kernel
theorem d9_64 : decode method_4_code 64 = .ok (.areturn, 1) := by decide +kernel
theorem d9_65 : decode method_4_code 65 = .ok (.iload_n 1, 1) := by decide +kernel
theorem d9_66 : decode method_4_code 66 = .ok (.iconst 3, 1) := by decide +kernel
theorem d9_67 : decode method_4_code 67 = .ok (.if_icmp .ne 32, 3) := by decide +kernel
theorem d9_70 : decode method_4_code 70 = .ok (.new 16, 3) := by decide +kernel
theorem d9_73 : decode method_4_code 73 = .ok (.dup, 1) := by decide +kernel
theorem d9_74 : decode method_4_code 74 = .ok (.iconst 3, 1) := by decide +kernel
theorem d9_75 : decode method_4_code 75 = .ok (.newarray .char, 2) := by decide +kernel
theorem d9_77 : decode method_4_code 77 = .ok (.dup, 1) := by decide +kernel
theorem d9_78 : decode method_4_code 78 = .ok (.iconst 0, 1) := by decide +kernel
theorem d9_79 : decode method_4_code 79 = .ok (.aload_n 0, 1) := by decide +kernel
theorem d9_80 : decode method_4_code 80 = .ok (.iconst 0, 1) := by decide +kernel
theorem d9_81 : decode method_4_code 81 = .ok (.caload, 1) := by decide +kernel
theorem d9_82 : decode method_4_code 82 = .ok (.castore, 1) := by decide +kernel
theorem d9_83 : decode method_4_code 83 = .ok (.dup, 1) := by decide +kernel
theorem d9_84 : decode method_4_code 84 = .ok (.iconst 1, 1) := by decide +kernel
theorem d9_85 : decode method_4_code 85 = .ok (.aload_n 0, 1) := by decide +kernel
theorem d9_86 : decode method_4_code 86 = .ok (.iconst 1, 1) := by decide +kernel
theorem d9_87 : decode method_4_code 87 = .ok (.caload, 1) := by decide +kernel
theorem d9_88 : decode method_4_code 88 = .ok (.castore, 1) := by decide +kernel
theorem d9_89 : decode method_4_code 89 = .ok (.dup, 1) := by decide +kernel
theorem d9_90 : decode method_4_code 90 = .ok (.iconst 2, 1) := by decide +kernel
theorem d9_91 : decode method_4_code 91 = .ok (.aload_n 0, 1) := by decide +kernel
theorem d9_92 : decode method_4_code 92 = .ok (.iconst 2, 1) := by decide +kernel
theorem d9_93 : decode method_4_code 93 = .ok (.caload, 1) := by decide +kernel
theorem d9_94 : decode method_4_code 94 = .ok (.castore, 1) := by decide +kernel
theorem d9_95 : decode method_4_code 95 = .ok (.invokespecial 62, 3) := by decide +kernel
theorem d9_98 : decode method_4_code 98 = .ok (.areturn, 1) := by decide +kernel
theorem d9_99 : decode method_4_code 99 = .ok (.iload_n 1, 1) := by decide +kernel
theorem d9_100 : decode method_4_code 100 = .ok (.iconst 4, 1) := by decide +kernel
theorem d9_101 : decode method_4_code 101 = .ok (.if_icmp .ne 38, 3) := by decide +kernel
theorem d9_104 : decode method_4_code 104 = .ok (.new 16, 3) := by decide +kernel
theorem d9_107 : decode method_4_code 107 = .ok (.dup, 1) := by decide +kernel
theorem d9_108 : decode method_4_code 108 = .ok (.iconst 4, 1) := by decide +kernel
theorem d9_109 : decode method_4_code 109 = .ok (.newarray .char, 2) := by decide +kernel
theorem d9_111 : decode method_4_code 111 = .ok (.dup, 1) := by decide +kernel
theorem d9_112 : decode method_4_code 112 = .ok (.iconst 0, 1) := by decide +kernel
theorem d9_113 : decode method_4_code 113 = .ok (.aload_n 0, 1) := by decide +kernel
theorem d9_114 : decode method_4_code 114 = .ok (.iconst 0, 1) := by decide +kernel
theorem d9_115 : decode method_4_code 115 = .ok (.caload, 1) := by decide +kernel
theorem d9_116 : decode method_4_code 116 = .ok (.castore, 1) := by decide +kernel
theorem d9_117 : decode method_4_code 117 = .ok (.dup, 1) := by decide +kernel
theorem d9_118 : decode method_4_code 118 = .ok (.iconst 1, 1) := by decide +kernel
theorem d9_119 : decode method_4_code 119 = .ok (.aload_n 0, 1) := by decide +kernel
theorem d9_120 : decode method_4_code 120 = .ok (.iconst 1, 1) := by decide +kernel
theorem d9_121 : decode method_4_code 121 = .ok (.caload, 1) := by decide +kernel
theorem d9_122 : decode method_4_code 122 = .ok (.castore, 1) := by decide +kernel
theorem d9_123 : decode method_4_code 123 = .ok (.dup, 1) := by decide +kernel
theorem d9_124 : decode method_4_code 124 = .ok (.iconst 2, 1) := by decide +kernel
theorem d9_125 : decode method_4_code 125 = .ok (.aload_n 0, 1) := by decide +kernel
theorem d9_126 : decode method_4_code 126 = .ok (.iconst 2, 1) := by decide +kernel
theorem d9_127 : decode method_4_code 127 = .ok (.caload, 1) := by decide +kernel
theorem d9_128 : decode method_4_code 128 = .ok (.castore, 1) := by decide +kernel
theorem d9_129 : decode method_4_code 129 = .ok (.dup, 1) := by decide +kernel
theorem d9_130 : decode method_4_code 130 = .ok (.iconst 3, 1) := by decide +kernel
theorem d9_131 : decode method_4_code 131 = .ok (.aload_n 0, 1) := by decide +kernel
theorem d9_132 : decode method_4_code 132 = .ok (.iconst 3, 1) := by decide +kernel
theorem d9_133 : decode method_4_code 133 = .ok (.caload, 1) := by decide +kernel
theorem d9_134 : decode method_4_code 134 = .ok (.castore, 1) := by decide +kernel
theorem d9_135 : decode method_4_code 135 = .ok (.invokespecial 62, 3) := by decide +kernel
theorem d9_138 : decode method_4_code 138 = .ok (.areturn, 1) := by decide +kernel
theorem d9_139 : decode method_4_code 139 = .ok (.iload_n 1, 1) := by decide +kernel
theorem d9_140 : decode method_4_code 140 = .ok (.iconst 5, 1) := by decide +kernel
theorem d9_141 : decode method_4_code 141 = .ok (.if_icmp .ne 44, 3) := by decide +kernel
theorem d9_144 : decode method_4_code 144 = .ok (.new 16, 3) := by decide +kernel
theorem d9_147 : decode method_4_code 147 = .ok (.dup, 1) := by decide +kernel
theorem d9_148 : decode method_4_code 148 = .ok (.iconst 5, 1) := by decide +kernel
theorem d9_149 : decode method_4_code 149 = .ok (.newarray .char, 2) := by decide +kernel
theorem d9_151 : decode method_4_code 151 = .ok (.dup, 1) := by decide +kernel
theorem d9_152 : decode method_4_code 152 = .ok (.iconst 0, 1) := by decide +kernel
theorem d9_153 : decode method_4_code 153 = .ok (.aload_n 0, 1) := by decide +kernel
theorem d9_154 : decode method_4_code 154 = .ok (.iconst 0, 1) := by decide +kernel
theorem d9_155 : decode method_4_code 155 = .ok (.caload, 1) := by decide +kernel
theorem d9_156 : decode method_4_code 156 = .ok (.castore, 1) := by decide +kernel
theorem d9_157 : decode method_4_code 157 = .ok (.dup, 1) := by decide +kernel
theorem d9_158 : decode method_4_code 158 = .ok (.iconst 1, 1) := by decide +kernel
theorem d9_159 : decode method_4_code 159 = .ok (.aload_n 0, 1) := by decide +kernel
theorem d9_160 : decode method_4_code 160 = .ok (.iconst 1, 1) := by decide +kernel
theorem d9_161 : decode method_4_code 161 = .ok (.caload, 1) := by decide +kernel
theorem d9_162 : decode method_4_code 162 = .ok (.castore, 1) := by decide +kernel
theorem d9_163 : decode method_4_code 163 = .ok (.dup, 1) := by decide +kernel
theorem d9_164 : decode method_4_code 164 = .ok (.iconst 2, 1) := by decide +kernel
theorem d9_165 : decode method_4_code 165 = .ok (.aload_n 0, 1) := by decide +kernel
theorem d9_166 : decode method_4_code 166 = .ok (.iconst 2, 1) := by decide +kernel
theorem d9_167 : decode method_4_code 167 = .ok (.caload, 1) := by decide +kernel
theorem d9_168 : decode method_4_code 168 = .ok (.castore, 1) := by decide +kernel
theorem d9_169 : decode method_4_code 169 = .ok (.dup, 1) := by decide +kernel
theorem d9_170 : decode method_4_code 170 = .ok (.iconst 3, 1) := by decide +kernel
theorem d9_171 : decode method_4_code 171 = .ok (.aload_n 0, 1) := by decide +kernel
theorem d9_172 : decode method_4_code 172 = .ok (.iconst 3, 1) := by decide +kernel
theorem d9_173 : decode method_4_code 173 = .ok (.caload, 1) := by decide +kernel
theorem d9_174 : decode method_4_code 174 = .ok (.castore, 1) := by decide +kernel
theorem d9_175 : decode method_4_code 175 = .ok (.dup, 1) := by decide +kernel
theorem d9_176 : decode method_4_code 176 = .ok (.iconst 4, 1) := by decide +kernel
theorem d9_177 : decode method_4_code 177 = .ok (.aload_n 0, 1) := by decide +kernel
theorem d9_178 : decode method_4_code 178 = .ok (.iconst 4, 1) := by decide +kernel
theorem d9_179 : decode method_4_code 179 = .ok (.caload, 1) := by decide +kernel
theorem d9_180 : decode method_4_code 180 = .ok (.castore, 1) := by decide +kernel
theorem d9_181 : decode method_4_code 181 = .ok (.invokespecial 62, 3) := by decide +kernel
theorem d9_184 : decode method_4_code 184 = .ok (.areturn, 1) := by decide +kernel
theorem d9_185 : decode method_4_code 185 = .ok (.iload_n 1, 1) := by decide +kernel
theorem d9_186 : decode method_4_code 186 = .ok (.bipush 6, 2) := by decide +kernel
theorem d9_188 : decode method_4_code 188 = .ok (.if_icmp .ne 51, 3) := by decide +kernel
theorem d9_191 : decode method_4_code 191 = .ok (.new 16, 3) := by decide +kernel
theorem d9_194 : decode method_4_code 194 = .ok (.dup, 1) := by decide +kernel
theorem d9_195 : decode method_4_code 195 = .ok (.bipush 6, 2) := by decide +kernel
theorem d9_197 : decode method_4_code 197 = .ok (.newarray .char, 2) := by decide +kernel
theorem d9_199 : decode method_4_code 199 = .ok (.dup, 1) := by decide +kernel
theorem d9_200 : decode method_4_code 200 = .ok (.iconst 0, 1) := by decide +kernel
theorem d9_201 : decode method_4_code 201 = .ok (.aload_n 0, 1) := by decide +kernel
theorem d9_202 : decode method_4_code 202 = .ok (.iconst 0, 1) := by decide +kernel
theorem d9_203 : decode method_4_code 203 = .ok (.caload, 1) := by decide +kernel
theorem d9_204 : decode method_4_code 204 = .ok (.castore, 1) := by decide +kernel
theorem d9_205 : decode method_4_code 205 = .ok (.dup, 1) := by decide +kernel
theorem d9_206 : decode method_4_code 206 = .ok (.iconst 1, 1) := by decide +kernel
theorem d9_207 : decode method_4_code 207 = .ok (.aload_n 0, 1) := by decide +kernel
theorem d9_208 : decode method_4_code 208 = .ok (.iconst 1, 1) := by decide +kernel
theorem d9_209 : decode method_4_code 209 = .ok (.caload, 1) := by decide +kernel
theorem d9_210 : decode method_4_code 210 = .ok (.castore, 1) := by decide +kernel
theorem d9_211 : decode method_4_code 211 = .ok (.dup, 1) := by decide +kernel
theorem d9_212 : decode method_4_code 212 = .ok (.iconst 2, 1) := by decide +kernel
theorem d9_213 : decode method_4_code 213 = .ok (.aload_n 0, 1) := by decide +kernel
theorem d9_214 : decode method_4_code 214 = .ok (.iconst 2, 1) := by decide +kernel
theorem d9_215 : decode method_4_code 215 = .ok (.caload, 1) := by decide +kernel
theorem d9_216 : decode method_4_code 216 = .ok (.castore, 1) := by decide +kernel
theorem d9_217 : decode method_4_code 217 = .ok (.dup, 1) := by decide +kernel
theorem d9_218 : decode method_4_code 218 = .ok (.iconst 3, 1) := by decide +kernel
theorem d9_219 : decode method_4_code 219 = .ok (.aload_n 0, 1) := by decide +kernel
theorem d9_220 : decode method_4_code 220 = .ok (.iconst 3, 1) := by decide +kernel
theorem d9_221 : decode method_4_code 221 = .ok (.caload, 1) := by decide +kernel
theorem d9_222 : decode method_4_code 222 = .ok (.castore, 1) := by decide +kernel
theorem d9_223 : decode method_4_code 223 = .ok (.dup, 1) := by decide +kernel
theorem d9_224 : decode method_4_code 224 = .ok (.iconst 4, 1) := by decide +kernel
theorem d9_225 : decode method_4_code 225 = .ok (.aload_n 0, 1) := by decide +kernel
theorem d9_226 : decode method_4_code 226 = .ok (.iconst 4, 1) := by decide +kernel
theorem d9_227 : decode method_4_code 227 = .ok (.caload, 1) := by decide +kernel
theorem d9_228 : decode method_4_code 228 = .ok (.castore, 1) := by decide +kernel
theorem d9_229 : decode method_4_code 229 = .ok (.dup, 1) := by decide +kernel
theorem d9_230 : decode method_4_code 230 = .ok (.iconst 5, 1) := by decide +kernel
theorem d9_231 : decode method_4_code 231 = .ok (.aload_n 0, 1) := by decide +kernel
theorem d9_232 : decode method_4_code 232 = .ok (.iconst 5, 1) := by decide +kernel
theorem d9_233 : decode method_4_code 233 = .ok (.caload, 1) := by decide +kernel
theorem d9_234 : decode method_4_code 234 = .ok (.castore, 1) := by decide +kernel
theorem d9_235 : decode method_4_code 235 = .ok (.invokespecial 62, 3) := by decide +kernel
theorem d9_238 : decode method_4_code 238 = .ok (.areturn, 1) := by decide +kernel
theorem d9_239 : decode method_4_code 239 = .ok (.iload_n 1, 1) := by decide +kernel
theorem d9_240 : decode method_4_code 240 = .ok (.bipush 7, 2) := by decide +kernel
theorem d9_242 : decode method_4_code 242 = .ok (.if_icmp .ne 59, 3) := by decide +kernel
theorem d9_245 : decode method_4_code 245 = .ok (.new 16, 3) := by decide +kernel
theorem d9_248 : decode method_4_code 248 = .ok (.dup, 1) := by decide +kernel
theorem d9_249 : decode method_4_code 249 = .ok (.bipush 7, 2) := by decide +kernel
theorem d9_251 : decode method_4_code 251 = .ok (.newarray .char, 2) := by decide +kernel
theorem d9_253 : decode method_4_code 253 = .ok (.dup, 1) := by decide +kernel
theorem d9_254 : decode method_4_code 254 = .ok (.iconst 0, 1) := by decide +kernel
theorem d9_255 : decode method_4_code 255 = .ok (.aload_n 0, 1) := by decide +kernel
theorem d9_256 : decode method_4_code 256 = .ok (.iconst 0, 1) := by decide +kernel
theorem d9_257 : decode method_4_code 257 = .ok (.caload, 1) := by decide +kernel
theorem d9_258 : decode method_4_code 258 = .ok (.castore, 1) := by decide +kernel
theorem d9_259 : decode method_4_code 259 = .ok (.dup, 1) := by decide +kernel
theorem d9_260 : decode method_4_code 260 = .ok (.iconst 1, 1) := by decide +kernel
theorem d9_261 : decode method_4_code 261 = .ok (.aload_n 0, 1) := by decide +kernel
theorem d9_262 : decode method_4_code 262 = .ok (.iconst 1, 1) := by decide +kernel
theorem d9_263 : decode method_4_code 263 = .ok (.caload, 1) := by decide +kernel
theorem d9_264 : decode method_4_code 264 = .ok (.castore, 1) := by decide +kernel
theorem d9_265 : decode method_4_code 265 = .ok (.dup, 1) := by decide +kernel
theorem d9_266 : decode method_4_code 266 = .ok (.iconst 2, 1) := by decide +kernel
theorem d9_267 : decode method_4_code 267 = .ok (.aload_n 0, 1) := by decide +kernel
theorem d9_268 : decode method_4_code 268 = .ok (.iconst 2, 1) := by decide +kernel
theorem d9_269 : decode method_4_code 269 = .ok (.caload, 1) := by decide +kernel
theorem d9_270 : decode method_4_code 270 = .ok (.castore, 1) := by decide +kernel
theorem d9_271 : decode method_4_code 271 = .ok (.dup, 1) := by decide +kernel
theorem d9_272 : decode method_4_code 272 = .ok (.iconst 3, 1) := by decide +kernel
theorem d9_273 : decode method_4_code 273 = .ok (.aload_n 0, 1) := by decide +kernel
theorem d9_274 : decode method_4_code 274 = .ok (.iconst 3, 1) := by decide +kernel
theorem d9_275 : decode method_4_code 275 = .ok (.caload, 1) := by decide +kernel
theorem d9_276 : decode method_4_code 276 = .ok (.castore, 1) := by decide +kernel
theorem d9_277 : decode method_4_code 277 = .ok (.dup, 1) := by decide +kernel
theorem d9_278 : decode method_4_code 278 = .ok (.iconst 4, 1) := by decide +kernel
theorem d9_279 : decode method_4_code 279 = .ok (.aload_n 0, 1) := by decide +kernel
theorem d9_280 : decode method_4_code 280 = .ok (.iconst 4, 1) := by decide +kernel
theorem d9_281 : decode method_4_code 281 = .ok (.caload, 1) := by decide +kernel
theorem d9_282 : decode method_4_code 282 = .ok (.castore, 1) := by decide +kernel
theorem d9_283 : decode method_4_code 283 = .ok (.dup, 1) := by decide +kernel
theorem d9_284 : decode method_4_code 284 = .ok (.iconst 5, 1) := by decide +kernel
theorem d9_285 : decode method_4_code 285 = .ok (.aload_n 0, 1) := by decide +kernel
theorem d9_286 : decode method_4_code 286 = .ok (.iconst 5, 1) := by decide +kernel
theorem d9_287 : decode method_4_code 287 = .ok (.caload, 1) := by decide +kernel
theorem d9_288 : decode method_4_code 288 = .ok (.castore, 1) := by decide +kernel
theorem d9_289 : decode method_4_code 289 = .ok (.dup, 1) := by decide +kernel
theorem d9_290 : decode method_4_code 290 = .ok (.bipush 6, 2) := by decide +kernel
theorem d9_292 : decode method_4_code 292 = .ok (.aload_n 0, 1) := by decide +kernel
theorem d9_293 : decode method_4_code 293 = .ok (.bipush 6, 2) := by decide +kernel
theorem d9_295 : decode method_4_code 295 = .ok (.caload, 1) := by decide +kernel
theorem d9_296 : decode method_4_code 296 = .ok (.castore, 1) := by decide +kernel
theorem d9_297 : decode method_4_code 297 = .ok (.invokespecial 62, 3) := by decide +kernel
theorem d9_300 : decode method_4_code 300 = .ok (.areturn, 1) := by decide +kernel
theorem d9_301 : decode method_4_code 301 = .ok (.iload_n 1, 1) := by decide +kernel
theorem d9_302 : decode method_4_code 302 = .ok (.bipush 8, 2) := by decide +kernel
theorem d9_304 : decode method_4_code 304 = .ok (.if_icmp .ne 67, 3) := by decide +kernel
theorem d9_307 : decode method_4_code 307 = .ok (.new 16, 3) := by decide +kernel
theorem d9_310 : decode method_4_code 310 = .ok (.dup, 1) := by decide +kernel
theorem d9_311 : decode method_4_code 311 = .ok (.bipush 8, 2) := by decide +kernel
theorem d9_313 : decode method_4_code 313 = .ok (.newarray .char, 2) := by decide +kernel
theorem d9_315 : decode method_4_code 315 = .ok (.dup, 1) := by decide +kernel
theorem d9_316 : decode method_4_code 316 = .ok (.iconst 0, 1) := by decide +kernel
theorem d9_317 : decode method_4_code 317 = .ok (.aload_n 0, 1) := by decide +kernel
theorem d9_318 : decode method_4_code 318 = .ok (.iconst 0, 1) := by decide +kernel
theorem d9_319 : decode method_4_code 319 = .ok (.caload, 1) := by decide +kernel
theorem d9_320 : decode method_4_code 320 = .ok (.castore, 1) := by decide +kernel
theorem d9_321 : decode method_4_code 321 = .ok (.dup, 1) := by decide +kernel
theorem d9_322 : decode method_4_code 322 = .ok (.iconst 1, 1) := by decide +kernel
theorem d9_323 : decode method_4_code 323 = .ok (.aload_n 0, 1) := by decide +kernel
theorem d9_324 : decode method_4_code 324 = .ok (.iconst 1, 1) := by decide +kernel
theorem d9_325 : decode method_4_code 325 = .ok (.caload, 1) := by decide +kernel
theorem d9_326 : decode method_4_code 326 = .ok (.castore, 1) := by decide +kernel
theorem d9_327 : decode method_4_code 327 = .ok (.dup, 1) := by decide +kernel
theorem d9_328 : decode method_4_code 328 = .ok (.iconst 2, 1) := by decide +kernel
theorem d9_329 : decode method_4_code 329 = .ok (.aload_n 0, 1) := by decide +kernel
theorem d9_330 : decode method_4_code 330 = .ok (.iconst 2, 1) := by decide +kernel
theorem d9_331 : decode method_4_code 331 = .ok (.caload, 1) := by decide +kernel
theorem d9_332 : decode method_4_code 332 = .ok (.castore, 1) := by decide +kernel
theorem d9_333 : decode method_4_code 333 = .ok (.dup, 1) := by decide +kernel
theorem d9_334 : decode method_4_code 334 = .ok (.iconst 3, 1) := by decide +kernel
theorem d9_335 : decode method_4_code 335 = .ok (.aload_n 0, 1) := by decide +kernel
theorem d9_336 : decode method_4_code 336 = .ok (.iconst 3, 1) := by decide +kernel
theorem d9_337 : decode method_4_code 337 = .ok (.caload, 1) := by decide +kernel
theorem d9_338 : decode method_4_code 338 = .ok (.castore, 1) := by decide +kernel
theorem d9_339 : decode method_4_code 339 = .ok (.dup, 1) := by decide +kernel
theorem d9_340 : decode method_4_code 340 = .ok (.iconst 4, 1) := by decide +kernel
theorem d9_341 : decode method_4_code 341 = .ok (.aload_n 0, 1) := by decide +kernel
theorem d9_342 : decode method_4_code 342 = .ok (.iconst 4, 1) := by decide +kernel
theorem d9_343 : decode method_4_code 343 = .ok (.caload, 1) := by decide +kernel
theorem d9_344 : decode method_4_code 344 = .ok (.castore, 1) := by decide +kernel
theorem d9_345 : decode method_4_code 345 = .ok (.dup, 1) := by decide +kernel
theorem d9_346 : decode method_4_code 346 = .ok (.iconst 5, 1) := by decide +kernel
theorem d9_347 : decode method_4_code 347 = .ok (.aload_n 0, 1) := by decide +kernel
theorem d9_348 : decode method_4_code 348 = .ok (.iconst 5, 1) := by decide +kernel
theorem d9_349 : decode method_4_code 349 = .ok (.caload, 1) := by decide +kernel
theorem d9_350 : decode method_4_code 350 = .ok (.castore, 1) := by decide +kernel
theorem d9_351 : decode method_4_code 351 = .ok (.dup, 1) := by decide +kernel
theorem d9_352 : decode method_4_code 352 = .ok (.bipush 6, 2) := by decide +kernel
theorem d9_354 : decode method_4_code 354 = .ok (.aload_n 0, 1) := by decide +kernel
theorem d9_355 : decode method_4_code 355 = .ok (.bipush 6, 2) := by decide +kernel
theorem d9_357 : decode method_4_code 357 = .ok (.caload, 1) := by decide +kernel
theorem d9_358 : decode method_4_code 358 = .ok (.castore, 1) := by decide +kernel
theorem d9_359 : decode method_4_code 359 = .ok (.dup, 1) := by decide +kernel
theorem d9_360 : decode method_4_code 360 = .ok (.bipush 7, 2) := by decide +kernel
theorem d9_362 : decode method_4_code 362 = .ok (.aload_n 0, 1) := by decide +kernel
theorem d9_363 : decode method_4_code 363 = .ok (.bipush 7, 2) := by decide +kernel
theorem d9_365 : decode method_4_code 365 = .ok (.caload, 1) := by decide +kernel
theorem d9_366 : decode method_4_code 366 = .ok (.castore, 1) := by decide +kernel
theorem d9_367 : decode method_4_code 367 = .ok (.invokespecial 62, 3) := by decide +kernel
theorem d9_370 : decode method_4_code 370 = .ok (.areturn, 1) := by decide +kernel
theorem d9_371 : decode method_4_code 371 = .ok (.new 16, 3) := by decide +kernel
theorem d9_374 : decode method_4_code 374 = .ok (.dup, 1) := by decide +kernel
theorem d9_375 : decode method_4_code 375 = .ok (.bipush 9, 2) := by decide +kernel
theorem d9_377 : decode method_4_code 377 = .ok (.newarray .char, 2) := by decide +kernel
theorem d9_379 : decode method_4_code 379 = .ok (.dup, 1) := by decide +kernel
theorem d9_380 : decode method_4_code 380 = .ok (.iconst 0, 1) := by decide +kernel
theorem d9_381 : decode method_4_code 381 = .ok (.aload_n 0, 1) := by decide +kernel
theorem d9_382 : decode method_4_code 382 = .ok (.iconst 0, 1) := by decide +kernel
theorem d9_383 : decode method_4_code 383 = .ok (.caload, 1) := by decide +kernel
theorem d9_384 : decode method_4_code 384 = .ok (.castore, 1) := by decide +kernel
theorem d9_385 : decode method_4_code 385 = .ok (.dup, 1) := by decide +kernel
theorem d9_386 : decode method_4_code 386 = .ok (.iconst 1, 1) := by decide +kernel
theorem d9_387 : decode method_4_code 387 = .ok (.aload_n 0, 1) := by decide +kernel
theorem d9_388 : decode method_4_code 388 = .ok (.iconst 1, 1) := by decide +kernel
theorem d9_389 : decode method_4_code 389 = .ok (.caload, 1) := by decide +kernel
theorem d9_390 : decode method_4_code 390 = .ok (.castore, 1) := by decide +kernel
theorem d9_391 : decode method_4_code 391 = .ok (.dup, 1) := by decide +kernel
theorem d9_392 : decode method_4_code 392 = .ok (.iconst 2, 1) := by decide +kernel
theorem d9_393 : decode method_4_code 393 = .ok (.aload_n 0, 1) := by decide +kernel
theorem d9_394 : decode method_4_code 394 = .ok (.iconst 2, 1) := by decide +kernel
theorem d9_395 : decode method_4_code 395 = .ok (.caload, 1) := by decide +kernel
theorem d9_396 : decode method_4_code 396 = .ok (.castore, 1) := by decide +kernel
theorem d9_397 : decode method_4_code 397 = .ok (.dup, 1) := by decide +kernel
theorem d9_398 : decode method_4_code 398 = .ok (.iconst 3, 1) := by decide +kernel
theorem d9_399 : decode method_4_code 399 = .ok (.aload_n 0, 1) := by decide +kernel
theorem d9_400 : decode method_4_code 400 = .ok (.iconst 3, 1) := by decide +kernel
theorem d9_401 : decode method_4_code 401 = .ok (.caload, 1) := by decide +kernel
theorem d9_402 : decode method_4_code 402 = .ok (.castore, 1) := by decide +kernel
theorem d9_403 : decode method_4_code 403 = .ok (.dup, 1) := by decide +kernel
theorem d9_404 : decode method_4_code 404 = .ok (.iconst 4, 1) := by decide +kernel
theorem d9_405 : decode method_4_code 405 = .ok (.aload_n 0, 1) := by decide +kernel
theorem d9_406 : decode method_4_code 406 = .ok (.iconst 4, 1) := by decide +kernel
theorem d9_407 : decode method_4_code 407 = .ok (.caload, 1) := by decide +kernel
theorem d9_408 : decode method_4_code 408 = .ok (.castore, 1) := by decide +kernel
theorem d9_409 : decode method_4_code 409 = .ok (.dup, 1) := by decide +kernel
theorem d9_410 : decode method_4_code 410 = .ok (.iconst 5, 1) := by decide +kernel
theorem d9_411 : decode method_4_code 411 = .ok (.aload_n 0, 1) := by decide +kernel
theorem d9_412 : decode method_4_code 412 = .ok (.iconst 5, 1) := by decide +kernel
theorem d9_413 : decode method_4_code 413 = .ok (.caload, 1) := by decide +kernel
theorem d9_414 : decode method_4_code 414 = .ok (.castore, 1) := by decide +kernel
theorem d9_415 : decode method_4_code 415 = .ok (.dup, 1) := by decide +kernel
theorem d9_416 : decode method_4_code 416 = .ok (.bipush 6, 2) := by decide +kernel
theorem d9_418 : decode method_4_code 418 = .ok (.aload_n 0, 1) := by decide +kernel
theorem d9_419 : decode method_4_code 419 = .ok (.bipush 6, 2) := by decide +kernel
theorem d9_421 : decode method_4_code 421 = .ok (.caload, 1) := by decide +kernel
theorem d9_422 : decode method_4_code 422 = .ok (.castore, 1) := by decide +kernel
theorem d9_423 : decode method_4_code 423 = .ok (.dup, 1) := by decide +kernel
theorem d9_424 : decode method_4_code 424 = .ok (.bipush 7, 2) := by decide +kernel
theorem d9_426 : decode method_4_code 426 = .ok (.aload_n 0, 1) := by decide +kernel
theorem d9_427 : decode method_4_code 427 = .ok (.bipush 7, 2) := by decide +kernel
theorem d9_429 : decode method_4_code 429 = .ok (.caload, 1) := by decide +kernel
theorem d9_430 : decode method_4_code 430 = .ok (.castore, 1) := by decide +kernel
theorem d9_431 : decode method_4_code 431 = .ok (.dup, 1) := by decide +kernel
theorem d9_432 : decode method_4_code 432 = .ok (.bipush 8, 2) := by decide +kernel
theorem d9_434 : decode method_4_code 434 = .ok (.aload_n 0, 1) := by decide +kernel
theorem d9_435 : decode method_4_code 435 = .ok (.bipush 8, 2) := by decide +kernel
theorem d9_437 : decode method_4_code 437 = .ok (.caload, 1) := by decide +kernel
theorem d9_438 : decode method_4_code 438 = .ok (.castore, 1) := by decide +kernel
theorem d9_439 : decode method_4_code 439 = .ok (.invokespecial 62, 3) := by decide +kernel
theorem d9_442 : decode method_4_code 442 = .ok (.areturn, 1) := by decide +kernel
theorem own_pd_paCqV : parseMethodDescriptor "([C)V" = some ⟨[(.array .char)], none⟩ := by decide +kernel
theorem own_pn_9 : plainName "com/example/polgen/polgen/model/MultiplicityNamedPinLaw" = true := by first | (simp [plainName, overriddenIn]; done) | decide +kernel
theorem own_ef_own_rm9 (m : MethodId) (x0 : Addr) (x1 : Int32) : entryFrame m #[(.ref x0), (.int x1)] 2 = mkF m 0 #[.val (.ref x0), .val (.int x1)] [] := by first | (simp [entryFrame, mkF, argsToLocals, Value.category]; done) | rfl
def own_Q_own_rm9 (Z : State) (x0 : Addr) (x1 : Int32) (kc : ClassId) (ls : List Int32) (cs : Int32) (h0 : Heap) (n0 : Nat) (v : Option Value) (h : Heap) (L : List Loc) : Prop := ∃ (sa bv : Addr) (kb : ClassId) (cs : List Int32), v = some (.ref sa) ∧ Fr n0 L ∧ Keep h0 h [] ∧ Exa Z h sa "java/lang/String" ∧ Fld Z h sa "java/lang/String" "coder" "B" (.int (0 : Int32)) ∧ Fld Z h sa "java/lang/String" "value" "[B" (.ref bv) ∧ Arv Z h bv kb .byte (Int32.ofNat cs.length) ((cs.map fun c => c.toInt8.toInt32).map Value.int) (.int (0 : Int32)) ∧ cs.length ≤ 9 ∧ ∀ c ∈ cs, P8 c
abbrev own_r_own_rm9 : Room := ({ frames := 4, cells := 6, slots := 22, locals := 66 } : Room)
def own_P_own_rm9 (Z : State) (a0 : Array Value) (x0 : Addr) (x1 : Int32) (kc : ClassId) (ls : List Int32) (cs : Int32) (h0 : Heap) (n0 : Nat) : Prop := (Arv Z h0 x0 kc .char (9 : Int32) (ls.map Value.int) (.int (0 : Int32))) ∧ (∀ c ∈ ls, P8 c) ∧ (Sta Z h0 "java/lang/String" "COMPACT_STRINGS" "Z" (.int cs)) ∧ (¬ (cs = (0 : Int32)))
set_option maxRecDepth 65536 in
set_option maxHeartbeats 40000000 in
theorem own_pt_own_rm9_232 (l : Launch) (Z : State) (a0 : Array Value) (hw : ∀ d ∈ tables_1, d.before a0 Z = true) (ws : List Jvm.Cond) (x0 : Addr) (x1 : Int32) (kc : ClassId) (ls : List Int32) (cs : Int32) (h0 : Heap) (n0 : Nat) (Z0 : n0 ≤ h0.size) (hPm : own_P_own_rm9 Z a0 x0 x1 kc ls cs h0 n0)
    {p : Program} {e : Env} {s : State} {m : MethodId} {below : List Frame} {meth : Method} {c : Code} {s₁ : State} (Bd : BodyLoose p l own_n17 (head1 (Jvm.Cond.code own_n17 method_4_code 2 (some (.object "java/lang/String")) :: ws) own_r_own_rm9) method_4_code 2 (some (.object "java/lang/String")) e s m #[(.ref x0), (.int x1)] below meth c s₁) (hml0 : c.maxLocals = 2) (hh : s.heap = h0) 
    (b174 : Addr) (b182 : Addr) (k182 : ClassId)
    (Tpt : State) (lpt : List Loc) (vmpt : Vm) (hZ : Z.Warmed39 vmpt) (hown : vmpt.findClass "com/example/polgen/polgen/model/MultiplicityNamedPinLaw" = some m.cls) (hpt : Heap)
    (Xpt : Stand p l e own_r_own_rm9 (s.setVm vmpt) m #[(.ref x0), (.int x1)] below meth c Tpt lpt 2 8) (Ept : Tpt.heap = hpt) (Npt : Fr n0 lpt) (Zpt : n0 ≤ hpt.size) (kpt : Nat) (hSpt : s.Since vmpt kpt) (hkpt : kpt ≤ hpt.size) (Rpt : CHr Z own_EL s.vm h0 vmpt hpt)
    (Pf232_0 : Arv Z hpt x0 kc .char (9 : Int32) (ls.map Value.int) (.int (0 : Int32)))
    (Pf232_1 : Sta Z hpt "java/lang/String" "COMPACT_STRINGS" "Z" (.int cs))
    (Pf232_2 : Safe Z own_EL vmpt hpt b174)
    (Pf232_3 : Exa Z hpt b174 "java/lang/String")
    (Pf232_4 : Fld Z hpt b174 "java/lang/String" "value" "[B" .null)
    (Pf232_5 : Fld Z hpt b174 "java/lang/String" "coder" "B" (.int (0 : Int32)))
    (Pf232_6 : Safe Z own_EL vmpt hpt b182)
    (Pf232_7 : Arv Z hpt b182 k182 .char (4 : Int32) [(.int (nar .char (own_c ls (0 : Int32)))), (.int (nar .char (own_c ls (1 : Int32)))), (.int (nar .char (own_c ls (2 : Int32)))), (.int (0 : Int32))] (.int (0 : Int32)))
    (Pg232_9 : n0 ≤ b174)
    (Pg232_10 : h0.size ≤ b174)
    (Pn232_12 : b174 ≠ b182)
    (Pg232_13 : n0 ≤ b182)
    (Pg232_14 : h0.size ≤ b182)
    (Ph232_15 : (0 : Int32) < x1)
    (Ph232_16 : ¬ (x1 = (1 : Int32)))
    (Ph232_17 : ¬ (x1 = (2 : Int32)))
    (Ph232_18 : ¬ (x1 = (3 : Int32)))
    (Ph232_19 : x1 = (4 : Int32))
    (Kpt232 : Keep h0 hpt [])
    : Goes p.tables e below (Tpt.setTop (mkF m 133 #[.val (.ref x0), .val (.int x1)] [(.int (3 : Int32)), (.ref x0), (.int (3 : Int32)), (.ref b182), (.ref b182), (.ref b174), (.ref b174)])) (own_RH Z below s (own_Q_own_rm9 Z x0 x1 kc ls cs h0 n0) own_r_own_rm9.cells own_r_own_rm9.slots) := by
  obtain ⟨VC, hls, SC, hcs⟩ := id hPm
  have hx := Bd.exec
  have hby := Bd.bytes
  have hml : c.maxLocals = 2 := hml0
  have hnm := (name_of_methodNamed Bd.named Bd.method).1
  have own_wS' : ∀ a ∈ Bundle.stringAtoms, a.before a0 Z = true := own_wS hw
  have hEL := own_EW hw
  obtain ⟨cl233, Ar233, q233, S233, N233, H233, G233⟩ := id Pf232_0
  have hin233 : ¬ ((3 : Int32) < 0 ∨ cl233.slots.size ≤ ((3 : Int32)).toNatClampNeg) := inb_of S233 ⟨by decide, by decide⟩
  have hat233 : cl233.slots[((3 : Int32)).toNatClampNeg]? = some (.int (own_c ls (3 : Int32))) := Has.at H233 hin233 (own_cat ls (3 : Int32))
  refine gx (Xpt.caload hx (j := (3 : Int32)) (v := (.int (own_c ls (3 : Int32)))) (by rw [Ept]; exact Ar233.1) (State.isArrayOf_alike hZ.alike Ar233.2.1) Ar233.2.2 hin233 hat233 (g := (mkF m 133 #[.val (.ref x0), .val (.int x1)] [(.int (3 : Int32)), (.ref x0), (.int (3 : Int32)), (.ref b182), (.ref b182), (.ref b174), (.ref b174)])) rfl rfl (hb hby d9_133) _) ?_
  obtain ⟨cl234, Ar234, q234, S234, N234, H234, G234⟩ := id Pf232_7
  have hin234 : ¬ ((3 : Int32) < 0 ∨ cl234.slots.size ≤ ((3 : Int32)).toNatClampNeg) := inb_of S234 ⟨by decide, by decide⟩
  obtain ⟨T235, h235, X235, e235, W235, st235⟩ := stC Xpt hx hZ Ept Ar234 (j := (3 : Int32)) hin234 (g := (mkF m 134 #[.val (.ref x0), .val (.int x1)] [(.int (own_c ls (3 : Int32))), (.int (3 : Int32)), (.ref b182), (.ref b182), (.ref b174), (.ref b174)])) rfl rfl (hb hby d9_134)
  subst e235
  have Sf236 := Safe.wr W235 Pf232_6 Rpt.1 Pf232_2
  have R238 := Rpt.trans (CHr.wr W235 Pf232_6 Rpt.1)
  have hk239 := Nat.le_trans hkpt (Nat.le_of_eq W235.size.symm)
  have F241 := Pf232_1.wr W235
  have F242 := Pf232_3.wr W235
  have F243 := Pf232_4.other W235 (Or.inl Pn232_12)
  have F244 := Pf232_5.other W235 (Or.inl Pn232_12)
  have N235 := Fr.snoc X235 Npt Pg232_13
  have Z235 : n0 ≤ T235.heap.size := Nat.le_trans Zpt (Nat.le_of_eq W235.size.symm)
  have K235 : Keep h0 T235.heap [] := Kpt232.wr W235 (Or.inr Pg232_14)
  have V235 : Arv Z T235.heap b182 k182 .char (4 : Int32) [(.int (nar .char (own_c ls (0 : Int32)))), (.int (nar .char (own_c ls (1 : Int32)))), (.int (nar .char (own_c ls (2 : Int32)))), (.int (nar .char (own_c ls (3 : Int32))))] (.int (0 : Int32)) := Arv.set Ar234 q234 S234 N234 H234 G234 (fits_nar_char _) W235 3 rfl (Nat.le_of_ble_eq_true rfl)
  refine Goes.to st235 ?_
  obtain ⟨_, _, ⟨T246, L246, k246, n246⟩, -, X246, ⟨Lc246, hQ246, l246, y246, z246⟩, st246⟩ := X235.specialBack hx (y := own_n16) rfl hown (mvT hZ (own_hw hw 52 rfl)) (mvT hZ (own_hw hw 53 rfl)) (mvT hZ (own_hw hw 54 rfl)) (by decide) (StrChars.Road.backV (W := 1) hZ (own_hwV hw) (own_hw hw 3 rfl) (n0 := n0) Pg232_9 Z235 F242 F243 F244 (cs := [(nar .char (own_c ls (0 : Int32))), (nar .char (own_c ls (1 : Int32))), (nar .char (own_c ls (2 : Int32))), (nar .char (own_c ls (3 : Int32)))]) V235 F241 hcs (n := 4) rfl rfl (by decide) (by decide) (own_aS (own_cP hls _) (own_aS (own_cP hls _) (own_aS (own_cP hls _) (own_aS (own_cP hls _) own_a0)))) (bs := [(nar .char (own_c ls (0 : Int32))), (nar .char (own_c ls (1 : Int32))), (nar .char (own_c ls (2 : Int32))), (nar .char (own_c ls (3 : Int32)))].map fun c => c.toInt8.toInt32) rfl (by decide) (by decide)) (g := (mkF m 135 #[.val (.ref x0), .val (.int x1)] [(.ref b182), (.ref b174), (.ref b174)])) rfl (by rw [hml]; rfl) (Steps.refl _) (a := b174) (argsL := [(.ref b182)]) (rest := [(.ref b174)]) (lenOf own_pd_paCqV rfl) rfl (own_W rfl rfl) (hb hby d9_135) (fun _ _ => ⟨rfl, rfl, (by decide : 2 + 1 ≤ _), (by decide : 8 + 4 ≤ _)⟩)
  dsimp only [Pt.U, Pt.locs, Pt.cells, Pt.slots] at X246 l246 y246 z246 st246 hQ246
  subst l246 y246 z246
  obtain ⟨hv246, Nq246, K246, Ei246, Ci246, t246, kt246, -, -, -, Vi246, Ai246⟩ := hQ246
  subst hv246
  have N246 := Fr.app N235 Nq246
  have R249 := R238.trans (CHr.keep K246 (sfS Sf236 sf0) R238.1)
  have hk250 := Nat.le_trans hk239 K246.1
  have Kc246 : Keep h0 T246.heap [] := K235.trans K246 (allS (Or.inr Pg232_10) all0)
  refine Goes.tr st246 ?_
  show Goes p.tables e below (T246.setTop (mkF m 138 #[.val (.ref x0), .val (.int x1)] [(.ref b174)])) _
  have hkl := Nat.le_trans hk250 (Nat.le_refl T246.heap.size)
  obtain ⟨fs, hr, hrun, hended, hEnd⟩ := X246.leaveW (s := s) hSpt hkl (v := some (.ref b174)) (fun h => by rw [Bd.returns] at h; cases h)
  have hRl : CHr Z own_EL s.vm s.heap T246.vm T246.heap := by
    rw [hh]
    exact R249.trans (CHv.at (s := s) X246 hZ hEL R249.1)
  exact ⟨_, _, retOut X246 hx Bd.returns rfl (Or.inr (Or.inr (Or.inr (Or.inr ⟨rfl, rfl, rfl⟩)))) (hb hby d9_138) hr, hrun, hended, _, _, rfl, ⟨b174, t246, kt246, [(nar .char (own_c ls (0 : Int32))), (nar .char (own_c ls (1 : Int32))), (nar .char (own_c ls (2 : Int32))), (nar .char (own_c ls (3 : Int32)))], rfl, N246, (by show Keep h0 T246.heap []; exact Kc246), (by show Exa Z T246.heap b174 "java/lang/String"; exact Ei246), (by show Fld Z T246.heap b174 "java/lang/String" "coder" "B" (.int (0 : Int32)); exact Ci246), (by show Fld Z T246.heap b174 "java/lang/String" "value" "[B" (.ref t246); exact Vi246), (by show Arv Z T246.heap t246 kt246 .byte (Int32.ofNat ([(nar .char (own_c ls (0 : Int32))), (nar .char (own_c ls (1 : Int32))), (nar .char (own_c ls (2 : Int32))), (nar .char (own_c ls (3 : Int32)))] : List Int32).length) ((([(nar .char (own_c ls (0 : Int32))), (nar .char (own_c ls (1 : Int32))), (nar .char (own_c ls (2 : Int32))), (nar .char (own_c ls (3 : Int32)))] : List Int32).map fun c => c.toInt8.toInt32).map Value.int) (.int (0 : Int32)); exact Ai246), Nat.le_of_ble_eq_true rfl, (own_aS (own_cP hls _) (own_aS (own_cP hls _) (own_aS (own_cP hls _) (own_aS (own_cP hls _) own_a0))))⟩, hRl, hEnd.1, hEnd.2.1, hEnd.2.2.1, hEnd.2.2.2.mono (by decide) (by decide)⟩
set_option maxRecDepth 65536 in
set_option maxHeartbeats 40000000 in
theorem own_pt_own_rm9_316 (l : Launch) (Z : State) (a0 : Array Value) (hw : ∀ d ∈ tables_1, d.before a0 Z = true) (ws : List Jvm.Cond) (x0 : Addr) (x1 : Int32) (kc : ClassId) (ls : List Int32) (cs : Int32) (h0 : Heap) (n0 : Nat) (Z0 : n0 ≤ h0.size) (hPm : own_P_own_rm9 Z a0 x0 x1 kc ls cs h0 n0)
    {p : Program} {e : Env} {s : State} {m : MethodId} {below : List Frame} {meth : Method} {c : Code} {s₁ : State} (Bd : BodyLoose p l own_n17 (head1 (Jvm.Cond.code own_n17 method_4_code 2 (some (.object "java/lang/String")) :: ws) own_r_own_rm9) method_4_code 2 (some (.object "java/lang/String")) e s m #[(.ref x0), (.int x1)] below meth c s₁) (hml0 : c.maxLocals = 2) (hh : s.heap = h0) 
    (b258 : Addr) (b266 : Addr) (k266 : ClassId)
    (Tpt : State) (lpt : List Loc) (vmpt : Vm) (hZ : Z.Warmed39 vmpt) (hown : vmpt.findClass "com/example/polgen/polgen/model/MultiplicityNamedPinLaw" = some m.cls) (hpt : Heap)
    (Xpt : Stand p l e own_r_own_rm9 (s.setVm vmpt) m #[(.ref x0), (.int x1)] below meth c Tpt lpt 2 9) (Ept : Tpt.heap = hpt) (Npt : Fr n0 lpt) (Zpt : n0 ≤ hpt.size) (kpt : Nat) (hSpt : s.Since vmpt kpt) (hkpt : kpt ≤ hpt.size) (Rpt : CHr Z own_EL s.vm h0 vmpt hpt)
    (Pf316_0 : Arv Z hpt x0 kc .char (9 : Int32) (ls.map Value.int) (.int (0 : Int32)))
    (Pf316_1 : Sta Z hpt "java/lang/String" "COMPACT_STRINGS" "Z" (.int cs))
    (Pf316_2 : Safe Z own_EL vmpt hpt b258)
    (Pf316_3 : Exa Z hpt b258 "java/lang/String")
    (Pf316_4 : Fld Z hpt b258 "java/lang/String" "value" "[B" .null)
    (Pf316_5 : Fld Z hpt b258 "java/lang/String" "coder" "B" (.int (0 : Int32)))
    (Pf316_6 : Safe Z own_EL vmpt hpt b266)
    (Pf316_7 : Arv Z hpt b266 k266 .char (5 : Int32) [(.int (nar .char (own_c ls (0 : Int32)))), (.int (nar .char (own_c ls (1 : Int32)))), (.int (nar .char (own_c ls (2 : Int32)))), (.int (0 : Int32)), (.int (0 : Int32))] (.int (0 : Int32)))
    (Pg316_9 : n0 ≤ b258)
    (Pg316_10 : h0.size ≤ b258)
    (Pn316_11 : x0 ≠ b266)
    (Pn316_12 : b258 ≠ b266)
    (Pg316_13 : n0 ≤ b266)
    (Pg316_14 : h0.size ≤ b266)
    (Ph316_15 : (0 : Int32) < x1)
    (Ph316_16 : ¬ (x1 = (1 : Int32)))
    (Ph316_17 : ¬ (x1 = (2 : Int32)))
    (Ph316_18 : ¬ (x1 = (3 : Int32)))
    (Ph316_19 : ¬ (x1 = (4 : Int32)))
    (Ph316_20 : x1 = (5 : Int32))
    (Kpt316 : Keep h0 hpt [])
    : Goes p.tables e below (Tpt.setTop (mkF m 170 #[.val (.ref x0), .val (.int x1)] [(.ref b266), (.ref b266), (.ref b258), (.ref b258)])) (own_RH Z below s (own_Q_own_rm9 Z x0 x1 kc ls cs h0 n0) own_r_own_rm9.cells own_r_own_rm9.slots) := by
  obtain ⟨VC, hls, SC, hcs⟩ := id hPm
  have hx := Bd.exec
  have hby := Bd.bytes
  have hml : c.maxLocals = 2 := hml0
  have hnm := (name_of_methodNamed Bd.named Bd.method).1
  have own_wS' : ∀ a ∈ Bundle.stringAtoms, a.before a0 Z = true := own_wS hw
  have hEL := own_EW hw
  refine gx (XS.iconst Xpt.here hx rfl (hb hby d9_170)) ?_
  refine gx (XS.aloadN Xpt.here hx rfl (hb hby d9_171) rfl rfl) ?_
  refine gx (XS.iconst Xpt.here hx rfl (hb hby d9_172)) ?_
  obtain ⟨cl317, Ar317, q317, S317, N317, H317, G317⟩ := id Pf316_0
  have hin317 : ¬ ((3 : Int32) < 0 ∨ cl317.slots.size ≤ ((3 : Int32)).toNatClampNeg) := inb_of S317 ⟨by decide, by decide⟩
  have hat317 : cl317.slots[((3 : Int32)).toNatClampNeg]? = some (.int (own_c ls (3 : Int32))) := Has.at H317 hin317 (own_cat ls (3 : Int32))
  refine gx (Xpt.caload hx (j := (3 : Int32)) (v := (.int (own_c ls (3 : Int32)))) (by rw [Ept]; exact Ar317.1) (State.isArrayOf_alike hZ.alike Ar317.2.1) Ar317.2.2 hin317 hat317 (g := (mkF m 173 #[.val (.ref x0), .val (.int x1)] [(.int (3 : Int32)), (.ref x0), (.int (3 : Int32)), (.ref b266), (.ref b266), (.ref b258), (.ref b258)])) rfl rfl (hb hby d9_173) _) ?_
  obtain ⟨cl318, Ar318, q318, S318, N318, H318, G318⟩ := id Pf316_7
  have hin318 : ¬ ((3 : Int32) < 0 ∨ cl318.slots.size ≤ ((3 : Int32)).toNatClampNeg) := inb_of S318 ⟨by decide, by decide⟩
  obtain ⟨T319, h319, X319, e319, W319, st319⟩ := stC Xpt hx hZ Ept Ar318 (j := (3 : Int32)) hin318 (g := (mkF m 174 #[.val (.ref x0), .val (.int x1)] [(.int (own_c ls (3 : Int32))), (.int (3 : Int32)), (.ref b266), (.ref b266), (.ref b258), (.ref b258)])) rfl rfl (hb hby d9_174)
  subst e319
  have Sf320 := Safe.wr W319 Pf316_6 Rpt.1 Pf316_2
  have Sf321 := Safe.wr W319 Pf316_6 Rpt.1 Pf316_6
  have R322 := Rpt.trans (CHr.wr W319 Pf316_6 Rpt.1)
  have hk323 := Nat.le_trans hkpt (Nat.le_of_eq W319.size.symm)
  have F324 := Pf316_0.other W319 Pn316_11
  have F325 := Pf316_1.wr W319
  have F326 := Pf316_3.wr W319
  have F327 := Pf316_4.other W319 (Or.inl Pn316_12)
  have F328 := Pf316_5.other W319 (Or.inl Pn316_12)
  have N319 := Fr.snoc X319 Npt Pg316_13
  have Z319 : n0 ≤ T319.heap.size := Nat.le_trans Zpt (Nat.le_of_eq W319.size.symm)
  have K319 : Keep h0 T319.heap [] := Kpt316.wr W319 (Or.inr Pg316_14)
  have V319 : Arv Z T319.heap b266 k266 .char (5 : Int32) [(.int (nar .char (own_c ls (0 : Int32)))), (.int (nar .char (own_c ls (1 : Int32)))), (.int (nar .char (own_c ls (2 : Int32)))), (.int (nar .char (own_c ls (3 : Int32)))), (.int (0 : Int32))] (.int (0 : Int32)) := Arv.set Ar318 q318 S318 N318 H318 G318 (fits_nar_char _) W319 3 rfl (Nat.le_of_ble_eq_true rfl)
  refine Goes.to st319 ?_
  refine gx (XS.dup X319.here hx rfl (hb hby d9_175) rfl rfl) ?_
  refine gx (XS.iconst X319.here hx rfl (hb hby d9_176)) ?_
  refine gx (XS.aloadN X319.here hx rfl (hb hby d9_177) rfl rfl) ?_
  refine gx (XS.iconst X319.here hx rfl (hb hby d9_178)) ?_
  obtain ⟨cl330, Ar330, q330, S330, N330, H330, G330⟩ := id F324
  have hin330 : ¬ ((4 : Int32) < 0 ∨ cl330.slots.size ≤ ((4 : Int32)).toNatClampNeg) := inb_of S330 ⟨by decide, by decide⟩
  have hat330 : cl330.slots[((4 : Int32)).toNatClampNeg]? = some (.int (own_c ls (4 : Int32))) := Has.at H330 hin330 (own_cat ls (4 : Int32))
  refine gx (X319.caload hx (j := (4 : Int32)) (v := (.int (own_c ls (4 : Int32)))) Ar330.1 (State.isArrayOf_alike hZ.alike Ar330.2.1) Ar330.2.2 hin330 hat330 (g := (mkF m 179 #[.val (.ref x0), .val (.int x1)] [(.int (4 : Int32)), (.ref x0), (.int (4 : Int32)), (.ref b266), (.ref b266), (.ref b258), (.ref b258)])) rfl rfl (hb hby d9_179) _) ?_
  obtain ⟨cl331, Ar331, q331, S331, N331, H331, G331⟩ := id V319
  have hin331 : ¬ ((4 : Int32) < 0 ∨ cl331.slots.size ≤ ((4 : Int32)).toNatClampNeg) := inb_of S331 ⟨by decide, by decide⟩
  obtain ⟨T332, h332, X332, e332, W332, st332⟩ := stC X319 hx hZ rfl Ar331 (j := (4 : Int32)) hin331 (g := (mkF m 180 #[.val (.ref x0), .val (.int x1)] [(.int (own_c ls (4 : Int32))), (.int (4 : Int32)), (.ref b266), (.ref b266), (.ref b258), (.ref b258)])) rfl rfl (hb hby d9_180)
  subst e332
  have Sf333 := Safe.wr W332 Sf321 R322.1 Sf320
  have R335 := R322.trans (CHr.wr W332 Sf321 R322.1)
  have hk336 := Nat.le_trans hk323 (Nat.le_of_eq W332.size.symm)
  have F338 := F325.wr W332
  have F339 := F326.wr W332
  have F340 := F327.other W332 (Or.inl Pn316_12)
  have F341 := F328.other W332 (Or.inl Pn316_12)
  have N332 := Fr.snoc X332 N319 Pg316_13
  have Z332 : n0 ≤ T332.heap.size := Nat.le_trans Z319 (Nat.le_of_eq W332.size.symm)
  have K332 : Keep h0 T332.heap [] := K319.wr W332 (Or.inr Pg316_14)
  have V332 : Arv Z T332.heap b266 k266 .char (5 : Int32) [(.int (nar .char (own_c ls (0 : Int32)))), (.int (nar .char (own_c ls (1 : Int32)))), (.int (nar .char (own_c ls (2 : Int32)))), (.int (nar .char (own_c ls (3 : Int32)))), (.int (nar .char (own_c ls (4 : Int32))))] (.int (0 : Int32)) := Arv.set Ar331 q331 S331 N331 H331 G331 (fits_nar_char _) W332 4 rfl (Nat.le_of_ble_eq_true rfl)
  refine Goes.to st332 ?_
  obtain ⟨_, _, ⟨T343, L343, k343, n343⟩, -, X343, ⟨Lc343, hQ343, l343, y343, z343⟩, st343⟩ := X332.specialBack hx (y := own_n16) rfl hown (mvT hZ (own_hw hw 52 rfl)) (mvT hZ (own_hw hw 53 rfl)) (mvT hZ (own_hw hw 54 rfl)) (by decide) (StrChars.Road.backV (W := 1) hZ (own_hwV hw) (own_hw hw 3 rfl) (n0 := n0) Pg316_9 Z332 F339 F340 F341 (cs := [(nar .char (own_c ls (0 : Int32))), (nar .char (own_c ls (1 : Int32))), (nar .char (own_c ls (2 : Int32))), (nar .char (own_c ls (3 : Int32))), (nar .char (own_c ls (4 : Int32)))]) V332 F338 hcs (n := 5) rfl rfl (by decide) (by decide) (own_aS (own_cP hls _) (own_aS (own_cP hls _) (own_aS (own_cP hls _) (own_aS (own_cP hls _) (own_aS (own_cP hls _) own_a0))))) (bs := [(nar .char (own_c ls (0 : Int32))), (nar .char (own_c ls (1 : Int32))), (nar .char (own_c ls (2 : Int32))), (nar .char (own_c ls (3 : Int32))), (nar .char (own_c ls (4 : Int32)))].map fun c => c.toInt8.toInt32) rfl (by decide) (by decide)) (g := (mkF m 181 #[.val (.ref x0), .val (.int x1)] [(.ref b266), (.ref b258), (.ref b258)])) rfl (by rw [hml]; rfl) (Steps.refl _) (a := b258) (argsL := [(.ref b266)]) (rest := [(.ref b258)]) (lenOf own_pd_paCqV rfl) rfl (own_W rfl rfl) (hb hby d9_181) (fun _ _ => ⟨rfl, rfl, (by decide : 2 + 1 ≤ _), (by decide : 9 + 5 ≤ _)⟩)
  dsimp only [Pt.U, Pt.locs, Pt.cells, Pt.slots] at X343 l343 y343 z343 st343 hQ343
  subst l343 y343 z343
  obtain ⟨hv343, Nq343, K343, Ei343, Ci343, t343, kt343, -, -, -, Vi343, Ai343⟩ := hQ343
  subst hv343
  have N343 := Fr.app N332 Nq343
  have R346 := R335.trans (CHr.keep K343 (sfS Sf333 sf0) R335.1)
  have hk347 := Nat.le_trans hk336 K343.1
  have Kc343 : Keep h0 T343.heap [] := K332.trans K343 (allS (Or.inr Pg316_10) all0)
  refine Goes.tr st343 ?_
  show Goes p.tables e below (T343.setTop (mkF m 184 #[.val (.ref x0), .val (.int x1)] [(.ref b258)])) _
  have hkl := Nat.le_trans hk347 (Nat.le_refl T343.heap.size)
  obtain ⟨fs, hr, hrun, hended, hEnd⟩ := X343.leaveW (s := s) hSpt hkl (v := some (.ref b258)) (fun h => by rw [Bd.returns] at h; cases h)
  have hRl : CHr Z own_EL s.vm s.heap T343.vm T343.heap := by
    rw [hh]
    exact R346.trans (CHv.at (s := s) X343 hZ hEL R346.1)
  exact ⟨_, _, retOut X343 hx Bd.returns rfl (Or.inr (Or.inr (Or.inr (Or.inr ⟨rfl, rfl, rfl⟩)))) (hb hby d9_184) hr, hrun, hended, _, _, rfl, ⟨b258, t343, kt343, [(nar .char (own_c ls (0 : Int32))), (nar .char (own_c ls (1 : Int32))), (nar .char (own_c ls (2 : Int32))), (nar .char (own_c ls (3 : Int32))), (nar .char (own_c ls (4 : Int32)))], rfl, N343, (by show Keep h0 T343.heap []; exact Kc343), (by show Exa Z T343.heap b258 "java/lang/String"; exact Ei343), (by show Fld Z T343.heap b258 "java/lang/String" "coder" "B" (.int (0 : Int32)); exact Ci343), (by show Fld Z T343.heap b258 "java/lang/String" "value" "[B" (.ref t343); exact Vi343), (by show Arv Z T343.heap t343 kt343 .byte (Int32.ofNat ([(nar .char (own_c ls (0 : Int32))), (nar .char (own_c ls (1 : Int32))), (nar .char (own_c ls (2 : Int32))), (nar .char (own_c ls (3 : Int32))), (nar .char (own_c ls (4 : Int32)))] : List Int32).length) ((([(nar .char (own_c ls (0 : Int32))), (nar .char (own_c ls (1 : Int32))), (nar .char (own_c ls (2 : Int32))), (nar .char (own_c ls (3 : Int32))), (nar .char (own_c ls (4 : Int32)))] : List Int32).map fun c => c.toInt8.toInt32).map Value.int) (.int (0 : Int32)); exact Ai343), Nat.le_of_ble_eq_true rfl, (own_aS (own_cP hls _) (own_aS (own_cP hls _) (own_aS (own_cP hls _) (own_aS (own_cP hls _) (own_aS (own_cP hls _) own_a0)))))⟩, hRl, hEnd.1, hEnd.2.1, hEnd.2.2.1, hEnd.2.2.2.mono (by decide) (by decide)⟩
set_option maxRecDepth 65536 in
set_option maxHeartbeats 40000000 in
theorem own_pt_own_rm9_400 (l : Launch) (Z : State) (a0 : Array Value) (hw : ∀ d ∈ tables_1, d.before a0 Z = true) (ws : List Jvm.Cond) (x0 : Addr) (x1 : Int32) (kc : ClassId) (ls : List Int32) (cs : Int32) (h0 : Heap) (n0 : Nat) (Z0 : n0 ≤ h0.size) (hPm : own_P_own_rm9 Z a0 x0 x1 kc ls cs h0 n0)
    {p : Program} {e : Env} {s : State} {m : MethodId} {below : List Frame} {meth : Method} {c : Code} {s₁ : State} (Bd : BodyLoose p l own_n17 (head1 (Jvm.Cond.code own_n17 method_4_code 2 (some (.object "java/lang/String")) :: ws) own_r_own_rm9) method_4_code 2 (some (.object "java/lang/String")) e s m #[(.ref x0), (.int x1)] below meth c s₁) (hml0 : c.maxLocals = 2) (hh : s.heap = h0) 
    (b355 : Addr) (b363 : Addr) (k363 : ClassId)
    (Tpt : State) (lpt : List Loc) (vmpt : Vm) (hZ : Z.Warmed39 vmpt) (hown : vmpt.findClass "com/example/polgen/polgen/model/MultiplicityNamedPinLaw" = some m.cls) (hpt : Heap)
    (Xpt : Stand p l e own_r_own_rm9 (s.setVm vmpt) m #[(.ref x0), (.int x1)] below meth c Tpt lpt 2 10) (Ept : Tpt.heap = hpt) (Npt : Fr n0 lpt) (Zpt : n0 ≤ hpt.size) (kpt : Nat) (hSpt : s.Since vmpt kpt) (hkpt : kpt ≤ hpt.size) (Rpt : CHr Z own_EL s.vm h0 vmpt hpt)
    (Pf400_0 : Arv Z hpt x0 kc .char (9 : Int32) (ls.map Value.int) (.int (0 : Int32)))
    (Pf400_1 : Sta Z hpt "java/lang/String" "COMPACT_STRINGS" "Z" (.int cs))
    (Pf400_2 : Safe Z own_EL vmpt hpt b355)
    (Pf400_3 : Exa Z hpt b355 "java/lang/String")
    (Pf400_4 : Fld Z hpt b355 "java/lang/String" "value" "[B" .null)
    (Pf400_5 : Fld Z hpt b355 "java/lang/String" "coder" "B" (.int (0 : Int32)))
    (Pf400_6 : Safe Z own_EL vmpt hpt b363)
    (Pf400_7 : Arv Z hpt b363 k363 .char (6 : Int32) [(.int (nar .char (own_c ls (0 : Int32)))), (.int (nar .char (own_c ls (1 : Int32)))), (.int (0 : Int32)), (.int (0 : Int32)), (.int (0 : Int32)), (.int (0 : Int32))] (.int (0 : Int32)))
    (Pg400_9 : n0 ≤ b355)
    (Pg400_10 : h0.size ≤ b355)
    (Pn400_11 : x0 ≠ b363)
    (Pn400_12 : b355 ≠ b363)
    (Pg400_13 : n0 ≤ b363)
    (Pg400_14 : h0.size ≤ b363)
    (Ph400_15 : (0 : Int32) < x1)
    (Ph400_16 : ¬ (x1 = (1 : Int32)))
    (Ph400_17 : ¬ (x1 = (2 : Int32)))
    (Ph400_18 : ¬ (x1 = (3 : Int32)))
    (Ph400_19 : ¬ (x1 = (4 : Int32)))
    (Ph400_20 : ¬ (x1 = (5 : Int32)))
    (Ph400_21 : x1 = (6 : Int32))
    (Kpt400 : Keep h0 hpt [])
    : Goes p.tables e below (Tpt.setTop (mkF m 215 #[.val (.ref x0), .val (.int x1)] [(.int (2 : Int32)), (.ref x0), (.int (2 : Int32)), (.ref b363), (.ref b363), (.ref b355), (.ref b355)])) (own_RH Z below s (own_Q_own_rm9 Z x0 x1 kc ls cs h0 n0) own_r_own_rm9.cells own_r_own_rm9.slots) := by
  obtain ⟨VC, hls, SC, hcs⟩ := id hPm
  have hx := Bd.exec
  have hby := Bd.bytes
  have hml : c.maxLocals = 2 := hml0
  have hnm := (name_of_methodNamed Bd.named Bd.method).1
  have own_wS' : ∀ a ∈ Bundle.stringAtoms, a.before a0 Z = true := own_wS hw
  have hEL := own_EW hw
  obtain ⟨cl401, Ar401, q401, S401, N401, H401, G401⟩ := id Pf400_0
  have hin401 : ¬ ((2 : Int32) < 0 ∨ cl401.slots.size ≤ ((2 : Int32)).toNatClampNeg) := inb_of S401 ⟨by decide, by decide⟩
  have hat401 : cl401.slots[((2 : Int32)).toNatClampNeg]? = some (.int (own_c ls (2 : Int32))) := Has.at H401 hin401 (own_cat ls (2 : Int32))
  refine gx (Xpt.caload hx (j := (2 : Int32)) (v := (.int (own_c ls (2 : Int32)))) (by rw [Ept]; exact Ar401.1) (State.isArrayOf_alike hZ.alike Ar401.2.1) Ar401.2.2 hin401 hat401 (g := (mkF m 215 #[.val (.ref x0), .val (.int x1)] [(.int (2 : Int32)), (.ref x0), (.int (2 : Int32)), (.ref b363), (.ref b363), (.ref b355), (.ref b355)])) rfl rfl (hb hby d9_215) _) ?_
  obtain ⟨cl402, Ar402, q402, S402, N402, H402, G402⟩ := id Pf400_7
  have hin402 : ¬ ((2 : Int32) < 0 ∨ cl402.slots.size ≤ ((2 : Int32)).toNatClampNeg) := inb_of S402 ⟨by decide, by decide⟩
  obtain ⟨T403, h403, X403, e403, W403, st403⟩ := stC Xpt hx hZ Ept Ar402 (j := (2 : Int32)) hin402 (g := (mkF m 216 #[.val (.ref x0), .val (.int x1)] [(.int (own_c ls (2 : Int32))), (.int (2 : Int32)), (.ref b363), (.ref b363), (.ref b355), (.ref b355)])) rfl rfl (hb hby d9_216)
  subst e403
  have Sf404 := Safe.wr W403 Pf400_6 Rpt.1 Pf400_2
  have Sf405 := Safe.wr W403 Pf400_6 Rpt.1 Pf400_6
  have R406 := Rpt.trans (CHr.wr W403 Pf400_6 Rpt.1)
  have hk407 := Nat.le_trans hkpt (Nat.le_of_eq W403.size.symm)
  have F408 := Pf400_0.other W403 Pn400_11
  have F409 := Pf400_1.wr W403
  have F410 := Pf400_3.wr W403
  have F411 := Pf400_4.other W403 (Or.inl Pn400_12)
  have F412 := Pf400_5.other W403 (Or.inl Pn400_12)
  have N403 := Fr.snoc X403 Npt Pg400_13
  have Z403 : n0 ≤ T403.heap.size := Nat.le_trans Zpt (Nat.le_of_eq W403.size.symm)
  have K403 : Keep h0 T403.heap [] := Kpt400.wr W403 (Or.inr Pg400_14)
  have V403 : Arv Z T403.heap b363 k363 .char (6 : Int32) [(.int (nar .char (own_c ls (0 : Int32)))), (.int (nar .char (own_c ls (1 : Int32)))), (.int (nar .char (own_c ls (2 : Int32)))), (.int (0 : Int32)), (.int (0 : Int32)), (.int (0 : Int32))] (.int (0 : Int32)) := Arv.set Ar402 q402 S402 N402 H402 G402 (fits_nar_char _) W403 2 rfl (Nat.le_of_ble_eq_true rfl)
  refine Goes.to st403 ?_
  refine gx (XS.dup X403.here hx rfl (hb hby d9_217) rfl rfl) ?_
  refine gx (XS.iconst X403.here hx rfl (hb hby d9_218)) ?_
  refine gx (XS.aloadN X403.here hx rfl (hb hby d9_219) rfl rfl) ?_
  refine gx (XS.iconst X403.here hx rfl (hb hby d9_220)) ?_
  obtain ⟨cl414, Ar414, q414, S414, N414, H414, G414⟩ := id F408
  have hin414 : ¬ ((3 : Int32) < 0 ∨ cl414.slots.size ≤ ((3 : Int32)).toNatClampNeg) := inb_of S414 ⟨by decide, by decide⟩
  have hat414 : cl414.slots[((3 : Int32)).toNatClampNeg]? = some (.int (own_c ls (3 : Int32))) := Has.at H414 hin414 (own_cat ls (3 : Int32))
  refine gx (X403.caload hx (j := (3 : Int32)) (v := (.int (own_c ls (3 : Int32)))) Ar414.1 (State.isArrayOf_alike hZ.alike Ar414.2.1) Ar414.2.2 hin414 hat414 (g := (mkF m 221 #[.val (.ref x0), .val (.int x1)] [(.int (3 : Int32)), (.ref x0), (.int (3 : Int32)), (.ref b363), (.ref b363), (.ref b355), (.ref b355)])) rfl rfl (hb hby d9_221) _) ?_
  obtain ⟨cl415, Ar415, q415, S415, N415, H415, G415⟩ := id V403
  have hin415 : ¬ ((3 : Int32) < 0 ∨ cl415.slots.size ≤ ((3 : Int32)).toNatClampNeg) := inb_of S415 ⟨by decide, by decide⟩
  obtain ⟨T416, h416, X416, e416, W416, st416⟩ := stC X403 hx hZ rfl Ar415 (j := (3 : Int32)) hin415 (g := (mkF m 222 #[.val (.ref x0), .val (.int x1)] [(.int (own_c ls (3 : Int32))), (.int (3 : Int32)), (.ref b363), (.ref b363), (.ref b355), (.ref b355)])) rfl rfl (hb hby d9_222)
  subst e416
  have Sf417 := Safe.wr W416 Sf405 R406.1 Sf404
  have Sf418 := Safe.wr W416 Sf405 R406.1 Sf405
  have R419 := R406.trans (CHr.wr W416 Sf405 R406.1)
  have hk420 := Nat.le_trans hk407 (Nat.le_of_eq W416.size.symm)
  have F421 := F408.other W416 Pn400_11
  have F422 := F409.wr W416
  have F423 := F410.wr W416
  have F424 := F411.other W416 (Or.inl Pn400_12)
  have F425 := F412.other W416 (Or.inl Pn400_12)
  have N416 := Fr.snoc X416 N403 Pg400_13
  have Z416 : n0 ≤ T416.heap.size := Nat.le_trans Z403 (Nat.le_of_eq W416.size.symm)
  have K416 : Keep h0 T416.heap [] := K403.wr W416 (Or.inr Pg400_14)
  have V416 : Arv Z T416.heap b363 k363 .char (6 : Int32) [(.int (nar .char (own_c ls (0 : Int32)))), (.int (nar .char (own_c ls (1 : Int32)))), (.int (nar .char (own_c ls (2 : Int32)))), (.int (nar .char (own_c ls (3 : Int32)))), (.int (0 : Int32)), (.int (0 : Int32))] (.int (0 : Int32)) := Arv.set Ar415 q415 S415 N415 H415 G415 (fits_nar_char _) W416 3 rfl (Nat.le_of_ble_eq_true rfl)
  refine Goes.to st416 ?_
  refine gx (XS.dup X416.here hx rfl (hb hby d9_223) rfl rfl) ?_
  refine gx (XS.iconst X416.here hx rfl (hb hby d9_224)) ?_
  refine gx (XS.aloadN X416.here hx rfl (hb hby d9_225) rfl rfl) ?_
  refine gx (XS.iconst X416.here hx rfl (hb hby d9_226)) ?_
  obtain ⟨cl427, Ar427, q427, S427, N427, H427, G427⟩ := id F421
  have hin427 : ¬ ((4 : Int32) < 0 ∨ cl427.slots.size ≤ ((4 : Int32)).toNatClampNeg) := inb_of S427 ⟨by decide, by decide⟩
  have hat427 : cl427.slots[((4 : Int32)).toNatClampNeg]? = some (.int (own_c ls (4 : Int32))) := Has.at H427 hin427 (own_cat ls (4 : Int32))
  refine gx (X416.caload hx (j := (4 : Int32)) (v := (.int (own_c ls (4 : Int32)))) Ar427.1 (State.isArrayOf_alike hZ.alike Ar427.2.1) Ar427.2.2 hin427 hat427 (g := (mkF m 227 #[.val (.ref x0), .val (.int x1)] [(.int (4 : Int32)), (.ref x0), (.int (4 : Int32)), (.ref b363), (.ref b363), (.ref b355), (.ref b355)])) rfl rfl (hb hby d9_227) _) ?_
  obtain ⟨cl428, Ar428, q428, S428, N428, H428, G428⟩ := id V416
  have hin428 : ¬ ((4 : Int32) < 0 ∨ cl428.slots.size ≤ ((4 : Int32)).toNatClampNeg) := inb_of S428 ⟨by decide, by decide⟩
  obtain ⟨T429, h429, X429, e429, W429, st429⟩ := stC X416 hx hZ rfl Ar428 (j := (4 : Int32)) hin428 (g := (mkF m 228 #[.val (.ref x0), .val (.int x1)] [(.int (own_c ls (4 : Int32))), (.int (4 : Int32)), (.ref b363), (.ref b363), (.ref b355), (.ref b355)])) rfl rfl (hb hby d9_228)
  subst e429
  have Sf430 := Safe.wr W429 Sf418 R419.1 Sf417
  have Sf431 := Safe.wr W429 Sf418 R419.1 Sf418
  have R432 := R419.trans (CHr.wr W429 Sf418 R419.1)
  have hk433 := Nat.le_trans hk420 (Nat.le_of_eq W429.size.symm)
  have F434 := F421.other W429 Pn400_11
  have F435 := F422.wr W429
  have F436 := F423.wr W429
  have F437 := F424.other W429 (Or.inl Pn400_12)
  have F438 := F425.other W429 (Or.inl Pn400_12)
  have N429 := Fr.snoc X429 N416 Pg400_13
  have Z429 : n0 ≤ T429.heap.size := Nat.le_trans Z416 (Nat.le_of_eq W429.size.symm)
  have K429 : Keep h0 T429.heap [] := K416.wr W429 (Or.inr Pg400_14)
  have V429 : Arv Z T429.heap b363 k363 .char (6 : Int32) [(.int (nar .char (own_c ls (0 : Int32)))), (.int (nar .char (own_c ls (1 : Int32)))), (.int (nar .char (own_c ls (2 : Int32)))), (.int (nar .char (own_c ls (3 : Int32)))), (.int (nar .char (own_c ls (4 : Int32)))), (.int (0 : Int32))] (.int (0 : Int32)) := Arv.set Ar428 q428 S428 N428 H428 G428 (fits_nar_char _) W429 4 rfl (Nat.le_of_ble_eq_true rfl)
  refine Goes.to st429 ?_
  refine gx (XS.dup X429.here hx rfl (hb hby d9_229) rfl rfl) ?_
  refine gx (XS.iconst X429.here hx rfl (hb hby d9_230)) ?_
  refine gx (XS.aloadN X429.here hx rfl (hb hby d9_231) rfl rfl) ?_
  refine gx (XS.iconst X429.here hx rfl (hb hby d9_232)) ?_
  obtain ⟨cl440, Ar440, q440, S440, N440, H440, G440⟩ := id F434
  have hin440 : ¬ ((5 : Int32) < 0 ∨ cl440.slots.size ≤ ((5 : Int32)).toNatClampNeg) := inb_of S440 ⟨by decide, by decide⟩
  have hat440 : cl440.slots[((5 : Int32)).toNatClampNeg]? = some (.int (own_c ls (5 : Int32))) := Has.at H440 hin440 (own_cat ls (5 : Int32))
  refine gx (X429.caload hx (j := (5 : Int32)) (v := (.int (own_c ls (5 : Int32)))) Ar440.1 (State.isArrayOf_alike hZ.alike Ar440.2.1) Ar440.2.2 hin440 hat440 (g := (mkF m 233 #[.val (.ref x0), .val (.int x1)] [(.int (5 : Int32)), (.ref x0), (.int (5 : Int32)), (.ref b363), (.ref b363), (.ref b355), (.ref b355)])) rfl rfl (hb hby d9_233) _) ?_
  obtain ⟨cl441, Ar441, q441, S441, N441, H441, G441⟩ := id V429
  have hin441 : ¬ ((5 : Int32) < 0 ∨ cl441.slots.size ≤ ((5 : Int32)).toNatClampNeg) := inb_of S441 ⟨by decide, by decide⟩
  obtain ⟨T442, h442, X442, e442, W442, st442⟩ := stC X429 hx hZ rfl Ar441 (j := (5 : Int32)) hin441 (g := (mkF m 234 #[.val (.ref x0), .val (.int x1)] [(.int (own_c ls (5 : Int32))), (.int (5 : Int32)), (.ref b363), (.ref b363), (.ref b355), (.ref b355)])) rfl rfl (hb hby d9_234)
  subst e442
  have Sf443 := Safe.wr W442 Sf431 R432.1 Sf430
  have R445 := R432.trans (CHr.wr W442 Sf431 R432.1)
  have hk446 := Nat.le_trans hk433 (Nat.le_of_eq W442.size.symm)
  have F448 := F435.wr W442
  have F449 := F436.wr W442
  have F450 := F437.other W442 (Or.inl Pn400_12)
  have F451 := F438.other W442 (Or.inl Pn400_12)
  have N442 := Fr.snoc X442 N429 Pg400_13
  have Z442 : n0 ≤ T442.heap.size := Nat.le_trans Z429 (Nat.le_of_eq W442.size.symm)
  have K442 : Keep h0 T442.heap [] := K429.wr W442 (Or.inr Pg400_14)
  have V442 : Arv Z T442.heap b363 k363 .char (6 : Int32) [(.int (nar .char (own_c ls (0 : Int32)))), (.int (nar .char (own_c ls (1 : Int32)))), (.int (nar .char (own_c ls (2 : Int32)))), (.int (nar .char (own_c ls (3 : Int32)))), (.int (nar .char (own_c ls (4 : Int32)))), (.int (nar .char (own_c ls (5 : Int32))))] (.int (0 : Int32)) := Arv.set Ar441 q441 S441 N441 H441 G441 (fits_nar_char _) W442 5 rfl (Nat.le_of_ble_eq_true rfl)
  refine Goes.to st442 ?_
  obtain ⟨_, _, ⟨T453, L453, k453, n453⟩, -, X453, ⟨Lc453, hQ453, l453, y453, z453⟩, st453⟩ := X442.specialBack hx (y := own_n16) rfl hown (mvT hZ (own_hw hw 52 rfl)) (mvT hZ (own_hw hw 53 rfl)) (mvT hZ (own_hw hw 54 rfl)) (by decide) (StrChars.Road.backV (W := 1) hZ (own_hwV hw) (own_hw hw 3 rfl) (n0 := n0) Pg400_9 Z442 F449 F450 F451 (cs := [(nar .char (own_c ls (0 : Int32))), (nar .char (own_c ls (1 : Int32))), (nar .char (own_c ls (2 : Int32))), (nar .char (own_c ls (3 : Int32))), (nar .char (own_c ls (4 : Int32))), (nar .char (own_c ls (5 : Int32)))]) V442 F448 hcs (n := 6) rfl rfl (by decide) (by decide) (own_aS (own_cP hls _) (own_aS (own_cP hls _) (own_aS (own_cP hls _) (own_aS (own_cP hls _) (own_aS (own_cP hls _) (own_aS (own_cP hls _) own_a0)))))) (bs := [(nar .char (own_c ls (0 : Int32))), (nar .char (own_c ls (1 : Int32))), (nar .char (own_c ls (2 : Int32))), (nar .char (own_c ls (3 : Int32))), (nar .char (own_c ls (4 : Int32))), (nar .char (own_c ls (5 : Int32)))].map fun c => c.toInt8.toInt32) rfl (by decide) (by decide)) (g := (mkF m 235 #[.val (.ref x0), .val (.int x1)] [(.ref b363), (.ref b355), (.ref b355)])) rfl (by rw [hml]; rfl) (Steps.refl _) (a := b355) (argsL := [(.ref b363)]) (rest := [(.ref b355)]) (lenOf own_pd_paCqV rfl) rfl (own_W rfl rfl) (hb hby d9_235) (fun _ _ => ⟨rfl, rfl, (by decide : 2 + 1 ≤ _), (by decide : 10 + 6 ≤ _)⟩)
  dsimp only [Pt.U, Pt.locs, Pt.cells, Pt.slots] at X453 l453 y453 z453 st453 hQ453
  subst l453 y453 z453
  obtain ⟨hv453, Nq453, K453, Ei453, Ci453, t453, kt453, -, -, -, Vi453, Ai453⟩ := hQ453
  subst hv453
  have N453 := Fr.app N442 Nq453
  have R456 := R445.trans (CHr.keep K453 (sfS Sf443 sf0) R445.1)
  have hk457 := Nat.le_trans hk446 K453.1
  have Kc453 : Keep h0 T453.heap [] := K442.trans K453 (allS (Or.inr Pg400_10) all0)
  refine Goes.tr st453 ?_
  show Goes p.tables e below (T453.setTop (mkF m 238 #[.val (.ref x0), .val (.int x1)] [(.ref b355)])) _
  have hkl := Nat.le_trans hk457 (Nat.le_refl T453.heap.size)
  obtain ⟨fs, hr, hrun, hended, hEnd⟩ := X453.leaveW (s := s) hSpt hkl (v := some (.ref b355)) (fun h => by rw [Bd.returns] at h; cases h)
  have hRl : CHr Z own_EL s.vm s.heap T453.vm T453.heap := by
    rw [hh]
    exact R456.trans (CHv.at (s := s) X453 hZ hEL R456.1)
  exact ⟨_, _, retOut X453 hx Bd.returns rfl (Or.inr (Or.inr (Or.inr (Or.inr ⟨rfl, rfl, rfl⟩)))) (hb hby d9_238) hr, hrun, hended, _, _, rfl, ⟨b355, t453, kt453, [(nar .char (own_c ls (0 : Int32))), (nar .char (own_c ls (1 : Int32))), (nar .char (own_c ls (2 : Int32))), (nar .char (own_c ls (3 : Int32))), (nar .char (own_c ls (4 : Int32))), (nar .char (own_c ls (5 : Int32)))], rfl, N453, (by show Keep h0 T453.heap []; exact Kc453), (by show Exa Z T453.heap b355 "java/lang/String"; exact Ei453), (by show Fld Z T453.heap b355 "java/lang/String" "coder" "B" (.int (0 : Int32)); exact Ci453), (by show Fld Z T453.heap b355 "java/lang/String" "value" "[B" (.ref t453); exact Vi453), (by show Arv Z T453.heap t453 kt453 .byte (Int32.ofNat ([(nar .char (own_c ls (0 : Int32))), (nar .char (own_c ls (1 : Int32))), (nar .char (own_c ls (2 : Int32))), (nar .char (own_c ls (3 : Int32))), (nar .char (own_c ls (4 : Int32))), (nar .char (own_c ls (5 : Int32)))] : List Int32).length) ((([(nar .char (own_c ls (0 : Int32))), (nar .char (own_c ls (1 : Int32))), (nar .char (own_c ls (2 : Int32))), (nar .char (own_c ls (3 : Int32))), (nar .char (own_c ls (4 : Int32))), (nar .char (own_c ls (5 : Int32)))] : List Int32).map fun c => c.toInt8.toInt32).map Value.int) (.int (0 : Int32)); exact Ai453), Nat.le_of_ble_eq_true rfl, (own_aS (own_cP hls _) (own_aS (own_cP hls _) (own_aS (own_cP hls _) (own_aS (own_cP hls _) (own_aS (own_cP hls _) (own_aS (own_cP hls _) own_a0))))))⟩, hRl, hEnd.1, hEnd.2.1, hEnd.2.2.1, hEnd.2.2.2.mono (by decide) (by decide)⟩
set_option maxRecDepth 65536 in
set_option maxHeartbeats 40000000 in
theorem own_pt_own_rm9_510 (l : Launch) (Z : State) (a0 : Array Value) (hw : ∀ d ∈ tables_1, d.before a0 Z = true) (ws : List Jvm.Cond) (x0 : Addr) (x1 : Int32) (kc : ClassId) (ls : List Int32) (cs : Int32) (h0 : Heap) (n0 : Nat) (Z0 : n0 ≤ h0.size) (hPm : own_P_own_rm9 Z a0 x0 x1 kc ls cs h0 n0)
    {p : Program} {e : Env} {s : State} {m : MethodId} {below : List Frame} {meth : Method} {c : Code} {s₁ : State} (Bd : BodyLoose p l own_n17 (head1 (Jvm.Cond.code own_n17 method_4_code 2 (some (.object "java/lang/String")) :: ws) own_r_own_rm9) method_4_code 2 (some (.object "java/lang/String")) e s m #[(.ref x0), (.int x1)] below meth c s₁) (hml0 : c.maxLocals = 2) (hh : s.heap = h0) 
    (b465 : Addr) (b473 : Addr) (k473 : ClassId)
    (Tpt : State) (lpt : List Loc) (vmpt : Vm) (hZ : Z.Warmed39 vmpt) (hown : vmpt.findClass "com/example/polgen/polgen/model/MultiplicityNamedPinLaw" = some m.cls) (hpt : Heap)
    (Xpt : Stand p l e own_r_own_rm9 (s.setVm vmpt) m #[(.ref x0), (.int x1)] below meth c Tpt lpt 2 11) (Ept : Tpt.heap = hpt) (Npt : Fr n0 lpt) (Zpt : n0 ≤ hpt.size) (kpt : Nat) (hSpt : s.Since vmpt kpt) (hkpt : kpt ≤ hpt.size) (Rpt : CHr Z own_EL s.vm h0 vmpt hpt)
    (Pf510_0 : Arv Z hpt x0 kc .char (9 : Int32) (ls.map Value.int) (.int (0 : Int32)))
    (Pf510_1 : Sta Z hpt "java/lang/String" "COMPACT_STRINGS" "Z" (.int cs))
    (Pf510_2 : Safe Z own_EL vmpt hpt b465)
    (Pf510_3 : Exa Z hpt b465 "java/lang/String")
    (Pf510_4 : Fld Z hpt b465 "java/lang/String" "value" "[B" .null)
    (Pf510_5 : Fld Z hpt b465 "java/lang/String" "coder" "B" (.int (0 : Int32)))
    (Pf510_6 : Safe Z own_EL vmpt hpt b473)
    (Pf510_7 : Arv Z hpt b473 k473 .char (7 : Int32) [(.int (nar .char (own_c ls (0 : Int32)))), (.int (nar .char (own_c ls (1 : Int32)))), (.int (0 : Int32)), (.int (0 : Int32)), (.int (0 : Int32)), (.int (0 : Int32)), (.int (0 : Int32))] (.int (0 : Int32)))
    (Pg510_9 : n0 ≤ b465)
    (Pg510_10 : h0.size ≤ b465)
    (Pn510_11 : x0 ≠ b473)
    (Pn510_12 : b465 ≠ b473)
    (Pg510_13 : n0 ≤ b473)
    (Pg510_14 : h0.size ≤ b473)
    (Ph510_15 : (0 : Int32) < x1)
    (Ph510_16 : ¬ (x1 = (1 : Int32)))
    (Ph510_17 : ¬ (x1 = (2 : Int32)))
    (Ph510_18 : ¬ (x1 = (3 : Int32)))
    (Ph510_19 : ¬ (x1 = (4 : Int32)))
    (Ph510_20 : ¬ (x1 = (5 : Int32)))
    (Ph510_21 : ¬ (x1 = (6 : Int32)))
    (Ph510_22 : x1 = (7 : Int32))
    (Kpt510 : Keep h0 hpt [])
    : Goes p.tables e below (Tpt.setTop (mkF m 266 #[.val (.ref x0), .val (.int x1)] [(.ref b473), (.ref b473), (.ref b465), (.ref b465)])) (own_RH Z below s (own_Q_own_rm9 Z x0 x1 kc ls cs h0 n0) own_r_own_rm9.cells own_r_own_rm9.slots) := by
  obtain ⟨VC, hls, SC, hcs⟩ := id hPm
  have hx := Bd.exec
  have hby := Bd.bytes
  have hml : c.maxLocals = 2 := hml0
  have hnm := (name_of_methodNamed Bd.named Bd.method).1
  have own_wS' : ∀ a ∈ Bundle.stringAtoms, a.before a0 Z = true := own_wS hw
  have hEL := own_EW hw
  refine gx (XS.iconst Xpt.here hx rfl (hb hby d9_266)) ?_
  refine gx (XS.aloadN Xpt.here hx rfl (hb hby d9_267) rfl rfl) ?_
  refine gx (XS.iconst Xpt.here hx rfl (hb hby d9_268)) ?_
  obtain ⟨cl511, Ar511, q511, S511, N511, H511, G511⟩ := id Pf510_0
  have hin511 : ¬ ((2 : Int32) < 0 ∨ cl511.slots.size ≤ ((2 : Int32)).toNatClampNeg) := inb_of S511 ⟨by decide, by decide⟩
  have hat511 : cl511.slots[((2 : Int32)).toNatClampNeg]? = some (.int (own_c ls (2 : Int32))) := Has.at H511 hin511 (own_cat ls (2 : Int32))
  refine gx (Xpt.caload hx (j := (2 : Int32)) (v := (.int (own_c ls (2 : Int32)))) (by rw [Ept]; exact Ar511.1) (State.isArrayOf_alike hZ.alike Ar511.2.1) Ar511.2.2 hin511 hat511 (g := (mkF m 269 #[.val (.ref x0), .val (.int x1)] [(.int (2 : Int32)), (.ref x0), (.int (2 : Int32)), (.ref b473), (.ref b473), (.ref b465), (.ref b465)])) rfl rfl (hb hby d9_269) _) ?_
  obtain ⟨cl512, Ar512, q512, S512, N512, H512, G512⟩ := id Pf510_7
  have hin512 : ¬ ((2 : Int32) < 0 ∨ cl512.slots.size ≤ ((2 : Int32)).toNatClampNeg) := inb_of S512 ⟨by decide, by decide⟩
  obtain ⟨T513, h513, X513, e513, W513, st513⟩ := stC Xpt hx hZ Ept Ar512 (j := (2 : Int32)) hin512 (g := (mkF m 270 #[.val (.ref x0), .val (.int x1)] [(.int (own_c ls (2 : Int32))), (.int (2 : Int32)), (.ref b473), (.ref b473), (.ref b465), (.ref b465)])) rfl rfl (hb hby d9_270)
  subst e513
  have Sf514 := Safe.wr W513 Pf510_6 Rpt.1 Pf510_2
  have Sf515 := Safe.wr W513 Pf510_6 Rpt.1 Pf510_6
  have R516 := Rpt.trans (CHr.wr W513 Pf510_6 Rpt.1)
  have hk517 := Nat.le_trans hkpt (Nat.le_of_eq W513.size.symm)
  have F518 := Pf510_0.other W513 Pn510_11
  have F519 := Pf510_1.wr W513
  have F520 := Pf510_3.wr W513
  have F521 := Pf510_4.other W513 (Or.inl Pn510_12)
  have F522 := Pf510_5.other W513 (Or.inl Pn510_12)
  have N513 := Fr.snoc X513 Npt Pg510_13
  have Z513 : n0 ≤ T513.heap.size := Nat.le_trans Zpt (Nat.le_of_eq W513.size.symm)
  have K513 : Keep h0 T513.heap [] := Kpt510.wr W513 (Or.inr Pg510_14)
  have V513 : Arv Z T513.heap b473 k473 .char (7 : Int32) [(.int (nar .char (own_c ls (0 : Int32)))), (.int (nar .char (own_c ls (1 : Int32)))), (.int (nar .char (own_c ls (2 : Int32)))), (.int (0 : Int32)), (.int (0 : Int32)), (.int (0 : Int32)), (.int (0 : Int32))] (.int (0 : Int32)) := Arv.set Ar512 q512 S512 N512 H512 G512 (fits_nar_char _) W513 2 rfl (Nat.le_of_ble_eq_true rfl)
  refine Goes.to st513 ?_
  refine gx (XS.dup X513.here hx rfl (hb hby d9_271) rfl rfl) ?_
  refine gx (XS.iconst X513.here hx rfl (hb hby d9_272)) ?_
  refine gx (XS.aloadN X513.here hx rfl (hb hby d9_273) rfl rfl) ?_
  refine gx (XS.iconst X513.here hx rfl (hb hby d9_274)) ?_
  obtain ⟨cl524, Ar524, q524, S524, N524, H524, G524⟩ := id F518
  have hin524 : ¬ ((3 : Int32) < 0 ∨ cl524.slots.size ≤ ((3 : Int32)).toNatClampNeg) := inb_of S524 ⟨by decide, by decide⟩
  have hat524 : cl524.slots[((3 : Int32)).toNatClampNeg]? = some (.int (own_c ls (3 : Int32))) := Has.at H524 hin524 (own_cat ls (3 : Int32))
  refine gx (X513.caload hx (j := (3 : Int32)) (v := (.int (own_c ls (3 : Int32)))) Ar524.1 (State.isArrayOf_alike hZ.alike Ar524.2.1) Ar524.2.2 hin524 hat524 (g := (mkF m 275 #[.val (.ref x0), .val (.int x1)] [(.int (3 : Int32)), (.ref x0), (.int (3 : Int32)), (.ref b473), (.ref b473), (.ref b465), (.ref b465)])) rfl rfl (hb hby d9_275) _) ?_
  obtain ⟨cl525, Ar525, q525, S525, N525, H525, G525⟩ := id V513
  have hin525 : ¬ ((3 : Int32) < 0 ∨ cl525.slots.size ≤ ((3 : Int32)).toNatClampNeg) := inb_of S525 ⟨by decide, by decide⟩
  obtain ⟨T526, h526, X526, e526, W526, st526⟩ := stC X513 hx hZ rfl Ar525 (j := (3 : Int32)) hin525 (g := (mkF m 276 #[.val (.ref x0), .val (.int x1)] [(.int (own_c ls (3 : Int32))), (.int (3 : Int32)), (.ref b473), (.ref b473), (.ref b465), (.ref b465)])) rfl rfl (hb hby d9_276)
  subst e526
  have Sf527 := Safe.wr W526 Sf515 R516.1 Sf514
  have Sf528 := Safe.wr W526 Sf515 R516.1 Sf515
  have R529 := R516.trans (CHr.wr W526 Sf515 R516.1)
  have hk530 := Nat.le_trans hk517 (Nat.le_of_eq W526.size.symm)
  have F531 := F518.other W526 Pn510_11
  have F532 := F519.wr W526
  have F533 := F520.wr W526
  have F534 := F521.other W526 (Or.inl Pn510_12)
  have F535 := F522.other W526 (Or.inl Pn510_12)
  have N526 := Fr.snoc X526 N513 Pg510_13
  have Z526 : n0 ≤ T526.heap.size := Nat.le_trans Z513 (Nat.le_of_eq W526.size.symm)
  have K526 : Keep h0 T526.heap [] := K513.wr W526 (Or.inr Pg510_14)
  have V526 : Arv Z T526.heap b473 k473 .char (7 : Int32) [(.int (nar .char (own_c ls (0 : Int32)))), (.int (nar .char (own_c ls (1 : Int32)))), (.int (nar .char (own_c ls (2 : Int32)))), (.int (nar .char (own_c ls (3 : Int32)))), (.int (0 : Int32)), (.int (0 : Int32)), (.int (0 : Int32))] (.int (0 : Int32)) := Arv.set Ar525 q525 S525 N525 H525 G525 (fits_nar_char _) W526 3 rfl (Nat.le_of_ble_eq_true rfl)
  refine Goes.to st526 ?_
  refine gx (XS.dup X526.here hx rfl (hb hby d9_277) rfl rfl) ?_
  refine gx (XS.iconst X526.here hx rfl (hb hby d9_278)) ?_
  refine gx (XS.aloadN X526.here hx rfl (hb hby d9_279) rfl rfl) ?_
  refine gx (XS.iconst X526.here hx rfl (hb hby d9_280)) ?_
  obtain ⟨cl537, Ar537, q537, S537, N537, H537, G537⟩ := id F531
  have hin537 : ¬ ((4 : Int32) < 0 ∨ cl537.slots.size ≤ ((4 : Int32)).toNatClampNeg) := inb_of S537 ⟨by decide, by decide⟩
  have hat537 : cl537.slots[((4 : Int32)).toNatClampNeg]? = some (.int (own_c ls (4 : Int32))) := Has.at H537 hin537 (own_cat ls (4 : Int32))
  refine gx (X526.caload hx (j := (4 : Int32)) (v := (.int (own_c ls (4 : Int32)))) Ar537.1 (State.isArrayOf_alike hZ.alike Ar537.2.1) Ar537.2.2 hin537 hat537 (g := (mkF m 281 #[.val (.ref x0), .val (.int x1)] [(.int (4 : Int32)), (.ref x0), (.int (4 : Int32)), (.ref b473), (.ref b473), (.ref b465), (.ref b465)])) rfl rfl (hb hby d9_281) _) ?_
  obtain ⟨cl538, Ar538, q538, S538, N538, H538, G538⟩ := id V526
  have hin538 : ¬ ((4 : Int32) < 0 ∨ cl538.slots.size ≤ ((4 : Int32)).toNatClampNeg) := inb_of S538 ⟨by decide, by decide⟩
  obtain ⟨T539, h539, X539, e539, W539, st539⟩ := stC X526 hx hZ rfl Ar538 (j := (4 : Int32)) hin538 (g := (mkF m 282 #[.val (.ref x0), .val (.int x1)] [(.int (own_c ls (4 : Int32))), (.int (4 : Int32)), (.ref b473), (.ref b473), (.ref b465), (.ref b465)])) rfl rfl (hb hby d9_282)
  subst e539
  have Sf540 := Safe.wr W539 Sf528 R529.1 Sf527
  have Sf541 := Safe.wr W539 Sf528 R529.1 Sf528
  have R542 := R529.trans (CHr.wr W539 Sf528 R529.1)
  have hk543 := Nat.le_trans hk530 (Nat.le_of_eq W539.size.symm)
  have F544 := F531.other W539 Pn510_11
  have F545 := F532.wr W539
  have F546 := F533.wr W539
  have F547 := F534.other W539 (Or.inl Pn510_12)
  have F548 := F535.other W539 (Or.inl Pn510_12)
  have N539 := Fr.snoc X539 N526 Pg510_13
  have Z539 : n0 ≤ T539.heap.size := Nat.le_trans Z526 (Nat.le_of_eq W539.size.symm)
  have K539 : Keep h0 T539.heap [] := K526.wr W539 (Or.inr Pg510_14)
  have V539 : Arv Z T539.heap b473 k473 .char (7 : Int32) [(.int (nar .char (own_c ls (0 : Int32)))), (.int (nar .char (own_c ls (1 : Int32)))), (.int (nar .char (own_c ls (2 : Int32)))), (.int (nar .char (own_c ls (3 : Int32)))), (.int (nar .char (own_c ls (4 : Int32)))), (.int (0 : Int32)), (.int (0 : Int32))] (.int (0 : Int32)) := Arv.set Ar538 q538 S538 N538 H538 G538 (fits_nar_char _) W539 4 rfl (Nat.le_of_ble_eq_true rfl)
  refine Goes.to st539 ?_
  refine gx (XS.dup X539.here hx rfl (hb hby d9_283) rfl rfl) ?_
  refine gx (XS.iconst X539.here hx rfl (hb hby d9_284)) ?_
  refine gx (XS.aloadN X539.here hx rfl (hb hby d9_285) rfl rfl) ?_
  refine gx (XS.iconst X539.here hx rfl (hb hby d9_286)) ?_
  obtain ⟨cl550, Ar550, q550, S550, N550, H550, G550⟩ := id F544
  have hin550 : ¬ ((5 : Int32) < 0 ∨ cl550.slots.size ≤ ((5 : Int32)).toNatClampNeg) := inb_of S550 ⟨by decide, by decide⟩
  have hat550 : cl550.slots[((5 : Int32)).toNatClampNeg]? = some (.int (own_c ls (5 : Int32))) := Has.at H550 hin550 (own_cat ls (5 : Int32))
  refine gx (X539.caload hx (j := (5 : Int32)) (v := (.int (own_c ls (5 : Int32)))) Ar550.1 (State.isArrayOf_alike hZ.alike Ar550.2.1) Ar550.2.2 hin550 hat550 (g := (mkF m 287 #[.val (.ref x0), .val (.int x1)] [(.int (5 : Int32)), (.ref x0), (.int (5 : Int32)), (.ref b473), (.ref b473), (.ref b465), (.ref b465)])) rfl rfl (hb hby d9_287) _) ?_
  obtain ⟨cl551, Ar551, q551, S551, N551, H551, G551⟩ := id V539
  have hin551 : ¬ ((5 : Int32) < 0 ∨ cl551.slots.size ≤ ((5 : Int32)).toNatClampNeg) := inb_of S551 ⟨by decide, by decide⟩
  obtain ⟨T552, h552, X552, e552, W552, st552⟩ := stC X539 hx hZ rfl Ar551 (j := (5 : Int32)) hin551 (g := (mkF m 288 #[.val (.ref x0), .val (.int x1)] [(.int (own_c ls (5 : Int32))), (.int (5 : Int32)), (.ref b473), (.ref b473), (.ref b465), (.ref b465)])) rfl rfl (hb hby d9_288)
  subst e552
  have Sf553 := Safe.wr W552 Sf541 R542.1 Sf540
  have Sf554 := Safe.wr W552 Sf541 R542.1 Sf541
  have R555 := R542.trans (CHr.wr W552 Sf541 R542.1)
  have hk556 := Nat.le_trans hk543 (Nat.le_of_eq W552.size.symm)
  have F557 := F544.other W552 Pn510_11
  have F558 := F545.wr W552
  have F559 := F546.wr W552
  have F560 := F547.other W552 (Or.inl Pn510_12)
  have F561 := F548.other W552 (Or.inl Pn510_12)
  have N552 := Fr.snoc X552 N539 Pg510_13
  have Z552 : n0 ≤ T552.heap.size := Nat.le_trans Z539 (Nat.le_of_eq W552.size.symm)
  have K552 : Keep h0 T552.heap [] := K539.wr W552 (Or.inr Pg510_14)
  have V552 : Arv Z T552.heap b473 k473 .char (7 : Int32) [(.int (nar .char (own_c ls (0 : Int32)))), (.int (nar .char (own_c ls (1 : Int32)))), (.int (nar .char (own_c ls (2 : Int32)))), (.int (nar .char (own_c ls (3 : Int32)))), (.int (nar .char (own_c ls (4 : Int32)))), (.int (nar .char (own_c ls (5 : Int32)))), (.int (0 : Int32))] (.int (0 : Int32)) := Arv.set Ar551 q551 S551 N551 H551 G551 (fits_nar_char _) W552 5 rfl (Nat.le_of_ble_eq_true rfl)
  refine Goes.to st552 ?_
  refine gx (XS.dup X552.here hx rfl (hb hby d9_289) rfl rfl) ?_
  refine gx (XS.bipush X552.here hx rfl (hb hby d9_290)) ?_
  refine gx (XS.aloadN X552.here hx rfl (hb hby d9_292) rfl rfl) ?_
  refine gx (XS.bipush X552.here hx rfl (hb hby d9_293)) ?_
  obtain ⟨cl563, Ar563, q563, S563, N563, H563, G563⟩ := id F557
  have hin563 : ¬ ((6 : Int32) < 0 ∨ cl563.slots.size ≤ ((6 : Int32)).toNatClampNeg) := inb_of S563 ⟨by decide, by decide⟩
  have hat563 : cl563.slots[((6 : Int32)).toNatClampNeg]? = some (.int (own_c ls (6 : Int32))) := Has.at H563 hin563 (own_cat ls (6 : Int32))
  refine gx (X552.caload hx (j := (6 : Int32)) (v := (.int (own_c ls (6 : Int32)))) Ar563.1 (State.isArrayOf_alike hZ.alike Ar563.2.1) Ar563.2.2 hin563 hat563 (g := (mkF m 295 #[.val (.ref x0), .val (.int x1)] [(.int (6 : Int32)), (.ref x0), (.int (6 : Int32)), (.ref b473), (.ref b473), (.ref b465), (.ref b465)])) rfl rfl (hb hby d9_295) _) ?_
  obtain ⟨cl564, Ar564, q564, S564, N564, H564, G564⟩ := id V552
  have hin564 : ¬ ((6 : Int32) < 0 ∨ cl564.slots.size ≤ ((6 : Int32)).toNatClampNeg) := inb_of S564 ⟨by decide, by decide⟩
  obtain ⟨T565, h565, X565, e565, W565, st565⟩ := stC X552 hx hZ rfl Ar564 (j := (6 : Int32)) hin564 (g := (mkF m 296 #[.val (.ref x0), .val (.int x1)] [(.int (own_c ls (6 : Int32))), (.int (6 : Int32)), (.ref b473), (.ref b473), (.ref b465), (.ref b465)])) rfl rfl (hb hby d9_296)
  subst e565
  have Sf566 := Safe.wr W565 Sf554 R555.1 Sf553
  have R568 := R555.trans (CHr.wr W565 Sf554 R555.1)
  have hk569 := Nat.le_trans hk556 (Nat.le_of_eq W565.size.symm)
  have F571 := F558.wr W565
  have F572 := F559.wr W565
  have F573 := F560.other W565 (Or.inl Pn510_12)
  have F574 := F561.other W565 (Or.inl Pn510_12)
  have N565 := Fr.snoc X565 N552 Pg510_13
  have Z565 : n0 ≤ T565.heap.size := Nat.le_trans Z552 (Nat.le_of_eq W565.size.symm)
  have K565 : Keep h0 T565.heap [] := K552.wr W565 (Or.inr Pg510_14)
  have V565 : Arv Z T565.heap b473 k473 .char (7 : Int32) [(.int (nar .char (own_c ls (0 : Int32)))), (.int (nar .char (own_c ls (1 : Int32)))), (.int (nar .char (own_c ls (2 : Int32)))), (.int (nar .char (own_c ls (3 : Int32)))), (.int (nar .char (own_c ls (4 : Int32)))), (.int (nar .char (own_c ls (5 : Int32)))), (.int (nar .char (own_c ls (6 : Int32))))] (.int (0 : Int32)) := Arv.set Ar564 q564 S564 N564 H564 G564 (fits_nar_char _) W565 6 rfl (Nat.le_of_ble_eq_true rfl)
  refine Goes.to st565 ?_
  obtain ⟨_, _, ⟨T576, L576, k576, n576⟩, -, X576, ⟨Lc576, hQ576, l576, y576, z576⟩, st576⟩ := X565.specialBack hx (y := own_n16) rfl hown (mvT hZ (own_hw hw 52 rfl)) (mvT hZ (own_hw hw 53 rfl)) (mvT hZ (own_hw hw 54 rfl)) (by decide) (StrChars.Road.backV (W := 1) hZ (own_hwV hw) (own_hw hw 3 rfl) (n0 := n0) Pg510_9 Z565 F572 F573 F574 (cs := [(nar .char (own_c ls (0 : Int32))), (nar .char (own_c ls (1 : Int32))), (nar .char (own_c ls (2 : Int32))), (nar .char (own_c ls (3 : Int32))), (nar .char (own_c ls (4 : Int32))), (nar .char (own_c ls (5 : Int32))), (nar .char (own_c ls (6 : Int32)))]) V565 F571 hcs (n := 7) rfl rfl (by decide) (by decide) (own_aS (own_cP hls _) (own_aS (own_cP hls _) (own_aS (own_cP hls _) (own_aS (own_cP hls _) (own_aS (own_cP hls _) (own_aS (own_cP hls _) (own_aS (own_cP hls _) own_a0))))))) (bs := [(nar .char (own_c ls (0 : Int32))), (nar .char (own_c ls (1 : Int32))), (nar .char (own_c ls (2 : Int32))), (nar .char (own_c ls (3 : Int32))), (nar .char (own_c ls (4 : Int32))), (nar .char (own_c ls (5 : Int32))), (nar .char (own_c ls (6 : Int32)))].map fun c => c.toInt8.toInt32) rfl (by decide) (by decide)) (g := (mkF m 297 #[.val (.ref x0), .val (.int x1)] [(.ref b473), (.ref b465), (.ref b465)])) rfl (by rw [hml]; rfl) (Steps.refl _) (a := b465) (argsL := [(.ref b473)]) (rest := [(.ref b465)]) (lenOf own_pd_paCqV rfl) rfl (own_W rfl rfl) (hb hby d9_297) (fun _ _ => ⟨rfl, rfl, (by decide : 2 + 1 ≤ _), (by decide : 11 + 7 ≤ _)⟩)
  dsimp only [Pt.U, Pt.locs, Pt.cells, Pt.slots] at X576 l576 y576 z576 st576 hQ576
  subst l576 y576 z576
  obtain ⟨hv576, Nq576, K576, Ei576, Ci576, t576, kt576, -, -, -, Vi576, Ai576⟩ := hQ576
  subst hv576
  have N576 := Fr.app N565 Nq576
  have R579 := R568.trans (CHr.keep K576 (sfS Sf566 sf0) R568.1)
  have hk580 := Nat.le_trans hk569 K576.1
  have Kc576 : Keep h0 T576.heap [] := K565.trans K576 (allS (Or.inr Pg510_10) all0)
  refine Goes.tr st576 ?_
  show Goes p.tables e below (T576.setTop (mkF m 300 #[.val (.ref x0), .val (.int x1)] [(.ref b465)])) _
  have hkl := Nat.le_trans hk580 (Nat.le_refl T576.heap.size)
  obtain ⟨fs, hr, hrun, hended, hEnd⟩ := X576.leaveW (s := s) hSpt hkl (v := some (.ref b465)) (fun h => by rw [Bd.returns] at h; cases h)
  have hRl : CHr Z own_EL s.vm s.heap T576.vm T576.heap := by
    rw [hh]
    exact R579.trans (CHv.at (s := s) X576 hZ hEL R579.1)
  exact ⟨_, _, retOut X576 hx Bd.returns rfl (Or.inr (Or.inr (Or.inr (Or.inr ⟨rfl, rfl, rfl⟩)))) (hb hby d9_300) hr, hrun, hended, _, _, rfl, ⟨b465, t576, kt576, [(nar .char (own_c ls (0 : Int32))), (nar .char (own_c ls (1 : Int32))), (nar .char (own_c ls (2 : Int32))), (nar .char (own_c ls (3 : Int32))), (nar .char (own_c ls (4 : Int32))), (nar .char (own_c ls (5 : Int32))), (nar .char (own_c ls (6 : Int32)))], rfl, N576, (by show Keep h0 T576.heap []; exact Kc576), (by show Exa Z T576.heap b465 "java/lang/String"; exact Ei576), (by show Fld Z T576.heap b465 "java/lang/String" "coder" "B" (.int (0 : Int32)); exact Ci576), (by show Fld Z T576.heap b465 "java/lang/String" "value" "[B" (.ref t576); exact Vi576), (by show Arv Z T576.heap t576 kt576 .byte (Int32.ofNat ([(nar .char (own_c ls (0 : Int32))), (nar .char (own_c ls (1 : Int32))), (nar .char (own_c ls (2 : Int32))), (nar .char (own_c ls (3 : Int32))), (nar .char (own_c ls (4 : Int32))), (nar .char (own_c ls (5 : Int32))), (nar .char (own_c ls (6 : Int32)))] : List Int32).length) ((([(nar .char (own_c ls (0 : Int32))), (nar .char (own_c ls (1 : Int32))), (nar .char (own_c ls (2 : Int32))), (nar .char (own_c ls (3 : Int32))), (nar .char (own_c ls (4 : Int32))), (nar .char (own_c ls (5 : Int32))), (nar .char (own_c ls (6 : Int32)))] : List Int32).map fun c => c.toInt8.toInt32).map Value.int) (.int (0 : Int32)); exact Ai576), Nat.le_of_ble_eq_true rfl, (own_aS (own_cP hls _) (own_aS (own_cP hls _) (own_aS (own_cP hls _) (own_aS (own_cP hls _) (own_aS (own_cP hls _) (own_aS (own_cP hls _) (own_aS (own_cP hls _) own_a0)))))))⟩, hRl, hEnd.1, hEnd.2.1, hEnd.2.2.1, hEnd.2.2.2.mono (by decide) (by decide)⟩
set_option maxRecDepth 65536 in
set_option maxHeartbeats 40000000 in
theorem own_pt_own_rm9_620 (l : Launch) (Z : State) (a0 : Array Value) (hw : ∀ d ∈ tables_1, d.before a0 Z = true) (ws : List Jvm.Cond) (x0 : Addr) (x1 : Int32) (kc : ClassId) (ls : List Int32) (cs : Int32) (h0 : Heap) (n0 : Nat) (Z0 : n0 ≤ h0.size) (hPm : own_P_own_rm9 Z a0 x0 x1 kc ls cs h0 n0)
    {p : Program} {e : Env} {s : State} {m : MethodId} {below : List Frame} {meth : Method} {c : Code} {s₁ : State} (Bd : BodyLoose p l own_n17 (head1 (Jvm.Cond.code own_n17 method_4_code 2 (some (.object "java/lang/String")) :: ws) own_r_own_rm9) method_4_code 2 (some (.object "java/lang/String")) e s m #[(.ref x0), (.int x1)] below meth c s₁) (hml0 : c.maxLocals = 2) (hh : s.heap = h0) 
    (b588 : Addr) (b596 : Addr) (k596 : ClassId)
    (Tpt : State) (lpt : List Loc) (vmpt : Vm) (hZ : Z.Warmed39 vmpt) (hown : vmpt.findClass "com/example/polgen/polgen/model/MultiplicityNamedPinLaw" = some m.cls) (hpt : Heap)
    (Xpt : Stand p l e own_r_own_rm9 (s.setVm vmpt) m #[(.ref x0), (.int x1)] below meth c Tpt lpt 2 12) (Ept : Tpt.heap = hpt) (Npt : Fr n0 lpt) (Zpt : n0 ≤ hpt.size) (kpt : Nat) (hSpt : s.Since vmpt kpt) (hkpt : kpt ≤ hpt.size) (Rpt : CHr Z own_EL s.vm h0 vmpt hpt)
    (Pf620_0 : Arv Z hpt x0 kc .char (9 : Int32) (ls.map Value.int) (.int (0 : Int32)))
    (Pf620_1 : Sta Z hpt "java/lang/String" "COMPACT_STRINGS" "Z" (.int cs))
    (Pf620_2 : Safe Z own_EL vmpt hpt b588)
    (Pf620_3 : Exa Z hpt b588 "java/lang/String")
    (Pf620_4 : Fld Z hpt b588 "java/lang/String" "value" "[B" .null)
    (Pf620_5 : Fld Z hpt b588 "java/lang/String" "coder" "B" (.int (0 : Int32)))
    (Pf620_6 : Safe Z own_EL vmpt hpt b596)
    (Pf620_7 : Arv Z hpt b596 k596 .char (8 : Int32) [(.int (nar .char (own_c ls (0 : Int32)))), (.int (0 : Int32)), (.int (0 : Int32)), (.int (0 : Int32)), (.int (0 : Int32)), (.int (0 : Int32)), (.int (0 : Int32)), (.int (0 : Int32))] (.int (0 : Int32)))
    (Pg620_9 : n0 ≤ b588)
    (Pg620_10 : h0.size ≤ b588)
    (Pn620_11 : x0 ≠ b596)
    (Pn620_12 : b588 ≠ b596)
    (Pg620_13 : n0 ≤ b596)
    (Pg620_14 : h0.size ≤ b596)
    (Ph620_15 : (0 : Int32) < x1)
    (Ph620_16 : ¬ (x1 = (1 : Int32)))
    (Ph620_17 : ¬ (x1 = (2 : Int32)))
    (Ph620_18 : ¬ (x1 = (3 : Int32)))
    (Ph620_19 : ¬ (x1 = (4 : Int32)))
    (Ph620_20 : ¬ (x1 = (5 : Int32)))
    (Ph620_21 : ¬ (x1 = (6 : Int32)))
    (Ph620_22 : ¬ (x1 = (7 : Int32)))
    (Ph620_23 : x1 = (8 : Int32))
    (Kpt620 : Keep h0 hpt [])
    : Goes p.tables e below (Tpt.setTop (mkF m 325 #[.val (.ref x0), .val (.int x1)] [(.int (1 : Int32)), (.ref x0), (.int (1 : Int32)), (.ref b596), (.ref b596), (.ref b588), (.ref b588)])) (own_RH Z below s (own_Q_own_rm9 Z x0 x1 kc ls cs h0 n0) own_r_own_rm9.cells own_r_own_rm9.slots) := by
  obtain ⟨VC, hls, SC, hcs⟩ := id hPm
  have hx := Bd.exec
  have hby := Bd.bytes
  have hml : c.maxLocals = 2 := hml0
  have hnm := (name_of_methodNamed Bd.named Bd.method).1
  have own_wS' : ∀ a ∈ Bundle.stringAtoms, a.before a0 Z = true := own_wS hw
  have hEL := own_EW hw
  obtain ⟨cl621, Ar621, q621, S621, N621, H621, G621⟩ := id Pf620_0
  have hin621 : ¬ ((1 : Int32) < 0 ∨ cl621.slots.size ≤ ((1 : Int32)).toNatClampNeg) := inb_of S621 ⟨by decide, by decide⟩
  have hat621 : cl621.slots[((1 : Int32)).toNatClampNeg]? = some (.int (own_c ls (1 : Int32))) := Has.at H621 hin621 (own_cat ls (1 : Int32))
  refine gx (Xpt.caload hx (j := (1 : Int32)) (v := (.int (own_c ls (1 : Int32)))) (by rw [Ept]; exact Ar621.1) (State.isArrayOf_alike hZ.alike Ar621.2.1) Ar621.2.2 hin621 hat621 (g := (mkF m 325 #[.val (.ref x0), .val (.int x1)] [(.int (1 : Int32)), (.ref x0), (.int (1 : Int32)), (.ref b596), (.ref b596), (.ref b588), (.ref b588)])) rfl rfl (hb hby d9_325) _) ?_
  obtain ⟨cl622, Ar622, q622, S622, N622, H622, G622⟩ := id Pf620_7
  have hin622 : ¬ ((1 : Int32) < 0 ∨ cl622.slots.size ≤ ((1 : Int32)).toNatClampNeg) := inb_of S622 ⟨by decide, by decide⟩
  obtain ⟨T623, h623, X623, e623, W623, st623⟩ := stC Xpt hx hZ Ept Ar622 (j := (1 : Int32)) hin622 (g := (mkF m 326 #[.val (.ref x0), .val (.int x1)] [(.int (own_c ls (1 : Int32))), (.int (1 : Int32)), (.ref b596), (.ref b596), (.ref b588), (.ref b588)])) rfl rfl (hb hby d9_326)
  subst e623
  have Sf624 := Safe.wr W623 Pf620_6 Rpt.1 Pf620_2
  have Sf625 := Safe.wr W623 Pf620_6 Rpt.1 Pf620_6
  have R626 := Rpt.trans (CHr.wr W623 Pf620_6 Rpt.1)
  have hk627 := Nat.le_trans hkpt (Nat.le_of_eq W623.size.symm)
  have F628 := Pf620_0.other W623 Pn620_11
  have F629 := Pf620_1.wr W623
  have F630 := Pf620_3.wr W623
  have F631 := Pf620_4.other W623 (Or.inl Pn620_12)
  have F632 := Pf620_5.other W623 (Or.inl Pn620_12)
  have N623 := Fr.snoc X623 Npt Pg620_13
  have Z623 : n0 ≤ T623.heap.size := Nat.le_trans Zpt (Nat.le_of_eq W623.size.symm)
  have K623 : Keep h0 T623.heap [] := Kpt620.wr W623 (Or.inr Pg620_14)
  have V623 : Arv Z T623.heap b596 k596 .char (8 : Int32) [(.int (nar .char (own_c ls (0 : Int32)))), (.int (nar .char (own_c ls (1 : Int32)))), (.int (0 : Int32)), (.int (0 : Int32)), (.int (0 : Int32)), (.int (0 : Int32)), (.int (0 : Int32)), (.int (0 : Int32))] (.int (0 : Int32)) := Arv.set Ar622 q622 S622 N622 H622 G622 (fits_nar_char _) W623 1 rfl (Nat.le_of_ble_eq_true rfl)
  refine Goes.to st623 ?_
  refine gx (XS.dup X623.here hx rfl (hb hby d9_327) rfl rfl) ?_
  refine gx (XS.iconst X623.here hx rfl (hb hby d9_328)) ?_
  refine gx (XS.aloadN X623.here hx rfl (hb hby d9_329) rfl rfl) ?_
  refine gx (XS.iconst X623.here hx rfl (hb hby d9_330)) ?_
  obtain ⟨cl634, Ar634, q634, S634, N634, H634, G634⟩ := id F628
  have hin634 : ¬ ((2 : Int32) < 0 ∨ cl634.slots.size ≤ ((2 : Int32)).toNatClampNeg) := inb_of S634 ⟨by decide, by decide⟩
  have hat634 : cl634.slots[((2 : Int32)).toNatClampNeg]? = some (.int (own_c ls (2 : Int32))) := Has.at H634 hin634 (own_cat ls (2 : Int32))
  refine gx (X623.caload hx (j := (2 : Int32)) (v := (.int (own_c ls (2 : Int32)))) Ar634.1 (State.isArrayOf_alike hZ.alike Ar634.2.1) Ar634.2.2 hin634 hat634 (g := (mkF m 331 #[.val (.ref x0), .val (.int x1)] [(.int (2 : Int32)), (.ref x0), (.int (2 : Int32)), (.ref b596), (.ref b596), (.ref b588), (.ref b588)])) rfl rfl (hb hby d9_331) _) ?_
  obtain ⟨cl635, Ar635, q635, S635, N635, H635, G635⟩ := id V623
  have hin635 : ¬ ((2 : Int32) < 0 ∨ cl635.slots.size ≤ ((2 : Int32)).toNatClampNeg) := inb_of S635 ⟨by decide, by decide⟩
  obtain ⟨T636, h636, X636, e636, W636, st636⟩ := stC X623 hx hZ rfl Ar635 (j := (2 : Int32)) hin635 (g := (mkF m 332 #[.val (.ref x0), .val (.int x1)] [(.int (own_c ls (2 : Int32))), (.int (2 : Int32)), (.ref b596), (.ref b596), (.ref b588), (.ref b588)])) rfl rfl (hb hby d9_332)
  subst e636
  have Sf637 := Safe.wr W636 Sf625 R626.1 Sf624
  have Sf638 := Safe.wr W636 Sf625 R626.1 Sf625
  have R639 := R626.trans (CHr.wr W636 Sf625 R626.1)
  have hk640 := Nat.le_trans hk627 (Nat.le_of_eq W636.size.symm)
  have F641 := F628.other W636 Pn620_11
  have F642 := F629.wr W636
  have F643 := F630.wr W636
  have F644 := F631.other W636 (Or.inl Pn620_12)
  have F645 := F632.other W636 (Or.inl Pn620_12)
  have N636 := Fr.snoc X636 N623 Pg620_13
  have Z636 : n0 ≤ T636.heap.size := Nat.le_trans Z623 (Nat.le_of_eq W636.size.symm)
  have K636 : Keep h0 T636.heap [] := K623.wr W636 (Or.inr Pg620_14)
  have V636 : Arv Z T636.heap b596 k596 .char (8 : Int32) [(.int (nar .char (own_c ls (0 : Int32)))), (.int (nar .char (own_c ls (1 : Int32)))), (.int (nar .char (own_c ls (2 : Int32)))), (.int (0 : Int32)), (.int (0 : Int32)), (.int (0 : Int32)), (.int (0 : Int32)), (.int (0 : Int32))] (.int (0 : Int32)) := Arv.set Ar635 q635 S635 N635 H635 G635 (fits_nar_char _) W636 2 rfl (Nat.le_of_ble_eq_true rfl)
  refine Goes.to st636 ?_
  refine gx (XS.dup X636.here hx rfl (hb hby d9_333) rfl rfl) ?_
  refine gx (XS.iconst X636.here hx rfl (hb hby d9_334)) ?_
  refine gx (XS.aloadN X636.here hx rfl (hb hby d9_335) rfl rfl) ?_
  refine gx (XS.iconst X636.here hx rfl (hb hby d9_336)) ?_
  obtain ⟨cl647, Ar647, q647, S647, N647, H647, G647⟩ := id F641
  have hin647 : ¬ ((3 : Int32) < 0 ∨ cl647.slots.size ≤ ((3 : Int32)).toNatClampNeg) := inb_of S647 ⟨by decide, by decide⟩
  have hat647 : cl647.slots[((3 : Int32)).toNatClampNeg]? = some (.int (own_c ls (3 : Int32))) := Has.at H647 hin647 (own_cat ls (3 : Int32))
  refine gx (X636.caload hx (j := (3 : Int32)) (v := (.int (own_c ls (3 : Int32)))) Ar647.1 (State.isArrayOf_alike hZ.alike Ar647.2.1) Ar647.2.2 hin647 hat647 (g := (mkF m 337 #[.val (.ref x0), .val (.int x1)] [(.int (3 : Int32)), (.ref x0), (.int (3 : Int32)), (.ref b596), (.ref b596), (.ref b588), (.ref b588)])) rfl rfl (hb hby d9_337) _) ?_
  obtain ⟨cl648, Ar648, q648, S648, N648, H648, G648⟩ := id V636
  have hin648 : ¬ ((3 : Int32) < 0 ∨ cl648.slots.size ≤ ((3 : Int32)).toNatClampNeg) := inb_of S648 ⟨by decide, by decide⟩
  obtain ⟨T649, h649, X649, e649, W649, st649⟩ := stC X636 hx hZ rfl Ar648 (j := (3 : Int32)) hin648 (g := (mkF m 338 #[.val (.ref x0), .val (.int x1)] [(.int (own_c ls (3 : Int32))), (.int (3 : Int32)), (.ref b596), (.ref b596), (.ref b588), (.ref b588)])) rfl rfl (hb hby d9_338)
  subst e649
  have Sf650 := Safe.wr W649 Sf638 R639.1 Sf637
  have Sf651 := Safe.wr W649 Sf638 R639.1 Sf638
  have R652 := R639.trans (CHr.wr W649 Sf638 R639.1)
  have hk653 := Nat.le_trans hk640 (Nat.le_of_eq W649.size.symm)
  have F654 := F641.other W649 Pn620_11
  have F655 := F642.wr W649
  have F656 := F643.wr W649
  have F657 := F644.other W649 (Or.inl Pn620_12)
  have F658 := F645.other W649 (Or.inl Pn620_12)
  have N649 := Fr.snoc X649 N636 Pg620_13
  have Z649 : n0 ≤ T649.heap.size := Nat.le_trans Z636 (Nat.le_of_eq W649.size.symm)
  have K649 : Keep h0 T649.heap [] := K636.wr W649 (Or.inr Pg620_14)
  have V649 : Arv Z T649.heap b596 k596 .char (8 : Int32) [(.int (nar .char (own_c ls (0 : Int32)))), (.int (nar .char (own_c ls (1 : Int32)))), (.int (nar .char (own_c ls (2 : Int32)))), (.int (nar .char (own_c ls (3 : Int32)))), (.int (0 : Int32)), (.int (0 : Int32)), (.int (0 : Int32)), (.int (0 : Int32))] (.int (0 : Int32)) := Arv.set Ar648 q648 S648 N648 H648 G648 (fits_nar_char _) W649 3 rfl (Nat.le_of_ble_eq_true rfl)
  refine Goes.to st649 ?_
  refine gx (XS.dup X649.here hx rfl (hb hby d9_339) rfl rfl) ?_
  refine gx (XS.iconst X649.here hx rfl (hb hby d9_340)) ?_
  refine gx (XS.aloadN X649.here hx rfl (hb hby d9_341) rfl rfl) ?_
  refine gx (XS.iconst X649.here hx rfl (hb hby d9_342)) ?_
  obtain ⟨cl660, Ar660, q660, S660, N660, H660, G660⟩ := id F654
  have hin660 : ¬ ((4 : Int32) < 0 ∨ cl660.slots.size ≤ ((4 : Int32)).toNatClampNeg) := inb_of S660 ⟨by decide, by decide⟩
  have hat660 : cl660.slots[((4 : Int32)).toNatClampNeg]? = some (.int (own_c ls (4 : Int32))) := Has.at H660 hin660 (own_cat ls (4 : Int32))
  refine gx (X649.caload hx (j := (4 : Int32)) (v := (.int (own_c ls (4 : Int32)))) Ar660.1 (State.isArrayOf_alike hZ.alike Ar660.2.1) Ar660.2.2 hin660 hat660 (g := (mkF m 343 #[.val (.ref x0), .val (.int x1)] [(.int (4 : Int32)), (.ref x0), (.int (4 : Int32)), (.ref b596), (.ref b596), (.ref b588), (.ref b588)])) rfl rfl (hb hby d9_343) _) ?_
  obtain ⟨cl661, Ar661, q661, S661, N661, H661, G661⟩ := id V649
  have hin661 : ¬ ((4 : Int32) < 0 ∨ cl661.slots.size ≤ ((4 : Int32)).toNatClampNeg) := inb_of S661 ⟨by decide, by decide⟩
  obtain ⟨T662, h662, X662, e662, W662, st662⟩ := stC X649 hx hZ rfl Ar661 (j := (4 : Int32)) hin661 (g := (mkF m 344 #[.val (.ref x0), .val (.int x1)] [(.int (own_c ls (4 : Int32))), (.int (4 : Int32)), (.ref b596), (.ref b596), (.ref b588), (.ref b588)])) rfl rfl (hb hby d9_344)
  subst e662
  have Sf663 := Safe.wr W662 Sf651 R652.1 Sf650
  have Sf664 := Safe.wr W662 Sf651 R652.1 Sf651
  have R665 := R652.trans (CHr.wr W662 Sf651 R652.1)
  have hk666 := Nat.le_trans hk653 (Nat.le_of_eq W662.size.symm)
  have F667 := F654.other W662 Pn620_11
  have F668 := F655.wr W662
  have F669 := F656.wr W662
  have F670 := F657.other W662 (Or.inl Pn620_12)
  have F671 := F658.other W662 (Or.inl Pn620_12)
  have N662 := Fr.snoc X662 N649 Pg620_13
  have Z662 : n0 ≤ T662.heap.size := Nat.le_trans Z649 (Nat.le_of_eq W662.size.symm)
  have K662 : Keep h0 T662.heap [] := K649.wr W662 (Or.inr Pg620_14)
  have V662 : Arv Z T662.heap b596 k596 .char (8 : Int32) [(.int (nar .char (own_c ls (0 : Int32)))), (.int (nar .char (own_c ls (1 : Int32)))), (.int (nar .char (own_c ls (2 : Int32)))), (.int (nar .char (own_c ls (3 : Int32)))), (.int (nar .char (own_c ls (4 : Int32)))), (.int (0 : Int32)), (.int (0 : Int32)), (.int (0 : Int32))] (.int (0 : Int32)) := Arv.set Ar661 q661 S661 N661 H661 G661 (fits_nar_char _) W662 4 rfl (Nat.le_of_ble_eq_true rfl)
  refine Goes.to st662 ?_
  refine gx (XS.dup X662.here hx rfl (hb hby d9_345) rfl rfl) ?_
  refine gx (XS.iconst X662.here hx rfl (hb hby d9_346)) ?_
  refine gx (XS.aloadN X662.here hx rfl (hb hby d9_347) rfl rfl) ?_
  refine gx (XS.iconst X662.here hx rfl (hb hby d9_348)) ?_
  obtain ⟨cl673, Ar673, q673, S673, N673, H673, G673⟩ := id F667
  have hin673 : ¬ ((5 : Int32) < 0 ∨ cl673.slots.size ≤ ((5 : Int32)).toNatClampNeg) := inb_of S673 ⟨by decide, by decide⟩
  have hat673 : cl673.slots[((5 : Int32)).toNatClampNeg]? = some (.int (own_c ls (5 : Int32))) := Has.at H673 hin673 (own_cat ls (5 : Int32))
  refine gx (X662.caload hx (j := (5 : Int32)) (v := (.int (own_c ls (5 : Int32)))) Ar673.1 (State.isArrayOf_alike hZ.alike Ar673.2.1) Ar673.2.2 hin673 hat673 (g := (mkF m 349 #[.val (.ref x0), .val (.int x1)] [(.int (5 : Int32)), (.ref x0), (.int (5 : Int32)), (.ref b596), (.ref b596), (.ref b588), (.ref b588)])) rfl rfl (hb hby d9_349) _) ?_
  obtain ⟨cl674, Ar674, q674, S674, N674, H674, G674⟩ := id V662
  have hin674 : ¬ ((5 : Int32) < 0 ∨ cl674.slots.size ≤ ((5 : Int32)).toNatClampNeg) := inb_of S674 ⟨by decide, by decide⟩
  obtain ⟨T675, h675, X675, e675, W675, st675⟩ := stC X662 hx hZ rfl Ar674 (j := (5 : Int32)) hin674 (g := (mkF m 350 #[.val (.ref x0), .val (.int x1)] [(.int (own_c ls (5 : Int32))), (.int (5 : Int32)), (.ref b596), (.ref b596), (.ref b588), (.ref b588)])) rfl rfl (hb hby d9_350)
  subst e675
  have Sf676 := Safe.wr W675 Sf664 R665.1 Sf663
  have Sf677 := Safe.wr W675 Sf664 R665.1 Sf664
  have R678 := R665.trans (CHr.wr W675 Sf664 R665.1)
  have hk679 := Nat.le_trans hk666 (Nat.le_of_eq W675.size.symm)
  have F680 := F667.other W675 Pn620_11
  have F681 := F668.wr W675
  have F682 := F669.wr W675
  have F683 := F670.other W675 (Or.inl Pn620_12)
  have F684 := F671.other W675 (Or.inl Pn620_12)
  have N675 := Fr.snoc X675 N662 Pg620_13
  have Z675 : n0 ≤ T675.heap.size := Nat.le_trans Z662 (Nat.le_of_eq W675.size.symm)
  have K675 : Keep h0 T675.heap [] := K662.wr W675 (Or.inr Pg620_14)
  have V675 : Arv Z T675.heap b596 k596 .char (8 : Int32) [(.int (nar .char (own_c ls (0 : Int32)))), (.int (nar .char (own_c ls (1 : Int32)))), (.int (nar .char (own_c ls (2 : Int32)))), (.int (nar .char (own_c ls (3 : Int32)))), (.int (nar .char (own_c ls (4 : Int32)))), (.int (nar .char (own_c ls (5 : Int32)))), (.int (0 : Int32)), (.int (0 : Int32))] (.int (0 : Int32)) := Arv.set Ar674 q674 S674 N674 H674 G674 (fits_nar_char _) W675 5 rfl (Nat.le_of_ble_eq_true rfl)
  refine Goes.to st675 ?_
  refine gx (XS.dup X675.here hx rfl (hb hby d9_351) rfl rfl) ?_
  refine gx (XS.bipush X675.here hx rfl (hb hby d9_352)) ?_
  refine gx (XS.aloadN X675.here hx rfl (hb hby d9_354) rfl rfl) ?_
  refine gx (XS.bipush X675.here hx rfl (hb hby d9_355)) ?_
  obtain ⟨cl686, Ar686, q686, S686, N686, H686, G686⟩ := id F680
  have hin686 : ¬ ((6 : Int32) < 0 ∨ cl686.slots.size ≤ ((6 : Int32)).toNatClampNeg) := inb_of S686 ⟨by decide, by decide⟩
  have hat686 : cl686.slots[((6 : Int32)).toNatClampNeg]? = some (.int (own_c ls (6 : Int32))) := Has.at H686 hin686 (own_cat ls (6 : Int32))
  refine gx (X675.caload hx (j := (6 : Int32)) (v := (.int (own_c ls (6 : Int32)))) Ar686.1 (State.isArrayOf_alike hZ.alike Ar686.2.1) Ar686.2.2 hin686 hat686 (g := (mkF m 357 #[.val (.ref x0), .val (.int x1)] [(.int (6 : Int32)), (.ref x0), (.int (6 : Int32)), (.ref b596), (.ref b596), (.ref b588), (.ref b588)])) rfl rfl (hb hby d9_357) _) ?_
  obtain ⟨cl687, Ar687, q687, S687, N687, H687, G687⟩ := id V675
  have hin687 : ¬ ((6 : Int32) < 0 ∨ cl687.slots.size ≤ ((6 : Int32)).toNatClampNeg) := inb_of S687 ⟨by decide, by decide⟩
  obtain ⟨T688, h688, X688, e688, W688, st688⟩ := stC X675 hx hZ rfl Ar687 (j := (6 : Int32)) hin687 (g := (mkF m 358 #[.val (.ref x0), .val (.int x1)] [(.int (own_c ls (6 : Int32))), (.int (6 : Int32)), (.ref b596), (.ref b596), (.ref b588), (.ref b588)])) rfl rfl (hb hby d9_358)
  subst e688
  have Sf689 := Safe.wr W688 Sf677 R678.1 Sf676
  have Sf690 := Safe.wr W688 Sf677 R678.1 Sf677
  have R691 := R678.trans (CHr.wr W688 Sf677 R678.1)
  have hk692 := Nat.le_trans hk679 (Nat.le_of_eq W688.size.symm)
  have F693 := F680.other W688 Pn620_11
  have F694 := F681.wr W688
  have F695 := F682.wr W688
  have F696 := F683.other W688 (Or.inl Pn620_12)
  have F697 := F684.other W688 (Or.inl Pn620_12)
  have N688 := Fr.snoc X688 N675 Pg620_13
  have Z688 : n0 ≤ T688.heap.size := Nat.le_trans Z675 (Nat.le_of_eq W688.size.symm)
  have K688 : Keep h0 T688.heap [] := K675.wr W688 (Or.inr Pg620_14)
  have V688 : Arv Z T688.heap b596 k596 .char (8 : Int32) [(.int (nar .char (own_c ls (0 : Int32)))), (.int (nar .char (own_c ls (1 : Int32)))), (.int (nar .char (own_c ls (2 : Int32)))), (.int (nar .char (own_c ls (3 : Int32)))), (.int (nar .char (own_c ls (4 : Int32)))), (.int (nar .char (own_c ls (5 : Int32)))), (.int (nar .char (own_c ls (6 : Int32)))), (.int (0 : Int32))] (.int (0 : Int32)) := Arv.set Ar687 q687 S687 N687 H687 G687 (fits_nar_char _) W688 6 rfl (Nat.le_of_ble_eq_true rfl)
  refine Goes.to st688 ?_
  refine gx (XS.dup X688.here hx rfl (hb hby d9_359) rfl rfl) ?_
  refine gx (XS.bipush X688.here hx rfl (hb hby d9_360)) ?_
  refine gx (XS.aloadN X688.here hx rfl (hb hby d9_362) rfl rfl) ?_
  refine gx (XS.bipush X688.here hx rfl (hb hby d9_363)) ?_
  obtain ⟨cl699, Ar699, q699, S699, N699, H699, G699⟩ := id F693
  have hin699 : ¬ ((7 : Int32) < 0 ∨ cl699.slots.size ≤ ((7 : Int32)).toNatClampNeg) := inb_of S699 ⟨by decide, by decide⟩
  have hat699 : cl699.slots[((7 : Int32)).toNatClampNeg]? = some (.int (own_c ls (7 : Int32))) := Has.at H699 hin699 (own_cat ls (7 : Int32))
  refine gx (X688.caload hx (j := (7 : Int32)) (v := (.int (own_c ls (7 : Int32)))) Ar699.1 (State.isArrayOf_alike hZ.alike Ar699.2.1) Ar699.2.2 hin699 hat699 (g := (mkF m 365 #[.val (.ref x0), .val (.int x1)] [(.int (7 : Int32)), (.ref x0), (.int (7 : Int32)), (.ref b596), (.ref b596), (.ref b588), (.ref b588)])) rfl rfl (hb hby d9_365) _) ?_
  obtain ⟨cl700, Ar700, q700, S700, N700, H700, G700⟩ := id V688
  have hin700 : ¬ ((7 : Int32) < 0 ∨ cl700.slots.size ≤ ((7 : Int32)).toNatClampNeg) := inb_of S700 ⟨by decide, by decide⟩
  obtain ⟨T701, h701, X701, e701, W701, st701⟩ := stC X688 hx hZ rfl Ar700 (j := (7 : Int32)) hin700 (g := (mkF m 366 #[.val (.ref x0), .val (.int x1)] [(.int (own_c ls (7 : Int32))), (.int (7 : Int32)), (.ref b596), (.ref b596), (.ref b588), (.ref b588)])) rfl rfl (hb hby d9_366)
  subst e701
  have Sf702 := Safe.wr W701 Sf690 R691.1 Sf689
  have R704 := R691.trans (CHr.wr W701 Sf690 R691.1)
  have hk705 := Nat.le_trans hk692 (Nat.le_of_eq W701.size.symm)
  have F707 := F694.wr W701
  have F708 := F695.wr W701
  have F709 := F696.other W701 (Or.inl Pn620_12)
  have F710 := F697.other W701 (Or.inl Pn620_12)
  have N701 := Fr.snoc X701 N688 Pg620_13
  have Z701 : n0 ≤ T701.heap.size := Nat.le_trans Z688 (Nat.le_of_eq W701.size.symm)
  have K701 : Keep h0 T701.heap [] := K688.wr W701 (Or.inr Pg620_14)
  have V701 : Arv Z T701.heap b596 k596 .char (8 : Int32) [(.int (nar .char (own_c ls (0 : Int32)))), (.int (nar .char (own_c ls (1 : Int32)))), (.int (nar .char (own_c ls (2 : Int32)))), (.int (nar .char (own_c ls (3 : Int32)))), (.int (nar .char (own_c ls (4 : Int32)))), (.int (nar .char (own_c ls (5 : Int32)))), (.int (nar .char (own_c ls (6 : Int32)))), (.int (nar .char (own_c ls (7 : Int32))))] (.int (0 : Int32)) := Arv.set Ar700 q700 S700 N700 H700 G700 (fits_nar_char _) W701 7 rfl (Nat.le_of_ble_eq_true rfl)
  refine Goes.to st701 ?_
  obtain ⟨_, _, ⟨T712, L712, k712, n712⟩, -, X712, ⟨Lc712, hQ712, l712, y712, z712⟩, st712⟩ := X701.specialBack hx (y := own_n16) rfl hown (mvT hZ (own_hw hw 52 rfl)) (mvT hZ (own_hw hw 53 rfl)) (mvT hZ (own_hw hw 54 rfl)) (by decide) (StrChars.Road.backV (W := 1) hZ (own_hwV hw) (own_hw hw 3 rfl) (n0 := n0) Pg620_9 Z701 F708 F709 F710 (cs := [(nar .char (own_c ls (0 : Int32))), (nar .char (own_c ls (1 : Int32))), (nar .char (own_c ls (2 : Int32))), (nar .char (own_c ls (3 : Int32))), (nar .char (own_c ls (4 : Int32))), (nar .char (own_c ls (5 : Int32))), (nar .char (own_c ls (6 : Int32))), (nar .char (own_c ls (7 : Int32)))]) V701 F707 hcs (n := 8) rfl rfl (by decide) (by decide) (own_aS (own_cP hls _) (own_aS (own_cP hls _) (own_aS (own_cP hls _) (own_aS (own_cP hls _) (own_aS (own_cP hls _) (own_aS (own_cP hls _) (own_aS (own_cP hls _) (own_aS (own_cP hls _) own_a0)))))))) (bs := [(nar .char (own_c ls (0 : Int32))), (nar .char (own_c ls (1 : Int32))), (nar .char (own_c ls (2 : Int32))), (nar .char (own_c ls (3 : Int32))), (nar .char (own_c ls (4 : Int32))), (nar .char (own_c ls (5 : Int32))), (nar .char (own_c ls (6 : Int32))), (nar .char (own_c ls (7 : Int32)))].map fun c => c.toInt8.toInt32) rfl (by decide) (by decide)) (g := (mkF m 367 #[.val (.ref x0), .val (.int x1)] [(.ref b596), (.ref b588), (.ref b588)])) rfl (by rw [hml]; rfl) (Steps.refl _) (a := b588) (argsL := [(.ref b596)]) (rest := [(.ref b588)]) (lenOf own_pd_paCqV rfl) rfl (own_W rfl rfl) (hb hby d9_367) (fun _ _ => ⟨rfl, rfl, (by decide : 2 + 1 ≤ _), (by decide : 12 + 8 ≤ _)⟩)
  dsimp only [Pt.U, Pt.locs, Pt.cells, Pt.slots] at X712 l712 y712 z712 st712 hQ712
  subst l712 y712 z712
  obtain ⟨hv712, Nq712, K712, Ei712, Ci712, t712, kt712, -, -, -, Vi712, Ai712⟩ := hQ712
  subst hv712
  have N712 := Fr.app N701 Nq712
  have R715 := R704.trans (CHr.keep K712 (sfS Sf702 sf0) R704.1)
  have hk716 := Nat.le_trans hk705 K712.1
  have Kc712 : Keep h0 T712.heap [] := K701.trans K712 (allS (Or.inr Pg620_10) all0)
  refine Goes.tr st712 ?_
  show Goes p.tables e below (T712.setTop (mkF m 370 #[.val (.ref x0), .val (.int x1)] [(.ref b588)])) _
  have hkl := Nat.le_trans hk716 (Nat.le_refl T712.heap.size)
  obtain ⟨fs, hr, hrun, hended, hEnd⟩ := X712.leaveW (s := s) hSpt hkl (v := some (.ref b588)) (fun h => by rw [Bd.returns] at h; cases h)
  have hRl : CHr Z own_EL s.vm s.heap T712.vm T712.heap := by
    rw [hh]
    exact R715.trans (CHv.at (s := s) X712 hZ hEL R715.1)
  exact ⟨_, _, retOut X712 hx Bd.returns rfl (Or.inr (Or.inr (Or.inr (Or.inr ⟨rfl, rfl, rfl⟩)))) (hb hby d9_370) hr, hrun, hended, _, _, rfl, ⟨b588, t712, kt712, [(nar .char (own_c ls (0 : Int32))), (nar .char (own_c ls (1 : Int32))), (nar .char (own_c ls (2 : Int32))), (nar .char (own_c ls (3 : Int32))), (nar .char (own_c ls (4 : Int32))), (nar .char (own_c ls (5 : Int32))), (nar .char (own_c ls (6 : Int32))), (nar .char (own_c ls (7 : Int32)))], rfl, N712, (by show Keep h0 T712.heap []; exact Kc712), (by show Exa Z T712.heap b588 "java/lang/String"; exact Ei712), (by show Fld Z T712.heap b588 "java/lang/String" "coder" "B" (.int (0 : Int32)); exact Ci712), (by show Fld Z T712.heap b588 "java/lang/String" "value" "[B" (.ref t712); exact Vi712), (by show Arv Z T712.heap t712 kt712 .byte (Int32.ofNat ([(nar .char (own_c ls (0 : Int32))), (nar .char (own_c ls (1 : Int32))), (nar .char (own_c ls (2 : Int32))), (nar .char (own_c ls (3 : Int32))), (nar .char (own_c ls (4 : Int32))), (nar .char (own_c ls (5 : Int32))), (nar .char (own_c ls (6 : Int32))), (nar .char (own_c ls (7 : Int32)))] : List Int32).length) ((([(nar .char (own_c ls (0 : Int32))), (nar .char (own_c ls (1 : Int32))), (nar .char (own_c ls (2 : Int32))), (nar .char (own_c ls (3 : Int32))), (nar .char (own_c ls (4 : Int32))), (nar .char (own_c ls (5 : Int32))), (nar .char (own_c ls (6 : Int32))), (nar .char (own_c ls (7 : Int32)))] : List Int32).map fun c => c.toInt8.toInt32).map Value.int) (.int (0 : Int32)); exact Ai712), Nat.le_of_ble_eq_true rfl, (own_aS (own_cP hls _) (own_aS (own_cP hls _) (own_aS (own_cP hls _) (own_aS (own_cP hls _) (own_aS (own_cP hls _) (own_aS (own_cP hls _) (own_aS (own_cP hls _) (own_aS (own_cP hls _) own_a0))))))))⟩, hRl, hEnd.1, hEnd.2.1, hEnd.2.2.1, hEnd.2.2.2.mono (by decide) (by decide)⟩
set_option maxRecDepth 65536 in
set_option maxHeartbeats 40000000 in
theorem own_pt_own_rm9_847 (l : Launch) (Z : State) (a0 : Array Value) (hw : ∀ d ∈ tables_1, d.before a0 Z = true) (ws : List Jvm.Cond) (x0 : Addr) (x1 : Int32) (kc : ClassId) (ls : List Int32) (cs : Int32) (h0 : Heap) (n0 : Nat) (Z0 : n0 ≤ h0.size) (hPm : own_P_own_rm9 Z a0 x0 x1 kc ls cs h0 n0)
    {p : Program} {e : Env} {s : State} {m : MethodId} {below : List Frame} {meth : Method} {c : Code} {s₁ : State} (Bd : BodyLoose p l own_n17 (head1 (Jvm.Cond.code own_n17 method_4_code 2 (some (.object "java/lang/String")) :: ws) own_r_own_rm9) method_4_code 2 (some (.object "java/lang/String")) e s m #[(.ref x0), (.int x1)] below meth c s₁) (hml0 : c.maxLocals = 2) (hh : s.heap = h0) 
    (b723 : Addr) (b731 : Addr) (k731 : ClassId)
    (Tpt : State) (lpt : List Loc) (vmpt : Vm) (hZ : Z.Warmed39 vmpt) (hown : vmpt.findClass "com/example/polgen/polgen/model/MultiplicityNamedPinLaw" = some m.cls) (hpt : Heap)
    (Xpt : Stand p l e own_r_own_rm9 (s.setVm vmpt) m #[(.ref x0), (.int x1)] below meth c Tpt lpt 2 13) (Ept : Tpt.heap = hpt) (Npt : Fr n0 lpt) (Zpt : n0 ≤ hpt.size) (kpt : Nat) (hSpt : s.Since vmpt kpt) (hkpt : kpt ≤ hpt.size) (Rpt : CHr Z own_EL s.vm h0 vmpt hpt)
    (Pf847_0 : Arv Z hpt x0 kc .char (9 : Int32) (ls.map Value.int) (.int (0 : Int32)))
    (Pf847_1 : Sta Z hpt "java/lang/String" "COMPACT_STRINGS" "Z" (.int cs))
    (Pf847_2 : Safe Z own_EL vmpt hpt b723)
    (Pf847_3 : Exa Z hpt b723 "java/lang/String")
    (Pf847_4 : Fld Z hpt b723 "java/lang/String" "value" "[B" .null)
    (Pf847_5 : Fld Z hpt b723 "java/lang/String" "coder" "B" (.int (0 : Int32)))
    (Pf847_6 : Safe Z own_EL vmpt hpt b731)
    (Pf847_7 : Arv Z hpt b731 k731 .char (9 : Int32) [(.int (nar .char (own_c ls (0 : Int32)))), (.int (nar .char (own_c ls (1 : Int32)))), (.int (nar .char (own_c ls (2 : Int32)))), (.int (nar .char (own_c ls (3 : Int32)))), (.int (nar .char (own_c ls (4 : Int32)))), (.int (nar .char (own_c ls (5 : Int32)))), (.int (nar .char (own_c ls (6 : Int32)))), (.int (nar .char (own_c ls (7 : Int32)))), (.int (0 : Int32))] (.int (0 : Int32)))
    (Pg847_9 : n0 ≤ b723)
    (Pg847_10 : h0.size ≤ b723)
    (Pn847_12 : b723 ≠ b731)
    (Pg847_13 : n0 ≤ b731)
    (Pg847_14 : h0.size ≤ b731)
    (Ph847_15 : (0 : Int32) < x1)
    (Ph847_16 : ¬ (x1 = (1 : Int32)))
    (Ph847_17 : ¬ (x1 = (2 : Int32)))
    (Ph847_18 : ¬ (x1 = (3 : Int32)))
    (Ph847_19 : ¬ (x1 = (4 : Int32)))
    (Ph847_20 : ¬ (x1 = (5 : Int32)))
    (Ph847_21 : ¬ (x1 = (6 : Int32)))
    (Ph847_22 : ¬ (x1 = (7 : Int32)))
    (Ph847_23 : ¬ (x1 = (8 : Int32)))
    (Kpt847 : Keep h0 hpt [])
    : Goes p.tables e below (Tpt.setTop (mkF m 434 #[.val (.ref x0), .val (.int x1)] [(.int (8 : Int32)), (.ref b731), (.ref b731), (.ref b723), (.ref b723)])) (own_RH Z below s (own_Q_own_rm9 Z x0 x1 kc ls cs h0 n0) own_r_own_rm9.cells own_r_own_rm9.slots) := by
  obtain ⟨VC, hls, SC, hcs⟩ := id hPm
  have hx := Bd.exec
  have hby := Bd.bytes
  have hml : c.maxLocals = 2 := hml0
  have hnm := (name_of_methodNamed Bd.named Bd.method).1
  have own_wS' : ∀ a ∈ Bundle.stringAtoms, a.before a0 Z = true := own_wS hw
  have hEL := own_EW hw
  refine gx (XS.aloadN Xpt.here hx rfl (hb hby d9_434) rfl rfl) ?_
  refine gx (XS.bipush Xpt.here hx rfl (hb hby d9_435)) ?_
  obtain ⟨cl848, Ar848, q848, S848, N848, H848, G848⟩ := id Pf847_0
  have hin848 : ¬ ((8 : Int32) < 0 ∨ cl848.slots.size ≤ ((8 : Int32)).toNatClampNeg) := inb_of S848 ⟨by decide, by decide⟩
  have hat848 : cl848.slots[((8 : Int32)).toNatClampNeg]? = some (.int (own_c ls (8 : Int32))) := Has.at H848 hin848 (own_cat ls (8 : Int32))
  refine gx (Xpt.caload hx (j := (8 : Int32)) (v := (.int (own_c ls (8 : Int32)))) (by rw [Ept]; exact Ar848.1) (State.isArrayOf_alike hZ.alike Ar848.2.1) Ar848.2.2 hin848 hat848 (g := (mkF m 437 #[.val (.ref x0), .val (.int x1)] [(.int (8 : Int32)), (.ref x0), (.int (8 : Int32)), (.ref b731), (.ref b731), (.ref b723), (.ref b723)])) rfl rfl (hb hby d9_437) _) ?_
  obtain ⟨cl849, Ar849, q849, S849, N849, H849, G849⟩ := id Pf847_7
  have hin849 : ¬ ((8 : Int32) < 0 ∨ cl849.slots.size ≤ ((8 : Int32)).toNatClampNeg) := inb_of S849 ⟨by decide, by decide⟩
  obtain ⟨T850, h850, X850, e850, W850, st850⟩ := stC Xpt hx hZ Ept Ar849 (j := (8 : Int32)) hin849 (g := (mkF m 438 #[.val (.ref x0), .val (.int x1)] [(.int (own_c ls (8 : Int32))), (.int (8 : Int32)), (.ref b731), (.ref b731), (.ref b723), (.ref b723)])) rfl rfl (hb hby d9_438)
  subst e850
  have Sf851 := Safe.wr W850 Pf847_6 Rpt.1 Pf847_2
  have R853 := Rpt.trans (CHr.wr W850 Pf847_6 Rpt.1)
  have hk854 := Nat.le_trans hkpt (Nat.le_of_eq W850.size.symm)
  have F856 := Pf847_1.wr W850
  have F857 := Pf847_3.wr W850
  have F858 := Pf847_4.other W850 (Or.inl Pn847_12)
  have F859 := Pf847_5.other W850 (Or.inl Pn847_12)
  have N850 := Fr.snoc X850 Npt Pg847_13
  have Z850 : n0 ≤ T850.heap.size := Nat.le_trans Zpt (Nat.le_of_eq W850.size.symm)
  have K850 : Keep h0 T850.heap [] := Kpt847.wr W850 (Or.inr Pg847_14)
  have V850 : Arv Z T850.heap b731 k731 .char (9 : Int32) [(.int (nar .char (own_c ls (0 : Int32)))), (.int (nar .char (own_c ls (1 : Int32)))), (.int (nar .char (own_c ls (2 : Int32)))), (.int (nar .char (own_c ls (3 : Int32)))), (.int (nar .char (own_c ls (4 : Int32)))), (.int (nar .char (own_c ls (5 : Int32)))), (.int (nar .char (own_c ls (6 : Int32)))), (.int (nar .char (own_c ls (7 : Int32)))), (.int (nar .char (own_c ls (8 : Int32))))] (.int (0 : Int32)) := Arv.set Ar849 q849 S849 N849 H849 G849 (fits_nar_char _) W850 8 rfl (Nat.le_of_ble_eq_true rfl)
  refine Goes.to st850 ?_
  obtain ⟨_, _, ⟨T861, L861, k861, n861⟩, -, X861, ⟨Lc861, hQ861, l861, y861, z861⟩, st861⟩ := X850.specialBack hx (y := own_n16) rfl hown (mvT hZ (own_hw hw 52 rfl)) (mvT hZ (own_hw hw 53 rfl)) (mvT hZ (own_hw hw 54 rfl)) (by decide) (StrChars.Road.backV (W := 1) hZ (own_hwV hw) (own_hw hw 3 rfl) (n0 := n0) Pg847_9 Z850 F857 F858 F859 (cs := [(nar .char (own_c ls (0 : Int32))), (nar .char (own_c ls (1 : Int32))), (nar .char (own_c ls (2 : Int32))), (nar .char (own_c ls (3 : Int32))), (nar .char (own_c ls (4 : Int32))), (nar .char (own_c ls (5 : Int32))), (nar .char (own_c ls (6 : Int32))), (nar .char (own_c ls (7 : Int32))), (nar .char (own_c ls (8 : Int32)))]) V850 F856 hcs (n := 9) rfl rfl (by decide) (by decide) (own_aS (own_cP hls _) (own_aS (own_cP hls _) (own_aS (own_cP hls _) (own_aS (own_cP hls _) (own_aS (own_cP hls _) (own_aS (own_cP hls _) (own_aS (own_cP hls _) (own_aS (own_cP hls _) (own_aS (own_cP hls _) own_a0))))))))) (bs := [(nar .char (own_c ls (0 : Int32))), (nar .char (own_c ls (1 : Int32))), (nar .char (own_c ls (2 : Int32))), (nar .char (own_c ls (3 : Int32))), (nar .char (own_c ls (4 : Int32))), (nar .char (own_c ls (5 : Int32))), (nar .char (own_c ls (6 : Int32))), (nar .char (own_c ls (7 : Int32))), (nar .char (own_c ls (8 : Int32)))].map fun c => c.toInt8.toInt32) rfl (by decide) (by decide)) (g := (mkF m 439 #[.val (.ref x0), .val (.int x1)] [(.ref b731), (.ref b723), (.ref b723)])) rfl (by rw [hml]; rfl) (Steps.refl _) (a := b723) (argsL := [(.ref b731)]) (rest := [(.ref b723)]) (lenOf own_pd_paCqV rfl) rfl (own_W rfl rfl) (hb hby d9_439) (fun _ _ => ⟨rfl, rfl, (by decide : 2 + 1 ≤ _), (by decide : 13 + 9 ≤ _)⟩)
  dsimp only [Pt.U, Pt.locs, Pt.cells, Pt.slots] at X861 l861 y861 z861 st861 hQ861
  subst l861 y861 z861
  obtain ⟨hv861, Nq861, K861, Ei861, Ci861, t861, kt861, -, -, -, Vi861, Ai861⟩ := hQ861
  subst hv861
  have N861 := Fr.app N850 Nq861
  have R864 := R853.trans (CHr.keep K861 (sfS Sf851 sf0) R853.1)
  have hk865 := Nat.le_trans hk854 K861.1
  have Kc861 : Keep h0 T861.heap [] := K850.trans K861 (allS (Or.inr Pg847_10) all0)
  refine Goes.tr st861 ?_
  show Goes p.tables e below (T861.setTop (mkF m 442 #[.val (.ref x0), .val (.int x1)] [(.ref b723)])) _
  have hkl := Nat.le_trans hk865 (Nat.le_refl T861.heap.size)
  obtain ⟨fs, hr, hrun, hended, hEnd⟩ := X861.leaveW (s := s) hSpt hkl (v := some (.ref b723)) (fun h => by rw [Bd.returns] at h; cases h)
  have hRl : CHr Z own_EL s.vm s.heap T861.vm T861.heap := by
    rw [hh]
    exact R864.trans (CHv.at (s := s) X861 hZ hEL R864.1)
  exact ⟨_, _, retOut X861 hx Bd.returns rfl (Or.inr (Or.inr (Or.inr (Or.inr ⟨rfl, rfl, rfl⟩)))) (hb hby d9_442) hr, hrun, hended, _, _, rfl, ⟨b723, t861, kt861, [(nar .char (own_c ls (0 : Int32))), (nar .char (own_c ls (1 : Int32))), (nar .char (own_c ls (2 : Int32))), (nar .char (own_c ls (3 : Int32))), (nar .char (own_c ls (4 : Int32))), (nar .char (own_c ls (5 : Int32))), (nar .char (own_c ls (6 : Int32))), (nar .char (own_c ls (7 : Int32))), (nar .char (own_c ls (8 : Int32)))], rfl, N861, (by show Keep h0 T861.heap []; exact Kc861), (by show Exa Z T861.heap b723 "java/lang/String"; exact Ei861), (by show Fld Z T861.heap b723 "java/lang/String" "coder" "B" (.int (0 : Int32)); exact Ci861), (by show Fld Z T861.heap b723 "java/lang/String" "value" "[B" (.ref t861); exact Vi861), (by show Arv Z T861.heap t861 kt861 .byte (Int32.ofNat ([(nar .char (own_c ls (0 : Int32))), (nar .char (own_c ls (1 : Int32))), (nar .char (own_c ls (2 : Int32))), (nar .char (own_c ls (3 : Int32))), (nar .char (own_c ls (4 : Int32))), (nar .char (own_c ls (5 : Int32))), (nar .char (own_c ls (6 : Int32))), (nar .char (own_c ls (7 : Int32))), (nar .char (own_c ls (8 : Int32)))] : List Int32).length) ((([(nar .char (own_c ls (0 : Int32))), (nar .char (own_c ls (1 : Int32))), (nar .char (own_c ls (2 : Int32))), (nar .char (own_c ls (3 : Int32))), (nar .char (own_c ls (4 : Int32))), (nar .char (own_c ls (5 : Int32))), (nar .char (own_c ls (6 : Int32))), (nar .char (own_c ls (7 : Int32))), (nar .char (own_c ls (8 : Int32)))] : List Int32).map fun c => c.toInt8.toInt32).map Value.int) (.int (0 : Int32)); exact Ai861), Nat.le_of_ble_eq_true rfl, (own_aS (own_cP hls _) (own_aS (own_cP hls _) (own_aS (own_cP hls _) (own_aS (own_cP hls _) (own_aS (own_cP hls _) (own_aS (own_cP hls _) (own_aS (own_cP hls _) (own_aS (own_cP hls _) (own_aS (own_cP hls _) own_a0)))))))))⟩, hRl, hEnd.1, hEnd.2.1, hEnd.2.2.1, hEnd.2.2.2.mono (by decide) (by decide)⟩
set_option maxRecDepth 65536 in
set_option maxHeartbeats 40000000 in
theorem own_pt_own_rm9_755 (l : Launch) (Z : State) (a0 : Array Value) (hw : ∀ d ∈ tables_1, d.before a0 Z = true) (ws : List Jvm.Cond) (x0 : Addr) (x1 : Int32) (kc : ClassId) (ls : List Int32) (cs : Int32) (h0 : Heap) (n0 : Nat) (Z0 : n0 ≤ h0.size) (hPm : own_P_own_rm9 Z a0 x0 x1 kc ls cs h0 n0)
    {p : Program} {e : Env} {s : State} {m : MethodId} {below : List Frame} {meth : Method} {c : Code} {s₁ : State} (Bd : BodyLoose p l own_n17 (head1 (Jvm.Cond.code own_n17 method_4_code 2 (some (.object "java/lang/String")) :: ws) own_r_own_rm9) method_4_code 2 (some (.object "java/lang/String")) e s m #[(.ref x0), (.int x1)] below meth c s₁) (hml0 : c.maxLocals = 2) (hh : s.heap = h0) 
    (b723 : Addr) (b731 : Addr) (k731 : ClassId)
    (Tpt : State) (lpt : List Loc) (vmpt : Vm) (hZ : Z.Warmed39 vmpt) (hown : vmpt.findClass "com/example/polgen/polgen/model/MultiplicityNamedPinLaw" = some m.cls) (hpt : Heap)
    (Xpt : Stand p l e own_r_own_rm9 (s.setVm vmpt) m #[(.ref x0), (.int x1)] below meth c Tpt lpt 2 13) (Ept : Tpt.heap = hpt) (Npt : Fr n0 lpt) (Zpt : n0 ≤ hpt.size) (kpt : Nat) (hSpt : s.Since vmpt kpt) (hkpt : kpt ≤ hpt.size) (Rpt : CHr Z own_EL s.vm h0 vmpt hpt)
    (Pf755_0 : Arv Z hpt x0 kc .char (9 : Int32) (ls.map Value.int) (.int (0 : Int32)))
    (Pf755_1 : Sta Z hpt "java/lang/String" "COMPACT_STRINGS" "Z" (.int cs))
    (Pf755_2 : Safe Z own_EL vmpt hpt b723)
    (Pf755_3 : Exa Z hpt b723 "java/lang/String")
    (Pf755_4 : Fld Z hpt b723 "java/lang/String" "value" "[B" .null)
    (Pf755_5 : Fld Z hpt b723 "java/lang/String" "coder" "B" (.int (0 : Int32)))
    (Pf755_6 : Safe Z own_EL vmpt hpt b731)
    (Pf755_7 : Arv Z hpt b731 k731 .char (9 : Int32) [(.int (nar .char (own_c ls (0 : Int32)))), (.int (0 : Int32)), (.int (0 : Int32)), (.int (0 : Int32)), (.int (0 : Int32)), (.int (0 : Int32)), (.int (0 : Int32)), (.int (0 : Int32)), (.int (0 : Int32))] (.int (0 : Int32)))
    (Pg755_9 : n0 ≤ b723)
    (Pg755_10 : h0.size ≤ b723)
    (Pn755_11 : x0 ≠ b731)
    (Pn755_12 : b723 ≠ b731)
    (Pg755_13 : n0 ≤ b731)
    (Pg755_14 : h0.size ≤ b731)
    (Ph755_15 : (0 : Int32) < x1)
    (Ph755_16 : ¬ (x1 = (1 : Int32)))
    (Ph755_17 : ¬ (x1 = (2 : Int32)))
    (Ph755_18 : ¬ (x1 = (3 : Int32)))
    (Ph755_19 : ¬ (x1 = (4 : Int32)))
    (Ph755_20 : ¬ (x1 = (5 : Int32)))
    (Ph755_21 : ¬ (x1 = (6 : Int32)))
    (Ph755_22 : ¬ (x1 = (7 : Int32)))
    (Ph755_23 : ¬ (x1 = (8 : Int32)))
    (Kpt755 : Keep h0 hpt [])
    : Goes p.tables e below (Tpt.setTop (mkF m 389 #[.val (.ref x0), .val (.int x1)] [(.int (1 : Int32)), (.ref x0), (.int (1 : Int32)), (.ref b731), (.ref b731), (.ref b723), (.ref b723)])) (own_RH Z below s (own_Q_own_rm9 Z x0 x1 kc ls cs h0 n0) own_r_own_rm9.cells own_r_own_rm9.slots) := by
  obtain ⟨VC, hls, SC, hcs⟩ := id hPm
  have hx := Bd.exec
  have hby := Bd.bytes
  have hml : c.maxLocals = 2 := hml0
  have hnm := (name_of_methodNamed Bd.named Bd.method).1
  have own_wS' : ∀ a ∈ Bundle.stringAtoms, a.before a0 Z = true := own_wS hw
  have hEL := own_EW hw
  obtain ⟨cl756, Ar756, q756, S756, N756, H756, G756⟩ := id Pf755_0
  have hin756 : ¬ ((1 : Int32) < 0 ∨ cl756.slots.size ≤ ((1 : Int32)).toNatClampNeg) := inb_of S756 ⟨by decide, by decide⟩
  have hat756 : cl756.slots[((1 : Int32)).toNatClampNeg]? = some (.int (own_c ls (1 : Int32))) := Has.at H756 hin756 (own_cat ls (1 : Int32))
  refine gx (Xpt.caload hx (j := (1 : Int32)) (v := (.int (own_c ls (1 : Int32)))) (by rw [Ept]; exact Ar756.1) (State.isArrayOf_alike hZ.alike Ar756.2.1) Ar756.2.2 hin756 hat756 (g := (mkF m 389 #[.val (.ref x0), .val (.int x1)] [(.int (1 : Int32)), (.ref x0), (.int (1 : Int32)), (.ref b731), (.ref b731), (.ref b723), (.ref b723)])) rfl rfl (hb hby d9_389) _) ?_
  obtain ⟨cl757, Ar757, q757, S757, N757, H757, G757⟩ := id Pf755_7
  have hin757 : ¬ ((1 : Int32) < 0 ∨ cl757.slots.size ≤ ((1 : Int32)).toNatClampNeg) := inb_of S757 ⟨by decide, by decide⟩
  obtain ⟨T758, h758, X758, e758, W758, st758⟩ := stC Xpt hx hZ Ept Ar757 (j := (1 : Int32)) hin757 (g := (mkF m 390 #[.val (.ref x0), .val (.int x1)] [(.int (own_c ls (1 : Int32))), (.int (1 : Int32)), (.ref b731), (.ref b731), (.ref b723), (.ref b723)])) rfl rfl (hb hby d9_390)
  subst e758
  have Sf759 := Safe.wr W758 Pf755_6 Rpt.1 Pf755_2
  have Sf760 := Safe.wr W758 Pf755_6 Rpt.1 Pf755_6
  have R761 := Rpt.trans (CHr.wr W758 Pf755_6 Rpt.1)
  have hk762 := Nat.le_trans hkpt (Nat.le_of_eq W758.size.symm)
  have F763 := Pf755_0.other W758 Pn755_11
  have F764 := Pf755_1.wr W758
  have F765 := Pf755_3.wr W758
  have F766 := Pf755_4.other W758 (Or.inl Pn755_12)
  have F767 := Pf755_5.other W758 (Or.inl Pn755_12)
  have N758 := Fr.snoc X758 Npt Pg755_13
  have Z758 : n0 ≤ T758.heap.size := Nat.le_trans Zpt (Nat.le_of_eq W758.size.symm)
  have K758 : Keep h0 T758.heap [] := Kpt755.wr W758 (Or.inr Pg755_14)
  have V758 : Arv Z T758.heap b731 k731 .char (9 : Int32) [(.int (nar .char (own_c ls (0 : Int32)))), (.int (nar .char (own_c ls (1 : Int32)))), (.int (0 : Int32)), (.int (0 : Int32)), (.int (0 : Int32)), (.int (0 : Int32)), (.int (0 : Int32)), (.int (0 : Int32)), (.int (0 : Int32))] (.int (0 : Int32)) := Arv.set Ar757 q757 S757 N757 H757 G757 (fits_nar_char _) W758 1 rfl (Nat.le_of_ble_eq_true rfl)
  refine Goes.to st758 ?_
  refine gx (XS.dup X758.here hx rfl (hb hby d9_391) rfl rfl) ?_
  refine gx (XS.iconst X758.here hx rfl (hb hby d9_392)) ?_
  refine gx (XS.aloadN X758.here hx rfl (hb hby d9_393) rfl rfl) ?_
  refine gx (XS.iconst X758.here hx rfl (hb hby d9_394)) ?_
  obtain ⟨cl769, Ar769, q769, S769, N769, H769, G769⟩ := id F763
  have hin769 : ¬ ((2 : Int32) < 0 ∨ cl769.slots.size ≤ ((2 : Int32)).toNatClampNeg) := inb_of S769 ⟨by decide, by decide⟩
  have hat769 : cl769.slots[((2 : Int32)).toNatClampNeg]? = some (.int (own_c ls (2 : Int32))) := Has.at H769 hin769 (own_cat ls (2 : Int32))
  refine gx (X758.caload hx (j := (2 : Int32)) (v := (.int (own_c ls (2 : Int32)))) Ar769.1 (State.isArrayOf_alike hZ.alike Ar769.2.1) Ar769.2.2 hin769 hat769 (g := (mkF m 395 #[.val (.ref x0), .val (.int x1)] [(.int (2 : Int32)), (.ref x0), (.int (2 : Int32)), (.ref b731), (.ref b731), (.ref b723), (.ref b723)])) rfl rfl (hb hby d9_395) _) ?_
  obtain ⟨cl770, Ar770, q770, S770, N770, H770, G770⟩ := id V758
  have hin770 : ¬ ((2 : Int32) < 0 ∨ cl770.slots.size ≤ ((2 : Int32)).toNatClampNeg) := inb_of S770 ⟨by decide, by decide⟩
  obtain ⟨T771, h771, X771, e771, W771, st771⟩ := stC X758 hx hZ rfl Ar770 (j := (2 : Int32)) hin770 (g := (mkF m 396 #[.val (.ref x0), .val (.int x1)] [(.int (own_c ls (2 : Int32))), (.int (2 : Int32)), (.ref b731), (.ref b731), (.ref b723), (.ref b723)])) rfl rfl (hb hby d9_396)
  subst e771
  have Sf772 := Safe.wr W771 Sf760 R761.1 Sf759
  have Sf773 := Safe.wr W771 Sf760 R761.1 Sf760
  have R774 := R761.trans (CHr.wr W771 Sf760 R761.1)
  have hk775 := Nat.le_trans hk762 (Nat.le_of_eq W771.size.symm)
  have F776 := F763.other W771 Pn755_11
  have F777 := F764.wr W771
  have F778 := F765.wr W771
  have F779 := F766.other W771 (Or.inl Pn755_12)
  have F780 := F767.other W771 (Or.inl Pn755_12)
  have N771 := Fr.snoc X771 N758 Pg755_13
  have Z771 : n0 ≤ T771.heap.size := Nat.le_trans Z758 (Nat.le_of_eq W771.size.symm)
  have K771 : Keep h0 T771.heap [] := K758.wr W771 (Or.inr Pg755_14)
  have V771 : Arv Z T771.heap b731 k731 .char (9 : Int32) [(.int (nar .char (own_c ls (0 : Int32)))), (.int (nar .char (own_c ls (1 : Int32)))), (.int (nar .char (own_c ls (2 : Int32)))), (.int (0 : Int32)), (.int (0 : Int32)), (.int (0 : Int32)), (.int (0 : Int32)), (.int (0 : Int32)), (.int (0 : Int32))] (.int (0 : Int32)) := Arv.set Ar770 q770 S770 N770 H770 G770 (fits_nar_char _) W771 2 rfl (Nat.le_of_ble_eq_true rfl)
  refine Goes.to st771 ?_
  refine gx (XS.dup X771.here hx rfl (hb hby d9_397) rfl rfl) ?_
  refine gx (XS.iconst X771.here hx rfl (hb hby d9_398)) ?_
  refine gx (XS.aloadN X771.here hx rfl (hb hby d9_399) rfl rfl) ?_
  refine gx (XS.iconst X771.here hx rfl (hb hby d9_400)) ?_
  obtain ⟨cl782, Ar782, q782, S782, N782, H782, G782⟩ := id F776
  have hin782 : ¬ ((3 : Int32) < 0 ∨ cl782.slots.size ≤ ((3 : Int32)).toNatClampNeg) := inb_of S782 ⟨by decide, by decide⟩
  have hat782 : cl782.slots[((3 : Int32)).toNatClampNeg]? = some (.int (own_c ls (3 : Int32))) := Has.at H782 hin782 (own_cat ls (3 : Int32))
  refine gx (X771.caload hx (j := (3 : Int32)) (v := (.int (own_c ls (3 : Int32)))) Ar782.1 (State.isArrayOf_alike hZ.alike Ar782.2.1) Ar782.2.2 hin782 hat782 (g := (mkF m 401 #[.val (.ref x0), .val (.int x1)] [(.int (3 : Int32)), (.ref x0), (.int (3 : Int32)), (.ref b731), (.ref b731), (.ref b723), (.ref b723)])) rfl rfl (hb hby d9_401) _) ?_
  obtain ⟨cl783, Ar783, q783, S783, N783, H783, G783⟩ := id V771
  have hin783 : ¬ ((3 : Int32) < 0 ∨ cl783.slots.size ≤ ((3 : Int32)).toNatClampNeg) := inb_of S783 ⟨by decide, by decide⟩
  obtain ⟨T784, h784, X784, e784, W784, st784⟩ := stC X771 hx hZ rfl Ar783 (j := (3 : Int32)) hin783 (g := (mkF m 402 #[.val (.ref x0), .val (.int x1)] [(.int (own_c ls (3 : Int32))), (.int (3 : Int32)), (.ref b731), (.ref b731), (.ref b723), (.ref b723)])) rfl rfl (hb hby d9_402)
  subst e784
  have Sf785 := Safe.wr W784 Sf773 R774.1 Sf772
  have Sf786 := Safe.wr W784 Sf773 R774.1 Sf773
  have R787 := R774.trans (CHr.wr W784 Sf773 R774.1)
  have hk788 := Nat.le_trans hk775 (Nat.le_of_eq W784.size.symm)
  have F789 := F776.other W784 Pn755_11
  have F790 := F777.wr W784
  have F791 := F778.wr W784
  have F792 := F779.other W784 (Or.inl Pn755_12)
  have F793 := F780.other W784 (Or.inl Pn755_12)
  have N784 := Fr.snoc X784 N771 Pg755_13
  have Z784 : n0 ≤ T784.heap.size := Nat.le_trans Z771 (Nat.le_of_eq W784.size.symm)
  have K784 : Keep h0 T784.heap [] := K771.wr W784 (Or.inr Pg755_14)
  have V784 : Arv Z T784.heap b731 k731 .char (9 : Int32) [(.int (nar .char (own_c ls (0 : Int32)))), (.int (nar .char (own_c ls (1 : Int32)))), (.int (nar .char (own_c ls (2 : Int32)))), (.int (nar .char (own_c ls (3 : Int32)))), (.int (0 : Int32)), (.int (0 : Int32)), (.int (0 : Int32)), (.int (0 : Int32)), (.int (0 : Int32))] (.int (0 : Int32)) := Arv.set Ar783 q783 S783 N783 H783 G783 (fits_nar_char _) W784 3 rfl (Nat.le_of_ble_eq_true rfl)
  refine Goes.to st784 ?_
  refine gx (XS.dup X784.here hx rfl (hb hby d9_403) rfl rfl) ?_
  refine gx (XS.iconst X784.here hx rfl (hb hby d9_404)) ?_
  refine gx (XS.aloadN X784.here hx rfl (hb hby d9_405) rfl rfl) ?_
  refine gx (XS.iconst X784.here hx rfl (hb hby d9_406)) ?_
  obtain ⟨cl795, Ar795, q795, S795, N795, H795, G795⟩ := id F789
  have hin795 : ¬ ((4 : Int32) < 0 ∨ cl795.slots.size ≤ ((4 : Int32)).toNatClampNeg) := inb_of S795 ⟨by decide, by decide⟩
  have hat795 : cl795.slots[((4 : Int32)).toNatClampNeg]? = some (.int (own_c ls (4 : Int32))) := Has.at H795 hin795 (own_cat ls (4 : Int32))
  refine gx (X784.caload hx (j := (4 : Int32)) (v := (.int (own_c ls (4 : Int32)))) Ar795.1 (State.isArrayOf_alike hZ.alike Ar795.2.1) Ar795.2.2 hin795 hat795 (g := (mkF m 407 #[.val (.ref x0), .val (.int x1)] [(.int (4 : Int32)), (.ref x0), (.int (4 : Int32)), (.ref b731), (.ref b731), (.ref b723), (.ref b723)])) rfl rfl (hb hby d9_407) _) ?_
  obtain ⟨cl796, Ar796, q796, S796, N796, H796, G796⟩ := id V784
  have hin796 : ¬ ((4 : Int32) < 0 ∨ cl796.slots.size ≤ ((4 : Int32)).toNatClampNeg) := inb_of S796 ⟨by decide, by decide⟩
  obtain ⟨T797, h797, X797, e797, W797, st797⟩ := stC X784 hx hZ rfl Ar796 (j := (4 : Int32)) hin796 (g := (mkF m 408 #[.val (.ref x0), .val (.int x1)] [(.int (own_c ls (4 : Int32))), (.int (4 : Int32)), (.ref b731), (.ref b731), (.ref b723), (.ref b723)])) rfl rfl (hb hby d9_408)
  subst e797
  have Sf798 := Safe.wr W797 Sf786 R787.1 Sf785
  have Sf799 := Safe.wr W797 Sf786 R787.1 Sf786
  have R800 := R787.trans (CHr.wr W797 Sf786 R787.1)
  have hk801 := Nat.le_trans hk788 (Nat.le_of_eq W797.size.symm)
  have F802 := F789.other W797 Pn755_11
  have F803 := F790.wr W797
  have F804 := F791.wr W797
  have F805 := F792.other W797 (Or.inl Pn755_12)
  have F806 := F793.other W797 (Or.inl Pn755_12)
  have N797 := Fr.snoc X797 N784 Pg755_13
  have Z797 : n0 ≤ T797.heap.size := Nat.le_trans Z784 (Nat.le_of_eq W797.size.symm)
  have K797 : Keep h0 T797.heap [] := K784.wr W797 (Or.inr Pg755_14)
  have V797 : Arv Z T797.heap b731 k731 .char (9 : Int32) [(.int (nar .char (own_c ls (0 : Int32)))), (.int (nar .char (own_c ls (1 : Int32)))), (.int (nar .char (own_c ls (2 : Int32)))), (.int (nar .char (own_c ls (3 : Int32)))), (.int (nar .char (own_c ls (4 : Int32)))), (.int (0 : Int32)), (.int (0 : Int32)), (.int (0 : Int32)), (.int (0 : Int32))] (.int (0 : Int32)) := Arv.set Ar796 q796 S796 N796 H796 G796 (fits_nar_char _) W797 4 rfl (Nat.le_of_ble_eq_true rfl)
  refine Goes.to st797 ?_
  refine gx (XS.dup X797.here hx rfl (hb hby d9_409) rfl rfl) ?_
  refine gx (XS.iconst X797.here hx rfl (hb hby d9_410)) ?_
  refine gx (XS.aloadN X797.here hx rfl (hb hby d9_411) rfl rfl) ?_
  refine gx (XS.iconst X797.here hx rfl (hb hby d9_412)) ?_
  obtain ⟨cl808, Ar808, q808, S808, N808, H808, G808⟩ := id F802
  have hin808 : ¬ ((5 : Int32) < 0 ∨ cl808.slots.size ≤ ((5 : Int32)).toNatClampNeg) := inb_of S808 ⟨by decide, by decide⟩
  have hat808 : cl808.slots[((5 : Int32)).toNatClampNeg]? = some (.int (own_c ls (5 : Int32))) := Has.at H808 hin808 (own_cat ls (5 : Int32))
  refine gx (X797.caload hx (j := (5 : Int32)) (v := (.int (own_c ls (5 : Int32)))) Ar808.1 (State.isArrayOf_alike hZ.alike Ar808.2.1) Ar808.2.2 hin808 hat808 (g := (mkF m 413 #[.val (.ref x0), .val (.int x1)] [(.int (5 : Int32)), (.ref x0), (.int (5 : Int32)), (.ref b731), (.ref b731), (.ref b723), (.ref b723)])) rfl rfl (hb hby d9_413) _) ?_
  obtain ⟨cl809, Ar809, q809, S809, N809, H809, G809⟩ := id V797
  have hin809 : ¬ ((5 : Int32) < 0 ∨ cl809.slots.size ≤ ((5 : Int32)).toNatClampNeg) := inb_of S809 ⟨by decide, by decide⟩
  obtain ⟨T810, h810, X810, e810, W810, st810⟩ := stC X797 hx hZ rfl Ar809 (j := (5 : Int32)) hin809 (g := (mkF m 414 #[.val (.ref x0), .val (.int x1)] [(.int (own_c ls (5 : Int32))), (.int (5 : Int32)), (.ref b731), (.ref b731), (.ref b723), (.ref b723)])) rfl rfl (hb hby d9_414)
  subst e810
  have Sf811 := Safe.wr W810 Sf799 R800.1 Sf798
  have Sf812 := Safe.wr W810 Sf799 R800.1 Sf799
  have R813 := R800.trans (CHr.wr W810 Sf799 R800.1)
  have hk814 := Nat.le_trans hk801 (Nat.le_of_eq W810.size.symm)
  have F815 := F802.other W810 Pn755_11
  have F816 := F803.wr W810
  have F817 := F804.wr W810
  have F818 := F805.other W810 (Or.inl Pn755_12)
  have F819 := F806.other W810 (Or.inl Pn755_12)
  have N810 := Fr.snoc X810 N797 Pg755_13
  have Z810 : n0 ≤ T810.heap.size := Nat.le_trans Z797 (Nat.le_of_eq W810.size.symm)
  have K810 : Keep h0 T810.heap [] := K797.wr W810 (Or.inr Pg755_14)
  have V810 : Arv Z T810.heap b731 k731 .char (9 : Int32) [(.int (nar .char (own_c ls (0 : Int32)))), (.int (nar .char (own_c ls (1 : Int32)))), (.int (nar .char (own_c ls (2 : Int32)))), (.int (nar .char (own_c ls (3 : Int32)))), (.int (nar .char (own_c ls (4 : Int32)))), (.int (nar .char (own_c ls (5 : Int32)))), (.int (0 : Int32)), (.int (0 : Int32)), (.int (0 : Int32))] (.int (0 : Int32)) := Arv.set Ar809 q809 S809 N809 H809 G809 (fits_nar_char _) W810 5 rfl (Nat.le_of_ble_eq_true rfl)
  refine Goes.to st810 ?_
  refine gx (XS.dup X810.here hx rfl (hb hby d9_415) rfl rfl) ?_
  refine gx (XS.bipush X810.here hx rfl (hb hby d9_416)) ?_
  refine gx (XS.aloadN X810.here hx rfl (hb hby d9_418) rfl rfl) ?_
  refine gx (XS.bipush X810.here hx rfl (hb hby d9_419)) ?_
  obtain ⟨cl821, Ar821, q821, S821, N821, H821, G821⟩ := id F815
  have hin821 : ¬ ((6 : Int32) < 0 ∨ cl821.slots.size ≤ ((6 : Int32)).toNatClampNeg) := inb_of S821 ⟨by decide, by decide⟩
  have hat821 : cl821.slots[((6 : Int32)).toNatClampNeg]? = some (.int (own_c ls (6 : Int32))) := Has.at H821 hin821 (own_cat ls (6 : Int32))
  refine gx (X810.caload hx (j := (6 : Int32)) (v := (.int (own_c ls (6 : Int32)))) Ar821.1 (State.isArrayOf_alike hZ.alike Ar821.2.1) Ar821.2.2 hin821 hat821 (g := (mkF m 421 #[.val (.ref x0), .val (.int x1)] [(.int (6 : Int32)), (.ref x0), (.int (6 : Int32)), (.ref b731), (.ref b731), (.ref b723), (.ref b723)])) rfl rfl (hb hby d9_421) _) ?_
  obtain ⟨cl822, Ar822, q822, S822, N822, H822, G822⟩ := id V810
  have hin822 : ¬ ((6 : Int32) < 0 ∨ cl822.slots.size ≤ ((6 : Int32)).toNatClampNeg) := inb_of S822 ⟨by decide, by decide⟩
  obtain ⟨T823, h823, X823, e823, W823, st823⟩ := stC X810 hx hZ rfl Ar822 (j := (6 : Int32)) hin822 (g := (mkF m 422 #[.val (.ref x0), .val (.int x1)] [(.int (own_c ls (6 : Int32))), (.int (6 : Int32)), (.ref b731), (.ref b731), (.ref b723), (.ref b723)])) rfl rfl (hb hby d9_422)
  subst e823
  have Sf824 := Safe.wr W823 Sf812 R813.1 Sf811
  have Sf825 := Safe.wr W823 Sf812 R813.1 Sf812
  have R826 := R813.trans (CHr.wr W823 Sf812 R813.1)
  have hk827 := Nat.le_trans hk814 (Nat.le_of_eq W823.size.symm)
  have F828 := F815.other W823 Pn755_11
  have F829 := F816.wr W823
  have F830 := F817.wr W823
  have F831 := F818.other W823 (Or.inl Pn755_12)
  have F832 := F819.other W823 (Or.inl Pn755_12)
  have N823 := Fr.snoc X823 N810 Pg755_13
  have Z823 : n0 ≤ T823.heap.size := Nat.le_trans Z810 (Nat.le_of_eq W823.size.symm)
  have K823 : Keep h0 T823.heap [] := K810.wr W823 (Or.inr Pg755_14)
  have V823 : Arv Z T823.heap b731 k731 .char (9 : Int32) [(.int (nar .char (own_c ls (0 : Int32)))), (.int (nar .char (own_c ls (1 : Int32)))), (.int (nar .char (own_c ls (2 : Int32)))), (.int (nar .char (own_c ls (3 : Int32)))), (.int (nar .char (own_c ls (4 : Int32)))), (.int (nar .char (own_c ls (5 : Int32)))), (.int (nar .char (own_c ls (6 : Int32)))), (.int (0 : Int32)), (.int (0 : Int32))] (.int (0 : Int32)) := Arv.set Ar822 q822 S822 N822 H822 G822 (fits_nar_char _) W823 6 rfl (Nat.le_of_ble_eq_true rfl)
  refine Goes.to st823 ?_
  refine gx (XS.dup X823.here hx rfl (hb hby d9_423) rfl rfl) ?_
  refine gx (XS.bipush X823.here hx rfl (hb hby d9_424)) ?_
  refine gx (XS.aloadN X823.here hx rfl (hb hby d9_426) rfl rfl) ?_
  refine gx (XS.bipush X823.here hx rfl (hb hby d9_427)) ?_
  obtain ⟨cl834, Ar834, q834, S834, N834, H834, G834⟩ := id F828
  have hin834 : ¬ ((7 : Int32) < 0 ∨ cl834.slots.size ≤ ((7 : Int32)).toNatClampNeg) := inb_of S834 ⟨by decide, by decide⟩
  have hat834 : cl834.slots[((7 : Int32)).toNatClampNeg]? = some (.int (own_c ls (7 : Int32))) := Has.at H834 hin834 (own_cat ls (7 : Int32))
  refine gx (X823.caload hx (j := (7 : Int32)) (v := (.int (own_c ls (7 : Int32)))) Ar834.1 (State.isArrayOf_alike hZ.alike Ar834.2.1) Ar834.2.2 hin834 hat834 (g := (mkF m 429 #[.val (.ref x0), .val (.int x1)] [(.int (7 : Int32)), (.ref x0), (.int (7 : Int32)), (.ref b731), (.ref b731), (.ref b723), (.ref b723)])) rfl rfl (hb hby d9_429) _) ?_
  obtain ⟨cl835, Ar835, q835, S835, N835, H835, G835⟩ := id V823
  have hin835 : ¬ ((7 : Int32) < 0 ∨ cl835.slots.size ≤ ((7 : Int32)).toNatClampNeg) := inb_of S835 ⟨by decide, by decide⟩
  obtain ⟨T836, h836, X836, e836, W836, st836⟩ := stC X823 hx hZ rfl Ar835 (j := (7 : Int32)) hin835 (g := (mkF m 430 #[.val (.ref x0), .val (.int x1)] [(.int (own_c ls (7 : Int32))), (.int (7 : Int32)), (.ref b731), (.ref b731), (.ref b723), (.ref b723)])) rfl rfl (hb hby d9_430)
  subst e836
  have Sf837 := Safe.wr W836 Sf825 R826.1 Sf824
  have Sf838 := Safe.wr W836 Sf825 R826.1 Sf825
  have R839 := R826.trans (CHr.wr W836 Sf825 R826.1)
  have hk840 := Nat.le_trans hk827 (Nat.le_of_eq W836.size.symm)
  have F841 := F828.other W836 Pn755_11
  have F842 := F829.wr W836
  have F843 := F830.wr W836
  have F844 := F831.other W836 (Or.inl Pn755_12)
  have F845 := F832.other W836 (Or.inl Pn755_12)
  have N836 := Fr.snoc X836 N823 Pg755_13
  have Z836 : n0 ≤ T836.heap.size := Nat.le_trans Z823 (Nat.le_of_eq W836.size.symm)
  have K836 : Keep h0 T836.heap [] := K823.wr W836 (Or.inr Pg755_14)
  have V836 : Arv Z T836.heap b731 k731 .char (9 : Int32) [(.int (nar .char (own_c ls (0 : Int32)))), (.int (nar .char (own_c ls (1 : Int32)))), (.int (nar .char (own_c ls (2 : Int32)))), (.int (nar .char (own_c ls (3 : Int32)))), (.int (nar .char (own_c ls (4 : Int32)))), (.int (nar .char (own_c ls (5 : Int32)))), (.int (nar .char (own_c ls (6 : Int32)))), (.int (nar .char (own_c ls (7 : Int32)))), (.int (0 : Int32))] (.int (0 : Int32)) := Arv.set Ar835 q835 S835 N835 H835 G835 (fits_nar_char _) W836 7 rfl (Nat.le_of_ble_eq_true rfl)
  refine Goes.to st836 ?_
  refine gx (XS.dup X836.here hx rfl (hb hby d9_431) rfl rfl) ?_
  refine gx (XS.bipush X836.here hx rfl (hb hby d9_432)) ?_
  exact own_pt_own_rm9_847 l Z a0 hw ws x0 x1 kc ls cs h0 n0 Z0 hPm Bd hml0 hh  b723 b731 k731 T836 _ vmpt hZ hown T836.heap X836 rfl N836 Z836  _ hSpt hk840 R839 F841 F842 Sf837 F843 F844 F845 Sf838 V836 Pg755_9 Pg755_10 Pn755_12 Pg755_13 Pg755_14 Ph755_15 Ph755_16 Ph755_17 Ph755_18 Ph755_19 Ph755_20 Ph755_21 Ph755_22 Ph755_23 K836
set_option maxRecDepth 65536 in
set_option maxHeartbeats 40000000 in
theorem own_rm9 (l : Launch) (Z : State) (a0 : Array Value) (hw : ∀ d ∈ tables_1, d.before a0 Z = true) (ws : List Jvm.Cond) (x0 : Addr) (x1 : Int32) (kc : ClassId) (ls : List Int32) (cs : Int32) (h0 : Heap) (n0 : Nat) (Z0 : n0 ≤ h0.size) (VC : Arv Z h0 x0 kc .char (9 : Int32) (ls.map Value.int) (.int (0 : Int32))) (hls : ∀ c ∈ ls, P8 c) (SC : Sta Z h0 "java/lang/String" "COMPACT_STRINGS" "Z" (.int cs)) (hcs : ¬ (cs = (0 : Int32))) :
    MetFree l own_n17 (head1 (Jvm.Cond.code own_n17 method_4_code 2 (some (.object "java/lang/String")) :: ws) own_r_own_rm9) (fun a U => a = #[(.ref x0), (.int x1)] ∧ Z.Warmed39 U.vm ∧ U.heap = h0 ∧ CHv Z own_EL U.vm h0) (fun _ _ _ _ _ => True) (fun _ U o U' => ∃ v L, o = .returned v ∧ own_Q_own_rm9 Z x0 x1 kc ls cs h0 n0 v U'.heap L ∧ CHr Z own_EL U.vm U.heap U'.vm U'.heap ∧ ReturnedEndW U o U' L own_r_own_rm9.cells own_r_own_rm9.slots) := by
  refine MetFree.of_bodySF (plainFor_of_name own_pn_9) hisR ?_
  intro p e s m args below meth c s₁ Bd hml0 hP hK
  obtain ⟨rfl, hZ, hh, hCH⟩ := hP
  have hx := Bd.exec
  have hby := Bd.bytes
  have hml : c.maxLocals = 2 := hml0
  have hown : s.vm.findClass "com/example/polgen/polgen/model/MultiplicityNamedPinLaw" = some m.cls := findClass_of_methodNamed Bd.named
  have hnm := (name_of_methodNamed Bd.named Bd.method).1
  have X0 : Stand p l e own_r_own_rm9 (s.setVm s.vm) m #[(.ref x0), (.int x1)] below meth c s₁ [] 0 0 := Stand.of_body Bd
  have e0 : s₁.heap = h0 := by rw [← hh, Bd.state]; rfl
  have N0 := Fr.nil n0
  have hS0 : s.Since s.vm h0.size := (State.WarmedH.refl s).since _
  have own_wS' : ∀ a ∈ Bundle.stringAtoms, a.before a0 Z = true := own_wS hw
  have hEL := own_EW hw
  have R0 := CHr.refl hCH
  have hPm : own_P_own_rm9 Z a0 x0 x1 kc ls cs h0 n0 := ⟨VC, hls, SC, hcs⟩
  show Goes p.tables e below _ (own_RH Z below s (own_Q_own_rm9 Z x0 x1 kc ls cs h0 n0) own_r_own_rm9.cells own_r_own_rm9.slots)
  refine Goes.to (fun t k => castTop (own_ef_own_rm9 m x0 x1) k) ?_
  refine gx (XS.iloadN X0.here hx rfl (hb hby d9_0) rfl) ?_
  by_cases hc1 : (0 : Int32) < x1
  · refine gx (XS.ifYes X0.here hx rfl (pc0 := 1) (pc' := 15) rfl (hb hby d9_1) rfl ((if0 _ _).trans (tlt hc1).2.2.1) (by decide) (by decide)) ?_
    refine gx (XS.iloadN X0.here hx rfl (hb hby d9_15) rfl) ?_
    refine gx (XS.iconst X0.here hx rfl (hb hby d9_16)) ?_
    by_cases hc2 : x1 = (1 : Int32)
    · refine gx (XS.icmpNo X0.here hx rfl (hb hby d9_17) rfl (teq hc2).2) ?_
      obtain ⟨T3, h3, X3, e3, E3, A3, D3, -, st3⟩ := newO X0 hx hZ hown (own_hw hw 51 rfl) (own_hw hw 3 rfl) (own_hw hw 2 rfl) e0 (g := (mkF m 20 #[.val (.ref x0), .val (.int x1)] [])) rfl (hb hby d9_20) (by decide) (by decide)
      obtain ⟨b3, g3⟩ : ∃ z, z = h0.size := ⟨_, rfl⟩
      rw [← g3] at A3 D3 st3
      subst e3
      have Sn3 : Safe Z own_EL s.vm T3.heap b3 := Safe.ext E3 R0.1 (Safe.new (Nat.le_of_eq g3.symm))
      have R5 := R0.trans (CHr.ext E3 R0.1)
      have hk6 := Nat.le_trans (Nat.le_refl _) E3.1
      have F7 := VC.ext E3
      have F8 := SC.ext E3
      have g_b3 : n0 ≤ b3 := Nat.le_trans Z0 (Nat.le_of_eq g3.symm)
      have Z3 : n0 ≤ T3.heap.size := Nat.le_trans Z0 E3.1
      have sz_b3 : h0.size ≤ b3 := Nat.le_trans (Keep.refl h0 []).1 (Nat.le_of_eq g3.symm)
      have K3 : Keep h0 T3.heap [] := (Keep.refl h0 []).ext E3
      have F9 : Fld Z T3.heap b3 "java/lang/String" "value" "[B" .null := D3 (Or.inr (own_hw hw 5 rfl)) (ty := (.array .byte)) (by decide)
      have F10 : Fld Z T3.heap b3 "java/lang/String" "coder" "B" (.int (0 : Int32)) := D3 (Or.inr (own_hw hw 6 rfl)) (ty := .byte) (by decide)
      refine Goes.to st3 ?_
      refine gx (XS.dup X3.here hx rfl (hb hby d9_23) rfl rfl) ?_
      refine gx (XS.iconst X3.here hx rfl (hb hby d9_24)) ?_
      obtain ⟨T11, h11, k11, X11, e11, E11, A11, st11⟩ := newP X3 hx hZ (own_hw hw 0 rfl) rfl (g := (mkF m 25 #[.val (.ref x0), .val (.int x1)] [(.int (1 : Int32)), (.ref b3), (.ref b3)])) rfl (hb hby d9_25) rfl (by decide) (cap := 1) (by decide) (by decide) (by decide) (by decide)
      obtain ⟨b11, g11⟩ : ∃ z, z = T3.heap.size := ⟨_, rfl⟩
      rw [← g11] at A11 st11
      subst e11
      have ne13 : b3 ≠ b11 := Nat.ne_of_lt (Nat.lt_of_lt_of_le A3.lt (Nat.le_of_eq g11.symm))
      have Sn11 : Safe Z own_EL s.vm T11.heap b11 := Safe.ext E11 R5.1 (Safe.new (Nat.le_of_eq g11.symm))
      have Sf14 := Safe.ext E11 R5.1 Sn3
      have R15 := R5.trans (CHr.ext E11 R5.1)
      have hk16 := Nat.le_trans hk6 E11.1
      have F17 := F7.ext E11
      have F18 := F8.ext E11
      have F19 := A3.ext E11
      have F20 := F9.ext E11
      have F21 := F10.ext E11
      have g_b11 : n0 ≤ b11 := Nat.le_trans Z3 (Nat.le_of_eq g11.symm)
      have Z11 : n0 ≤ T11.heap.size := Nat.le_trans Z3 E11.1
      have sz_b11 : h0.size ≤ b11 := Nat.le_trans K3.1 (Nat.le_of_eq g11.symm)
      have K11 : Keep h0 T11.heap [] := K3.ext E11
      have V11 : Arv Z T11.heap b11 k11 .char (1 : Int32) [(.int (0 : Int32))] (.int (0 : Int32)) := (Arv.new A11 (by decide)).pad (pad_rep [] (.int (0 : Int32)) 1)
      refine Goes.to st11 ?_
      refine gx (XS.dup X11.here hx rfl (hb hby d9_27) rfl rfl) ?_
      refine gx (XS.iconst X11.here hx rfl (hb hby d9_28)) ?_
      refine gx (XS.aloadN X11.here hx rfl (hb hby d9_29) rfl rfl) ?_
      refine gx (XS.iconst X11.here hx rfl (hb hby d9_30)) ?_
      obtain ⟨cl22, Ar22, q22, S22, N22, H22, G22⟩ := id F17
      have hin22 : ¬ ((0 : Int32) < 0 ∨ cl22.slots.size ≤ ((0 : Int32)).toNatClampNeg) := inb_of S22 ⟨by decide, by decide⟩
      have hat22 : cl22.slots[((0 : Int32)).toNatClampNeg]? = some (.int (own_c ls (0 : Int32))) := Has.at H22 hin22 (own_cat ls (0 : Int32))
      refine gx (X11.caload hx (j := (0 : Int32)) (v := (.int (own_c ls (0 : Int32)))) Ar22.1 (State.isArrayOf_alike hZ.alike Ar22.2.1) Ar22.2.2 hin22 hat22 (g := (mkF m 31 #[.val (.ref x0), .val (.int x1)] [(.int (0 : Int32)), (.ref x0), (.int (0 : Int32)), (.ref b11), (.ref b11), (.ref b3), (.ref b3)])) rfl rfl (hb hby d9_31) _) ?_
      obtain ⟨cl23, Ar23, q23, S23, N23, H23, G23⟩ := id V11
      have hin23 : ¬ ((0 : Int32) < 0 ∨ cl23.slots.size ≤ ((0 : Int32)).toNatClampNeg) := inb_of S23 ⟨by decide, by decide⟩
      obtain ⟨T24, h24, X24, e24, W24, st24⟩ := stC X11 hx hZ rfl Ar23 (j := (0 : Int32)) hin23 (g := (mkF m 32 #[.val (.ref x0), .val (.int x1)] [(.int (own_c ls (0 : Int32))), (.int (0 : Int32)), (.ref b11), (.ref b11), (.ref b3), (.ref b3)])) rfl rfl (hb hby d9_32)
      subst e24
      have Sf25 := Safe.wr W24 Sn11 R15.1 Sf14
      have R27 := R15.trans (CHr.wr W24 Sn11 R15.1)
      have hk28 := Nat.le_trans hk16 (Nat.le_of_eq W24.size.symm)
      have F30 := F18.wr W24
      have F31 := F19.wr W24
      have F32 := F20.other W24 (Or.inl ne13)
      have F33 := F21.other W24 (Or.inl ne13)
      have N24 := Fr.snoc X24 N0 g_b11
      have Z24 : n0 ≤ T24.heap.size := Nat.le_trans Z11 (Nat.le_of_eq W24.size.symm)
      have K24 : Keep h0 T24.heap [] := K11.wr W24 (Or.inr sz_b11)
      have V24 : Arv Z T24.heap b11 k11 .char (1 : Int32) [(.int (nar .char (own_c ls (0 : Int32))))] (.int (0 : Int32)) := Arv.set Ar23 q23 S23 N23 H23 G23 (fits_nar_char _) W24 0 rfl (Nat.le_of_ble_eq_true rfl)
      refine Goes.to st24 ?_
      obtain ⟨_, _, ⟨T35, L35, k35, n35⟩, -, X35, ⟨Lc35, hQ35, l35, y35, z35⟩, st35⟩ := X24.specialBack hx (y := own_n16) rfl hown (mvT hZ (own_hw hw 52 rfl)) (mvT hZ (own_hw hw 53 rfl)) (mvT hZ (own_hw hw 54 rfl)) (by decide) (StrChars.Road.backV (W := 1) hZ (own_hwV hw) (own_hw hw 3 rfl) (n0 := n0) g_b3 Z24 F31 F32 F33 (cs := [(nar .char (own_c ls (0 : Int32)))]) V24 F30 hcs (n := 1) rfl rfl (by decide) (by decide) (own_aS (own_cP hls _) own_a0) (bs := [(nar .char (own_c ls (0 : Int32)))].map fun c => c.toInt8.toInt32) rfl (by decide) (by decide)) (g := (mkF m 33 #[.val (.ref x0), .val (.int x1)] [(.ref b11), (.ref b3), (.ref b3)])) rfl (by rw [hml]; rfl) (Steps.refl _) (a := b3) (argsL := [(.ref b11)]) (rest := [(.ref b3)]) (lenOf own_pd_paCqV rfl) rfl (own_W rfl rfl) (hb hby d9_33) (fun _ _ => ⟨rfl, rfl, (by decide : 2 + 1 ≤ _), (by decide : 5 + 1 ≤ _)⟩)
      dsimp only [Pt.U, Pt.locs, Pt.cells, Pt.slots] at X35 l35 y35 z35 st35 hQ35
      subst l35 y35 z35
      obtain ⟨hv35, Nq35, K35, Ei35, Ci35, t35, kt35, -, -, -, Vi35, Ai35⟩ := hQ35
      subst hv35
      have N35 := Fr.app N24 Nq35
      have R38 := R27.trans (CHr.keep K35 (sfS Sf25 sf0) R27.1)
      have hk39 := Nat.le_trans hk28 K35.1
      have Kc35 : Keep h0 T35.heap [] := K24.trans K35 (allS (Or.inr sz_b3) all0)
      refine Goes.tr st35 ?_
      show Goes p.tables e below (T35.setTop (mkF m 36 #[.val (.ref x0), .val (.int x1)] [(.ref b3)])) _
      have hkl := Nat.le_trans hk39 (Nat.le_refl T35.heap.size)
      obtain ⟨fs, hr, hrun, hended, hEnd⟩ := X35.leaveW (s := s) hS0 hkl (v := some (.ref b3)) (fun h => by rw [Bd.returns] at h; cases h)
      have hRl : CHr Z own_EL s.vm s.heap T35.vm T35.heap := by
        rw [hh]
        exact R38.trans (CHv.at (s := s) X35 hZ hEL R38.1)
      exact ⟨_, _, retOut X35 hx Bd.returns rfl (Or.inr (Or.inr (Or.inr (Or.inr ⟨rfl, rfl, rfl⟩)))) (hb hby d9_36) hr, hrun, hended, _, _, rfl, ⟨b3, t35, kt35, [(nar .char (own_c ls (0 : Int32)))], rfl, N35, (by show Keep h0 T35.heap []; exact Kc35), (by show Exa Z T35.heap b3 "java/lang/String"; exact Ei35), (by show Fld Z T35.heap b3 "java/lang/String" "coder" "B" (.int (0 : Int32)); exact Ci35), (by show Fld Z T35.heap b3 "java/lang/String" "value" "[B" (.ref t35); exact Vi35), (by show Arv Z T35.heap t35 kt35 .byte (Int32.ofNat ([(nar .char (own_c ls (0 : Int32)))] : List Int32).length) ((([(nar .char (own_c ls (0 : Int32)))] : List Int32).map fun c => c.toInt8.toInt32).map Value.int) (.int (0 : Int32)); exact Ai35), Nat.le_of_ble_eq_true rfl, (own_aS (own_cP hls _) own_a0)⟩, hRl, hEnd.1, hEnd.2.1, hEnd.2.2.1, hEnd.2.2.2.mono (by decide) (by decide)⟩
    · refine gx (XS.icmpYes X0.here hx rfl (pc0 := 17) (pc' := 37) rfl (hb hby d9_17) rfl (feq hc2).2 (by decide) (by decide)) ?_
      show Goes p.tables e below (s₁.setTop (mkF m 37 #[.val (.ref x0), .val (.int x1)] [])) _
      refine gx (XS.iloadN X0.here hx rfl (hb hby d9_37) rfl) ?_
      refine gx (XS.iconst X0.here hx rfl (hb hby d9_38)) ?_
      by_cases hc46 : x1 = (2 : Int32)
      · refine gx (XS.icmpNo X0.here hx rfl (hb hby d9_39) rfl (teq hc46).2) ?_
        obtain ⟨T47, h47, X47, e47, E47, A47, D47, -, st47⟩ := newO X0 hx hZ hown (own_hw hw 51 rfl) (own_hw hw 3 rfl) (own_hw hw 2 rfl) e0 (g := (mkF m 42 #[.val (.ref x0), .val (.int x1)] [])) rfl (hb hby d9_42) (by decide) (by decide)
        obtain ⟨b47, g47⟩ : ∃ z, z = h0.size := ⟨_, rfl⟩
        rw [← g47] at A47 D47 st47
        subst e47
        have Sn47 : Safe Z own_EL s.vm T47.heap b47 := Safe.ext E47 R0.1 (Safe.new (Nat.le_of_eq g47.symm))
        have R49 := R0.trans (CHr.ext E47 R0.1)
        have hk50 := Nat.le_trans (Nat.le_refl _) E47.1
        have F51 := VC.ext E47
        have F52 := SC.ext E47
        have g_b47 : n0 ≤ b47 := Nat.le_trans Z0 (Nat.le_of_eq g47.symm)
        have Z47 : n0 ≤ T47.heap.size := Nat.le_trans Z0 E47.1
        have sz_b47 : h0.size ≤ b47 := Nat.le_trans (Keep.refl h0 []).1 (Nat.le_of_eq g47.symm)
        have K47 : Keep h0 T47.heap [] := (Keep.refl h0 []).ext E47
        have F53 : Fld Z T47.heap b47 "java/lang/String" "value" "[B" .null := D47 (Or.inr (own_hw hw 5 rfl)) (ty := (.array .byte)) (by decide)
        have F54 : Fld Z T47.heap b47 "java/lang/String" "coder" "B" (.int (0 : Int32)) := D47 (Or.inr (own_hw hw 6 rfl)) (ty := .byte) (by decide)
        refine Goes.to st47 ?_
        refine gx (XS.dup X47.here hx rfl (hb hby d9_45) rfl rfl) ?_
        refine gx (XS.iconst X47.here hx rfl (hb hby d9_46)) ?_
        obtain ⟨T55, h55, k55, X55, e55, E55, A55, st55⟩ := newP X47 hx hZ (own_hw hw 0 rfl) rfl (g := (mkF m 47 #[.val (.ref x0), .val (.int x1)] [(.int (2 : Int32)), (.ref b47), (.ref b47)])) rfl (hb hby d9_47) rfl (by decide) (cap := 2) (by decide) (by decide) (by decide) (by decide)
        obtain ⟨b55, g55⟩ : ∃ z, z = T47.heap.size := ⟨_, rfl⟩
        rw [← g55] at A55 st55
        subst e55
        have ne56 : x0 ≠ b55 := Nat.ne_of_lt (Nat.lt_of_lt_of_le F51.lt (Nat.le_of_eq g55.symm))
        have ne57 : b47 ≠ b55 := Nat.ne_of_lt (Nat.lt_of_lt_of_le A47.lt (Nat.le_of_eq g55.symm))
        have Sn55 : Safe Z own_EL s.vm T55.heap b55 := Safe.ext E55 R49.1 (Safe.new (Nat.le_of_eq g55.symm))
        have Sf58 := Safe.ext E55 R49.1 Sn47
        have R59 := R49.trans (CHr.ext E55 R49.1)
        have hk60 := Nat.le_trans hk50 E55.1
        have F61 := F51.ext E55
        have F62 := F52.ext E55
        have F63 := A47.ext E55
        have F64 := F53.ext E55
        have F65 := F54.ext E55
        have g_b55 : n0 ≤ b55 := Nat.le_trans Z47 (Nat.le_of_eq g55.symm)
        have Z55 : n0 ≤ T55.heap.size := Nat.le_trans Z47 E55.1
        have sz_b55 : h0.size ≤ b55 := Nat.le_trans K47.1 (Nat.le_of_eq g55.symm)
        have K55 : Keep h0 T55.heap [] := K47.ext E55
        have V55 : Arv Z T55.heap b55 k55 .char (2 : Int32) [(.int (0 : Int32)), (.int (0 : Int32))] (.int (0 : Int32)) := (Arv.new A55 (by decide)).pad (pad_rep [] (.int (0 : Int32)) 2)
        refine Goes.to st55 ?_
        refine gx (XS.dup X55.here hx rfl (hb hby d9_49) rfl rfl) ?_
        refine gx (XS.iconst X55.here hx rfl (hb hby d9_50)) ?_
        refine gx (XS.aloadN X55.here hx rfl (hb hby d9_51) rfl rfl) ?_
        refine gx (XS.iconst X55.here hx rfl (hb hby d9_52)) ?_
        obtain ⟨cl66, Ar66, q66, S66, N66, H66, G66⟩ := id F61
        have hin66 : ¬ ((0 : Int32) < 0 ∨ cl66.slots.size ≤ ((0 : Int32)).toNatClampNeg) := inb_of S66 ⟨by decide, by decide⟩
        have hat66 : cl66.slots[((0 : Int32)).toNatClampNeg]? = some (.int (own_c ls (0 : Int32))) := Has.at H66 hin66 (own_cat ls (0 : Int32))
        refine gx (X55.caload hx (j := (0 : Int32)) (v := (.int (own_c ls (0 : Int32)))) Ar66.1 (State.isArrayOf_alike hZ.alike Ar66.2.1) Ar66.2.2 hin66 hat66 (g := (mkF m 53 #[.val (.ref x0), .val (.int x1)] [(.int (0 : Int32)), (.ref x0), (.int (0 : Int32)), (.ref b55), (.ref b55), (.ref b47), (.ref b47)])) rfl rfl (hb hby d9_53) _) ?_
        obtain ⟨cl67, Ar67, q67, S67, N67, H67, G67⟩ := id V55
        have hin67 : ¬ ((0 : Int32) < 0 ∨ cl67.slots.size ≤ ((0 : Int32)).toNatClampNeg) := inb_of S67 ⟨by decide, by decide⟩
        obtain ⟨T68, h68, X68, e68, W68, st68⟩ := stC X55 hx hZ rfl Ar67 (j := (0 : Int32)) hin67 (g := (mkF m 54 #[.val (.ref x0), .val (.int x1)] [(.int (own_c ls (0 : Int32))), (.int (0 : Int32)), (.ref b55), (.ref b55), (.ref b47), (.ref b47)])) rfl rfl (hb hby d9_54)
        subst e68
        have Sf69 := Safe.wr W68 Sn55 R59.1 Sf58
        have Sf70 := Safe.wr W68 Sn55 R59.1 Sn55
        have R71 := R59.trans (CHr.wr W68 Sn55 R59.1)
        have hk72 := Nat.le_trans hk60 (Nat.le_of_eq W68.size.symm)
        have F73 := F61.other W68 ne56
        have F74 := F62.wr W68
        have F75 := F63.wr W68
        have F76 := F64.other W68 (Or.inl ne57)
        have F77 := F65.other W68 (Or.inl ne57)
        have N68 := Fr.snoc X68 N0 g_b55
        have Z68 : n0 ≤ T68.heap.size := Nat.le_trans Z55 (Nat.le_of_eq W68.size.symm)
        have K68 : Keep h0 T68.heap [] := K55.wr W68 (Or.inr sz_b55)
        have V68 : Arv Z T68.heap b55 k55 .char (2 : Int32) [(.int (nar .char (own_c ls (0 : Int32)))), (.int (0 : Int32))] (.int (0 : Int32)) := Arv.set Ar67 q67 S67 N67 H67 G67 (fits_nar_char _) W68 0 rfl (Nat.le_of_ble_eq_true rfl)
        refine Goes.to st68 ?_
        refine gx (XS.dup X68.here hx rfl (hb hby d9_55) rfl rfl) ?_
        refine gx (XS.iconst X68.here hx rfl (hb hby d9_56)) ?_
        refine gx (XS.aloadN X68.here hx rfl (hb hby d9_57) rfl rfl) ?_
        refine gx (XS.iconst X68.here hx rfl (hb hby d9_58)) ?_
        obtain ⟨cl79, Ar79, q79, S79, N79, H79, G79⟩ := id F73
        have hin79 : ¬ ((1 : Int32) < 0 ∨ cl79.slots.size ≤ ((1 : Int32)).toNatClampNeg) := inb_of S79 ⟨by decide, by decide⟩
        have hat79 : cl79.slots[((1 : Int32)).toNatClampNeg]? = some (.int (own_c ls (1 : Int32))) := Has.at H79 hin79 (own_cat ls (1 : Int32))
        refine gx (X68.caload hx (j := (1 : Int32)) (v := (.int (own_c ls (1 : Int32)))) Ar79.1 (State.isArrayOf_alike hZ.alike Ar79.2.1) Ar79.2.2 hin79 hat79 (g := (mkF m 59 #[.val (.ref x0), .val (.int x1)] [(.int (1 : Int32)), (.ref x0), (.int (1 : Int32)), (.ref b55), (.ref b55), (.ref b47), (.ref b47)])) rfl rfl (hb hby d9_59) _) ?_
        obtain ⟨cl80, Ar80, q80, S80, N80, H80, G80⟩ := id V68
        have hin80 : ¬ ((1 : Int32) < 0 ∨ cl80.slots.size ≤ ((1 : Int32)).toNatClampNeg) := inb_of S80 ⟨by decide, by decide⟩
        obtain ⟨T81, h81, X81, e81, W81, st81⟩ := stC X68 hx hZ rfl Ar80 (j := (1 : Int32)) hin80 (g := (mkF m 60 #[.val (.ref x0), .val (.int x1)] [(.int (own_c ls (1 : Int32))), (.int (1 : Int32)), (.ref b55), (.ref b55), (.ref b47), (.ref b47)])) rfl rfl (hb hby d9_60)
        subst e81
        have Sf82 := Safe.wr W81 Sf70 R71.1 Sf69
        have R84 := R71.trans (CHr.wr W81 Sf70 R71.1)
        have hk85 := Nat.le_trans hk72 (Nat.le_of_eq W81.size.symm)
        have F87 := F74.wr W81
        have F88 := F75.wr W81
        have F89 := F76.other W81 (Or.inl ne57)
        have F90 := F77.other W81 (Or.inl ne57)
        have N81 := Fr.snoc X81 N68 g_b55
        have Z81 : n0 ≤ T81.heap.size := Nat.le_trans Z68 (Nat.le_of_eq W81.size.symm)
        have K81 : Keep h0 T81.heap [] := K68.wr W81 (Or.inr sz_b55)
        have V81 : Arv Z T81.heap b55 k55 .char (2 : Int32) [(.int (nar .char (own_c ls (0 : Int32)))), (.int (nar .char (own_c ls (1 : Int32))))] (.int (0 : Int32)) := Arv.set Ar80 q80 S80 N80 H80 G80 (fits_nar_char _) W81 1 rfl (Nat.le_of_ble_eq_true rfl)
        refine Goes.to st81 ?_
        obtain ⟨_, _, ⟨T92, L92, k92, n92⟩, -, X92, ⟨Lc92, hQ92, l92, y92, z92⟩, st92⟩ := X81.specialBack hx (y := own_n16) rfl hown (mvT hZ (own_hw hw 52 rfl)) (mvT hZ (own_hw hw 53 rfl)) (mvT hZ (own_hw hw 54 rfl)) (by decide) (StrChars.Road.backV (W := 1) hZ (own_hwV hw) (own_hw hw 3 rfl) (n0 := n0) g_b47 Z81 F88 F89 F90 (cs := [(nar .char (own_c ls (0 : Int32))), (nar .char (own_c ls (1 : Int32)))]) V81 F87 hcs (n := 2) rfl rfl (by decide) (by decide) (own_aS (own_cP hls _) (own_aS (own_cP hls _) own_a0)) (bs := [(nar .char (own_c ls (0 : Int32))), (nar .char (own_c ls (1 : Int32)))].map fun c => c.toInt8.toInt32) rfl (by decide) (by decide)) (g := (mkF m 61 #[.val (.ref x0), .val (.int x1)] [(.ref b55), (.ref b47), (.ref b47)])) rfl (by rw [hml]; rfl) (Steps.refl _) (a := b47) (argsL := [(.ref b55)]) (rest := [(.ref b47)]) (lenOf own_pd_paCqV rfl) rfl (own_W rfl rfl) (hb hby d9_61) (fun _ _ => ⟨rfl, rfl, (by decide : 2 + 1 ≤ _), (by decide : 6 + 2 ≤ _)⟩)
        dsimp only [Pt.U, Pt.locs, Pt.cells, Pt.slots] at X92 l92 y92 z92 st92 hQ92
        subst l92 y92 z92
        obtain ⟨hv92, Nq92, K92, Ei92, Ci92, t92, kt92, -, -, -, Vi92, Ai92⟩ := hQ92
        subst hv92
        have N92 := Fr.app N81 Nq92
        have R95 := R84.trans (CHr.keep K92 (sfS Sf82 sf0) R84.1)
        have hk96 := Nat.le_trans hk85 K92.1
        have Kc92 : Keep h0 T92.heap [] := K81.trans K92 (allS (Or.inr sz_b47) all0)
        refine Goes.tr st92 ?_
        show Goes p.tables e below (T92.setTop (mkF m 64 #[.val (.ref x0), .val (.int x1)] [(.ref b47)])) _
        have hkl := Nat.le_trans hk96 (Nat.le_refl T92.heap.size)
        obtain ⟨fs, hr, hrun, hended, hEnd⟩ := X92.leaveW (s := s) hS0 hkl (v := some (.ref b47)) (fun h => by rw [Bd.returns] at h; cases h)
        have hRl : CHr Z own_EL s.vm s.heap T92.vm T92.heap := by
          rw [hh]
          exact R95.trans (CHv.at (s := s) X92 hZ hEL R95.1)
        exact ⟨_, _, retOut X92 hx Bd.returns rfl (Or.inr (Or.inr (Or.inr (Or.inr ⟨rfl, rfl, rfl⟩)))) (hb hby d9_64) hr, hrun, hended, _, _, rfl, ⟨b47, t92, kt92, [(nar .char (own_c ls (0 : Int32))), (nar .char (own_c ls (1 : Int32)))], rfl, N92, (by show Keep h0 T92.heap []; exact Kc92), (by show Exa Z T92.heap b47 "java/lang/String"; exact Ei92), (by show Fld Z T92.heap b47 "java/lang/String" "coder" "B" (.int (0 : Int32)); exact Ci92), (by show Fld Z T92.heap b47 "java/lang/String" "value" "[B" (.ref t92); exact Vi92), (by show Arv Z T92.heap t92 kt92 .byte (Int32.ofNat ([(nar .char (own_c ls (0 : Int32))), (nar .char (own_c ls (1 : Int32)))] : List Int32).length) ((([(nar .char (own_c ls (0 : Int32))), (nar .char (own_c ls (1 : Int32)))] : List Int32).map fun c => c.toInt8.toInt32).map Value.int) (.int (0 : Int32)); exact Ai92), Nat.le_of_ble_eq_true rfl, (own_aS (own_cP hls _) (own_aS (own_cP hls _) own_a0))⟩, hRl, hEnd.1, hEnd.2.1, hEnd.2.2.1, hEnd.2.2.2.mono (by decide) (by decide)⟩
      · refine gx (XS.icmpYes X0.here hx rfl (pc0 := 39) (pc' := 65) rfl (hb hby d9_39) rfl (feq hc46).2 (by decide) (by decide)) ?_
        refine gx (XS.iloadN X0.here hx rfl (hb hby d9_65) rfl) ?_
        refine gx (XS.iconst X0.here hx rfl (hb hby d9_66)) ?_
        show Goes p.tables e below (s₁.setTop (mkF m 67 #[.val (.ref x0), .val (.int x1)] [(.int (3 : Int32)), (.int x1)])) _
        by_cases hc103 : x1 = (3 : Int32)
        · refine gx (XS.icmpNo X0.here hx rfl (hb hby d9_67) rfl (teq hc103).2) ?_
          obtain ⟨T104, h104, X104, e104, E104, A104, D104, -, st104⟩ := newO X0 hx hZ hown (own_hw hw 51 rfl) (own_hw hw 3 rfl) (own_hw hw 2 rfl) e0 (g := (mkF m 70 #[.val (.ref x0), .val (.int x1)] [])) rfl (hb hby d9_70) (by decide) (by decide)
          obtain ⟨b104, g104⟩ : ∃ z, z = h0.size := ⟨_, rfl⟩
          rw [← g104] at A104 D104 st104
          subst e104
          have Sn104 : Safe Z own_EL s.vm T104.heap b104 := Safe.ext E104 R0.1 (Safe.new (Nat.le_of_eq g104.symm))
          have R106 := R0.trans (CHr.ext E104 R0.1)
          have hk107 := Nat.le_trans (Nat.le_refl _) E104.1
          have F108 := VC.ext E104
          have F109 := SC.ext E104
          have g_b104 : n0 ≤ b104 := Nat.le_trans Z0 (Nat.le_of_eq g104.symm)
          have Z104 : n0 ≤ T104.heap.size := Nat.le_trans Z0 E104.1
          have sz_b104 : h0.size ≤ b104 := Nat.le_trans (Keep.refl h0 []).1 (Nat.le_of_eq g104.symm)
          have K104 : Keep h0 T104.heap [] := (Keep.refl h0 []).ext E104
          have F110 : Fld Z T104.heap b104 "java/lang/String" "value" "[B" .null := D104 (Or.inr (own_hw hw 5 rfl)) (ty := (.array .byte)) (by decide)
          have F111 : Fld Z T104.heap b104 "java/lang/String" "coder" "B" (.int (0 : Int32)) := D104 (Or.inr (own_hw hw 6 rfl)) (ty := .byte) (by decide)
          refine Goes.to st104 ?_
          refine gx (XS.dup X104.here hx rfl (hb hby d9_73) rfl rfl) ?_
          refine gx (XS.iconst X104.here hx rfl (hb hby d9_74)) ?_
          obtain ⟨T112, h112, k112, X112, e112, E112, A112, st112⟩ := newP X104 hx hZ (own_hw hw 0 rfl) rfl (g := (mkF m 75 #[.val (.ref x0), .val (.int x1)] [(.int (3 : Int32)), (.ref b104), (.ref b104)])) rfl (hb hby d9_75) rfl (by decide) (cap := 3) (by decide) (by decide) (by decide) (by decide)
          obtain ⟨b112, g112⟩ : ∃ z, z = T104.heap.size := ⟨_, rfl⟩
          rw [← g112] at A112 st112
          subst e112
          have ne113 : x0 ≠ b112 := Nat.ne_of_lt (Nat.lt_of_lt_of_le F108.lt (Nat.le_of_eq g112.symm))
          have ne114 : b104 ≠ b112 := Nat.ne_of_lt (Nat.lt_of_lt_of_le A104.lt (Nat.le_of_eq g112.symm))
          have Sn112 : Safe Z own_EL s.vm T112.heap b112 := Safe.ext E112 R106.1 (Safe.new (Nat.le_of_eq g112.symm))
          have Sf115 := Safe.ext E112 R106.1 Sn104
          have R116 := R106.trans (CHr.ext E112 R106.1)
          have hk117 := Nat.le_trans hk107 E112.1
          have F118 := F108.ext E112
          have F119 := F109.ext E112
          have F120 := A104.ext E112
          have F121 := F110.ext E112
          have F122 := F111.ext E112
          have g_b112 : n0 ≤ b112 := Nat.le_trans Z104 (Nat.le_of_eq g112.symm)
          have Z112 : n0 ≤ T112.heap.size := Nat.le_trans Z104 E112.1
          have sz_b112 : h0.size ≤ b112 := Nat.le_trans K104.1 (Nat.le_of_eq g112.symm)
          have K112 : Keep h0 T112.heap [] := K104.ext E112
          have V112 : Arv Z T112.heap b112 k112 .char (3 : Int32) [(.int (0 : Int32)), (.int (0 : Int32)), (.int (0 : Int32))] (.int (0 : Int32)) := (Arv.new A112 (by decide)).pad (pad_rep [] (.int (0 : Int32)) 3)
          refine Goes.to st112 ?_
          refine gx (XS.dup X112.here hx rfl (hb hby d9_77) rfl rfl) ?_
          refine gx (XS.iconst X112.here hx rfl (hb hby d9_78)) ?_
          refine gx (XS.aloadN X112.here hx rfl (hb hby d9_79) rfl rfl) ?_
          refine gx (XS.iconst X112.here hx rfl (hb hby d9_80)) ?_
          obtain ⟨cl123, Ar123, q123, S123, N123, H123, G123⟩ := id F118
          have hin123 : ¬ ((0 : Int32) < 0 ∨ cl123.slots.size ≤ ((0 : Int32)).toNatClampNeg) := inb_of S123 ⟨by decide, by decide⟩
          have hat123 : cl123.slots[((0 : Int32)).toNatClampNeg]? = some (.int (own_c ls (0 : Int32))) := Has.at H123 hin123 (own_cat ls (0 : Int32))
          refine gx (X112.caload hx (j := (0 : Int32)) (v := (.int (own_c ls (0 : Int32)))) Ar123.1 (State.isArrayOf_alike hZ.alike Ar123.2.1) Ar123.2.2 hin123 hat123 (g := (mkF m 81 #[.val (.ref x0), .val (.int x1)] [(.int (0 : Int32)), (.ref x0), (.int (0 : Int32)), (.ref b112), (.ref b112), (.ref b104), (.ref b104)])) rfl rfl (hb hby d9_81) _) ?_
          obtain ⟨cl124, Ar124, q124, S124, N124, H124, G124⟩ := id V112
          have hin124 : ¬ ((0 : Int32) < 0 ∨ cl124.slots.size ≤ ((0 : Int32)).toNatClampNeg) := inb_of S124 ⟨by decide, by decide⟩
          obtain ⟨T125, h125, X125, e125, W125, st125⟩ := stC X112 hx hZ rfl Ar124 (j := (0 : Int32)) hin124 (g := (mkF m 82 #[.val (.ref x0), .val (.int x1)] [(.int (own_c ls (0 : Int32))), (.int (0 : Int32)), (.ref b112), (.ref b112), (.ref b104), (.ref b104)])) rfl rfl (hb hby d9_82)
          subst e125
          have Sf126 := Safe.wr W125 Sn112 R116.1 Sf115
          have Sf127 := Safe.wr W125 Sn112 R116.1 Sn112
          have R128 := R116.trans (CHr.wr W125 Sn112 R116.1)
          have hk129 := Nat.le_trans hk117 (Nat.le_of_eq W125.size.symm)
          have F130 := F118.other W125 ne113
          have F131 := F119.wr W125
          have F132 := F120.wr W125
          have F133 := F121.other W125 (Or.inl ne114)
          have F134 := F122.other W125 (Or.inl ne114)
          have N125 := Fr.snoc X125 N0 g_b112
          have Z125 : n0 ≤ T125.heap.size := Nat.le_trans Z112 (Nat.le_of_eq W125.size.symm)
          have K125 : Keep h0 T125.heap [] := K112.wr W125 (Or.inr sz_b112)
          have V125 : Arv Z T125.heap b112 k112 .char (3 : Int32) [(.int (nar .char (own_c ls (0 : Int32)))), (.int (0 : Int32)), (.int (0 : Int32))] (.int (0 : Int32)) := Arv.set Ar124 q124 S124 N124 H124 G124 (fits_nar_char _) W125 0 rfl (Nat.le_of_ble_eq_true rfl)
          refine Goes.to st125 ?_
          refine gx (XS.dup X125.here hx rfl (hb hby d9_83) rfl rfl) ?_
          refine gx (XS.iconst X125.here hx rfl (hb hby d9_84)) ?_
          refine gx (XS.aloadN X125.here hx rfl (hb hby d9_85) rfl rfl) ?_
          refine gx (XS.iconst X125.here hx rfl (hb hby d9_86)) ?_
          obtain ⟨cl136, Ar136, q136, S136, N136, H136, G136⟩ := id F130
          have hin136 : ¬ ((1 : Int32) < 0 ∨ cl136.slots.size ≤ ((1 : Int32)).toNatClampNeg) := inb_of S136 ⟨by decide, by decide⟩
          have hat136 : cl136.slots[((1 : Int32)).toNatClampNeg]? = some (.int (own_c ls (1 : Int32))) := Has.at H136 hin136 (own_cat ls (1 : Int32))
          refine gx (X125.caload hx (j := (1 : Int32)) (v := (.int (own_c ls (1 : Int32)))) Ar136.1 (State.isArrayOf_alike hZ.alike Ar136.2.1) Ar136.2.2 hin136 hat136 (g := (mkF m 87 #[.val (.ref x0), .val (.int x1)] [(.int (1 : Int32)), (.ref x0), (.int (1 : Int32)), (.ref b112), (.ref b112), (.ref b104), (.ref b104)])) rfl rfl (hb hby d9_87) _) ?_
          obtain ⟨cl137, Ar137, q137, S137, N137, H137, G137⟩ := id V125
          have hin137 : ¬ ((1 : Int32) < 0 ∨ cl137.slots.size ≤ ((1 : Int32)).toNatClampNeg) := inb_of S137 ⟨by decide, by decide⟩
          obtain ⟨T138, h138, X138, e138, W138, st138⟩ := stC X125 hx hZ rfl Ar137 (j := (1 : Int32)) hin137 (g := (mkF m 88 #[.val (.ref x0), .val (.int x1)] [(.int (own_c ls (1 : Int32))), (.int (1 : Int32)), (.ref b112), (.ref b112), (.ref b104), (.ref b104)])) rfl rfl (hb hby d9_88)
          subst e138
          have Sf139 := Safe.wr W138 Sf127 R128.1 Sf126
          have Sf140 := Safe.wr W138 Sf127 R128.1 Sf127
          have R141 := R128.trans (CHr.wr W138 Sf127 R128.1)
          have hk142 := Nat.le_trans hk129 (Nat.le_of_eq W138.size.symm)
          have F143 := F130.other W138 ne113
          have F144 := F131.wr W138
          have F145 := F132.wr W138
          have F146 := F133.other W138 (Or.inl ne114)
          have F147 := F134.other W138 (Or.inl ne114)
          have N138 := Fr.snoc X138 N125 g_b112
          have Z138 : n0 ≤ T138.heap.size := Nat.le_trans Z125 (Nat.le_of_eq W138.size.symm)
          have K138 : Keep h0 T138.heap [] := K125.wr W138 (Or.inr sz_b112)
          have V138 : Arv Z T138.heap b112 k112 .char (3 : Int32) [(.int (nar .char (own_c ls (0 : Int32)))), (.int (nar .char (own_c ls (1 : Int32)))), (.int (0 : Int32))] (.int (0 : Int32)) := Arv.set Ar137 q137 S137 N137 H137 G137 (fits_nar_char _) W138 1 rfl (Nat.le_of_ble_eq_true rfl)
          refine Goes.to st138 ?_
          refine gx (XS.dup X138.here hx rfl (hb hby d9_89) rfl rfl) ?_
          refine gx (XS.iconst X138.here hx rfl (hb hby d9_90)) ?_
          refine gx (XS.aloadN X138.here hx rfl (hb hby d9_91) rfl rfl) ?_
          refine gx (XS.iconst X138.here hx rfl (hb hby d9_92)) ?_
          obtain ⟨cl149, Ar149, q149, S149, N149, H149, G149⟩ := id F143
          have hin149 : ¬ ((2 : Int32) < 0 ∨ cl149.slots.size ≤ ((2 : Int32)).toNatClampNeg) := inb_of S149 ⟨by decide, by decide⟩
          have hat149 : cl149.slots[((2 : Int32)).toNatClampNeg]? = some (.int (own_c ls (2 : Int32))) := Has.at H149 hin149 (own_cat ls (2 : Int32))
          refine gx (X138.caload hx (j := (2 : Int32)) (v := (.int (own_c ls (2 : Int32)))) Ar149.1 (State.isArrayOf_alike hZ.alike Ar149.2.1) Ar149.2.2 hin149 hat149 (g := (mkF m 93 #[.val (.ref x0), .val (.int x1)] [(.int (2 : Int32)), (.ref x0), (.int (2 : Int32)), (.ref b112), (.ref b112), (.ref b104), (.ref b104)])) rfl rfl (hb hby d9_93) _) ?_
          obtain ⟨cl150, Ar150, q150, S150, N150, H150, G150⟩ := id V138
          have hin150 : ¬ ((2 : Int32) < 0 ∨ cl150.slots.size ≤ ((2 : Int32)).toNatClampNeg) := inb_of S150 ⟨by decide, by decide⟩
          obtain ⟨T151, h151, X151, e151, W151, st151⟩ := stC X138 hx hZ rfl Ar150 (j := (2 : Int32)) hin150 (g := (mkF m 94 #[.val (.ref x0), .val (.int x1)] [(.int (own_c ls (2 : Int32))), (.int (2 : Int32)), (.ref b112), (.ref b112), (.ref b104), (.ref b104)])) rfl rfl (hb hby d9_94)
          subst e151
          have Sf152 := Safe.wr W151 Sf140 R141.1 Sf139
          have R154 := R141.trans (CHr.wr W151 Sf140 R141.1)
          have hk155 := Nat.le_trans hk142 (Nat.le_of_eq W151.size.symm)
          have F157 := F144.wr W151
          have F158 := F145.wr W151
          have F159 := F146.other W151 (Or.inl ne114)
          have F160 := F147.other W151 (Or.inl ne114)
          have N151 := Fr.snoc X151 N138 g_b112
          have Z151 : n0 ≤ T151.heap.size := Nat.le_trans Z138 (Nat.le_of_eq W151.size.symm)
          have K151 : Keep h0 T151.heap [] := K138.wr W151 (Or.inr sz_b112)
          have V151 : Arv Z T151.heap b112 k112 .char (3 : Int32) [(.int (nar .char (own_c ls (0 : Int32)))), (.int (nar .char (own_c ls (1 : Int32)))), (.int (nar .char (own_c ls (2 : Int32))))] (.int (0 : Int32)) := Arv.set Ar150 q150 S150 N150 H150 G150 (fits_nar_char _) W151 2 rfl (Nat.le_of_ble_eq_true rfl)
          refine Goes.to st151 ?_
          obtain ⟨_, _, ⟨T162, L162, k162, n162⟩, -, X162, ⟨Lc162, hQ162, l162, y162, z162⟩, st162⟩ := X151.specialBack hx (y := own_n16) rfl hown (mvT hZ (own_hw hw 52 rfl)) (mvT hZ (own_hw hw 53 rfl)) (mvT hZ (own_hw hw 54 rfl)) (by decide) (StrChars.Road.backV (W := 1) hZ (own_hwV hw) (own_hw hw 3 rfl) (n0 := n0) g_b104 Z151 F158 F159 F160 (cs := [(nar .char (own_c ls (0 : Int32))), (nar .char (own_c ls (1 : Int32))), (nar .char (own_c ls (2 : Int32)))]) V151 F157 hcs (n := 3) rfl rfl (by decide) (by decide) (own_aS (own_cP hls _) (own_aS (own_cP hls _) (own_aS (own_cP hls _) own_a0))) (bs := [(nar .char (own_c ls (0 : Int32))), (nar .char (own_c ls (1 : Int32))), (nar .char (own_c ls (2 : Int32)))].map fun c => c.toInt8.toInt32) rfl (by decide) (by decide)) (g := (mkF m 95 #[.val (.ref x0), .val (.int x1)] [(.ref b112), (.ref b104), (.ref b104)])) rfl (by rw [hml]; rfl) (Steps.refl _) (a := b104) (argsL := [(.ref b112)]) (rest := [(.ref b104)]) (lenOf own_pd_paCqV rfl) rfl (own_W rfl rfl) (hb hby d9_95) (fun _ _ => ⟨rfl, rfl, (by decide : 2 + 1 ≤ _), (by decide : 7 + 3 ≤ _)⟩)
          dsimp only [Pt.U, Pt.locs, Pt.cells, Pt.slots] at X162 l162 y162 z162 st162 hQ162
          subst l162 y162 z162
          obtain ⟨hv162, Nq162, K162, Ei162, Ci162, t162, kt162, -, -, -, Vi162, Ai162⟩ := hQ162
          subst hv162
          have N162 := Fr.app N151 Nq162
          have R165 := R154.trans (CHr.keep K162 (sfS Sf152 sf0) R154.1)
          have hk166 := Nat.le_trans hk155 K162.1
          have Kc162 : Keep h0 T162.heap [] := K151.trans K162 (allS (Or.inr sz_b104) all0)
          refine Goes.tr st162 ?_
          show Goes p.tables e below (T162.setTop (mkF m 98 #[.val (.ref x0), .val (.int x1)] [(.ref b104)])) _
          have hkl := Nat.le_trans hk166 (Nat.le_refl T162.heap.size)
          obtain ⟨fs, hr, hrun, hended, hEnd⟩ := X162.leaveW (s := s) hS0 hkl (v := some (.ref b104)) (fun h => by rw [Bd.returns] at h; cases h)
          have hRl : CHr Z own_EL s.vm s.heap T162.vm T162.heap := by
            rw [hh]
            exact R165.trans (CHv.at (s := s) X162 hZ hEL R165.1)
          exact ⟨_, _, retOut X162 hx Bd.returns rfl (Or.inr (Or.inr (Or.inr (Or.inr ⟨rfl, rfl, rfl⟩)))) (hb hby d9_98) hr, hrun, hended, _, _, rfl, ⟨b104, t162, kt162, [(nar .char (own_c ls (0 : Int32))), (nar .char (own_c ls (1 : Int32))), (nar .char (own_c ls (2 : Int32)))], rfl, N162, (by show Keep h0 T162.heap []; exact Kc162), (by show Exa Z T162.heap b104 "java/lang/String"; exact Ei162), (by show Fld Z T162.heap b104 "java/lang/String" "coder" "B" (.int (0 : Int32)); exact Ci162), (by show Fld Z T162.heap b104 "java/lang/String" "value" "[B" (.ref t162); exact Vi162), (by show Arv Z T162.heap t162 kt162 .byte (Int32.ofNat ([(nar .char (own_c ls (0 : Int32))), (nar .char (own_c ls (1 : Int32))), (nar .char (own_c ls (2 : Int32)))] : List Int32).length) ((([(nar .char (own_c ls (0 : Int32))), (nar .char (own_c ls (1 : Int32))), (nar .char (own_c ls (2 : Int32)))] : List Int32).map fun c => c.toInt8.toInt32).map Value.int) (.int (0 : Int32)); exact Ai162), Nat.le_of_ble_eq_true rfl, (own_aS (own_cP hls _) (own_aS (own_cP hls _) (own_aS (own_cP hls _) own_a0)))⟩, hRl, hEnd.1, hEnd.2.1, hEnd.2.2.1, hEnd.2.2.2.mono (by decide) (by decide)⟩
        · refine gx (XS.icmpYes X0.here hx rfl (pc0 := 67) (pc' := 99) rfl (hb hby d9_67) rfl (feq hc103).2 (by decide) (by decide)) ?_
          refine gx (XS.iloadN X0.here hx rfl (hb hby d9_99) rfl) ?_
          refine gx (XS.iconst X0.here hx rfl (hb hby d9_100)) ?_
          by_cases hc173 : x1 = (4 : Int32)
          · refine gx (XS.icmpNo X0.here hx rfl (hb hby d9_101) rfl (teq hc173).2) ?_
            obtain ⟨T174, h174, X174, e174, E174, A174, D174, -, st174⟩ := newO X0 hx hZ hown (own_hw hw 51 rfl) (own_hw hw 3 rfl) (own_hw hw 2 rfl) e0 (g := (mkF m 104 #[.val (.ref x0), .val (.int x1)] [])) rfl (hb hby d9_104) (by decide) (by decide)
            obtain ⟨b174, g174⟩ : ∃ z, z = h0.size := ⟨_, rfl⟩
            rw [← g174] at A174 D174 st174
            subst e174
            have Sn174 : Safe Z own_EL s.vm T174.heap b174 := Safe.ext E174 R0.1 (Safe.new (Nat.le_of_eq g174.symm))
            have R176 := R0.trans (CHr.ext E174 R0.1)
            have hk177 := Nat.le_trans (Nat.le_refl _) E174.1
            have F178 := VC.ext E174
            have F179 := SC.ext E174
            have g_b174 : n0 ≤ b174 := Nat.le_trans Z0 (Nat.le_of_eq g174.symm)
            have Z174 : n0 ≤ T174.heap.size := Nat.le_trans Z0 E174.1
            have sz_b174 : h0.size ≤ b174 := Nat.le_trans (Keep.refl h0 []).1 (Nat.le_of_eq g174.symm)
            have K174 : Keep h0 T174.heap [] := (Keep.refl h0 []).ext E174
            have F180 : Fld Z T174.heap b174 "java/lang/String" "value" "[B" .null := D174 (Or.inr (own_hw hw 5 rfl)) (ty := (.array .byte)) (by decide)
            have F181 : Fld Z T174.heap b174 "java/lang/String" "coder" "B" (.int (0 : Int32)) := D174 (Or.inr (own_hw hw 6 rfl)) (ty := .byte) (by decide)
            refine Goes.to st174 ?_
            refine gx (XS.dup X174.here hx rfl (hb hby d9_107) rfl rfl) ?_
            refine gx (XS.iconst X174.here hx rfl (hb hby d9_108)) ?_
            obtain ⟨T182, h182, k182, X182, e182, E182, A182, st182⟩ := newP X174 hx hZ (own_hw hw 0 rfl) rfl (g := (mkF m 109 #[.val (.ref x0), .val (.int x1)] [(.int (4 : Int32)), (.ref b174), (.ref b174)])) rfl (hb hby d9_109) rfl (by decide) (cap := 4) (by decide) (by decide) (by decide) (by decide)
            obtain ⟨b182, g182⟩ : ∃ z, z = T174.heap.size := ⟨_, rfl⟩
            rw [← g182] at A182 st182
            subst e182
            have ne183 : x0 ≠ b182 := Nat.ne_of_lt (Nat.lt_of_lt_of_le F178.lt (Nat.le_of_eq g182.symm))
            have ne184 : b174 ≠ b182 := Nat.ne_of_lt (Nat.lt_of_lt_of_le A174.lt (Nat.le_of_eq g182.symm))
            have Sn182 : Safe Z own_EL s.vm T182.heap b182 := Safe.ext E182 R176.1 (Safe.new (Nat.le_of_eq g182.symm))
            have Sf185 := Safe.ext E182 R176.1 Sn174
            have R186 := R176.trans (CHr.ext E182 R176.1)
            have hk187 := Nat.le_trans hk177 E182.1
            have F188 := F178.ext E182
            have F189 := F179.ext E182
            have F190 := A174.ext E182
            have F191 := F180.ext E182
            have F192 := F181.ext E182
            have g_b182 : n0 ≤ b182 := Nat.le_trans Z174 (Nat.le_of_eq g182.symm)
            have Z182 : n0 ≤ T182.heap.size := Nat.le_trans Z174 E182.1
            have sz_b182 : h0.size ≤ b182 := Nat.le_trans K174.1 (Nat.le_of_eq g182.symm)
            have K182 : Keep h0 T182.heap [] := K174.ext E182
            have V182 : Arv Z T182.heap b182 k182 .char (4 : Int32) [(.int (0 : Int32)), (.int (0 : Int32)), (.int (0 : Int32)), (.int (0 : Int32))] (.int (0 : Int32)) := (Arv.new A182 (by decide)).pad (pad_rep [] (.int (0 : Int32)) 4)
            refine Goes.to st182 ?_
            refine gx (XS.dup X182.here hx rfl (hb hby d9_111) rfl rfl) ?_
            refine gx (XS.iconst X182.here hx rfl (hb hby d9_112)) ?_
            refine gx (XS.aloadN X182.here hx rfl (hb hby d9_113) rfl rfl) ?_
            refine gx (XS.iconst X182.here hx rfl (hb hby d9_114)) ?_
            obtain ⟨cl193, Ar193, q193, S193, N193, H193, G193⟩ := id F188
            have hin193 : ¬ ((0 : Int32) < 0 ∨ cl193.slots.size ≤ ((0 : Int32)).toNatClampNeg) := inb_of S193 ⟨by decide, by decide⟩
            have hat193 : cl193.slots[((0 : Int32)).toNatClampNeg]? = some (.int (own_c ls (0 : Int32))) := Has.at H193 hin193 (own_cat ls (0 : Int32))
            refine gx (X182.caload hx (j := (0 : Int32)) (v := (.int (own_c ls (0 : Int32)))) Ar193.1 (State.isArrayOf_alike hZ.alike Ar193.2.1) Ar193.2.2 hin193 hat193 (g := (mkF m 115 #[.val (.ref x0), .val (.int x1)] [(.int (0 : Int32)), (.ref x0), (.int (0 : Int32)), (.ref b182), (.ref b182), (.ref b174), (.ref b174)])) rfl rfl (hb hby d9_115) _) ?_
            obtain ⟨cl194, Ar194, q194, S194, N194, H194, G194⟩ := id V182
            have hin194 : ¬ ((0 : Int32) < 0 ∨ cl194.slots.size ≤ ((0 : Int32)).toNatClampNeg) := inb_of S194 ⟨by decide, by decide⟩
            obtain ⟨T195, h195, X195, e195, W195, st195⟩ := stC X182 hx hZ rfl Ar194 (j := (0 : Int32)) hin194 (g := (mkF m 116 #[.val (.ref x0), .val (.int x1)] [(.int (own_c ls (0 : Int32))), (.int (0 : Int32)), (.ref b182), (.ref b182), (.ref b174), (.ref b174)])) rfl rfl (hb hby d9_116)
            subst e195
            have Sf196 := Safe.wr W195 Sn182 R186.1 Sf185
            have Sf197 := Safe.wr W195 Sn182 R186.1 Sn182
            have R198 := R186.trans (CHr.wr W195 Sn182 R186.1)
            have hk199 := Nat.le_trans hk187 (Nat.le_of_eq W195.size.symm)
            have F200 := F188.other W195 ne183
            have F201 := F189.wr W195
            have F202 := F190.wr W195
            have F203 := F191.other W195 (Or.inl ne184)
            have F204 := F192.other W195 (Or.inl ne184)
            have N195 := Fr.snoc X195 N0 g_b182
            have Z195 : n0 ≤ T195.heap.size := Nat.le_trans Z182 (Nat.le_of_eq W195.size.symm)
            have K195 : Keep h0 T195.heap [] := K182.wr W195 (Or.inr sz_b182)
            have V195 : Arv Z T195.heap b182 k182 .char (4 : Int32) [(.int (nar .char (own_c ls (0 : Int32)))), (.int (0 : Int32)), (.int (0 : Int32)), (.int (0 : Int32))] (.int (0 : Int32)) := Arv.set Ar194 q194 S194 N194 H194 G194 (fits_nar_char _) W195 0 rfl (Nat.le_of_ble_eq_true rfl)
            refine Goes.to st195 ?_
            refine gx (XS.dup X195.here hx rfl (hb hby d9_117) rfl rfl) ?_
            refine gx (XS.iconst X195.here hx rfl (hb hby d9_118)) ?_
            refine gx (XS.aloadN X195.here hx rfl (hb hby d9_119) rfl rfl) ?_
            refine gx (XS.iconst X195.here hx rfl (hb hby d9_120)) ?_
            obtain ⟨cl206, Ar206, q206, S206, N206, H206, G206⟩ := id F200
            have hin206 : ¬ ((1 : Int32) < 0 ∨ cl206.slots.size ≤ ((1 : Int32)).toNatClampNeg) := inb_of S206 ⟨by decide, by decide⟩
            have hat206 : cl206.slots[((1 : Int32)).toNatClampNeg]? = some (.int (own_c ls (1 : Int32))) := Has.at H206 hin206 (own_cat ls (1 : Int32))
            refine gx (X195.caload hx (j := (1 : Int32)) (v := (.int (own_c ls (1 : Int32)))) Ar206.1 (State.isArrayOf_alike hZ.alike Ar206.2.1) Ar206.2.2 hin206 hat206 (g := (mkF m 121 #[.val (.ref x0), .val (.int x1)] [(.int (1 : Int32)), (.ref x0), (.int (1 : Int32)), (.ref b182), (.ref b182), (.ref b174), (.ref b174)])) rfl rfl (hb hby d9_121) _) ?_
            obtain ⟨cl207, Ar207, q207, S207, N207, H207, G207⟩ := id V195
            have hin207 : ¬ ((1 : Int32) < 0 ∨ cl207.slots.size ≤ ((1 : Int32)).toNatClampNeg) := inb_of S207 ⟨by decide, by decide⟩
            obtain ⟨T208, h208, X208, e208, W208, st208⟩ := stC X195 hx hZ rfl Ar207 (j := (1 : Int32)) hin207 (g := (mkF m 122 #[.val (.ref x0), .val (.int x1)] [(.int (own_c ls (1 : Int32))), (.int (1 : Int32)), (.ref b182), (.ref b182), (.ref b174), (.ref b174)])) rfl rfl (hb hby d9_122)
            subst e208
            have Sf209 := Safe.wr W208 Sf197 R198.1 Sf196
            have Sf210 := Safe.wr W208 Sf197 R198.1 Sf197
            have R211 := R198.trans (CHr.wr W208 Sf197 R198.1)
            have hk212 := Nat.le_trans hk199 (Nat.le_of_eq W208.size.symm)
            have F213 := F200.other W208 ne183
            have F214 := F201.wr W208
            have F215 := F202.wr W208
            have F216 := F203.other W208 (Or.inl ne184)
            have F217 := F204.other W208 (Or.inl ne184)
            have N208 := Fr.snoc X208 N195 g_b182
            have Z208 : n0 ≤ T208.heap.size := Nat.le_trans Z195 (Nat.le_of_eq W208.size.symm)
            have K208 : Keep h0 T208.heap [] := K195.wr W208 (Or.inr sz_b182)
            have V208 : Arv Z T208.heap b182 k182 .char (4 : Int32) [(.int (nar .char (own_c ls (0 : Int32)))), (.int (nar .char (own_c ls (1 : Int32)))), (.int (0 : Int32)), (.int (0 : Int32))] (.int (0 : Int32)) := Arv.set Ar207 q207 S207 N207 H207 G207 (fits_nar_char _) W208 1 rfl (Nat.le_of_ble_eq_true rfl)
            refine Goes.to st208 ?_
            refine gx (XS.dup X208.here hx rfl (hb hby d9_123) rfl rfl) ?_
            refine gx (XS.iconst X208.here hx rfl (hb hby d9_124)) ?_
            refine gx (XS.aloadN X208.here hx rfl (hb hby d9_125) rfl rfl) ?_
            refine gx (XS.iconst X208.here hx rfl (hb hby d9_126)) ?_
            obtain ⟨cl219, Ar219, q219, S219, N219, H219, G219⟩ := id F213
            have hin219 : ¬ ((2 : Int32) < 0 ∨ cl219.slots.size ≤ ((2 : Int32)).toNatClampNeg) := inb_of S219 ⟨by decide, by decide⟩
            have hat219 : cl219.slots[((2 : Int32)).toNatClampNeg]? = some (.int (own_c ls (2 : Int32))) := Has.at H219 hin219 (own_cat ls (2 : Int32))
            refine gx (X208.caload hx (j := (2 : Int32)) (v := (.int (own_c ls (2 : Int32)))) Ar219.1 (State.isArrayOf_alike hZ.alike Ar219.2.1) Ar219.2.2 hin219 hat219 (g := (mkF m 127 #[.val (.ref x0), .val (.int x1)] [(.int (2 : Int32)), (.ref x0), (.int (2 : Int32)), (.ref b182), (.ref b182), (.ref b174), (.ref b174)])) rfl rfl (hb hby d9_127) _) ?_
            obtain ⟨cl220, Ar220, q220, S220, N220, H220, G220⟩ := id V208
            have hin220 : ¬ ((2 : Int32) < 0 ∨ cl220.slots.size ≤ ((2 : Int32)).toNatClampNeg) := inb_of S220 ⟨by decide, by decide⟩
            obtain ⟨T221, h221, X221, e221, W221, st221⟩ := stC X208 hx hZ rfl Ar220 (j := (2 : Int32)) hin220 (g := (mkF m 128 #[.val (.ref x0), .val (.int x1)] [(.int (own_c ls (2 : Int32))), (.int (2 : Int32)), (.ref b182), (.ref b182), (.ref b174), (.ref b174)])) rfl rfl (hb hby d9_128)
            subst e221
            have Sf222 := Safe.wr W221 Sf210 R211.1 Sf209
            have Sf223 := Safe.wr W221 Sf210 R211.1 Sf210
            have R224 := R211.trans (CHr.wr W221 Sf210 R211.1)
            have hk225 := Nat.le_trans hk212 (Nat.le_of_eq W221.size.symm)
            have F226 := F213.other W221 ne183
            have F227 := F214.wr W221
            have F228 := F215.wr W221
            have F229 := F216.other W221 (Or.inl ne184)
            have F230 := F217.other W221 (Or.inl ne184)
            have N221 := Fr.snoc X221 N208 g_b182
            have Z221 : n0 ≤ T221.heap.size := Nat.le_trans Z208 (Nat.le_of_eq W221.size.symm)
            have K221 : Keep h0 T221.heap [] := K208.wr W221 (Or.inr sz_b182)
            have V221 : Arv Z T221.heap b182 k182 .char (4 : Int32) [(.int (nar .char (own_c ls (0 : Int32)))), (.int (nar .char (own_c ls (1 : Int32)))), (.int (nar .char (own_c ls (2 : Int32)))), (.int (0 : Int32))] (.int (0 : Int32)) := Arv.set Ar220 q220 S220 N220 H220 G220 (fits_nar_char _) W221 2 rfl (Nat.le_of_ble_eq_true rfl)
            refine Goes.to st221 ?_
            refine gx (XS.dup X221.here hx rfl (hb hby d9_129) rfl rfl) ?_
            refine gx (XS.iconst X221.here hx rfl (hb hby d9_130)) ?_
            refine gx (XS.aloadN X221.here hx rfl (hb hby d9_131) rfl rfl) ?_
            refine gx (XS.iconst X221.here hx rfl (hb hby d9_132)) ?_
            exact own_pt_own_rm9_232 l Z a0 hw ws x0 x1 kc ls cs h0 n0 Z0 hPm Bd hml0 hh  b174 b182 k182 T221 _ s.vm hZ hown T221.heap X221 rfl N221 Z221  _ hS0 hk225 R224 F226 F227 Sf222 F228 F229 F230 Sf223 V221 g_b174 sz_b174 ne184 g_b182 sz_b182 hc1 hc2 hc46 hc103 hc173 K221
          · refine gx (XS.icmpYes X0.here hx rfl (pc0 := 101) (pc' := 139) rfl (hb hby d9_101) rfl (feq hc173).2 (by decide) (by decide)) ?_
            refine gx (XS.iloadN X0.here hx rfl (hb hby d9_139) rfl) ?_
            show Goes p.tables e below (s₁.setTop (mkF m 140 #[.val (.ref x0), .val (.int x1)] [(.int x1)])) _
            refine gx (XS.iconst X0.here hx rfl (hb hby d9_140)) ?_
            by_cases hc257 : x1 = (5 : Int32)
            · refine gx (XS.icmpNo X0.here hx rfl (hb hby d9_141) rfl (teq hc257).2) ?_
              obtain ⟨T258, h258, X258, e258, E258, A258, D258, -, st258⟩ := newO X0 hx hZ hown (own_hw hw 51 rfl) (own_hw hw 3 rfl) (own_hw hw 2 rfl) e0 (g := (mkF m 144 #[.val (.ref x0), .val (.int x1)] [])) rfl (hb hby d9_144) (by decide) (by decide)
              obtain ⟨b258, g258⟩ : ∃ z, z = h0.size := ⟨_, rfl⟩
              rw [← g258] at A258 D258 st258
              subst e258
              have Sn258 : Safe Z own_EL s.vm T258.heap b258 := Safe.ext E258 R0.1 (Safe.new (Nat.le_of_eq g258.symm))
              have R260 := R0.trans (CHr.ext E258 R0.1)
              have hk261 := Nat.le_trans (Nat.le_refl _) E258.1
              have F262 := VC.ext E258
              have F263 := SC.ext E258
              have g_b258 : n0 ≤ b258 := Nat.le_trans Z0 (Nat.le_of_eq g258.symm)
              have Z258 : n0 ≤ T258.heap.size := Nat.le_trans Z0 E258.1
              have sz_b258 : h0.size ≤ b258 := Nat.le_trans (Keep.refl h0 []).1 (Nat.le_of_eq g258.symm)
              have K258 : Keep h0 T258.heap [] := (Keep.refl h0 []).ext E258
              have F264 : Fld Z T258.heap b258 "java/lang/String" "value" "[B" .null := D258 (Or.inr (own_hw hw 5 rfl)) (ty := (.array .byte)) (by decide)
              have F265 : Fld Z T258.heap b258 "java/lang/String" "coder" "B" (.int (0 : Int32)) := D258 (Or.inr (own_hw hw 6 rfl)) (ty := .byte) (by decide)
              refine Goes.to st258 ?_
              refine gx (XS.dup X258.here hx rfl (hb hby d9_147) rfl rfl) ?_
              refine gx (XS.iconst X258.here hx rfl (hb hby d9_148)) ?_
              obtain ⟨T266, h266, k266, X266, e266, E266, A266, st266⟩ := newP X258 hx hZ (own_hw hw 0 rfl) rfl (g := (mkF m 149 #[.val (.ref x0), .val (.int x1)] [(.int (5 : Int32)), (.ref b258), (.ref b258)])) rfl (hb hby d9_149) rfl (by decide) (cap := 5) (by decide) (by decide) (by decide) (by decide)
              obtain ⟨b266, g266⟩ : ∃ z, z = T258.heap.size := ⟨_, rfl⟩
              rw [← g266] at A266 st266
              subst e266
              have ne267 : x0 ≠ b266 := Nat.ne_of_lt (Nat.lt_of_lt_of_le F262.lt (Nat.le_of_eq g266.symm))
              have ne268 : b258 ≠ b266 := Nat.ne_of_lt (Nat.lt_of_lt_of_le A258.lt (Nat.le_of_eq g266.symm))
              have Sn266 : Safe Z own_EL s.vm T266.heap b266 := Safe.ext E266 R260.1 (Safe.new (Nat.le_of_eq g266.symm))
              have Sf269 := Safe.ext E266 R260.1 Sn258
              have R270 := R260.trans (CHr.ext E266 R260.1)
              have hk271 := Nat.le_trans hk261 E266.1
              have F272 := F262.ext E266
              have F273 := F263.ext E266
              have F274 := A258.ext E266
              have F275 := F264.ext E266
              have F276 := F265.ext E266
              have g_b266 : n0 ≤ b266 := Nat.le_trans Z258 (Nat.le_of_eq g266.symm)
              have Z266 : n0 ≤ T266.heap.size := Nat.le_trans Z258 E266.1
              have sz_b266 : h0.size ≤ b266 := Nat.le_trans K258.1 (Nat.le_of_eq g266.symm)
              have K266 : Keep h0 T266.heap [] := K258.ext E266
              have V266 : Arv Z T266.heap b266 k266 .char (5 : Int32) [(.int (0 : Int32)), (.int (0 : Int32)), (.int (0 : Int32)), (.int (0 : Int32)), (.int (0 : Int32))] (.int (0 : Int32)) := (Arv.new A266 (by decide)).pad (pad_rep [] (.int (0 : Int32)) 5)
              refine Goes.to st266 ?_
              refine gx (XS.dup X266.here hx rfl (hb hby d9_151) rfl rfl) ?_
              refine gx (XS.iconst X266.here hx rfl (hb hby d9_152)) ?_
              refine gx (XS.aloadN X266.here hx rfl (hb hby d9_153) rfl rfl) ?_
              refine gx (XS.iconst X266.here hx rfl (hb hby d9_154)) ?_
              obtain ⟨cl277, Ar277, q277, S277, N277, H277, G277⟩ := id F272
              have hin277 : ¬ ((0 : Int32) < 0 ∨ cl277.slots.size ≤ ((0 : Int32)).toNatClampNeg) := inb_of S277 ⟨by decide, by decide⟩
              have hat277 : cl277.slots[((0 : Int32)).toNatClampNeg]? = some (.int (own_c ls (0 : Int32))) := Has.at H277 hin277 (own_cat ls (0 : Int32))
              refine gx (X266.caload hx (j := (0 : Int32)) (v := (.int (own_c ls (0 : Int32)))) Ar277.1 (State.isArrayOf_alike hZ.alike Ar277.2.1) Ar277.2.2 hin277 hat277 (g := (mkF m 155 #[.val (.ref x0), .val (.int x1)] [(.int (0 : Int32)), (.ref x0), (.int (0 : Int32)), (.ref b266), (.ref b266), (.ref b258), (.ref b258)])) rfl rfl (hb hby d9_155) _) ?_
              obtain ⟨cl278, Ar278, q278, S278, N278, H278, G278⟩ := id V266
              have hin278 : ¬ ((0 : Int32) < 0 ∨ cl278.slots.size ≤ ((0 : Int32)).toNatClampNeg) := inb_of S278 ⟨by decide, by decide⟩
              obtain ⟨T279, h279, X279, e279, W279, st279⟩ := stC X266 hx hZ rfl Ar278 (j := (0 : Int32)) hin278 (g := (mkF m 156 #[.val (.ref x0), .val (.int x1)] [(.int (own_c ls (0 : Int32))), (.int (0 : Int32)), (.ref b266), (.ref b266), (.ref b258), (.ref b258)])) rfl rfl (hb hby d9_156)
              subst e279
              have Sf280 := Safe.wr W279 Sn266 R270.1 Sf269
              have Sf281 := Safe.wr W279 Sn266 R270.1 Sn266
              have R282 := R270.trans (CHr.wr W279 Sn266 R270.1)
              have hk283 := Nat.le_trans hk271 (Nat.le_of_eq W279.size.symm)
              have F284 := F272.other W279 ne267
              have F285 := F273.wr W279
              have F286 := F274.wr W279
              have F287 := F275.other W279 (Or.inl ne268)
              have F288 := F276.other W279 (Or.inl ne268)
              have N279 := Fr.snoc X279 N0 g_b266
              have Z279 : n0 ≤ T279.heap.size := Nat.le_trans Z266 (Nat.le_of_eq W279.size.symm)
              have K279 : Keep h0 T279.heap [] := K266.wr W279 (Or.inr sz_b266)
              have V279 : Arv Z T279.heap b266 k266 .char (5 : Int32) [(.int (nar .char (own_c ls (0 : Int32)))), (.int (0 : Int32)), (.int (0 : Int32)), (.int (0 : Int32)), (.int (0 : Int32))] (.int (0 : Int32)) := Arv.set Ar278 q278 S278 N278 H278 G278 (fits_nar_char _) W279 0 rfl (Nat.le_of_ble_eq_true rfl)
              refine Goes.to st279 ?_
              refine gx (XS.dup X279.here hx rfl (hb hby d9_157) rfl rfl) ?_
              refine gx (XS.iconst X279.here hx rfl (hb hby d9_158)) ?_
              refine gx (XS.aloadN X279.here hx rfl (hb hby d9_159) rfl rfl) ?_
              refine gx (XS.iconst X279.here hx rfl (hb hby d9_160)) ?_
              obtain ⟨cl290, Ar290, q290, S290, N290, H290, G290⟩ := id F284
              have hin290 : ¬ ((1 : Int32) < 0 ∨ cl290.slots.size ≤ ((1 : Int32)).toNatClampNeg) := inb_of S290 ⟨by decide, by decide⟩
              have hat290 : cl290.slots[((1 : Int32)).toNatClampNeg]? = some (.int (own_c ls (1 : Int32))) := Has.at H290 hin290 (own_cat ls (1 : Int32))
              refine gx (X279.caload hx (j := (1 : Int32)) (v := (.int (own_c ls (1 : Int32)))) Ar290.1 (State.isArrayOf_alike hZ.alike Ar290.2.1) Ar290.2.2 hin290 hat290 (g := (mkF m 161 #[.val (.ref x0), .val (.int x1)] [(.int (1 : Int32)), (.ref x0), (.int (1 : Int32)), (.ref b266), (.ref b266), (.ref b258), (.ref b258)])) rfl rfl (hb hby d9_161) _) ?_
              obtain ⟨cl291, Ar291, q291, S291, N291, H291, G291⟩ := id V279
              have hin291 : ¬ ((1 : Int32) < 0 ∨ cl291.slots.size ≤ ((1 : Int32)).toNatClampNeg) := inb_of S291 ⟨by decide, by decide⟩
              obtain ⟨T292, h292, X292, e292, W292, st292⟩ := stC X279 hx hZ rfl Ar291 (j := (1 : Int32)) hin291 (g := (mkF m 162 #[.val (.ref x0), .val (.int x1)] [(.int (own_c ls (1 : Int32))), (.int (1 : Int32)), (.ref b266), (.ref b266), (.ref b258), (.ref b258)])) rfl rfl (hb hby d9_162)
              subst e292
              have Sf293 := Safe.wr W292 Sf281 R282.1 Sf280
              have Sf294 := Safe.wr W292 Sf281 R282.1 Sf281
              have R295 := R282.trans (CHr.wr W292 Sf281 R282.1)
              have hk296 := Nat.le_trans hk283 (Nat.le_of_eq W292.size.symm)
              have F297 := F284.other W292 ne267
              have F298 := F285.wr W292
              have F299 := F286.wr W292
              have F300 := F287.other W292 (Or.inl ne268)
              have F301 := F288.other W292 (Or.inl ne268)
              have N292 := Fr.snoc X292 N279 g_b266
              have Z292 : n0 ≤ T292.heap.size := Nat.le_trans Z279 (Nat.le_of_eq W292.size.symm)
              have K292 : Keep h0 T292.heap [] := K279.wr W292 (Or.inr sz_b266)
              have V292 : Arv Z T292.heap b266 k266 .char (5 : Int32) [(.int (nar .char (own_c ls (0 : Int32)))), (.int (nar .char (own_c ls (1 : Int32)))), (.int (0 : Int32)), (.int (0 : Int32)), (.int (0 : Int32))] (.int (0 : Int32)) := Arv.set Ar291 q291 S291 N291 H291 G291 (fits_nar_char _) W292 1 rfl (Nat.le_of_ble_eq_true rfl)
              refine Goes.to st292 ?_
              refine gx (XS.dup X292.here hx rfl (hb hby d9_163) rfl rfl) ?_
              refine gx (XS.iconst X292.here hx rfl (hb hby d9_164)) ?_
              refine gx (XS.aloadN X292.here hx rfl (hb hby d9_165) rfl rfl) ?_
              refine gx (XS.iconst X292.here hx rfl (hb hby d9_166)) ?_
              obtain ⟨cl303, Ar303, q303, S303, N303, H303, G303⟩ := id F297
              have hin303 : ¬ ((2 : Int32) < 0 ∨ cl303.slots.size ≤ ((2 : Int32)).toNatClampNeg) := inb_of S303 ⟨by decide, by decide⟩
              have hat303 : cl303.slots[((2 : Int32)).toNatClampNeg]? = some (.int (own_c ls (2 : Int32))) := Has.at H303 hin303 (own_cat ls (2 : Int32))
              refine gx (X292.caload hx (j := (2 : Int32)) (v := (.int (own_c ls (2 : Int32)))) Ar303.1 (State.isArrayOf_alike hZ.alike Ar303.2.1) Ar303.2.2 hin303 hat303 (g := (mkF m 167 #[.val (.ref x0), .val (.int x1)] [(.int (2 : Int32)), (.ref x0), (.int (2 : Int32)), (.ref b266), (.ref b266), (.ref b258), (.ref b258)])) rfl rfl (hb hby d9_167) _) ?_
              obtain ⟨cl304, Ar304, q304, S304, N304, H304, G304⟩ := id V292
              have hin304 : ¬ ((2 : Int32) < 0 ∨ cl304.slots.size ≤ ((2 : Int32)).toNatClampNeg) := inb_of S304 ⟨by decide, by decide⟩
              obtain ⟨T305, h305, X305, e305, W305, st305⟩ := stC X292 hx hZ rfl Ar304 (j := (2 : Int32)) hin304 (g := (mkF m 168 #[.val (.ref x0), .val (.int x1)] [(.int (own_c ls (2 : Int32))), (.int (2 : Int32)), (.ref b266), (.ref b266), (.ref b258), (.ref b258)])) rfl rfl (hb hby d9_168)
              subst e305
              have Sf306 := Safe.wr W305 Sf294 R295.1 Sf293
              have Sf307 := Safe.wr W305 Sf294 R295.1 Sf294
              have R308 := R295.trans (CHr.wr W305 Sf294 R295.1)
              have hk309 := Nat.le_trans hk296 (Nat.le_of_eq W305.size.symm)
              have F310 := F297.other W305 ne267
              have F311 := F298.wr W305
              have F312 := F299.wr W305
              have F313 := F300.other W305 (Or.inl ne268)
              have F314 := F301.other W305 (Or.inl ne268)
              have N305 := Fr.snoc X305 N292 g_b266
              have Z305 : n0 ≤ T305.heap.size := Nat.le_trans Z292 (Nat.le_of_eq W305.size.symm)
              have K305 : Keep h0 T305.heap [] := K292.wr W305 (Or.inr sz_b266)
              have V305 : Arv Z T305.heap b266 k266 .char (5 : Int32) [(.int (nar .char (own_c ls (0 : Int32)))), (.int (nar .char (own_c ls (1 : Int32)))), (.int (nar .char (own_c ls (2 : Int32)))), (.int (0 : Int32)), (.int (0 : Int32))] (.int (0 : Int32)) := Arv.set Ar304 q304 S304 N304 H304 G304 (fits_nar_char _) W305 2 rfl (Nat.le_of_ble_eq_true rfl)
              refine Goes.to st305 ?_
              refine gx (XS.dup X305.here hx rfl (hb hby d9_169) rfl rfl) ?_
              exact own_pt_own_rm9_316 l Z a0 hw ws x0 x1 kc ls cs h0 n0 Z0 hPm Bd hml0 hh  b258 b266 k266 T305 _ s.vm hZ hown T305.heap X305 rfl N305 Z305  _ hS0 hk309 R308 F310 F311 Sf306 F312 F313 F314 Sf307 V305 g_b258 sz_b258 ne267 ne268 g_b266 sz_b266 hc1 hc2 hc46 hc103 hc173 hc257 K305
            · refine gx (XS.icmpYes X0.here hx rfl (pc0 := 141) (pc' := 185) rfl (hb hby d9_141) rfl (feq hc257).2 (by decide) (by decide)) ?_
              refine gx (XS.iloadN X0.here hx rfl (hb hby d9_185) rfl) ?_
              refine gx (XS.bipush X0.here hx rfl (hb hby d9_186)) ?_
              by_cases hc354 : x1 = (6 : Int32)
              · refine gx (XS.icmpNo X0.here hx rfl (hb hby d9_188) rfl (teq hc354).2) ?_
                obtain ⟨T355, h355, X355, e355, E355, A355, D355, -, st355⟩ := newO X0 hx hZ hown (own_hw hw 51 rfl) (own_hw hw 3 rfl) (own_hw hw 2 rfl) e0 (g := (mkF m 191 #[.val (.ref x0), .val (.int x1)] [])) rfl (hb hby d9_191) (by decide) (by decide)
                obtain ⟨b355, g355⟩ : ∃ z, z = h0.size := ⟨_, rfl⟩
                rw [← g355] at A355 D355 st355
                subst e355
                have Sn355 : Safe Z own_EL s.vm T355.heap b355 := Safe.ext E355 R0.1 (Safe.new (Nat.le_of_eq g355.symm))
                have R357 := R0.trans (CHr.ext E355 R0.1)
                have hk358 := Nat.le_trans (Nat.le_refl _) E355.1
                have F359 := VC.ext E355
                have F360 := SC.ext E355
                have g_b355 : n0 ≤ b355 := Nat.le_trans Z0 (Nat.le_of_eq g355.symm)
                have Z355 : n0 ≤ T355.heap.size := Nat.le_trans Z0 E355.1
                have sz_b355 : h0.size ≤ b355 := Nat.le_trans (Keep.refl h0 []).1 (Nat.le_of_eq g355.symm)
                have K355 : Keep h0 T355.heap [] := (Keep.refl h0 []).ext E355
                have F361 : Fld Z T355.heap b355 "java/lang/String" "value" "[B" .null := D355 (Or.inr (own_hw hw 5 rfl)) (ty := (.array .byte)) (by decide)
                have F362 : Fld Z T355.heap b355 "java/lang/String" "coder" "B" (.int (0 : Int32)) := D355 (Or.inr (own_hw hw 6 rfl)) (ty := .byte) (by decide)
                refine Goes.to st355 ?_
                refine gx (XS.dup X355.here hx rfl (hb hby d9_194) rfl rfl) ?_
                refine gx (XS.bipush X355.here hx rfl (hb hby d9_195)) ?_
                obtain ⟨T363, h363, k363, X363, e363, E363, A363, st363⟩ := newP X355 hx hZ (own_hw hw 0 rfl) rfl (g := (mkF m 197 #[.val (.ref x0), .val (.int x1)] [(.int (6 : Int32)), (.ref b355), (.ref b355)])) rfl (hb hby d9_197) rfl (by decide) (cap := 6) (by decide) (by decide) (by decide) (by decide)
                obtain ⟨b363, g363⟩ : ∃ z, z = T355.heap.size := ⟨_, rfl⟩
                rw [← g363] at A363 st363
                subst e363
                have ne364 : x0 ≠ b363 := Nat.ne_of_lt (Nat.lt_of_lt_of_le F359.lt (Nat.le_of_eq g363.symm))
                have ne365 : b355 ≠ b363 := Nat.ne_of_lt (Nat.lt_of_lt_of_le A355.lt (Nat.le_of_eq g363.symm))
                have Sn363 : Safe Z own_EL s.vm T363.heap b363 := Safe.ext E363 R357.1 (Safe.new (Nat.le_of_eq g363.symm))
                have Sf366 := Safe.ext E363 R357.1 Sn355
                have R367 := R357.trans (CHr.ext E363 R357.1)
                have hk368 := Nat.le_trans hk358 E363.1
                have F369 := F359.ext E363
                have F370 := F360.ext E363
                have F371 := A355.ext E363
                have F372 := F361.ext E363
                have F373 := F362.ext E363
                have g_b363 : n0 ≤ b363 := Nat.le_trans Z355 (Nat.le_of_eq g363.symm)
                have Z363 : n0 ≤ T363.heap.size := Nat.le_trans Z355 E363.1
                have sz_b363 : h0.size ≤ b363 := Nat.le_trans K355.1 (Nat.le_of_eq g363.symm)
                have K363 : Keep h0 T363.heap [] := K355.ext E363
                have V363 : Arv Z T363.heap b363 k363 .char (6 : Int32) [(.int (0 : Int32)), (.int (0 : Int32)), (.int (0 : Int32)), (.int (0 : Int32)), (.int (0 : Int32)), (.int (0 : Int32))] (.int (0 : Int32)) := (Arv.new A363 (by decide)).pad (pad_rep [] (.int (0 : Int32)) 6)
                refine Goes.to st363 ?_
                refine gx (XS.dup X363.here hx rfl (hb hby d9_199) rfl rfl) ?_
                refine gx (XS.iconst X363.here hx rfl (hb hby d9_200)) ?_
                refine gx (XS.aloadN X363.here hx rfl (hb hby d9_201) rfl rfl) ?_
                refine gx (XS.iconst X363.here hx rfl (hb hby d9_202)) ?_
                obtain ⟨cl374, Ar374, q374, S374, N374, H374, G374⟩ := id F369
                have hin374 : ¬ ((0 : Int32) < 0 ∨ cl374.slots.size ≤ ((0 : Int32)).toNatClampNeg) := inb_of S374 ⟨by decide, by decide⟩
                have hat374 : cl374.slots[((0 : Int32)).toNatClampNeg]? = some (.int (own_c ls (0 : Int32))) := Has.at H374 hin374 (own_cat ls (0 : Int32))
                refine gx (X363.caload hx (j := (0 : Int32)) (v := (.int (own_c ls (0 : Int32)))) Ar374.1 (State.isArrayOf_alike hZ.alike Ar374.2.1) Ar374.2.2 hin374 hat374 (g := (mkF m 203 #[.val (.ref x0), .val (.int x1)] [(.int (0 : Int32)), (.ref x0), (.int (0 : Int32)), (.ref b363), (.ref b363), (.ref b355), (.ref b355)])) rfl rfl (hb hby d9_203) _) ?_
                obtain ⟨cl375, Ar375, q375, S375, N375, H375, G375⟩ := id V363
                have hin375 : ¬ ((0 : Int32) < 0 ∨ cl375.slots.size ≤ ((0 : Int32)).toNatClampNeg) := inb_of S375 ⟨by decide, by decide⟩
                obtain ⟨T376, h376, X376, e376, W376, st376⟩ := stC X363 hx hZ rfl Ar375 (j := (0 : Int32)) hin375 (g := (mkF m 204 #[.val (.ref x0), .val (.int x1)] [(.int (own_c ls (0 : Int32))), (.int (0 : Int32)), (.ref b363), (.ref b363), (.ref b355), (.ref b355)])) rfl rfl (hb hby d9_204)
                subst e376
                have Sf377 := Safe.wr W376 Sn363 R367.1 Sf366
                have Sf378 := Safe.wr W376 Sn363 R367.1 Sn363
                have R379 := R367.trans (CHr.wr W376 Sn363 R367.1)
                have hk380 := Nat.le_trans hk368 (Nat.le_of_eq W376.size.symm)
                have F381 := F369.other W376 ne364
                have F382 := F370.wr W376
                have F383 := F371.wr W376
                have F384 := F372.other W376 (Or.inl ne365)
                have F385 := F373.other W376 (Or.inl ne365)
                have N376 := Fr.snoc X376 N0 g_b363
                have Z376 : n0 ≤ T376.heap.size := Nat.le_trans Z363 (Nat.le_of_eq W376.size.symm)
                have K376 : Keep h0 T376.heap [] := K363.wr W376 (Or.inr sz_b363)
                have V376 : Arv Z T376.heap b363 k363 .char (6 : Int32) [(.int (nar .char (own_c ls (0 : Int32)))), (.int (0 : Int32)), (.int (0 : Int32)), (.int (0 : Int32)), (.int (0 : Int32)), (.int (0 : Int32))] (.int (0 : Int32)) := Arv.set Ar375 q375 S375 N375 H375 G375 (fits_nar_char _) W376 0 rfl (Nat.le_of_ble_eq_true rfl)
                refine Goes.to st376 ?_
                refine gx (XS.dup X376.here hx rfl (hb hby d9_205) rfl rfl) ?_
                refine gx (XS.iconst X376.here hx rfl (hb hby d9_206)) ?_
                refine gx (XS.aloadN X376.here hx rfl (hb hby d9_207) rfl rfl) ?_
                refine gx (XS.iconst X376.here hx rfl (hb hby d9_208)) ?_
                obtain ⟨cl387, Ar387, q387, S387, N387, H387, G387⟩ := id F381
                have hin387 : ¬ ((1 : Int32) < 0 ∨ cl387.slots.size ≤ ((1 : Int32)).toNatClampNeg) := inb_of S387 ⟨by decide, by decide⟩
                have hat387 : cl387.slots[((1 : Int32)).toNatClampNeg]? = some (.int (own_c ls (1 : Int32))) := Has.at H387 hin387 (own_cat ls (1 : Int32))
                refine gx (X376.caload hx (j := (1 : Int32)) (v := (.int (own_c ls (1 : Int32)))) Ar387.1 (State.isArrayOf_alike hZ.alike Ar387.2.1) Ar387.2.2 hin387 hat387 (g := (mkF m 209 #[.val (.ref x0), .val (.int x1)] [(.int (1 : Int32)), (.ref x0), (.int (1 : Int32)), (.ref b363), (.ref b363), (.ref b355), (.ref b355)])) rfl rfl (hb hby d9_209) _) ?_
                obtain ⟨cl388, Ar388, q388, S388, N388, H388, G388⟩ := id V376
                have hin388 : ¬ ((1 : Int32) < 0 ∨ cl388.slots.size ≤ ((1 : Int32)).toNatClampNeg) := inb_of S388 ⟨by decide, by decide⟩
                obtain ⟨T389, h389, X389, e389, W389, st389⟩ := stC X376 hx hZ rfl Ar388 (j := (1 : Int32)) hin388 (g := (mkF m 210 #[.val (.ref x0), .val (.int x1)] [(.int (own_c ls (1 : Int32))), (.int (1 : Int32)), (.ref b363), (.ref b363), (.ref b355), (.ref b355)])) rfl rfl (hb hby d9_210)
                subst e389
                have Sf390 := Safe.wr W389 Sf378 R379.1 Sf377
                have Sf391 := Safe.wr W389 Sf378 R379.1 Sf378
                have R392 := R379.trans (CHr.wr W389 Sf378 R379.1)
                have hk393 := Nat.le_trans hk380 (Nat.le_of_eq W389.size.symm)
                have F394 := F381.other W389 ne364
                have F395 := F382.wr W389
                have F396 := F383.wr W389
                have F397 := F384.other W389 (Or.inl ne365)
                have F398 := F385.other W389 (Or.inl ne365)
                have N389 := Fr.snoc X389 N376 g_b363
                have Z389 : n0 ≤ T389.heap.size := Nat.le_trans Z376 (Nat.le_of_eq W389.size.symm)
                have K389 : Keep h0 T389.heap [] := K376.wr W389 (Or.inr sz_b363)
                have V389 : Arv Z T389.heap b363 k363 .char (6 : Int32) [(.int (nar .char (own_c ls (0 : Int32)))), (.int (nar .char (own_c ls (1 : Int32)))), (.int (0 : Int32)), (.int (0 : Int32)), (.int (0 : Int32)), (.int (0 : Int32))] (.int (0 : Int32)) := Arv.set Ar388 q388 S388 N388 H388 G388 (fits_nar_char _) W389 1 rfl (Nat.le_of_ble_eq_true rfl)
                refine Goes.to st389 ?_
                refine gx (XS.dup X389.here hx rfl (hb hby d9_211) rfl rfl) ?_
                refine gx (XS.iconst X389.here hx rfl (hb hby d9_212)) ?_
                refine gx (XS.aloadN X389.here hx rfl (hb hby d9_213) rfl rfl) ?_
                refine gx (XS.iconst X389.here hx rfl (hb hby d9_214)) ?_
                exact own_pt_own_rm9_400 l Z a0 hw ws x0 x1 kc ls cs h0 n0 Z0 hPm Bd hml0 hh  b355 b363 k363 T389 _ s.vm hZ hown T389.heap X389 rfl N389 Z389  _ hS0 hk393 R392 F394 F395 Sf390 F396 F397 F398 Sf391 V389 g_b355 sz_b355 ne364 ne365 g_b363 sz_b363 hc1 hc2 hc46 hc103 hc173 hc257 hc354 K389
              · refine gx (XS.icmpYes X0.here hx rfl (pc0 := 188) (pc' := 239) rfl (hb hby d9_188) rfl (feq hc354).2 (by decide) (by decide)) ?_
                show Goes p.tables e below (s₁.setTop (mkF m 239 #[.val (.ref x0), .val (.int x1)] [])) _
                refine gx (XS.iloadN X0.here hx rfl (hb hby d9_239) rfl) ?_
                refine gx (XS.bipush X0.here hx rfl (hb hby d9_240)) ?_
                by_cases hc464 : x1 = (7 : Int32)
                · refine gx (XS.icmpNo X0.here hx rfl (hb hby d9_242) rfl (teq hc464).2) ?_
                  obtain ⟨T465, h465, X465, e465, E465, A465, D465, -, st465⟩ := newO X0 hx hZ hown (own_hw hw 51 rfl) (own_hw hw 3 rfl) (own_hw hw 2 rfl) e0 (g := (mkF m 245 #[.val (.ref x0), .val (.int x1)] [])) rfl (hb hby d9_245) (by decide) (by decide)
                  obtain ⟨b465, g465⟩ : ∃ z, z = h0.size := ⟨_, rfl⟩
                  rw [← g465] at A465 D465 st465
                  subst e465
                  have Sn465 : Safe Z own_EL s.vm T465.heap b465 := Safe.ext E465 R0.1 (Safe.new (Nat.le_of_eq g465.symm))
                  have R467 := R0.trans (CHr.ext E465 R0.1)
                  have hk468 := Nat.le_trans (Nat.le_refl _) E465.1
                  have F469 := VC.ext E465
                  have F470 := SC.ext E465
                  have g_b465 : n0 ≤ b465 := Nat.le_trans Z0 (Nat.le_of_eq g465.symm)
                  have Z465 : n0 ≤ T465.heap.size := Nat.le_trans Z0 E465.1
                  have sz_b465 : h0.size ≤ b465 := Nat.le_trans (Keep.refl h0 []).1 (Nat.le_of_eq g465.symm)
                  have K465 : Keep h0 T465.heap [] := (Keep.refl h0 []).ext E465
                  have F471 : Fld Z T465.heap b465 "java/lang/String" "value" "[B" .null := D465 (Or.inr (own_hw hw 5 rfl)) (ty := (.array .byte)) (by decide)
                  have F472 : Fld Z T465.heap b465 "java/lang/String" "coder" "B" (.int (0 : Int32)) := D465 (Or.inr (own_hw hw 6 rfl)) (ty := .byte) (by decide)
                  refine Goes.to st465 ?_
                  refine gx (XS.dup X465.here hx rfl (hb hby d9_248) rfl rfl) ?_
                  refine gx (XS.bipush X465.here hx rfl (hb hby d9_249)) ?_
                  obtain ⟨T473, h473, k473, X473, e473, E473, A473, st473⟩ := newP X465 hx hZ (own_hw hw 0 rfl) rfl (g := (mkF m 251 #[.val (.ref x0), .val (.int x1)] [(.int (7 : Int32)), (.ref b465), (.ref b465)])) rfl (hb hby d9_251) rfl (by decide) (cap := 7) (by decide) (by decide) (by decide) (by decide)
                  obtain ⟨b473, g473⟩ : ∃ z, z = T465.heap.size := ⟨_, rfl⟩
                  rw [← g473] at A473 st473
                  subst e473
                  have ne474 : x0 ≠ b473 := Nat.ne_of_lt (Nat.lt_of_lt_of_le F469.lt (Nat.le_of_eq g473.symm))
                  have ne475 : b465 ≠ b473 := Nat.ne_of_lt (Nat.lt_of_lt_of_le A465.lt (Nat.le_of_eq g473.symm))
                  have Sn473 : Safe Z own_EL s.vm T473.heap b473 := Safe.ext E473 R467.1 (Safe.new (Nat.le_of_eq g473.symm))
                  have Sf476 := Safe.ext E473 R467.1 Sn465
                  have R477 := R467.trans (CHr.ext E473 R467.1)
                  have hk478 := Nat.le_trans hk468 E473.1
                  have F479 := F469.ext E473
                  have F480 := F470.ext E473
                  have F481 := A465.ext E473
                  have F482 := F471.ext E473
                  have F483 := F472.ext E473
                  have g_b473 : n0 ≤ b473 := Nat.le_trans Z465 (Nat.le_of_eq g473.symm)
                  have Z473 : n0 ≤ T473.heap.size := Nat.le_trans Z465 E473.1
                  have sz_b473 : h0.size ≤ b473 := Nat.le_trans K465.1 (Nat.le_of_eq g473.symm)
                  have K473 : Keep h0 T473.heap [] := K465.ext E473
                  have V473 : Arv Z T473.heap b473 k473 .char (7 : Int32) [(.int (0 : Int32)), (.int (0 : Int32)), (.int (0 : Int32)), (.int (0 : Int32)), (.int (0 : Int32)), (.int (0 : Int32)), (.int (0 : Int32))] (.int (0 : Int32)) := (Arv.new A473 (by decide)).pad (pad_rep [] (.int (0 : Int32)) 7)
                  refine Goes.to st473 ?_
                  refine gx (XS.dup X473.here hx rfl (hb hby d9_253) rfl rfl) ?_
                  refine gx (XS.iconst X473.here hx rfl (hb hby d9_254)) ?_
                  refine gx (XS.aloadN X473.here hx rfl (hb hby d9_255) rfl rfl) ?_
                  refine gx (XS.iconst X473.here hx rfl (hb hby d9_256)) ?_
                  obtain ⟨cl484, Ar484, q484, S484, N484, H484, G484⟩ := id F479
                  have hin484 : ¬ ((0 : Int32) < 0 ∨ cl484.slots.size ≤ ((0 : Int32)).toNatClampNeg) := inb_of S484 ⟨by decide, by decide⟩
                  have hat484 : cl484.slots[((0 : Int32)).toNatClampNeg]? = some (.int (own_c ls (0 : Int32))) := Has.at H484 hin484 (own_cat ls (0 : Int32))
                  refine gx (X473.caload hx (j := (0 : Int32)) (v := (.int (own_c ls (0 : Int32)))) Ar484.1 (State.isArrayOf_alike hZ.alike Ar484.2.1) Ar484.2.2 hin484 hat484 (g := (mkF m 257 #[.val (.ref x0), .val (.int x1)] [(.int (0 : Int32)), (.ref x0), (.int (0 : Int32)), (.ref b473), (.ref b473), (.ref b465), (.ref b465)])) rfl rfl (hb hby d9_257) _) ?_
                  obtain ⟨cl485, Ar485, q485, S485, N485, H485, G485⟩ := id V473
                  have hin485 : ¬ ((0 : Int32) < 0 ∨ cl485.slots.size ≤ ((0 : Int32)).toNatClampNeg) := inb_of S485 ⟨by decide, by decide⟩
                  obtain ⟨T486, h486, X486, e486, W486, st486⟩ := stC X473 hx hZ rfl Ar485 (j := (0 : Int32)) hin485 (g := (mkF m 258 #[.val (.ref x0), .val (.int x1)] [(.int (own_c ls (0 : Int32))), (.int (0 : Int32)), (.ref b473), (.ref b473), (.ref b465), (.ref b465)])) rfl rfl (hb hby d9_258)
                  subst e486
                  have Sf487 := Safe.wr W486 Sn473 R477.1 Sf476
                  have Sf488 := Safe.wr W486 Sn473 R477.1 Sn473
                  have R489 := R477.trans (CHr.wr W486 Sn473 R477.1)
                  have hk490 := Nat.le_trans hk478 (Nat.le_of_eq W486.size.symm)
                  have F491 := F479.other W486 ne474
                  have F492 := F480.wr W486
                  have F493 := F481.wr W486
                  have F494 := F482.other W486 (Or.inl ne475)
                  have F495 := F483.other W486 (Or.inl ne475)
                  have N486 := Fr.snoc X486 N0 g_b473
                  have Z486 : n0 ≤ T486.heap.size := Nat.le_trans Z473 (Nat.le_of_eq W486.size.symm)
                  have K486 : Keep h0 T486.heap [] := K473.wr W486 (Or.inr sz_b473)
                  have V486 : Arv Z T486.heap b473 k473 .char (7 : Int32) [(.int (nar .char (own_c ls (0 : Int32)))), (.int (0 : Int32)), (.int (0 : Int32)), (.int (0 : Int32)), (.int (0 : Int32)), (.int (0 : Int32)), (.int (0 : Int32))] (.int (0 : Int32)) := Arv.set Ar485 q485 S485 N485 H485 G485 (fits_nar_char _) W486 0 rfl (Nat.le_of_ble_eq_true rfl)
                  refine Goes.to st486 ?_
                  refine gx (XS.dup X486.here hx rfl (hb hby d9_259) rfl rfl) ?_
                  refine gx (XS.iconst X486.here hx rfl (hb hby d9_260)) ?_
                  refine gx (XS.aloadN X486.here hx rfl (hb hby d9_261) rfl rfl) ?_
                  refine gx (XS.iconst X486.here hx rfl (hb hby d9_262)) ?_
                  obtain ⟨cl497, Ar497, q497, S497, N497, H497, G497⟩ := id F491
                  have hin497 : ¬ ((1 : Int32) < 0 ∨ cl497.slots.size ≤ ((1 : Int32)).toNatClampNeg) := inb_of S497 ⟨by decide, by decide⟩
                  have hat497 : cl497.slots[((1 : Int32)).toNatClampNeg]? = some (.int (own_c ls (1 : Int32))) := Has.at H497 hin497 (own_cat ls (1 : Int32))
                  refine gx (X486.caload hx (j := (1 : Int32)) (v := (.int (own_c ls (1 : Int32)))) Ar497.1 (State.isArrayOf_alike hZ.alike Ar497.2.1) Ar497.2.2 hin497 hat497 (g := (mkF m 263 #[.val (.ref x0), .val (.int x1)] [(.int (1 : Int32)), (.ref x0), (.int (1 : Int32)), (.ref b473), (.ref b473), (.ref b465), (.ref b465)])) rfl rfl (hb hby d9_263) _) ?_
                  obtain ⟨cl498, Ar498, q498, S498, N498, H498, G498⟩ := id V486
                  have hin498 : ¬ ((1 : Int32) < 0 ∨ cl498.slots.size ≤ ((1 : Int32)).toNatClampNeg) := inb_of S498 ⟨by decide, by decide⟩
                  obtain ⟨T499, h499, X499, e499, W499, st499⟩ := stC X486 hx hZ rfl Ar498 (j := (1 : Int32)) hin498 (g := (mkF m 264 #[.val (.ref x0), .val (.int x1)] [(.int (own_c ls (1 : Int32))), (.int (1 : Int32)), (.ref b473), (.ref b473), (.ref b465), (.ref b465)])) rfl rfl (hb hby d9_264)
                  subst e499
                  have Sf500 := Safe.wr W499 Sf488 R489.1 Sf487
                  have Sf501 := Safe.wr W499 Sf488 R489.1 Sf488
                  have R502 := R489.trans (CHr.wr W499 Sf488 R489.1)
                  have hk503 := Nat.le_trans hk490 (Nat.le_of_eq W499.size.symm)
                  have F504 := F491.other W499 ne474
                  have F505 := F492.wr W499
                  have F506 := F493.wr W499
                  have F507 := F494.other W499 (Or.inl ne475)
                  have F508 := F495.other W499 (Or.inl ne475)
                  have N499 := Fr.snoc X499 N486 g_b473
                  have Z499 : n0 ≤ T499.heap.size := Nat.le_trans Z486 (Nat.le_of_eq W499.size.symm)
                  have K499 : Keep h0 T499.heap [] := K486.wr W499 (Or.inr sz_b473)
                  have V499 : Arv Z T499.heap b473 k473 .char (7 : Int32) [(.int (nar .char (own_c ls (0 : Int32)))), (.int (nar .char (own_c ls (1 : Int32)))), (.int (0 : Int32)), (.int (0 : Int32)), (.int (0 : Int32)), (.int (0 : Int32)), (.int (0 : Int32))] (.int (0 : Int32)) := Arv.set Ar498 q498 S498 N498 H498 G498 (fits_nar_char _) W499 1 rfl (Nat.le_of_ble_eq_true rfl)
                  refine Goes.to st499 ?_
                  refine gx (XS.dup X499.here hx rfl (hb hby d9_265) rfl rfl) ?_
                  exact own_pt_own_rm9_510 l Z a0 hw ws x0 x1 kc ls cs h0 n0 Z0 hPm Bd hml0 hh  b465 b473 k473 T499 _ s.vm hZ hown T499.heap X499 rfl N499 Z499  _ hS0 hk503 R502 F504 F505 Sf500 F506 F507 F508 Sf501 V499 g_b465 sz_b465 ne474 ne475 g_b473 sz_b473 hc1 hc2 hc46 hc103 hc173 hc257 hc354 hc464 K499
                · refine gx (XS.icmpYes X0.here hx rfl (pc0 := 242) (pc' := 301) rfl (hb hby d9_242) rfl (feq hc464).2 (by decide) (by decide)) ?_
                  refine gx (XS.iloadN X0.here hx rfl (hb hby d9_301) rfl) ?_
                  refine gx (XS.bipush X0.here hx rfl (hb hby d9_302)) ?_
                  show Goes p.tables e below (s₁.setTop (mkF m 304 #[.val (.ref x0), .val (.int x1)] [(.int (8 : Int32)), (.int x1)])) _
                  by_cases hc587 : x1 = (8 : Int32)
                  · refine gx (XS.icmpNo X0.here hx rfl (hb hby d9_304) rfl (teq hc587).2) ?_
                    obtain ⟨T588, h588, X588, e588, E588, A588, D588, -, st588⟩ := newO X0 hx hZ hown (own_hw hw 51 rfl) (own_hw hw 3 rfl) (own_hw hw 2 rfl) e0 (g := (mkF m 307 #[.val (.ref x0), .val (.int x1)] [])) rfl (hb hby d9_307) (by decide) (by decide)
                    obtain ⟨b588, g588⟩ : ∃ z, z = h0.size := ⟨_, rfl⟩
                    rw [← g588] at A588 D588 st588
                    subst e588
                    have Sn588 : Safe Z own_EL s.vm T588.heap b588 := Safe.ext E588 R0.1 (Safe.new (Nat.le_of_eq g588.symm))
                    have R590 := R0.trans (CHr.ext E588 R0.1)
                    have hk591 := Nat.le_trans (Nat.le_refl _) E588.1
                    have F592 := VC.ext E588
                    have F593 := SC.ext E588
                    have g_b588 : n0 ≤ b588 := Nat.le_trans Z0 (Nat.le_of_eq g588.symm)
                    have Z588 : n0 ≤ T588.heap.size := Nat.le_trans Z0 E588.1
                    have sz_b588 : h0.size ≤ b588 := Nat.le_trans (Keep.refl h0 []).1 (Nat.le_of_eq g588.symm)
                    have K588 : Keep h0 T588.heap [] := (Keep.refl h0 []).ext E588
                    have F594 : Fld Z T588.heap b588 "java/lang/String" "value" "[B" .null := D588 (Or.inr (own_hw hw 5 rfl)) (ty := (.array .byte)) (by decide)
                    have F595 : Fld Z T588.heap b588 "java/lang/String" "coder" "B" (.int (0 : Int32)) := D588 (Or.inr (own_hw hw 6 rfl)) (ty := .byte) (by decide)
                    refine Goes.to st588 ?_
                    refine gx (XS.dup X588.here hx rfl (hb hby d9_310) rfl rfl) ?_
                    refine gx (XS.bipush X588.here hx rfl (hb hby d9_311)) ?_
                    obtain ⟨T596, h596, k596, X596, e596, E596, A596, st596⟩ := newP X588 hx hZ (own_hw hw 0 rfl) rfl (g := (mkF m 313 #[.val (.ref x0), .val (.int x1)] [(.int (8 : Int32)), (.ref b588), (.ref b588)])) rfl (hb hby d9_313) rfl (by decide) (cap := 8) (by decide) (by decide) (by decide) (by decide)
                    obtain ⟨b596, g596⟩ : ∃ z, z = T588.heap.size := ⟨_, rfl⟩
                    rw [← g596] at A596 st596
                    subst e596
                    have ne597 : x0 ≠ b596 := Nat.ne_of_lt (Nat.lt_of_lt_of_le F592.lt (Nat.le_of_eq g596.symm))
                    have ne598 : b588 ≠ b596 := Nat.ne_of_lt (Nat.lt_of_lt_of_le A588.lt (Nat.le_of_eq g596.symm))
                    have Sn596 : Safe Z own_EL s.vm T596.heap b596 := Safe.ext E596 R590.1 (Safe.new (Nat.le_of_eq g596.symm))
                    have Sf599 := Safe.ext E596 R590.1 Sn588
                    have R600 := R590.trans (CHr.ext E596 R590.1)
                    have hk601 := Nat.le_trans hk591 E596.1
                    have F602 := F592.ext E596
                    have F603 := F593.ext E596
                    have F604 := A588.ext E596
                    have F605 := F594.ext E596
                    have F606 := F595.ext E596
                    have g_b596 : n0 ≤ b596 := Nat.le_trans Z588 (Nat.le_of_eq g596.symm)
                    have Z596 : n0 ≤ T596.heap.size := Nat.le_trans Z588 E596.1
                    have sz_b596 : h0.size ≤ b596 := Nat.le_trans K588.1 (Nat.le_of_eq g596.symm)
                    have K596 : Keep h0 T596.heap [] := K588.ext E596
                    have V596 : Arv Z T596.heap b596 k596 .char (8 : Int32) [(.int (0 : Int32)), (.int (0 : Int32)), (.int (0 : Int32)), (.int (0 : Int32)), (.int (0 : Int32)), (.int (0 : Int32)), (.int (0 : Int32)), (.int (0 : Int32))] (.int (0 : Int32)) := (Arv.new A596 (by decide)).pad (pad_rep [] (.int (0 : Int32)) 8)
                    refine Goes.to st596 ?_
                    refine gx (XS.dup X596.here hx rfl (hb hby d9_315) rfl rfl) ?_
                    refine gx (XS.iconst X596.here hx rfl (hb hby d9_316)) ?_
                    refine gx (XS.aloadN X596.here hx rfl (hb hby d9_317) rfl rfl) ?_
                    refine gx (XS.iconst X596.here hx rfl (hb hby d9_318)) ?_
                    obtain ⟨cl607, Ar607, q607, S607, N607, H607, G607⟩ := id F602
                    have hin607 : ¬ ((0 : Int32) < 0 ∨ cl607.slots.size ≤ ((0 : Int32)).toNatClampNeg) := inb_of S607 ⟨by decide, by decide⟩
                    have hat607 : cl607.slots[((0 : Int32)).toNatClampNeg]? = some (.int (own_c ls (0 : Int32))) := Has.at H607 hin607 (own_cat ls (0 : Int32))
                    refine gx (X596.caload hx (j := (0 : Int32)) (v := (.int (own_c ls (0 : Int32)))) Ar607.1 (State.isArrayOf_alike hZ.alike Ar607.2.1) Ar607.2.2 hin607 hat607 (g := (mkF m 319 #[.val (.ref x0), .val (.int x1)] [(.int (0 : Int32)), (.ref x0), (.int (0 : Int32)), (.ref b596), (.ref b596), (.ref b588), (.ref b588)])) rfl rfl (hb hby d9_319) _) ?_
                    obtain ⟨cl608, Ar608, q608, S608, N608, H608, G608⟩ := id V596
                    have hin608 : ¬ ((0 : Int32) < 0 ∨ cl608.slots.size ≤ ((0 : Int32)).toNatClampNeg) := inb_of S608 ⟨by decide, by decide⟩
                    obtain ⟨T609, h609, X609, e609, W609, st609⟩ := stC X596 hx hZ rfl Ar608 (j := (0 : Int32)) hin608 (g := (mkF m 320 #[.val (.ref x0), .val (.int x1)] [(.int (own_c ls (0 : Int32))), (.int (0 : Int32)), (.ref b596), (.ref b596), (.ref b588), (.ref b588)])) rfl rfl (hb hby d9_320)
                    subst e609
                    have Sf610 := Safe.wr W609 Sn596 R600.1 Sf599
                    have Sf611 := Safe.wr W609 Sn596 R600.1 Sn596
                    have R612 := R600.trans (CHr.wr W609 Sn596 R600.1)
                    have hk613 := Nat.le_trans hk601 (Nat.le_of_eq W609.size.symm)
                    have F614 := F602.other W609 ne597
                    have F615 := F603.wr W609
                    have F616 := F604.wr W609
                    have F617 := F605.other W609 (Or.inl ne598)
                    have F618 := F606.other W609 (Or.inl ne598)
                    have N609 := Fr.snoc X609 N0 g_b596
                    have Z609 : n0 ≤ T609.heap.size := Nat.le_trans Z596 (Nat.le_of_eq W609.size.symm)
                    have K609 : Keep h0 T609.heap [] := K596.wr W609 (Or.inr sz_b596)
                    have V609 : Arv Z T609.heap b596 k596 .char (8 : Int32) [(.int (nar .char (own_c ls (0 : Int32)))), (.int (0 : Int32)), (.int (0 : Int32)), (.int (0 : Int32)), (.int (0 : Int32)), (.int (0 : Int32)), (.int (0 : Int32)), (.int (0 : Int32))] (.int (0 : Int32)) := Arv.set Ar608 q608 S608 N608 H608 G608 (fits_nar_char _) W609 0 rfl (Nat.le_of_ble_eq_true rfl)
                    refine Goes.to st609 ?_
                    refine gx (XS.dup X609.here hx rfl (hb hby d9_321) rfl rfl) ?_
                    refine gx (XS.iconst X609.here hx rfl (hb hby d9_322)) ?_
                    refine gx (XS.aloadN X609.here hx rfl (hb hby d9_323) rfl rfl) ?_
                    refine gx (XS.iconst X609.here hx rfl (hb hby d9_324)) ?_
                    exact own_pt_own_rm9_620 l Z a0 hw ws x0 x1 kc ls cs h0 n0 Z0 hPm Bd hml0 hh  b588 b596 k596 T609 _ s.vm hZ hown T609.heap X609 rfl N609 Z609  _ hS0 hk613 R612 F614 F615 Sf610 F616 F617 F618 Sf611 V609 g_b588 sz_b588 ne597 ne598 g_b596 sz_b596 hc1 hc2 hc46 hc103 hc173 hc257 hc354 hc464 hc587 K609
                  · refine gx (XS.icmpYes X0.here hx rfl (pc0 := 304) (pc' := 371) rfl (hb hby d9_304) rfl (feq hc587).2 (by decide) (by decide)) ?_
                    obtain ⟨T723, h723, X723, e723, E723, A723, D723, -, st723⟩ := newO X0 hx hZ hown (own_hw hw 51 rfl) (own_hw hw 3 rfl) (own_hw hw 2 rfl) e0 (g := (mkF m 371 #[.val (.ref x0), .val (.int x1)] [])) rfl (hb hby d9_371) (by decide) (by decide)
                    obtain ⟨b723, g723⟩ : ∃ z, z = h0.size := ⟨_, rfl⟩
                    rw [← g723] at A723 D723 st723
                    subst e723
                    have Sn723 : Safe Z own_EL s.vm T723.heap b723 := Safe.ext E723 R0.1 (Safe.new (Nat.le_of_eq g723.symm))
                    have R725 := R0.trans (CHr.ext E723 R0.1)
                    have hk726 := Nat.le_trans (Nat.le_refl _) E723.1
                    have F727 := VC.ext E723
                    have F728 := SC.ext E723
                    have g_b723 : n0 ≤ b723 := Nat.le_trans Z0 (Nat.le_of_eq g723.symm)
                    have Z723 : n0 ≤ T723.heap.size := Nat.le_trans Z0 E723.1
                    have sz_b723 : h0.size ≤ b723 := Nat.le_trans (Keep.refl h0 []).1 (Nat.le_of_eq g723.symm)
                    have K723 : Keep h0 T723.heap [] := (Keep.refl h0 []).ext E723
                    have F729 : Fld Z T723.heap b723 "java/lang/String" "value" "[B" .null := D723 (Or.inr (own_hw hw 5 rfl)) (ty := (.array .byte)) (by decide)
                    have F730 : Fld Z T723.heap b723 "java/lang/String" "coder" "B" (.int (0 : Int32)) := D723 (Or.inr (own_hw hw 6 rfl)) (ty := .byte) (by decide)
                    refine Goes.to st723 ?_
                    refine gx (XS.dup X723.here hx rfl (hb hby d9_374) rfl rfl) ?_
                    refine gx (XS.bipush X723.here hx rfl (hb hby d9_375)) ?_
                    obtain ⟨T731, h731, k731, X731, e731, E731, A731, st731⟩ := newP X723 hx hZ (own_hw hw 0 rfl) rfl (g := (mkF m 377 #[.val (.ref x0), .val (.int x1)] [(.int (9 : Int32)), (.ref b723), (.ref b723)])) rfl (hb hby d9_377) rfl (by decide) (cap := 9) (by decide) (by decide) (by decide) (by decide)
                    obtain ⟨b731, g731⟩ : ∃ z, z = T723.heap.size := ⟨_, rfl⟩
                    rw [← g731] at A731 st731
                    subst e731
                    have ne732 : x0 ≠ b731 := Nat.ne_of_lt (Nat.lt_of_lt_of_le F727.lt (Nat.le_of_eq g731.symm))
                    have ne733 : b723 ≠ b731 := Nat.ne_of_lt (Nat.lt_of_lt_of_le A723.lt (Nat.le_of_eq g731.symm))
                    have Sn731 : Safe Z own_EL s.vm T731.heap b731 := Safe.ext E731 R725.1 (Safe.new (Nat.le_of_eq g731.symm))
                    have Sf734 := Safe.ext E731 R725.1 Sn723
                    have R735 := R725.trans (CHr.ext E731 R725.1)
                    have hk736 := Nat.le_trans hk726 E731.1
                    have F737 := F727.ext E731
                    have F738 := F728.ext E731
                    have F739 := A723.ext E731
                    have F740 := F729.ext E731
                    have F741 := F730.ext E731
                    have g_b731 : n0 ≤ b731 := Nat.le_trans Z723 (Nat.le_of_eq g731.symm)
                    have Z731 : n0 ≤ T731.heap.size := Nat.le_trans Z723 E731.1
                    have sz_b731 : h0.size ≤ b731 := Nat.le_trans K723.1 (Nat.le_of_eq g731.symm)
                    have K731 : Keep h0 T731.heap [] := K723.ext E731
                    have V731 : Arv Z T731.heap b731 k731 .char (9 : Int32) [(.int (0 : Int32)), (.int (0 : Int32)), (.int (0 : Int32)), (.int (0 : Int32)), (.int (0 : Int32)), (.int (0 : Int32)), (.int (0 : Int32)), (.int (0 : Int32)), (.int (0 : Int32))] (.int (0 : Int32)) := (Arv.new A731 (by decide)).pad (pad_rep [] (.int (0 : Int32)) 9)
                    refine Goes.to st731 ?_
                    refine gx (XS.dup X731.here hx rfl (hb hby d9_379) rfl rfl) ?_
                    refine gx (XS.iconst X731.here hx rfl (hb hby d9_380)) ?_
                    refine gx (XS.aloadN X731.here hx rfl (hb hby d9_381) rfl rfl) ?_
                    refine gx (XS.iconst X731.here hx rfl (hb hby d9_382)) ?_
                    obtain ⟨cl742, Ar742, q742, S742, N742, H742, G742⟩ := id F737
                    have hin742 : ¬ ((0 : Int32) < 0 ∨ cl742.slots.size ≤ ((0 : Int32)).toNatClampNeg) := inb_of S742 ⟨by decide, by decide⟩
                    have hat742 : cl742.slots[((0 : Int32)).toNatClampNeg]? = some (.int (own_c ls (0 : Int32))) := Has.at H742 hin742 (own_cat ls (0 : Int32))
                    refine gx (X731.caload hx (j := (0 : Int32)) (v := (.int (own_c ls (0 : Int32)))) Ar742.1 (State.isArrayOf_alike hZ.alike Ar742.2.1) Ar742.2.2 hin742 hat742 (g := (mkF m 383 #[.val (.ref x0), .val (.int x1)] [(.int (0 : Int32)), (.ref x0), (.int (0 : Int32)), (.ref b731), (.ref b731), (.ref b723), (.ref b723)])) rfl rfl (hb hby d9_383) _) ?_
                    obtain ⟨cl743, Ar743, q743, S743, N743, H743, G743⟩ := id V731
                    have hin743 : ¬ ((0 : Int32) < 0 ∨ cl743.slots.size ≤ ((0 : Int32)).toNatClampNeg) := inb_of S743 ⟨by decide, by decide⟩
                    obtain ⟨T744, h744, X744, e744, W744, st744⟩ := stC X731 hx hZ rfl Ar743 (j := (0 : Int32)) hin743 (g := (mkF m 384 #[.val (.ref x0), .val (.int x1)] [(.int (own_c ls (0 : Int32))), (.int (0 : Int32)), (.ref b731), (.ref b731), (.ref b723), (.ref b723)])) rfl rfl (hb hby d9_384)
                    subst e744
                    have Sf745 := Safe.wr W744 Sn731 R735.1 Sf734
                    have Sf746 := Safe.wr W744 Sn731 R735.1 Sn731
                    have R747 := R735.trans (CHr.wr W744 Sn731 R735.1)
                    have hk748 := Nat.le_trans hk736 (Nat.le_of_eq W744.size.symm)
                    have F749 := F737.other W744 ne732
                    have F750 := F738.wr W744
                    have F751 := F739.wr W744
                    have F752 := F740.other W744 (Or.inl ne733)
                    have F753 := F741.other W744 (Or.inl ne733)
                    have N744 := Fr.snoc X744 N0 g_b731
                    have Z744 : n0 ≤ T744.heap.size := Nat.le_trans Z731 (Nat.le_of_eq W744.size.symm)
                    have K744 : Keep h0 T744.heap [] := K731.wr W744 (Or.inr sz_b731)
                    have V744 : Arv Z T744.heap b731 k731 .char (9 : Int32) [(.int (nar .char (own_c ls (0 : Int32)))), (.int (0 : Int32)), (.int (0 : Int32)), (.int (0 : Int32)), (.int (0 : Int32)), (.int (0 : Int32)), (.int (0 : Int32)), (.int (0 : Int32)), (.int (0 : Int32))] (.int (0 : Int32)) := Arv.set Ar743 q743 S743 N743 H743 G743 (fits_nar_char _) W744 0 rfl (Nat.le_of_ble_eq_true rfl)
                    refine Goes.to st744 ?_
                    refine gx (XS.dup X744.here hx rfl (hb hby d9_385) rfl rfl) ?_
                    refine gx (XS.iconst X744.here hx rfl (hb hby d9_386)) ?_
                    refine gx (XS.aloadN X744.here hx rfl (hb hby d9_387) rfl rfl) ?_
                    refine gx (XS.iconst X744.here hx rfl (hb hby d9_388)) ?_
                    exact own_pt_own_rm9_755 l Z a0 hw ws x0 x1 kc ls cs h0 n0 Z0 hPm Bd hml0 hh  b723 b731 k731 T744 _ s.vm hZ hown T744.heap X744 rfl N744 Z744  _ hS0 hk748 R747 F749 F750 Sf745 F751 F752 F753 Sf746 V744 g_b723 sz_b723 ne732 ne733 g_b731 sz_b731 hc1 hc2 hc46 hc103 hc173 hc257 hc354 hc464 hc587 K744
  · refine gx (XS.ifNo X0.here hx rfl (hb hby d9_1) rfl ((if0 _ _).trans (flt hc1).2.2.1)) ?_
    obtain ⟨T872, h872, X872, e872, E872, A872, D872, -, st872⟩ := newO X0 hx hZ hown (own_hw hw 51 rfl) (own_hw hw 3 rfl) (own_hw hw 2 rfl) e0 (g := (mkF m 4 #[.val (.ref x0), .val (.int x1)] [])) rfl (hb hby d9_4) (by decide) (by decide)
    obtain ⟨b872, g872⟩ : ∃ z, z = h0.size := ⟨_, rfl⟩
    rw [← g872] at A872 D872 st872
    subst e872
    have Sn872 : Safe Z own_EL s.vm T872.heap b872 := Safe.ext E872 R0.1 (Safe.new (Nat.le_of_eq g872.symm))
    have R874 := R0.trans (CHr.ext E872 R0.1)
    have hk875 := Nat.le_trans (Nat.le_refl _) E872.1
    have g_b872 : n0 ≤ b872 := Nat.le_trans Z0 (Nat.le_of_eq g872.symm)
    have Z872 : n0 ≤ T872.heap.size := Nat.le_trans Z0 E872.1
    have sz_b872 : h0.size ≤ b872 := Nat.le_trans (Keep.refl h0 []).1 (Nat.le_of_eq g872.symm)
    have K872 : Keep h0 T872.heap [] := (Keep.refl h0 []).ext E872
    have F878 : Fld Z T872.heap b872 "java/lang/String" "value" "[B" .null := D872 (Or.inr (own_hw hw 5 rfl)) (ty := (.array .byte)) (by decide)
    have F879 : Fld Z T872.heap b872 "java/lang/String" "coder" "B" (.int (0 : Int32)) := D872 (Or.inr (own_hw hw 6 rfl)) (ty := .byte) (by decide)
    refine Goes.to st872 ?_
    refine gx (XS.dup X872.here hx rfl (hb hby d9_7) rfl rfl) ?_
    refine gx (XS.iconst X872.here hx rfl (hb hby d9_8)) ?_
    obtain ⟨T880, h880, k880, X880, e880, E880, A880, st880⟩ := newP X872 hx hZ (own_hw hw 0 rfl) rfl (g := (mkF m 9 #[.val (.ref x0), .val (.int x1)] [(.int (0 : Int32)), (.ref b872), (.ref b872)])) rfl (hb hby d9_9) rfl (by decide) (cap := 0) (by decide) (by decide) (by decide) (by decide)
    obtain ⟨b880, g880⟩ : ∃ z, z = T872.heap.size := ⟨_, rfl⟩
    rw [← g880] at A880 st880
    subst e880
    have Sn880 : Safe Z own_EL s.vm T880.heap b880 := Safe.ext E880 R874.1 (Safe.new (Nat.le_of_eq g880.symm))
    have R884 := R874.trans (CHr.ext E880 R874.1)
    have hk885 := Nat.le_trans hk875 E880.1
    have F888 := A872.ext E880
    have F889 := F878.ext E880
    have F890 := F879.ext E880
    have Z880 : n0 ≤ T880.heap.size := Nat.le_trans Z872 E880.1
    have K880 : Keep h0 T880.heap [] := K872.ext E880
    have V880 : Arv Z T880.heap b880 k880 .char (0 : Int32) [] (.int (0 : Int32)) := (Arv.new A880 (by decide)).pad (pad_rep [] (.int (0 : Int32)) 0)
    refine Goes.to st880 ?_
    obtain ⟨_, _, ⟨T891, L891, k891, n891⟩, -, X891, hSn891, hgr891, ⟨Lc891, hQ891, l891, y891, z891, Rr891⟩, st891⟩ := X880.specialBackS hx (y := own_n16) rfl hown (mvT hZ (own_hw hw 52 rfl)) (mvT hZ (own_hw hw 53 rfl)) (mvT hZ (own_hw hw 54 rfl)) (by decide) (backOfSH (s := s) (vm0 := s.vm) (W := 1) (own_rm10 l Z a0 hw [] b872 b880 k880 T880.heap n0 Z880 F888 g_b872 F889 F890 V880) hZ (own_hw hw 54 rfl) (own_hw hw 2 rfl) (by decide) (by decide) hEL R884.1) (g := (mkF m 11 #[.val (.ref x0), .val (.int x1)] [(.ref b880), (.ref b872), (.ref b872)])) rfl (by rw [hml]; rfl) (Steps.refl _) (a := b872) (argsL := [(.ref b880)]) (rest := [(.ref b872)]) (lenOf own_pd_paCqV rfl) rfl (own_W rfl rfl) (hb hby d9_11) (fun _ _ => ⟨rfl, rfl, (by decide : 2 + 4 ≤ _), (by decide : 4 + 8 ≤ _)⟩)
    dsimp only [Pt.U, Pt.locs, Pt.cells, Pt.slots] at X891 hSn891 hgr891 l891 y891 z891 st891 hQ891 Rr891
    subst l891 y891 z891
    obtain ⟨X891, hS891, hZ891, hown891⟩ := rebS (s := s) hS0 hk885 X891 hSn891 hgr891 hZ hown
    have R891 := R884.trans Rr891
    have hZ := hZ891
    have hown := hown891
    obtain ⟨t891, kt891, hv891, Nq891, K891, Ei891, Ci891, Vi891, Ai891⟩ := hQ891
    subst hv891
    have N891 := Fr.app N0 Nq891
    have Kc891 : Keep h0 T891.heap [] := K880.trans K891 (allS (Or.inr sz_b872) all0)
    refine Goes.tr st891 ?_
    show Goes p.tables e below (T891.setTop (mkF m 14 #[.val (.ref x0), .val (.int x1)] [(.ref b872)])) _
    have hkl := Nat.le_trans (Nat.le_refl _) (Nat.le_refl T891.heap.size)
    obtain ⟨fs, hr, hrun, hended, hEnd⟩ := X891.leaveW (s := s) hS891 hkl (v := some (.ref b872)) (fun h => by rw [Bd.returns] at h; cases h)
    have hRl : CHr Z own_EL s.vm s.heap T891.vm T891.heap := by
      rw [hh]
      exact R891.trans (CHv.at (s := s) X891 hZ hEL R891.1)
    exact ⟨_, _, retOut X891 hx Bd.returns rfl (Or.inr (Or.inr (Or.inr (Or.inr ⟨rfl, rfl, rfl⟩)))) (hb hby d9_14) hr, hrun, hended, _, _, rfl, ⟨b872, t891, kt891, [], rfl, N891, (by show Keep h0 T891.heap []; exact Kc891), (by show Exa Z T891.heap b872 "java/lang/String"; exact Ei891), (by show Fld Z T891.heap b872 "java/lang/String" "coder" "B" (.int (0 : Int32)); exact Ci891), (by show Fld Z T891.heap b872 "java/lang/String" "value" "[B" (.ref t891); exact Vi891), (by show Arv Z T891.heap t891 kt891 .byte (Int32.ofNat ([] : List Int32).length) ((([] : List Int32).map fun c => c.toInt8.toInt32).map Value.int) (.int (0 : Int32)); exact Ai891), Nat.le_of_ble_eq_true rfl, own_a0⟩, hRl, hEnd.1, hEnd.2.1, hEnd.2.2.1, hEnd.2.2.2.mono (by decide) (by decide)⟩

theorem d18_0 : decode prog_21_method_4_code 0 = .ok (.invokestatic 36, 3) := by decide +kernel
theorem d18_3 : decode prog_21_method_4_code 3 = .ok (.astore_n 1, 1) := by decide +kernel
theorem d18_4 : decode prog_21_method_4_code 4 = .ok (.aload_n 1, 1) := by decide +kernel
theorem d18_5 : decode prog_21_method_4_code 5 = .ok (.arraylength, 1) := by decide +kernel
theorem d18_6 : decode prog_21_method_4_code 6 = .ok (.istore_n 2, 1) := by decide +kernel
theorem d18_7 : decode prog_21_method_4_code 7 = .ok (.iconst 0, 1) := by decide +kernel
theorem d18_8 : decode prog_21_method_4_code 8 = .ok (.istore_n 3, 1) := by decide +kernel
theorem d18_9 : decode prog_21_method_4_code 9 = .ok (.iload_n 3, 1) := by decide +kernel
theorem d18_10 : decode prog_21_method_4_code 10 = .ok (.iload_n 2, 1) := by decide +kernel
theorem d18_11 : decode prog_21_method_4_code 11 = .ok (.if_icmp .ge 32, 3) := by decide +kernel
theorem d18_14 : decode prog_21_method_4_code 14 = .ok (.aload_n 1, 1) := by decide +kernel
theorem d18_15 : decode prog_21_method_4_code 15 = .ok (.iload_n 3, 1) := by decide +kernel
theorem d18_16 : decode prog_21_method_4_code 16 = .ok (.aaload, 1) := by decide +kernel
theorem d18_17 : decode prog_21_method_4_code 17 = .ok (.astore 4, 2) := by decide +kernel
theorem d18_19 : decode prog_21_method_4_code 19 = .ok (.aload 4, 2) := by decide +kernel
theorem d18_21 : decode prog_21_method_4_code 21 = .ok (.getfield 32, 3) := by decide +kernel
theorem d18_24 : decode prog_21_method_4_code 24 = .ok (.aload_n 0, 1) := by decide +kernel
theorem d18_25 : decode prog_21_method_4_code 25 = .ok (.invokevirtual 40, 3) := by decide +kernel
theorem d18_28 : decode prog_21_method_4_code 28 = .ok (.ifCond .eq 9, 3) := by decide +kernel
theorem d18_37 : decode prog_21_method_4_code 37 = .ok (.iinc 3 1, 3) := by decide +kernel
theorem d18_40 : decode prog_21_method_4_code 40 = .ok (.goto (-31), 3) := by decide +kernel
theorem d18_43 : decode prog_21_method_4_code 43 = .ok (.invokestatic 52, 3) := by decide +kernel
theorem d18_46 : decode prog_21_method_4_code 46 = .ok (.areturn, 1) := by decide +kernel
theorem own_pd_pqaLcomlexamplelpolgenlpolgenlmodellMultiplicitys : parseMethodDescriptor "()[Lcom/example/polgen/polgen/model/Multiplicity;" = some ⟨[], some (.array (.object "com/example/polgen/polgen/model/Multiplicity"))⟩ := by decide +kernel
theorem own_pd_pLjavallanglObjectsqZ : parseMethodDescriptor "(Ljava/lang/Object;)Z" = some ⟨[(.object "java/lang/Object")], some .boolean⟩ := by decide +kernel
theorem own_pd_pqLjavalutillOptionals : parseMethodDescriptor "()Ljava/util/Optional;" = some ⟨[], some (.object "java/util/Optional")⟩ := by decide +kernel
theorem own_pn_18 : plainName "com/example/polgen/polgen/model/Multiplicity" = true := by first | (simp [plainName, overriddenIn]; done) | decide +kernel
theorem own_ef_own_rmNMN (m : MethodId)  : entryFrame m #[.null] 5 = mkF m 0 #[.val .null, .unset, .unset, .unset, .unset] [] := by first | (simp [entryFrame, mkF, argsToLocals, Value.category]; done) | rfl
def own_Q_own_rmNMN (Z : State)  (aV : Addr) (kV : ClassId) (a1 : Addr) (a2 : Addr) (a3 : Addr) (aE : Addr) (w1 : Addr) (w2 : Addr) (w3 : Addr) (v1 : Addr) (v2 : Addr) (v3 : Addr) (q1 : ClassId) (q2 : ClassId) (q3 : ClassId) (h0 : Heap) (n0 : Nat) (v : Option Value) (h : Heap) (L : List Loc) : Prop := ∃ op : Addr, v = some (.ref op) ∧ Fr n0 L ∧ Keep h0 h [] ∧ Exa Z h op "java/util/Optional" ∧ Fld Z h op "java/util/Optional" "value" "Ljava/lang/Object;" .null
abbrev own_r_own_rmNMN : Room := ({ frames := 2, cells := 1, slots := 3, locals := 25 } : Room)
def own_P_own_rmNMN (Z : State) (a0 : Array Value)  (aV : Addr) (kV : ClassId) (a1 : Addr) (a2 : Addr) (a3 : Addr) (aE : Addr) (w1 : Addr) (w2 : Addr) (w3 : Addr) (v1 : Addr) (v2 : Addr) (v3 : Addr) (q1 : ClassId) (q2 : ClassId) (q3 : ClassId) (h0 : Heap) (n0 : Nat) : Prop := (Sta Z h0 "com/example/polgen/polgen/model/Multiplicity" "$VALUES" "[Lcom/example/polgen/polgen/model/Multiplicity;" (.ref aV)) ∧ (Arv Z h0 aV kV (.object "com/example/polgen/polgen/model/Multiplicity") (3 : Int32) [(.ref a1), (.ref a2), (.ref a3)] .null) ∧ (Exa Z h0 aV "[Lcom/example/polgen/polgen/model/Multiplicity;") ∧ (Sta Z h0 "java/util/Optional" "EMPTY" "Ljava/util/Optional;" (.ref aE)) ∧ (Exa Z h0 aE "java/util/Optional") ∧ (Fld Z h0 aE "java/util/Optional" "value" "Ljava/lang/Object;" .null) ∧ (Fld Z h0 a1 "com/example/polgen/polgen/model/Multiplicity" "word" "Ljava/lang/String;" (.ref w1)) ∧ (Exa Z h0 w1 "java/lang/String") ∧ (Fld Z h0 w1 "java/lang/String" "coder" "B" (.int (0 : Int32))) ∧ (Fld Z h0 w1 "java/lang/String" "value" "[B" (.ref v1)) ∧ (Arv Z h0 v1 q1 .byte (3 : Int32) [(.int (111 : Int32)), (.int (110 : Int32)), (.int (101 : Int32))] (.int (0 : Int32))) ∧ (Fld Z h0 a2 "com/example/polgen/polgen/model/Multiplicity" "word" "Ljava/lang/String;" (.ref w2)) ∧ (Exa Z h0 w2 "java/lang/String") ∧ (Fld Z h0 w2 "java/lang/String" "coder" "B" (.int (0 : Int32))) ∧ (Fld Z h0 w2 "java/lang/String" "value" "[B" (.ref v2)) ∧ (Arv Z h0 v2 q2 .byte (8 : Int32) [(.int (111 : Int32)), (.int (112 : Int32)), (.int (116 : Int32)), (.int (105 : Int32)), (.int (111 : Int32)), (.int (110 : Int32)), (.int (97 : Int32)), (.int (108 : Int32))] (.int (0 : Int32))) ∧ (Fld Z h0 a3 "com/example/polgen/polgen/model/Multiplicity" "word" "Ljava/lang/String;" (.ref w3)) ∧ (Exa Z h0 w3 "java/lang/String") ∧ (Fld Z h0 w3 "java/lang/String" "coder" "B" (.int (0 : Int32))) ∧ (Fld Z h0 w3 "java/lang/String" "value" "[B" (.ref v3)) ∧ (Arv Z h0 v3 q3 .byte (4 : Int32) [(.int (109 : Int32)), (.int (97 : Int32)), (.int (110 : Int32)), (.int (121 : Int32))] (.int (0 : Int32)))
set_option maxRecDepth 65536 in
set_option maxHeartbeats 40000000 in
theorem own_pt_own_rmNMN_30 (l : Launch) (Z : State) (a0 : Array Value) (hw : ∀ d ∈ tables_1, d.before a0 Z = true) (ws : List Jvm.Cond)  (aV : Addr) (kV : ClassId) (a1 : Addr) (a2 : Addr) (a3 : Addr) (aE : Addr) (w1 : Addr) (w2 : Addr) (w3 : Addr) (v1 : Addr) (v2 : Addr) (v3 : Addr) (q1 : ClassId) (q2 : ClassId) (q3 : ClassId) (h0 : Heap) (n0 : Nat) (Z0 : n0 ≤ h0.size) (hPm : own_P_own_rmNMN Z a0 aV kV a1 a2 a3 aE w1 w2 w3 v1 v2 v3 q1 q2 q3 h0 n0)
    {p : Program} {e : Env} {s : State} {m : MethodId} {below : List Frame} {meth : Method} {c : Code} {s₁ : State} (Bd : BodyLoose p l own_n18 (head1 (Jvm.Cond.code own_n18 prog_21_method_4_code 5 (some (.object "java/util/Optional")) :: ws) own_r_own_rmNMN) prog_21_method_4_code 5 (some (.object "java/util/Optional")) e s m #[.null] below meth c s₁) (hml0 : c.maxLocals = 5) (hh : s.heap = h0) (hZ : Z.Warmed39 s.vm)
    (av1 : Addr)
    (Tpt : State) (lpt : List Loc)  (hpt : Heap)
    (Xpt : Stand p l e own_r_own_rmNMN s m #[.null] below meth c Tpt lpt 1 3) (Ept : Tpt.heap = hpt) (Npt : Fr n0 lpt) (Zpt : n0 ≤ hpt.size) 
    (Pf30_3 : Sta Z hpt "java/util/Optional" "EMPTY" "Ljava/util/Optional;" (.ref aE))
    (Pf30_4 : Exa Z hpt aE "java/util/Optional")
    (Pf30_5 : Fld Z hpt aE "java/util/Optional" "value" "Ljava/lang/Object;" .null)
    (Pf30_16 : Fld Z hpt a3 "com/example/polgen/polgen/model/Multiplicity" "word" "Ljava/lang/String;" (.ref w3))
    (Pf30_17 : Exa Z hpt w3 "java/lang/String")
    (Pf30_21 : Arv Z hpt av1 kV (.object "com/example/polgen/polgen/model/Multiplicity") (3 : Int32) [(.ref a1), (.ref a2), (.ref a3)] .null)
    (Kpt30 : Keep h0 hpt [])
    : Goes p.tables e below (Tpt.setTop (mkF m 16 #[.val .null, .val (.ref av1), .val (.int (3 : Int32)), .val (.int (2 : Int32)), .val (.ref a2)] [(.int (2 : Int32)), (.ref av1)])) (own_R below s (own_Q_own_rmNMN Z aV kV a1 a2 a3 aE w1 w2 w3 v1 v2 v3 q1 q2 q3 h0 n0) own_r_own_rmNMN.cells own_r_own_rmNMN.slots) := by
  obtain ⟨SV, VV, EV, SE, EE, FE, Fw1, Ew1, Cw1, Vw1, Aw1, Fw2, Ew2, Cw2, Vw2, Aw2, Fw3, Ew3, Cw3, Vw3, Aw3⟩ := id hPm
  have hx := Bd.exec
  have hby := Bd.bytes
  have hml : c.maxLocals = 5 := hml0
  have hnm := (name_of_methodNamed Bd.named Bd.method).1
  have hown : s.vm.findClass "com/example/polgen/polgen/model/Multiplicity" = some m.cls := findClass_of_methodNamed Bd.named
  obtain ⟨cl31, Ar31, q31, S31, N31, H31, G31⟩ := id Pf30_21
  have hin31 : ¬ ((2 : Int32) < 0 ∨ cl31.slots.size ≤ ((2 : Int32)).toNatClampNeg) := inb_of S31 ⟨by decide, by decide⟩
  have hat31 : cl31.slots[((2 : Int32)).toNatClampNeg]? = some (.ref a3) := Has.at H31 hin31 rfl
  refine gx (Xpt.aaload hx (j := (2 : Int32)) (v := (.ref a3)) (by rw [Ept]; exact Ar31.1) (State.isArrayOf_alike hZ.alike Ar31.2.1) rfl Ar31.2.2 hin31 hat31 (g := (mkF m 16 #[.val .null, .val (.ref av1), .val (.int (3 : Int32)), .val (.int (2 : Int32)), .val (.ref a2)] [(.int (2 : Int32)), (.ref av1)])) rfl rfl (hb hby d18_16) _) ?_
  refine gx (XS.astore Xpt.here hx rfl (hb hby d18_17) rfl rfl (l' := #[.val .null, .val (.ref av1), .val (.int (3 : Int32)), .val (.int (2 : Int32)), .val (.ref a3)]) rfl) ?_
  refine gx (XS.aload Xpt.here hx rfl (hb hby d18_19) rfl rfl) ?_
  obtain ⟨T32, X32, e32, st32⟩ := getF Xpt hx hZ hown (host := "") (Or.inl (own_hw hw 104 rfl)) Via.refl Ept Pf30_16 (g := (mkF m 21 #[.val .null, .val (.ref av1), .val (.int (3 : Int32)), .val (.int (2 : Int32)), .val (.ref a3)] [(.ref a3)])) rfl rfl (hb hby d18_21)
  refine Goes.to st32 ?_
  refine gx (XS.aloadN X32.here hx rfl (hb hby d18_24) rfl rfl) ?_
  obtain ⟨cq33, kq33, q33a, q33b, q33c⟩ := isOf hZ e32 Pf30_17
  obtain ⟨_, _, ⟨T33, L33, k33, n33⟩, -, X33, ⟨Lc33, hQ33, l33, y33, z33⟩, st33⟩ := X32.virtualBack hx (y := own_n13) (z := own_n13) hown (mvT hZ (own_hw hw 106 rfl)) (mvT hZ (own_hw hw 73 rfl)) (notFace_of_selects (args := #[]) (mvT hZ (own_hw hw 75 rfl))) (mvT hZ (own_hw hw 75 rfl)) (mvT hZ (own_hw hw 74 rfl)) (by decide) (backOf (W := 0) (own_rmEQN l Z a0 hw [] w3 hpt n0 Zpt ) hZ (own_hw hw 76 rfl) (own_hw hw 2 rfl) (by decide) (by decide)) q33a q33c (g := (mkF m 25 #[.val .null, .val (.ref av1), .val (.int (3 : Int32)), .val (.int (2 : Int32)), .val (.ref a3)] [.null, (.ref w3)])) rfl (by rw [hml]; rfl) (Steps.refl _) (argsL := [.null]) (rest := []) (lenOf own_pd_pLjavallanglObjectsqZ rfl) rfl (own_W rfl rfl) (hb hby d18_25) (fun _ _ => ⟨rfl, e32, (by decide : 1 + 0 ≤ _), (by decide : 3 + 0 ≤ _)⟩)
  dsimp only [Pt.U, Pt.locs, Pt.cells, Pt.slots] at X33 l33 y33 z33 st33 hQ33
  subst l33 y33 z33
  obtain ⟨hv33, Nq33, hp33_0⟩ := hQ33
  have N33 := Fr.app Npt Nq33
  subst hv33
  refine Goes.tr st33 ?_
  refine gx (XS.ifYes X33.here hx rfl (pc0 := 28) (pc' := 37) rfl (hb hby d18_28) rfl ((if0 _ _).trans (teq (by decide : (0 : Int32) = (0 : Int32))).1) (by decide) (by decide)) ?_
  refine gx (XS.iinc X33.here hx rfl (hb hby d18_37) rfl (l' := #[.val .null, .val (.ref av1), .val (.int (3 : Int32)), .val (.int (3 : Int32)), .val (.ref a3)]) rfl) ?_
  refine gx (XS.goto X33.here hx rfl (pc0 := 40) (pc' := 9) rfl (hb hby d18_40) (by decide) (by decide)) ?_
  refine gx (XS.iloadN X33.here hx rfl (hb hby d18_9) rfl) ?_
  show Goes p.tables e below (T33.setTop (mkF m 10 #[.val .null, .val (.ref av1), .val (.int (3 : Int32)), .val (.int (3 : Int32)), .val (.ref a3)] [(.int (3 : Int32))])) _
  refine gx (XS.iloadN X33.here hx rfl (hb hby d18_10) rfl) ?_
  refine gx (XS.icmpYes X33.here hx rfl (pc0 := 11) (pc' := 43) rfl (hb hby d18_11) rfl (flt (by decide : ¬ ((3 : Int32) < (3 : Int32)))).2.1 (by decide) (by decide)) ?_
  obtain ⟨_, _, ⟨T34, L34, k34, n34⟩, -, X34, ⟨Lc34, hQ34, l34, y34, z34⟩, st34⟩ := Jvm.LawKit.callS X33 hx (y := own_n11) hown (mvT hZ (own_hw hw 134 rfl)) (mvT hZ (own_hw hw 135 rfl)) (mvT hZ (own_hw hw 109 rfl)) (mvT hZ (own_hw hw 136 rfl)) (by decide) (backOf (W := 0) (own_rm24 l Z a0 hw [] aE hpt n0 Zpt Pf30_3) hZ (own_hw hw 136 rfl) (own_hw hw 109 rfl) (by decide) (by decide)) (g := (mkF m 43 #[.val .null, .val (.ref av1), .val (.int (3 : Int32)), .val (.int (3 : Int32)), .val (.ref a3)] [])) rfl (by rw [hml]; rfl) (argsL := []) (rest := []) (lenOf own_pd_pqLjavalutillOptionals rfl) rfl (own_W rfl rfl) (hb hby d18_43) (fun _ _ => ⟨rfl, hp33_0, (by decide : 1 + 0 ≤ _), (by decide : 3 + 0 ≤ _)⟩)
  dsimp only [Pt.U, Pt.locs, Pt.cells, Pt.slots] at X34 l34 y34 z34 st34 hQ34
  subst l34 y34 z34
  obtain ⟨hv34, Nq34, hp34_0⟩ := hQ34
  have N34 := Fr.app N33 Nq34
  subst hv34
  refine Goes.to st34 ?_
  show Goes p.tables e below (T34.setTop (mkF m 46 #[.val .null, .val (.ref av1), .val (.int (3 : Int32)), .val (.int (3 : Int32)), .val (.ref a3)] [(.ref aE)])) _
  obtain ⟨fs, hr, hrun, hended, hW, hsame⟩ := X34.leave (v := some (.ref aE)) (fun h => by rw [Bd.returns] at h; cases h)
  exact ⟨_, _, retOut X34 hx Bd.returns rfl (Or.inr (Or.inr (Or.inr (Or.inr ⟨rfl, rfl, rfl⟩)))) (hb hby d18_46) hr, hrun, hended, _, _, rfl, ⟨aE, rfl, N34, (by show Keep h0 T34.heap []; rw [hp34_0]; exact Kpt30), (by show Exa Z T34.heap aE "java/util/Optional"; rw [hp34_0]; exact Pf30_4), (by show Fld Z T34.heap aE "java/util/Optional" "value" "Ljava/lang/Object;" .null; rw [hp34_0]; exact Pf30_5)⟩, ⟨_, rfl⟩, hW, hsame.mono (by decide) (by decide)⟩
set_option maxRecDepth 65536 in
set_option maxHeartbeats 40000000 in
theorem own_rmNMN (l : Launch) (Z : State) (a0 : Array Value) (hw : ∀ d ∈ tables_1, d.before a0 Z = true) (ws : List Jvm.Cond)  (aV : Addr) (kV : ClassId) (a1 : Addr) (a2 : Addr) (a3 : Addr) (aE : Addr) (w1 : Addr) (w2 : Addr) (w3 : Addr) (v1 : Addr) (v2 : Addr) (v3 : Addr) (q1 : ClassId) (q2 : ClassId) (q3 : ClassId) (h0 : Heap) (n0 : Nat) (Z0 : n0 ≤ h0.size) (SV : Sta Z h0 "com/example/polgen/polgen/model/Multiplicity" "$VALUES" "[Lcom/example/polgen/polgen/model/Multiplicity;" (.ref aV)) (VV : Arv Z h0 aV kV (.object "com/example/polgen/polgen/model/Multiplicity") (3 : Int32) [(.ref a1), (.ref a2), (.ref a3)] .null) (EV : Exa Z h0 aV "[Lcom/example/polgen/polgen/model/Multiplicity;") (SE : Sta Z h0 "java/util/Optional" "EMPTY" "Ljava/util/Optional;" (.ref aE)) (EE : Exa Z h0 aE "java/util/Optional") (FE : Fld Z h0 aE "java/util/Optional" "value" "Ljava/lang/Object;" .null) (Fw1 : Fld Z h0 a1 "com/example/polgen/polgen/model/Multiplicity" "word" "Ljava/lang/String;" (.ref w1)) (Ew1 : Exa Z h0 w1 "java/lang/String") (Cw1 : Fld Z h0 w1 "java/lang/String" "coder" "B" (.int (0 : Int32))) (Vw1 : Fld Z h0 w1 "java/lang/String" "value" "[B" (.ref v1)) (Aw1 : Arv Z h0 v1 q1 .byte (3 : Int32) [(.int (111 : Int32)), (.int (110 : Int32)), (.int (101 : Int32))] (.int (0 : Int32))) (Fw2 : Fld Z h0 a2 "com/example/polgen/polgen/model/Multiplicity" "word" "Ljava/lang/String;" (.ref w2)) (Ew2 : Exa Z h0 w2 "java/lang/String") (Cw2 : Fld Z h0 w2 "java/lang/String" "coder" "B" (.int (0 : Int32))) (Vw2 : Fld Z h0 w2 "java/lang/String" "value" "[B" (.ref v2)) (Aw2 : Arv Z h0 v2 q2 .byte (8 : Int32) [(.int (111 : Int32)), (.int (112 : Int32)), (.int (116 : Int32)), (.int (105 : Int32)), (.int (111 : Int32)), (.int (110 : Int32)), (.int (97 : Int32)), (.int (108 : Int32))] (.int (0 : Int32))) (Fw3 : Fld Z h0 a3 "com/example/polgen/polgen/model/Multiplicity" "word" "Ljava/lang/String;" (.ref w3)) (Ew3 : Exa Z h0 w3 "java/lang/String") (Cw3 : Fld Z h0 w3 "java/lang/String" "coder" "B" (.int (0 : Int32))) (Vw3 : Fld Z h0 w3 "java/lang/String" "value" "[B" (.ref v3)) (Aw3 : Arv Z h0 v3 q3 .byte (4 : Int32) [(.int (109 : Int32)), (.int (97 : Int32)), (.int (110 : Int32)), (.int (121 : Int32))] (.int (0 : Int32))) :
    MetFree l own_n18 (head1 (Jvm.Cond.code own_n18 prog_21_method_4_code 5 (some (.object "java/util/Optional")) :: ws) own_r_own_rmNMN) (fun a U => a = #[.null] ∧ Z.Warmed39 U.vm ∧ U.heap = h0) (fun _ _ _ _ _ => True) (fun _ U o U' => ∃ v L, o = .returned v ∧ own_Q_own_rmNMN Z aV kV a1 a2 a3 aE w1 w2 w3 v1 v2 v3 q1 q2 q3 h0 n0 v U'.heap L ∧ FrameEnd U o U' L own_r_own_rmNMN.cells own_r_own_rmNMN.slots) := by
  refine MetFree.of_bodySF (plainFor_of_name own_pn_18) hisR ?_
  intro p e s m args below meth c s₁ Bd hml0 hP hK
  obtain ⟨rfl, hZ, hh⟩ := hP
  have hx := Bd.exec
  have hby := Bd.bytes
  have hml : c.maxLocals = 5 := hml0
  have hown : s.vm.findClass "com/example/polgen/polgen/model/Multiplicity" = some m.cls := findClass_of_methodNamed Bd.named
  have hnm := (name_of_methodNamed Bd.named Bd.method).1
  have X0 : Stand p l e own_r_own_rmNMN s m #[.null] below meth c s₁ [] 0 0 := Stand.of_body Bd
  have e0 : s₁.heap = h0 := by rw [← hh, Bd.state]; rfl
  have N0 := Fr.nil n0
  have hPm : own_P_own_rmNMN Z a0 aV kV a1 a2 a3 aE w1 w2 w3 v1 v2 v3 q1 q2 q3 h0 n0 := ⟨SV, VV, EV, SE, EE, FE, Fw1, Ew1, Cw1, Vw1, Aw1, Fw2, Ew2, Cw2, Vw2, Aw2, Fw3, Ew3, Cw3, Vw3, Aw3⟩
  show Goes p.tables e below _ (own_R below s (own_Q_own_rmNMN Z aV kV a1 a2 a3 aE w1 w2 w3 v1 v2 v3 q1 q2 q3 h0 n0) own_r_own_rmNMN.cells own_r_own_rmNMN.slots)
  refine Goes.to (fun t k => castTop (own_ef_own_rmNMN m ) k) ?_
  obtain ⟨_, _, ⟨T1, L1, k1, n1⟩, -, X1, ⟨Lc1, hQ1, l1, y1, z1⟩, st1⟩ := Jvm.LawKit.callS X0 hx (y := own_n14) hown (mvT hZ (own_hw hw 87 rfl)) (mvT hZ (own_hw hw 88 rfl)) (mvT hZ (own_hw hw 82 rfl)) (mvT hZ (own_hw hw 89 rfl)) (by decide) (backOf (W := 0) (own_rm19 l Z a0 hw [] aV kV a1 a2 a3 h0 n0 Z0 SV VV EV) hZ (own_hw hw 89 rfl) (own_hw hw 82 rfl) (by decide) (by decide)) (g := (mkF m 0 #[.val .null, .unset, .unset, .unset, .unset] [])) rfl (by rw [hml]; rfl) (argsL := []) (rest := []) (lenOf own_pd_pqaLcomlexamplelpolgenlpolgenlmodellMultiplicitys rfl) rfl (own_W rfl rfl) (hb hby d18_0) (fun _ _ => ⟨rfl, e0, (by decide : 0 + 1 ≤ _), (by decide : 0 + 3 ≤ _)⟩)
  dsimp only [Pt.U, Pt.locs, Pt.cells, Pt.slots] at X1 l1 y1 z1 st1 hQ1
  subst l1 y1 z1
  obtain ⟨av1, hv1, Nq1, sz1, K1, Va1⟩ := hQ1
  have N1 := Fr.app N0 Nq1
  have F5 := own_sta0 K1 SE
  have F6 := EE.keep K1
  have F7 := FE.keep K1 nin0
  have F8 := Fw1.keep K1 nin0
  have F9 := Ew1.keep K1
  have F13 := Fw2.keep K1 nin0
  have F14 := Ew2.keep K1
  have F18 := Fw3.keep K1 nin0
  have F19 := Ew3.keep K1
  have Zk1 : n0 ≤ T1.heap.size := Nat.le_trans Z0 K1.1
  have Kc1 : Keep h0 T1.heap [] := (Keep.refl h0 []).trans K1 all0
  subst hv1
  refine Goes.to st1 ?_
  refine gx (XS.astoreN X1.here hx rfl (hb hby d18_3) rfl rfl (l' := #[.val .null, .val (.ref av1), .unset, .unset, .unset]) rfl) ?_
  refine gx (XS.aloadN X1.here hx rfl (hb hby d18_4) rfl rfl) ?_
  obtain ⟨cl23, Ar23, -, S23, N23, -, -⟩ := id Va1
  refine Goes.to (fun _ k => X1.arraylength hx Ar23.1 (State.isArrayOf_alike hZ.alike Ar23.2.1) (g := (mkF m 5 #[.val .null, .val (.ref av1), .unset, .unset, .unset] [(.ref av1)])) rfl rfl (hb hby d18_5) _ k) ?_
  rw [len_of S23 N23]
  refine gx (XS.istoreN X1.here hx rfl (hb hby d18_6) rfl (l' := #[.val .null, .val (.ref av1), .val (.int (3 : Int32)), .unset, .unset]) rfl) ?_
  refine gx (XS.iconst X1.here hx rfl (hb hby d18_7)) ?_
  refine gx (XS.istoreN X1.here hx rfl (hb hby d18_8) rfl (l' := #[.val .null, .val (.ref av1), .val (.int (3 : Int32)), .val (.int (0 : Int32)), .unset]) rfl) ?_
  refine gx (XS.iloadN X1.here hx rfl (hb hby d18_9) rfl) ?_
  show Goes p.tables e below (T1.setTop (mkF m 10 #[.val .null, .val (.ref av1), .val (.int (3 : Int32)), .val (.int (0 : Int32)), .unset] [(.int (0 : Int32))])) _
  refine gx (XS.iloadN X1.here hx rfl (hb hby d18_10) rfl) ?_
  refine gx (XS.icmpNo X1.here hx rfl (hb hby d18_11) rfl (tlt (by decide : (0 : Int32) < (3 : Int32))).2.1) ?_
  refine gx (XS.aloadN X1.here hx rfl (hb hby d18_14) rfl rfl) ?_
  refine gx (XS.iloadN X1.here hx rfl (hb hby d18_15) rfl) ?_
  obtain ⟨cl24, Ar24, q24, S24, N24, H24, G24⟩ := id Va1
  have hin24 : ¬ ((0 : Int32) < 0 ∨ cl24.slots.size ≤ ((0 : Int32)).toNatClampNeg) := inb_of S24 ⟨by decide, by decide⟩
  have hat24 : cl24.slots[((0 : Int32)).toNatClampNeg]? = some (.ref a1) := Has.at H24 hin24 rfl
  refine gx (X1.aaload hx (j := (0 : Int32)) (v := (.ref a1)) Ar24.1 (State.isArrayOf_alike hZ.alike Ar24.2.1) rfl Ar24.2.2 hin24 hat24 (g := (mkF m 16 #[.val .null, .val (.ref av1), .val (.int (3 : Int32)), .val (.int (0 : Int32)), .unset] [(.int (0 : Int32)), (.ref av1)])) rfl rfl (hb hby d18_16) _) ?_
  refine gx (XS.astore X1.here hx rfl (hb hby d18_17) rfl rfl (l' := #[.val .null, .val (.ref av1), .val (.int (3 : Int32)), .val (.int (0 : Int32)), .val (.ref a1)]) rfl) ?_
  refine gx (XS.aload X1.here hx rfl (hb hby d18_19) rfl rfl) ?_
  obtain ⟨T25, X25, e25, st25⟩ := getF X1 hx hZ hown (host := "") (Or.inl (own_hw hw 104 rfl)) Via.refl rfl F8 (g := (mkF m 21 #[.val .null, .val (.ref av1), .val (.int (3 : Int32)), .val (.int (0 : Int32)), .val (.ref a1)] [(.ref a1)])) rfl rfl (hb hby d18_21)
  refine Goes.to st25 ?_
  refine gx (XS.aloadN X25.here hx rfl (hb hby d18_24) rfl rfl) ?_
  obtain ⟨cq26, kq26, q26a, q26b, q26c⟩ := isOf hZ e25 F9
  obtain ⟨_, _, ⟨T26, L26, k26, n26⟩, -, X26, ⟨Lc26, hQ26, l26, y26, z26⟩, st26⟩ := X25.virtualBack hx (y := own_n13) (z := own_n13) hown (mvT hZ (own_hw hw 106 rfl)) (mvT hZ (own_hw hw 73 rfl)) (notFace_of_selects (args := #[]) (mvT hZ (own_hw hw 75 rfl))) (mvT hZ (own_hw hw 75 rfl)) (mvT hZ (own_hw hw 74 rfl)) (by decide) (backOf (W := 0) (own_rmEQN l Z a0 hw [] w1 T1.heap n0 Zk1 ) hZ (own_hw hw 76 rfl) (own_hw hw 2 rfl) (by decide) (by decide)) q26a q26c (g := (mkF m 25 #[.val .null, .val (.ref av1), .val (.int (3 : Int32)), .val (.int (0 : Int32)), .val (.ref a1)] [.null, (.ref w1)])) rfl (by rw [hml]; rfl) (Steps.refl _) (argsL := [.null]) (rest := []) (lenOf own_pd_pLjavallanglObjectsqZ rfl) rfl (own_W rfl rfl) (hb hby d18_25) (fun _ _ => ⟨rfl, e25, (by decide : 1 + 0 ≤ _), (by decide : 3 + 0 ≤ _)⟩)
  dsimp only [Pt.U, Pt.locs, Pt.cells, Pt.slots] at X26 l26 y26 z26 st26 hQ26
  subst l26 y26 z26
  obtain ⟨hv26, Nq26, hp26_0⟩ := hQ26
  have N26 := Fr.app N1 Nq26
  subst hv26
  refine Goes.tr st26 ?_
  refine gx (XS.ifYes X26.here hx rfl (pc0 := 28) (pc' := 37) rfl (hb hby d18_28) rfl ((if0 _ _).trans (teq (by decide : (0 : Int32) = (0 : Int32))).1) (by decide) (by decide)) ?_
  refine gx (XS.iinc X26.here hx rfl (hb hby d18_37) rfl (l' := #[.val .null, .val (.ref av1), .val (.int (3 : Int32)), .val (.int (1 : Int32)), .val (.ref a1)]) rfl) ?_
  refine gx (XS.goto X26.here hx rfl (pc0 := 40) (pc' := 9) rfl (hb hby d18_40) (by decide) (by decide)) ?_
  refine gx (XS.iloadN X26.here hx rfl (hb hby d18_9) rfl) ?_
  show Goes p.tables e below (T26.setTop (mkF m 10 #[.val .null, .val (.ref av1), .val (.int (3 : Int32)), .val (.int (1 : Int32)), .val (.ref a1)] [(.int (1 : Int32))])) _
  refine gx (XS.iloadN X26.here hx rfl (hb hby d18_10) rfl) ?_
  refine gx (XS.icmpNo X26.here hx rfl (hb hby d18_11) rfl (tlt (by decide : (1 : Int32) < (3 : Int32))).2.1) ?_
  refine gx (XS.aloadN X26.here hx rfl (hb hby d18_14) rfl rfl) ?_
  refine gx (XS.iloadN X26.here hx rfl (hb hby d18_15) rfl) ?_
  obtain ⟨cl27, Ar27, q27, S27, N27, H27, G27⟩ := id Va1
  have hin27 : ¬ ((1 : Int32) < 0 ∨ cl27.slots.size ≤ ((1 : Int32)).toNatClampNeg) := inb_of S27 ⟨by decide, by decide⟩
  have hat27 : cl27.slots[((1 : Int32)).toNatClampNeg]? = some (.ref a2) := Has.at H27 hin27 rfl
  refine gx (X26.aaload hx (j := (1 : Int32)) (v := (.ref a2)) (by rw [hp26_0]; exact Ar27.1) (State.isArrayOf_alike hZ.alike Ar27.2.1) rfl Ar27.2.2 hin27 hat27 (g := (mkF m 16 #[.val .null, .val (.ref av1), .val (.int (3 : Int32)), .val (.int (1 : Int32)), .val (.ref a1)] [(.int (1 : Int32)), (.ref av1)])) rfl rfl (hb hby d18_16) _) ?_
  refine gx (XS.astore X26.here hx rfl (hb hby d18_17) rfl rfl (l' := #[.val .null, .val (.ref av1), .val (.int (3 : Int32)), .val (.int (1 : Int32)), .val (.ref a2)]) rfl) ?_
  refine gx (XS.aload X26.here hx rfl (hb hby d18_19) rfl rfl) ?_
  obtain ⟨T28, X28, e28, st28⟩ := getF X26 hx hZ hown (host := "") (Or.inl (own_hw hw 104 rfl)) Via.refl hp26_0 F13 (g := (mkF m 21 #[.val .null, .val (.ref av1), .val (.int (3 : Int32)), .val (.int (1 : Int32)), .val (.ref a2)] [(.ref a2)])) rfl rfl (hb hby d18_21)
  refine Goes.to st28 ?_
  refine gx (XS.aloadN X28.here hx rfl (hb hby d18_24) rfl rfl) ?_
  obtain ⟨cq29, kq29, q29a, q29b, q29c⟩ := isOf hZ e28 F14
  obtain ⟨_, _, ⟨T29, L29, k29, n29⟩, -, X29, ⟨Lc29, hQ29, l29, y29, z29⟩, st29⟩ := X28.virtualBack hx (y := own_n13) (z := own_n13) hown (mvT hZ (own_hw hw 106 rfl)) (mvT hZ (own_hw hw 73 rfl)) (notFace_of_selects (args := #[]) (mvT hZ (own_hw hw 75 rfl))) (mvT hZ (own_hw hw 75 rfl)) (mvT hZ (own_hw hw 74 rfl)) (by decide) (backOf (W := 0) (own_rmEQN l Z a0 hw [] w2 T1.heap n0 Zk1 ) hZ (own_hw hw 76 rfl) (own_hw hw 2 rfl) (by decide) (by decide)) q29a q29c (g := (mkF m 25 #[.val .null, .val (.ref av1), .val (.int (3 : Int32)), .val (.int (1 : Int32)), .val (.ref a2)] [.null, (.ref w2)])) rfl (by rw [hml]; rfl) (Steps.refl _) (argsL := [.null]) (rest := []) (lenOf own_pd_pLjavallanglObjectsqZ rfl) rfl (own_W rfl rfl) (hb hby d18_25) (fun _ _ => ⟨rfl, e28, (by decide : 1 + 0 ≤ _), (by decide : 3 + 0 ≤ _)⟩)
  dsimp only [Pt.U, Pt.locs, Pt.cells, Pt.slots] at X29 l29 y29 z29 st29 hQ29
  subst l29 y29 z29
  obtain ⟨hv29, Nq29, hp29_0⟩ := hQ29
  have N29 := Fr.app N26 Nq29
  subst hv29
  refine Goes.tr st29 ?_
  refine gx (XS.ifYes X29.here hx rfl (pc0 := 28) (pc' := 37) rfl (hb hby d18_28) rfl ((if0 _ _).trans (teq (by decide : (0 : Int32) = (0 : Int32))).1) (by decide) (by decide)) ?_
  refine gx (XS.iinc X29.here hx rfl (hb hby d18_37) rfl (l' := #[.val .null, .val (.ref av1), .val (.int (3 : Int32)), .val (.int (2 : Int32)), .val (.ref a2)]) rfl) ?_
  refine gx (XS.goto X29.here hx rfl (pc0 := 40) (pc' := 9) rfl (hb hby d18_40) (by decide) (by decide)) ?_
  refine gx (XS.iloadN X29.here hx rfl (hb hby d18_9) rfl) ?_
  show Goes p.tables e below (T29.setTop (mkF m 10 #[.val .null, .val (.ref av1), .val (.int (3 : Int32)), .val (.int (2 : Int32)), .val (.ref a2)] [(.int (2 : Int32))])) _
  refine gx (XS.iloadN X29.here hx rfl (hb hby d18_10) rfl) ?_
  refine gx (XS.icmpNo X29.here hx rfl (hb hby d18_11) rfl (tlt (by decide : (2 : Int32) < (3 : Int32))).2.1) ?_
  refine gx (XS.aloadN X29.here hx rfl (hb hby d18_14) rfl rfl) ?_
  refine gx (XS.iloadN X29.here hx rfl (hb hby d18_15) rfl) ?_
  exact own_pt_own_rmNMN_30 l Z a0 hw ws aV kV a1 a2 a3 aE w1 w2 w3 v1 v2 v3 q1 q2 q3 h0 n0 Z0 hPm Bd hml0 hh hZ av1 T29 _  T1.heap X29 hp29_0 N29 Zk1  F5 F6 F7 F18 F19 Va1 Kc1

theorem d18_31 : decode prog_21_method_4_code 31 = .ok (.aload 4, 2) := by decide +kernel
theorem d18_33 : decode prog_21_method_4_code 33 = .ok (.invokestatic 46, 3) := by decide +kernel
theorem d18_36 : decode prog_21_method_4_code 36 = .ok (.areturn, 1) := by decide +kernel
theorem own_pd_pLjavallanglObjectsqLjavalutillOptionals : parseMethodDescriptor "(Ljava/lang/Object;)Ljava/util/Optional;" = some ⟨[(.object "java/lang/Object")], some (.object "java/util/Optional")⟩ := by decide +kernel
theorem own_ef_own_rmNMR (m : MethodId) (x0 : Addr) : entryFrame m #[(.ref x0)] 5 = mkF m 0 #[.val (.ref x0), .unset, .unset, .unset, .unset] [] := by first | (simp [entryFrame, mkF, argsToLocals, Value.category]; done) | rfl
def own_Q_own_rmNMR (Z : State) (x0 : Addr) (aV : Addr) (kV : ClassId) (a1 : Addr) (a2 : Addr) (a3 : Addr) (aE : Addr) (w1 : Addr) (w2 : Addr) (w3 : Addr) (v1 : Addr) (v2 : Addr) (v3 : Addr) (q1 : ClassId) (q2 : ClassId) (q3 : ClassId) (bv : Addr) (kb : ClassId) (ds : List Int32) (cs : Int32) (h0 : Heap) (n0 : Nat) (v : Option Value) (h : Heap) (L : List Loc) : Prop := ∃ op : Addr, v = some (.ref op) ∧ Fr n0 L ∧ Keep h0 h [] ∧ Exa Z h op "java/util/Optional" ∧ Fld Z h op "java/util/Optional" "value" "Ljava/lang/Object;" (own_pick ds a1 a2 a3)
abbrev own_r_own_rmNMR : Room := ({ frames := 3, cells := 2, slots := 4, locals := 38 } : Room)
def own_P_own_rmNMR (Z : State) (a0 : Array Value) (x0 : Addr) (aV : Addr) (kV : ClassId) (a1 : Addr) (a2 : Addr) (a3 : Addr) (aE : Addr) (w1 : Addr) (w2 : Addr) (w3 : Addr) (v1 : Addr) (v2 : Addr) (v3 : Addr) (q1 : ClassId) (q2 : ClassId) (q3 : ClassId) (bv : Addr) (kb : ClassId) (ds : List Int32) (cs : Int32) (h0 : Heap) (n0 : Nat) : Prop := (Sta Z h0 "com/example/polgen/polgen/model/Multiplicity" "$VALUES" "[Lcom/example/polgen/polgen/model/Multiplicity;" (.ref aV)) ∧ (Arv Z h0 aV kV (.object "com/example/polgen/polgen/model/Multiplicity") (3 : Int32) [(.ref a1), (.ref a2), (.ref a3)] .null) ∧ (Exa Z h0 aV "[Lcom/example/polgen/polgen/model/Multiplicity;") ∧ (Sta Z h0 "java/util/Optional" "EMPTY" "Ljava/util/Optional;" (.ref aE)) ∧ (Exa Z h0 aE "java/util/Optional") ∧ (Fld Z h0 aE "java/util/Optional" "value" "Ljava/lang/Object;" .null) ∧ (Fld Z h0 a1 "com/example/polgen/polgen/model/Multiplicity" "word" "Ljava/lang/String;" (.ref w1)) ∧ (Exa Z h0 w1 "java/lang/String") ∧ (Fld Z h0 w1 "java/lang/String" "coder" "B" (.int (0 : Int32))) ∧ (Fld Z h0 w1 "java/lang/String" "value" "[B" (.ref v1)) ∧ (Arv Z h0 v1 q1 .byte (3 : Int32) [(.int (111 : Int32)), (.int (110 : Int32)), (.int (101 : Int32))] (.int (0 : Int32))) ∧ (Fld Z h0 a2 "com/example/polgen/polgen/model/Multiplicity" "word" "Ljava/lang/String;" (.ref w2)) ∧ (Exa Z h0 w2 "java/lang/String") ∧ (Fld Z h0 w2 "java/lang/String" "coder" "B" (.int (0 : Int32))) ∧ (Fld Z h0 w2 "java/lang/String" "value" "[B" (.ref v2)) ∧ (Arv Z h0 v2 q2 .byte (8 : Int32) [(.int (111 : Int32)), (.int (112 : Int32)), (.int (116 : Int32)), (.int (105 : Int32)), (.int (111 : Int32)), (.int (110 : Int32)), (.int (97 : Int32)), (.int (108 : Int32))] (.int (0 : Int32))) ∧ (Fld Z h0 a3 "com/example/polgen/polgen/model/Multiplicity" "word" "Ljava/lang/String;" (.ref w3)) ∧ (Exa Z h0 w3 "java/lang/String") ∧ (Fld Z h0 w3 "java/lang/String" "coder" "B" (.int (0 : Int32))) ∧ (Fld Z h0 w3 "java/lang/String" "value" "[B" (.ref v3)) ∧ (Arv Z h0 v3 q3 .byte (4 : Int32) [(.int (109 : Int32)), (.int (97 : Int32)), (.int (110 : Int32)), (.int (121 : Int32))] (.int (0 : Int32))) ∧ (Exa Z h0 x0 "java/lang/String") ∧ (Fld Z h0 x0 "java/lang/String" "coder" "B" (.int (0 : Int32))) ∧ (Fld Z h0 x0 "java/lang/String" "value" "[B" (.ref bv)) ∧ (Arv Z h0 bv kb .byte (Int32.ofNat ds.length) ((ds.map fun c => c.toInt8.toInt32).map Value.int) (.int (0 : Int32))) ∧ (∀ c ∈ ds, P8 c) ∧ (ds.length ≤ 9) ∧ (Sta Z h0 "java/lang/String" "COMPACT_STRINGS" "Z" (.int cs)) ∧ (¬ (cs = (0 : Int32)))
set_option maxRecDepth 65536 in
set_option maxHeartbeats 40000000 in
theorem own_pt_own_rmNMR_93 (l : Launch) (Z : State) (a0 : Array Value) (hw : ∀ d ∈ tables_1, d.before a0 Z = true) (ws : List Jvm.Cond) (x0 : Addr) (aV : Addr) (kV : ClassId) (a1 : Addr) (a2 : Addr) (a3 : Addr) (aE : Addr) (w1 : Addr) (w2 : Addr) (w3 : Addr) (v1 : Addr) (v2 : Addr) (v3 : Addr) (q1 : ClassId) (q2 : ClassId) (q3 : ClassId) (bv : Addr) (kb : ClassId) (ds : List Int32) (cs : Int32) (h0 : Heap) (n0 : Nat) (Z0 : n0 ≤ h0.size) (hPm : own_P_own_rmNMR Z a0 x0 aV kV a1 a2 a3 aE w1 w2 w3 v1 v2 v3 q1 q2 q3 bv kb ds cs h0 n0)
    {p : Program} {e : Env} {s : State} {m : MethodId} {below : List Frame} {meth : Method} {c : Code} {s₁ : State} (Bd : BodyLoose p l own_n18 (head1 (Jvm.Cond.code own_n18 prog_21_method_4_code 5 (some (.object "java/util/Optional")) :: ws) own_r_own_rmNMR) prog_21_method_4_code 5 (some (.object "java/util/Optional")) e s m #[(.ref x0)] below meth c s₁) (hml0 : c.maxLocals = 5) (hh : s.heap = h0) (hZ : Z.Warmed39 s.vm)
    (av1 : Addr)
    (Tpt : State) (lpt : List Loc)  (hpt : Heap)
    (Xpt : Stand p l e own_r_own_rmNMR s m #[(.ref x0)] below meth c Tpt lpt 1 3) (Ept : Tpt.heap = hpt) (Npt : Fr n0 lpt) (Zpt : n0 ≤ hpt.size) 
    (Pf93_3 : Sta Z hpt "java/util/Optional" "EMPTY" "Ljava/util/Optional;" (.ref aE))
    (Pf93_4 : Exa Z hpt aE "java/util/Optional")
    (Pf93_5 : Fld Z hpt aE "java/util/Optional" "value" "Ljava/lang/Object;" .null)
    (Pf93_16 : Fld Z hpt a3 "com/example/polgen/polgen/model/Multiplicity" "word" "Ljava/lang/String;" (.ref w3))
    (Pf93_17 : Exa Z hpt w3 "java/lang/String")
    (Pf93_18 : Fld Z hpt w3 "java/lang/String" "coder" "B" (.int (0 : Int32)))
    (Pf93_19 : Fld Z hpt w3 "java/lang/String" "value" "[B" (.ref v3))
    (Pf93_20 : Arv Z hpt v3 q3 .byte (4 : Int32) [(.int (109 : Int32)), (.int (97 : Int32)), (.int (110 : Int32)), (.int (121 : Int32))] (.int (0 : Int32)))
    (Pf93_21 : Exa Z hpt x0 "java/lang/String")
    (Pf93_22 : Fld Z hpt x0 "java/lang/String" "coder" "B" (.int (0 : Int32)))
    (Pf93_23 : Fld Z hpt x0 "java/lang/String" "value" "[B" (.ref bv))
    (Pf93_24 : Arv Z hpt bv kb .byte (Int32.ofNat ds.length) ((ds.map fun c => c.toInt8.toInt32).map Value.int) (.int (0 : Int32)))
    (Pf93_25 : Sta Z hpt "java/lang/String" "COMPACT_STRINGS" "Z" (.int cs))
    (Pf93_26 : Arv Z hpt av1 kV (.object "com/example/polgen/polgen/model/Multiplicity") (3 : Int32) [(.ref a1), (.ref a2), (.ref a3)] .null)
    (Ph93_27 : ¬ ([(111 : Int32), (110 : Int32), (101 : Int32)] = ds))
    (Ph93_28 : ¬ ([(111 : Int32), (112 : Int32), (116 : Int32), (105 : Int32), (111 : Int32), (110 : Int32), (97 : Int32), (108 : Int32)] = ds))
    (Kpt93 : Keep h0 hpt [])
    : Goes p.tables e below (Tpt.setTop (mkF m 16 #[.val (.ref x0), .val (.ref av1), .val (.int (3 : Int32)), .val (.int (2 : Int32)), .val (.ref a2)] [(.int (2 : Int32)), (.ref av1)])) (own_R below s (own_Q_own_rmNMR Z x0 aV kV a1 a2 a3 aE w1 w2 w3 v1 v2 v3 q1 q2 q3 bv kb ds cs h0 n0) own_r_own_rmNMR.cells own_r_own_rmNMR.slots) := by
  obtain ⟨SV, VV, EV, SE, EE, FE, Fw1, Ew1, Cw1, Vw1, Aw1, Fw2, Ew2, Cw2, Vw2, Aw2, Fw3, Ew3, Cw3, Vw3, Aw3, EX, FC, FV, VA, hp8, hll, SC, hcs⟩ := id hPm
  have hx := Bd.exec
  have hby := Bd.bytes
  have hml : c.maxLocals = 5 := hml0
  have hnm := (name_of_methodNamed Bd.named Bd.method).1
  have hown : s.vm.findClass "com/example/polgen/polgen/model/Multiplicity" = some m.cls := findClass_of_methodNamed Bd.named
  obtain ⟨cl94, Ar94, q94, S94, N94, H94, G94⟩ := id Pf93_26
  have hin94 : ¬ ((2 : Int32) < 0 ∨ cl94.slots.size ≤ ((2 : Int32)).toNatClampNeg) := inb_of S94 ⟨by decide, by decide⟩
  have hat94 : cl94.slots[((2 : Int32)).toNatClampNeg]? = some (.ref a3) := Has.at H94 hin94 rfl
  refine gx (Xpt.aaload hx (j := (2 : Int32)) (v := (.ref a3)) (by rw [Ept]; exact Ar94.1) (State.isArrayOf_alike hZ.alike Ar94.2.1) rfl Ar94.2.2 hin94 hat94 (g := (mkF m 16 #[.val (.ref x0), .val (.ref av1), .val (.int (3 : Int32)), .val (.int (2 : Int32)), .val (.ref a2)] [(.int (2 : Int32)), (.ref av1)])) rfl rfl (hb hby d18_16) _) ?_
  refine gx (XS.astore Xpt.here hx rfl (hb hby d18_17) rfl rfl (l' := #[.val (.ref x0), .val (.ref av1), .val (.int (3 : Int32)), .val (.int (2 : Int32)), .val (.ref a3)]) rfl) ?_
  refine gx (XS.aload Xpt.here hx rfl (hb hby d18_19) rfl rfl) ?_
  obtain ⟨T95, X95, e95, st95⟩ := getF Xpt hx hZ hown (host := "") (Or.inl (own_hw hw 104 rfl)) Via.refl Ept Pf93_16 (g := (mkF m 21 #[.val (.ref x0), .val (.ref av1), .val (.int (3 : Int32)), .val (.int (2 : Int32)), .val (.ref a3)] [(.ref a3)])) rfl rfl (hb hby d18_21)
  refine Goes.to st95 ?_
  refine gx (XS.aloadN X95.here hx rfl (hb hby d18_24) rfl rfl) ?_
  obtain ⟨cq96, kq96, q96a, q96b, q96c⟩ := isOf hZ e95 Pf93_17
  obtain ⟨_, _, ⟨T96, L96, k96, n96⟩, -, X96, ⟨Lc96, hQ96, l96, y96, z96⟩, st96⟩ := X95.virtualBack hx (y := own_n13) (z := own_n13) hown (mvT hZ (own_hw hw 106 rfl)) (mvT hZ (own_hw hw 73 rfl)) (notFace_of_selects (args := #[]) (mvT hZ (own_hw hw 75 rfl))) (mvT hZ (own_hw hw 75 rfl)) (mvT hZ (own_hw hw 74 rfl)) (by decide) (StrChars.Road.eqW (W := 0) hZ (own_hwEq hw) (own_hw hw 3 rfl) (cs := [(109 : Int32), (97 : Int32), (110 : Int32), (121 : Int32)]) Pf93_17 Pf93_19 Pf93_18 Pf93_20 own_cod_many (own_up own_p8_many) (by decide) (ds := ds) Pf93_21 Pf93_23 Pf93_22 Pf93_24 (StrChars.Road.codOf rfl (fun c hc => (hp8 c hc).2)) (own_up hp8) (Nat.le_trans hll (by decide)) Pf93_25 hcs (by decide) (by decide)) q96a q96c (g := (mkF m 25 #[.val (.ref x0), .val (.ref av1), .val (.int (3 : Int32)), .val (.int (2 : Int32)), .val (.ref a3)] [(.ref x0), (.ref w3)])) rfl (by rw [hml]; rfl) (Steps.refl _) (argsL := [(.ref x0)]) (rest := []) (lenOf own_pd_pLjavallanglObjectsqZ rfl) rfl (own_W rfl rfl) (hb hby d18_25) (fun _ _ => ⟨rfl, e95, (by decide : 1 + 0 ≤ _), (by decide : 3 + 0 ≤ _)⟩)
  dsimp only [Pt.U, Pt.locs, Pt.cells, Pt.slots] at X96 l96 y96 z96 st96 hQ96
  subst l96 y96 z96
  obtain ⟨hor96, hL96, hp96⟩ := hQ96
  subst hL96
  have N96 := Fr.app Npt (Fr.nil n0)
  by_cases hc97 : [(109 : Int32), (97 : Int32), (110 : Int32), (121 : Int32)] = ds
  · obtain ⟨hv96, -⟩ := hor96.resolve_right (fun q => q.2 hc97)
    subst hv96
    refine Goes.tr st96 ?_
    refine gx (XS.ifNo X96.here hx rfl (hb hby d18_28) rfl ((if0 _ _).trans (feq (by decide : ¬ ((1 : Int32) = (0 : Int32)))).1)) ?_
    refine gx (XS.aload X96.here hx rfl (hb hby d18_31) rfl rfl) ?_
    obtain ⟨_, _, ⟨T98, L98, k98, n98⟩, -, X98, ⟨Lc98, hQ98, l98, y98, z98⟩, st98⟩ := Jvm.LawKit.callS X96 hx (y := own_n10) hown (mvT hZ (own_hw hw 107 rfl)) (mvT hZ (own_hw hw 108 rfl)) (mvT hZ (own_hw hw 109 rfl)) (mvT hZ (own_hw hw 110 rfl)) (by decide) (backOf (W := 0) (own_rm20 l Z a0 hw [] a3 hpt n0 Zpt ) hZ (own_hw hw 110 rfl) (own_hw hw 109 rfl) (by decide) (by decide)) (g := (mkF m 33 #[.val (.ref x0), .val (.ref av1), .val (.int (3 : Int32)), .val (.int (2 : Int32)), .val (.ref a3)] [(.ref a3)])) rfl (by rw [hml]; rfl) (argsL := [(.ref a3)]) (rest := []) (lenOf own_pd_pLjavallanglObjectsqLjavalutillOptionals rfl) rfl (own_W rfl rfl) (hb hby d18_33) (fun _ _ => ⟨rfl, hp96, (by decide : 1 + 1 ≤ _), (by decide : 3 + 1 ≤ _)⟩)
    dsimp only [Pt.U, Pt.locs, Pt.cells, Pt.slots] at X98 l98 y98 z98 st98 hQ98
    subst l98 y98 z98
    obtain ⟨op98, hv98, Nq98, sz_op98, K98, Eo98, Fo98⟩ := hQ98
    have N98 := Fr.app N96 Nq98
    have Kc98 : Keep h0 T98.heap [] := Kpt93.trans K98 all0
    subst hv98
    have szo98 : h0.size ≤ op98 := Nat.le_trans (Kpt93).1 sz_op98
    refine Goes.to st98 ?_
    show Goes p.tables e below (T98.setTop (mkF m 36 #[.val (.ref x0), .val (.ref av1), .val (.int (3 : Int32)), .val (.int (2 : Int32)), .val (.ref a3)] [(.ref op98)])) _
    obtain ⟨fs, hr, hrun, hended, hW, hsame⟩ := X98.leave (v := some (.ref op98)) (fun h => by rw [Bd.returns] at h; cases h)
    exact ⟨_, _, retOut X98 hx Bd.returns rfl (Or.inr (Or.inr (Or.inr (Or.inr ⟨rfl, rfl, rfl⟩)))) (hb hby d18_36) hr, hrun, hended, _, _, rfl, ⟨op98, rfl, N98, (by show Keep h0 T98.heap []; exact Kc98), (by show Exa Z T98.heap op98 "java/util/Optional"; exact Eo98), (by show Fld Z T98.heap op98 "java/util/Optional" "value" "Ljava/lang/Object;" (own_pick ds a1 a2 a3); unfold own_pick; rw [if_neg Ph93_27, if_neg Ph93_28, if_pos hc97]; exact Fo98)⟩, ⟨_, rfl⟩, hW, hsame.mono (by decide) (by decide)⟩
  · obtain ⟨hv96, -⟩ := hor96.resolve_left (fun q => hc97 q.2)
    subst hv96
    refine Goes.tr st96 ?_
    refine gx (XS.ifYes X96.here hx rfl (pc0 := 28) (pc' := 37) rfl (hb hby d18_28) rfl ((if0 _ _).trans (teq (by decide : (0 : Int32) = (0 : Int32))).1) (by decide) (by decide)) ?_
    refine gx (XS.iinc X96.here hx rfl (hb hby d18_37) rfl (l' := #[.val (.ref x0), .val (.ref av1), .val (.int (3 : Int32)), .val (.int (3 : Int32)), .val (.ref a3)]) rfl) ?_
    refine gx (XS.goto X96.here hx rfl (pc0 := 40) (pc' := 9) rfl (hb hby d18_40) (by decide) (by decide)) ?_
    refine gx (XS.iloadN X96.here hx rfl (hb hby d18_9) rfl) ?_
    show Goes p.tables e below (T96.setTop (mkF m 10 #[.val (.ref x0), .val (.ref av1), .val (.int (3 : Int32)), .val (.int (3 : Int32)), .val (.ref a3)] [(.int (3 : Int32))])) _
    refine gx (XS.iloadN X96.here hx rfl (hb hby d18_10) rfl) ?_
    refine gx (XS.icmpYes X96.here hx rfl (pc0 := 11) (pc' := 43) rfl (hb hby d18_11) rfl (flt (by decide : ¬ ((3 : Int32) < (3 : Int32)))).2.1 (by decide) (by decide)) ?_
    obtain ⟨_, _, ⟨T126, L126, k126, n126⟩, -, X126, ⟨Lc126, hQ126, l126, y126, z126⟩, st126⟩ := Jvm.LawKit.callS X96 hx (y := own_n11) hown (mvT hZ (own_hw hw 134 rfl)) (mvT hZ (own_hw hw 135 rfl)) (mvT hZ (own_hw hw 109 rfl)) (mvT hZ (own_hw hw 136 rfl)) (by decide) (backOf (W := 0) (own_rm24 l Z a0 hw [] aE hpt n0 Zpt Pf93_3) hZ (own_hw hw 136 rfl) (own_hw hw 109 rfl) (by decide) (by decide)) (g := (mkF m 43 #[.val (.ref x0), .val (.ref av1), .val (.int (3 : Int32)), .val (.int (3 : Int32)), .val (.ref a3)] [])) rfl (by rw [hml]; rfl) (argsL := []) (rest := []) (lenOf own_pd_pqLjavalutillOptionals rfl) rfl (own_W rfl rfl) (hb hby d18_43) (fun _ _ => ⟨rfl, hp96, (by decide : 1 + 0 ≤ _), (by decide : 3 + 0 ≤ _)⟩)
    dsimp only [Pt.U, Pt.locs, Pt.cells, Pt.slots] at X126 l126 y126 z126 st126 hQ126
    subst l126 y126 z126
    obtain ⟨hv126, Nq126, hp126_0⟩ := hQ126
    have N126 := Fr.app N96 Nq126
    subst hv126
    refine Goes.to st126 ?_
    show Goes p.tables e below (T126.setTop (mkF m 46 #[.val (.ref x0), .val (.ref av1), .val (.int (3 : Int32)), .val (.int (3 : Int32)), .val (.ref a3)] [(.ref aE)])) _
    obtain ⟨fs, hr, hrun, hended, hW, hsame⟩ := X126.leave (v := some (.ref aE)) (fun h => by rw [Bd.returns] at h; cases h)
    exact ⟨_, _, retOut X126 hx Bd.returns rfl (Or.inr (Or.inr (Or.inr (Or.inr ⟨rfl, rfl, rfl⟩)))) (hb hby d18_46) hr, hrun, hended, _, _, rfl, ⟨aE, rfl, N126, (by show Keep h0 T126.heap []; rw [hp126_0]; exact Kpt93), (by show Exa Z T126.heap aE "java/util/Optional"; rw [hp126_0]; exact Pf93_4), (by show Fld Z T126.heap aE "java/util/Optional" "value" "Ljava/lang/Object;" (own_pick ds a1 a2 a3); unfold own_pick; rw [if_neg Ph93_27, if_neg Ph93_28, if_neg hc97]; rw [hp126_0]; exact Pf93_5)⟩, ⟨_, rfl⟩, hW, hsame.mono (by decide) (by decide)⟩
set_option maxRecDepth 65536 in
set_option maxHeartbeats 40000000 in
theorem own_rmNMR (l : Launch) (Z : State) (a0 : Array Value) (hw : ∀ d ∈ tables_1, d.before a0 Z = true) (ws : List Jvm.Cond) (x0 : Addr) (aV : Addr) (kV : ClassId) (a1 : Addr) (a2 : Addr) (a3 : Addr) (aE : Addr) (w1 : Addr) (w2 : Addr) (w3 : Addr) (v1 : Addr) (v2 : Addr) (v3 : Addr) (q1 : ClassId) (q2 : ClassId) (q3 : ClassId) (bv : Addr) (kb : ClassId) (ds : List Int32) (cs : Int32) (h0 : Heap) (n0 : Nat) (Z0 : n0 ≤ h0.size) (SV : Sta Z h0 "com/example/polgen/polgen/model/Multiplicity" "$VALUES" "[Lcom/example/polgen/polgen/model/Multiplicity;" (.ref aV)) (VV : Arv Z h0 aV kV (.object "com/example/polgen/polgen/model/Multiplicity") (3 : Int32) [(.ref a1), (.ref a2), (.ref a3)] .null) (EV : Exa Z h0 aV "[Lcom/example/polgen/polgen/model/Multiplicity;") (SE : Sta Z h0 "java/util/Optional" "EMPTY" "Ljava/util/Optional;" (.ref aE)) (EE : Exa Z h0 aE "java/util/Optional") (FE : Fld Z h0 aE "java/util/Optional" "value" "Ljava/lang/Object;" .null) (Fw1 : Fld Z h0 a1 "com/example/polgen/polgen/model/Multiplicity" "word" "Ljava/lang/String;" (.ref w1)) (Ew1 : Exa Z h0 w1 "java/lang/String") (Cw1 : Fld Z h0 w1 "java/lang/String" "coder" "B" (.int (0 : Int32))) (Vw1 : Fld Z h0 w1 "java/lang/String" "value" "[B" (.ref v1)) (Aw1 : Arv Z h0 v1 q1 .byte (3 : Int32) [(.int (111 : Int32)), (.int (110 : Int32)), (.int (101 : Int32))] (.int (0 : Int32))) (Fw2 : Fld Z h0 a2 "com/example/polgen/polgen/model/Multiplicity" "word" "Ljava/lang/String;" (.ref w2)) (Ew2 : Exa Z h0 w2 "java/lang/String") (Cw2 : Fld Z h0 w2 "java/lang/String" "coder" "B" (.int (0 : Int32))) (Vw2 : Fld Z h0 w2 "java/lang/String" "value" "[B" (.ref v2)) (Aw2 : Arv Z h0 v2 q2 .byte (8 : Int32) [(.int (111 : Int32)), (.int (112 : Int32)), (.int (116 : Int32)), (.int (105 : Int32)), (.int (111 : Int32)), (.int (110 : Int32)), (.int (97 : Int32)), (.int (108 : Int32))] (.int (0 : Int32))) (Fw3 : Fld Z h0 a3 "com/example/polgen/polgen/model/Multiplicity" "word" "Ljava/lang/String;" (.ref w3)) (Ew3 : Exa Z h0 w3 "java/lang/String") (Cw3 : Fld Z h0 w3 "java/lang/String" "coder" "B" (.int (0 : Int32))) (Vw3 : Fld Z h0 w3 "java/lang/String" "value" "[B" (.ref v3)) (Aw3 : Arv Z h0 v3 q3 .byte (4 : Int32) [(.int (109 : Int32)), (.int (97 : Int32)), (.int (110 : Int32)), (.int (121 : Int32))] (.int (0 : Int32))) (EX : Exa Z h0 x0 "java/lang/String") (FC : Fld Z h0 x0 "java/lang/String" "coder" "B" (.int (0 : Int32))) (FV : Fld Z h0 x0 "java/lang/String" "value" "[B" (.ref bv)) (VA : Arv Z h0 bv kb .byte (Int32.ofNat ds.length) ((ds.map fun c => c.toInt8.toInt32).map Value.int) (.int (0 : Int32))) (hp8 : ∀ c ∈ ds, P8 c) (hll : ds.length ≤ 9) (SC : Sta Z h0 "java/lang/String" "COMPACT_STRINGS" "Z" (.int cs)) (hcs : ¬ (cs = (0 : Int32))) :
    MetFree l own_n18 (head1 (Jvm.Cond.code own_n18 prog_21_method_4_code 5 (some (.object "java/util/Optional")) :: ws) own_r_own_rmNMR) (fun a U => a = #[(.ref x0)] ∧ Z.Warmed39 U.vm ∧ U.heap = h0) (fun _ _ _ _ _ => True) (fun _ U o U' => ∃ v L, o = .returned v ∧ own_Q_own_rmNMR Z x0 aV kV a1 a2 a3 aE w1 w2 w3 v1 v2 v3 q1 q2 q3 bv kb ds cs h0 n0 v U'.heap L ∧ FrameEnd U o U' L own_r_own_rmNMR.cells own_r_own_rmNMR.slots) := by
  refine MetFree.of_bodySF (plainFor_of_name own_pn_18) hisR ?_
  intro p e s m args below meth c s₁ Bd hml0 hP hK
  obtain ⟨rfl, hZ, hh⟩ := hP
  have hx := Bd.exec
  have hby := Bd.bytes
  have hml : c.maxLocals = 5 := hml0
  have hown : s.vm.findClass "com/example/polgen/polgen/model/Multiplicity" = some m.cls := findClass_of_methodNamed Bd.named
  have hnm := (name_of_methodNamed Bd.named Bd.method).1
  have X0 : Stand p l e own_r_own_rmNMR s m #[(.ref x0)] below meth c s₁ [] 0 0 := Stand.of_body Bd
  have e0 : s₁.heap = h0 := by rw [← hh, Bd.state]; rfl
  have N0 := Fr.nil n0
  have hPm : own_P_own_rmNMR Z a0 x0 aV kV a1 a2 a3 aE w1 w2 w3 v1 v2 v3 q1 q2 q3 bv kb ds cs h0 n0 := ⟨SV, VV, EV, SE, EE, FE, Fw1, Ew1, Cw1, Vw1, Aw1, Fw2, Ew2, Cw2, Vw2, Aw2, Fw3, Ew3, Cw3, Vw3, Aw3, EX, FC, FV, VA, hp8, hll, SC, hcs⟩
  show Goes p.tables e below _ (own_R below s (own_Q_own_rmNMR Z x0 aV kV a1 a2 a3 aE w1 w2 w3 v1 v2 v3 q1 q2 q3 bv kb ds cs h0 n0) own_r_own_rmNMR.cells own_r_own_rmNMR.slots)
  refine Goes.to (fun t k => castTop (own_ef_own_rmNMR m x0) k) ?_
  obtain ⟨_, _, ⟨T1, L1, k1, n1⟩, -, X1, ⟨Lc1, hQ1, l1, y1, z1⟩, st1⟩ := Jvm.LawKit.callS X0 hx (y := own_n14) hown (mvT hZ (own_hw hw 87 rfl)) (mvT hZ (own_hw hw 88 rfl)) (mvT hZ (own_hw hw 82 rfl)) (mvT hZ (own_hw hw 89 rfl)) (by decide) (backOf (W := 0) (own_rm19 l Z a0 hw [] aV kV a1 a2 a3 h0 n0 Z0 SV VV EV) hZ (own_hw hw 89 rfl) (own_hw hw 82 rfl) (by decide) (by decide)) (g := (mkF m 0 #[.val (.ref x0), .unset, .unset, .unset, .unset] [])) rfl (by rw [hml]; rfl) (argsL := []) (rest := []) (lenOf own_pd_pqaLcomlexamplelpolgenlpolgenlmodellMultiplicitys rfl) rfl (own_W rfl rfl) (hb hby d18_0) (fun _ _ => ⟨rfl, e0, (by decide : 0 + 1 ≤ _), (by decide : 0 + 3 ≤ _)⟩)
  dsimp only [Pt.U, Pt.locs, Pt.cells, Pt.slots] at X1 l1 y1 z1 st1 hQ1
  subst l1 y1 z1
  obtain ⟨av1, hv1, Nq1, sz1, K1, Va1⟩ := hQ1
  have N1 := Fr.app N0 Nq1
  have F5 := own_sta0 K1 SE
  have F6 := EE.keep K1
  have F7 := FE.keep K1 nin0
  have F8 := Fw1.keep K1 nin0
  have F9 := Ew1.keep K1
  have F10 := Cw1.keep K1 nin0
  have F11 := Vw1.keep K1 nin0
  have F12 := Aw1.keep K1 nin0
  have F13 := Fw2.keep K1 nin0
  have F14 := Ew2.keep K1
  have F15 := Cw2.keep K1 nin0
  have F16 := Vw2.keep K1 nin0
  have F17 := Aw2.keep K1 nin0
  have F18 := Fw3.keep K1 nin0
  have F19 := Ew3.keep K1
  have F20 := Cw3.keep K1 nin0
  have F21 := Vw3.keep K1 nin0
  have F22 := Aw3.keep K1 nin0
  have F23 := EX.keep K1
  have F24 := FC.keep K1 nin0
  have F25 := FV.keep K1 nin0
  have F26 := VA.keep K1 nin0
  have F27 := own_sta0 K1 SC
  have Zk1 : n0 ≤ T1.heap.size := Nat.le_trans Z0 K1.1
  have Kc1 : Keep h0 T1.heap [] := (Keep.refl h0 []).trans K1 all0
  subst hv1
  refine Goes.to st1 ?_
  refine gx (XS.astoreN X1.here hx rfl (hb hby d18_3) rfl rfl (l' := #[.val (.ref x0), .val (.ref av1), .unset, .unset, .unset]) rfl) ?_
  refine gx (XS.aloadN X1.here hx rfl (hb hby d18_4) rfl rfl) ?_
  obtain ⟨cl28, Ar28, -, S28, N28, -, -⟩ := id Va1
  refine Goes.to (fun _ k => X1.arraylength hx Ar28.1 (State.isArrayOf_alike hZ.alike Ar28.2.1) (g := (mkF m 5 #[.val (.ref x0), .val (.ref av1), .unset, .unset, .unset] [(.ref av1)])) rfl rfl (hb hby d18_5) _ k) ?_
  rw [len_of S28 N28]
  refine gx (XS.istoreN X1.here hx rfl (hb hby d18_6) rfl (l' := #[.val (.ref x0), .val (.ref av1), .val (.int (3 : Int32)), .unset, .unset]) rfl) ?_
  refine gx (XS.iconst X1.here hx rfl (hb hby d18_7)) ?_
  refine gx (XS.istoreN X1.here hx rfl (hb hby d18_8) rfl (l' := #[.val (.ref x0), .val (.ref av1), .val (.int (3 : Int32)), .val (.int (0 : Int32)), .unset]) rfl) ?_
  refine gx (XS.iloadN X1.here hx rfl (hb hby d18_9) rfl) ?_
  show Goes p.tables e below (T1.setTop (mkF m 10 #[.val (.ref x0), .val (.ref av1), .val (.int (3 : Int32)), .val (.int (0 : Int32)), .unset] [(.int (0 : Int32))])) _
  refine gx (XS.iloadN X1.here hx rfl (hb hby d18_10) rfl) ?_
  refine gx (XS.icmpNo X1.here hx rfl (hb hby d18_11) rfl (tlt (by decide : (0 : Int32) < (3 : Int32))).2.1) ?_
  refine gx (XS.aloadN X1.here hx rfl (hb hby d18_14) rfl rfl) ?_
  refine gx (XS.iloadN X1.here hx rfl (hb hby d18_15) rfl) ?_
  obtain ⟨cl29, Ar29, q29, S29, N29, H29, G29⟩ := id Va1
  have hin29 : ¬ ((0 : Int32) < 0 ∨ cl29.slots.size ≤ ((0 : Int32)).toNatClampNeg) := inb_of S29 ⟨by decide, by decide⟩
  have hat29 : cl29.slots[((0 : Int32)).toNatClampNeg]? = some (.ref a1) := Has.at H29 hin29 rfl
  refine gx (X1.aaload hx (j := (0 : Int32)) (v := (.ref a1)) Ar29.1 (State.isArrayOf_alike hZ.alike Ar29.2.1) rfl Ar29.2.2 hin29 hat29 (g := (mkF m 16 #[.val (.ref x0), .val (.ref av1), .val (.int (3 : Int32)), .val (.int (0 : Int32)), .unset] [(.int (0 : Int32)), (.ref av1)])) rfl rfl (hb hby d18_16) _) ?_
  refine gx (XS.astore X1.here hx rfl (hb hby d18_17) rfl rfl (l' := #[.val (.ref x0), .val (.ref av1), .val (.int (3 : Int32)), .val (.int (0 : Int32)), .val (.ref a1)]) rfl) ?_
  refine gx (XS.aload X1.here hx rfl (hb hby d18_19) rfl rfl) ?_
  obtain ⟨T30, X30, e30, st30⟩ := getF X1 hx hZ hown (host := "") (Or.inl (own_hw hw 104 rfl)) Via.refl rfl F8 (g := (mkF m 21 #[.val (.ref x0), .val (.ref av1), .val (.int (3 : Int32)), .val (.int (0 : Int32)), .val (.ref a1)] [(.ref a1)])) rfl rfl (hb hby d18_21)
  refine Goes.to st30 ?_
  refine gx (XS.aloadN X30.here hx rfl (hb hby d18_24) rfl rfl) ?_
  obtain ⟨cq31, kq31, q31a, q31b, q31c⟩ := isOf hZ e30 F9
  obtain ⟨_, _, ⟨T31, L31, k31, n31⟩, -, X31, ⟨Lc31, hQ31, l31, y31, z31⟩, st31⟩ := X30.virtualBack hx (y := own_n13) (z := own_n13) hown (mvT hZ (own_hw hw 106 rfl)) (mvT hZ (own_hw hw 73 rfl)) (notFace_of_selects (args := #[]) (mvT hZ (own_hw hw 75 rfl))) (mvT hZ (own_hw hw 75 rfl)) (mvT hZ (own_hw hw 74 rfl)) (by decide) (StrChars.Road.eqW (W := 0) hZ (own_hwEq hw) (own_hw hw 3 rfl) (cs := [(111 : Int32), (110 : Int32), (101 : Int32)]) F9 F11 F10 F12 own_cod_one (own_up own_p8_one) (by decide) (ds := ds) F23 F25 F24 F26 (StrChars.Road.codOf rfl (fun c hc => (hp8 c hc).2)) (own_up hp8) (Nat.le_trans hll (by decide)) F27 hcs (by decide) (by decide)) q31a q31c (g := (mkF m 25 #[.val (.ref x0), .val (.ref av1), .val (.int (3 : Int32)), .val (.int (0 : Int32)), .val (.ref a1)] [(.ref x0), (.ref w1)])) rfl (by rw [hml]; rfl) (Steps.refl _) (argsL := [(.ref x0)]) (rest := []) (lenOf own_pd_pLjavallanglObjectsqZ rfl) rfl (own_W rfl rfl) (hb hby d18_25) (fun _ _ => ⟨rfl, e30, (by decide : 1 + 0 ≤ _), (by decide : 3 + 0 ≤ _)⟩)
  dsimp only [Pt.U, Pt.locs, Pt.cells, Pt.slots] at X31 l31 y31 z31 st31 hQ31
  subst l31 y31 z31
  obtain ⟨hor31, hL31, hp31⟩ := hQ31
  subst hL31
  have N31 := Fr.app N1 (Fr.nil n0)
  by_cases hc32 : [(111 : Int32), (110 : Int32), (101 : Int32)] = ds
  · obtain ⟨hv31, -⟩ := hor31.resolve_right (fun q => q.2 hc32)
    subst hv31
    refine Goes.tr st31 ?_
    refine gx (XS.ifNo X31.here hx rfl (hb hby d18_28) rfl ((if0 _ _).trans (feq (by decide : ¬ ((1 : Int32) = (0 : Int32)))).1)) ?_
    refine gx (XS.aload X31.here hx rfl (hb hby d18_31) rfl rfl) ?_
    obtain ⟨_, _, ⟨T33, L33, k33, n33⟩, -, X33, ⟨Lc33, hQ33, l33, y33, z33⟩, st33⟩ := Jvm.LawKit.callS X31 hx (y := own_n10) hown (mvT hZ (own_hw hw 107 rfl)) (mvT hZ (own_hw hw 108 rfl)) (mvT hZ (own_hw hw 109 rfl)) (mvT hZ (own_hw hw 110 rfl)) (by decide) (backOf (W := 0) (own_rm20 l Z a0 hw [] a1 T1.heap n0 Zk1 ) hZ (own_hw hw 110 rfl) (own_hw hw 109 rfl) (by decide) (by decide)) (g := (mkF m 33 #[.val (.ref x0), .val (.ref av1), .val (.int (3 : Int32)), .val (.int (0 : Int32)), .val (.ref a1)] [(.ref a1)])) rfl (by rw [hml]; rfl) (argsL := [(.ref a1)]) (rest := []) (lenOf own_pd_pLjavallanglObjectsqLjavalutillOptionals rfl) rfl (own_W rfl rfl) (hb hby d18_33) (fun _ _ => ⟨rfl, hp31, (by decide : 1 + 1 ≤ _), (by decide : 3 + 1 ≤ _)⟩)
    dsimp only [Pt.U, Pt.locs, Pt.cells, Pt.slots] at X33 l33 y33 z33 st33 hQ33
    subst l33 y33 z33
    obtain ⟨op33, hv33, Nq33, sz_op33, K33, Eo33, Fo33⟩ := hQ33
    have N33 := Fr.app N31 Nq33
    have Kc33 : Keep h0 T33.heap [] := Kc1.trans K33 all0
    subst hv33
    have szo33 : h0.size ≤ op33 := Nat.le_trans (Kc1).1 sz_op33
    refine Goes.to st33 ?_
    show Goes p.tables e below (T33.setTop (mkF m 36 #[.val (.ref x0), .val (.ref av1), .val (.int (3 : Int32)), .val (.int (0 : Int32)), .val (.ref a1)] [(.ref op33)])) _
    obtain ⟨fs, hr, hrun, hended, hW, hsame⟩ := X33.leave (v := some (.ref op33)) (fun h => by rw [Bd.returns] at h; cases h)
    exact ⟨_, _, retOut X33 hx Bd.returns rfl (Or.inr (Or.inr (Or.inr (Or.inr ⟨rfl, rfl, rfl⟩)))) (hb hby d18_36) hr, hrun, hended, _, _, rfl, ⟨op33, rfl, N33, (by show Keep h0 T33.heap []; exact Kc33), (by show Exa Z T33.heap op33 "java/util/Optional"; exact Eo33), (by show Fld Z T33.heap op33 "java/util/Optional" "value" "Ljava/lang/Object;" (own_pick ds a1 a2 a3); unfold own_pick; rw [if_pos hc32]; exact Fo33)⟩, ⟨_, rfl⟩, hW, hsame.mono (by decide) (by decide)⟩
  · obtain ⟨hv31, -⟩ := hor31.resolve_left (fun q => hc32 q.2)
    subst hv31
    refine Goes.tr st31 ?_
    refine gx (XS.ifYes X31.here hx rfl (pc0 := 28) (pc' := 37) rfl (hb hby d18_28) rfl ((if0 _ _).trans (teq (by decide : (0 : Int32) = (0 : Int32))).1) (by decide) (by decide)) ?_
    refine gx (XS.iinc X31.here hx rfl (hb hby d18_37) rfl (l' := #[.val (.ref x0), .val (.ref av1), .val (.int (3 : Int32)), .val (.int (1 : Int32)), .val (.ref a1)]) rfl) ?_
    refine gx (XS.goto X31.here hx rfl (pc0 := 40) (pc' := 9) rfl (hb hby d18_40) (by decide) (by decide)) ?_
    refine gx (XS.iloadN X31.here hx rfl (hb hby d18_9) rfl) ?_
    show Goes p.tables e below (T31.setTop (mkF m 10 #[.val (.ref x0), .val (.ref av1), .val (.int (3 : Int32)), .val (.int (1 : Int32)), .val (.ref a1)] [(.int (1 : Int32))])) _
    refine gx (XS.iloadN X31.here hx rfl (hb hby d18_10) rfl) ?_
    refine gx (XS.icmpNo X31.here hx rfl (hb hby d18_11) rfl (tlt (by decide : (1 : Int32) < (3 : Int32))).2.1) ?_
    refine gx (XS.aloadN X31.here hx rfl (hb hby d18_14) rfl rfl) ?_
    refine gx (XS.iloadN X31.here hx rfl (hb hby d18_15) rfl) ?_
    obtain ⟨cl61, Ar61, q61, S61, N61, H61, G61⟩ := id Va1
    have hin61 : ¬ ((1 : Int32) < 0 ∨ cl61.slots.size ≤ ((1 : Int32)).toNatClampNeg) := inb_of S61 ⟨by decide, by decide⟩
    have hat61 : cl61.slots[((1 : Int32)).toNatClampNeg]? = some (.ref a2) := Has.at H61 hin61 rfl
    refine gx (X31.aaload hx (j := (1 : Int32)) (v := (.ref a2)) (by rw [hp31]; exact Ar61.1) (State.isArrayOf_alike hZ.alike Ar61.2.1) rfl Ar61.2.2 hin61 hat61 (g := (mkF m 16 #[.val (.ref x0), .val (.ref av1), .val (.int (3 : Int32)), .val (.int (1 : Int32)), .val (.ref a1)] [(.int (1 : Int32)), (.ref av1)])) rfl rfl (hb hby d18_16) _) ?_
    refine gx (XS.astore X31.here hx rfl (hb hby d18_17) rfl rfl (l' := #[.val (.ref x0), .val (.ref av1), .val (.int (3 : Int32)), .val (.int (1 : Int32)), .val (.ref a2)]) rfl) ?_
    refine gx (XS.aload X31.here hx rfl (hb hby d18_19) rfl rfl) ?_
    obtain ⟨T62, X62, e62, st62⟩ := getF X31 hx hZ hown (host := "") (Or.inl (own_hw hw 104 rfl)) Via.refl hp31 F13 (g := (mkF m 21 #[.val (.ref x0), .val (.ref av1), .val (.int (3 : Int32)), .val (.int (1 : Int32)), .val (.ref a2)] [(.ref a2)])) rfl rfl (hb hby d18_21)
    refine Goes.to st62 ?_
    refine gx (XS.aloadN X62.here hx rfl (hb hby d18_24) rfl rfl) ?_
    obtain ⟨cq63, kq63, q63a, q63b, q63c⟩ := isOf hZ e62 F14
    obtain ⟨_, _, ⟨T63, L63, k63, n63⟩, -, X63, ⟨Lc63, hQ63, l63, y63, z63⟩, st63⟩ := X62.virtualBack hx (y := own_n13) (z := own_n13) hown (mvT hZ (own_hw hw 106 rfl)) (mvT hZ (own_hw hw 73 rfl)) (notFace_of_selects (args := #[]) (mvT hZ (own_hw hw 75 rfl))) (mvT hZ (own_hw hw 75 rfl)) (mvT hZ (own_hw hw 74 rfl)) (by decide) (StrChars.Road.eqW (W := 0) hZ (own_hwEq hw) (own_hw hw 3 rfl) (cs := [(111 : Int32), (112 : Int32), (116 : Int32), (105 : Int32), (111 : Int32), (110 : Int32), (97 : Int32), (108 : Int32)]) F14 F16 F15 F17 own_cod_optional (own_up own_p8_optional) (by decide) (ds := ds) F23 F25 F24 F26 (StrChars.Road.codOf rfl (fun c hc => (hp8 c hc).2)) (own_up hp8) (Nat.le_trans hll (by decide)) F27 hcs (by decide) (by decide)) q63a q63c (g := (mkF m 25 #[.val (.ref x0), .val (.ref av1), .val (.int (3 : Int32)), .val (.int (1 : Int32)), .val (.ref a2)] [(.ref x0), (.ref w2)])) rfl (by rw [hml]; rfl) (Steps.refl _) (argsL := [(.ref x0)]) (rest := []) (lenOf own_pd_pLjavallanglObjectsqZ rfl) rfl (own_W rfl rfl) (hb hby d18_25) (fun _ _ => ⟨rfl, e62, (by decide : 1 + 0 ≤ _), (by decide : 3 + 0 ≤ _)⟩)
    dsimp only [Pt.U, Pt.locs, Pt.cells, Pt.slots] at X63 l63 y63 z63 st63 hQ63
    subst l63 y63 z63
    obtain ⟨hor63, hL63, hp63⟩ := hQ63
    subst hL63
    have N63 := Fr.app N31 (Fr.nil n0)
    by_cases hc64 : [(111 : Int32), (112 : Int32), (116 : Int32), (105 : Int32), (111 : Int32), (110 : Int32), (97 : Int32), (108 : Int32)] = ds
    · obtain ⟨hv63, -⟩ := hor63.resolve_right (fun q => q.2 hc64)
      subst hv63
      refine Goes.tr st63 ?_
      refine gx (XS.ifNo X63.here hx rfl (hb hby d18_28) rfl ((if0 _ _).trans (feq (by decide : ¬ ((1 : Int32) = (0 : Int32)))).1)) ?_
      refine gx (XS.aload X63.here hx rfl (hb hby d18_31) rfl rfl) ?_
      obtain ⟨_, _, ⟨T65, L65, k65, n65⟩, -, X65, ⟨Lc65, hQ65, l65, y65, z65⟩, st65⟩ := Jvm.LawKit.callS X63 hx (y := own_n10) hown (mvT hZ (own_hw hw 107 rfl)) (mvT hZ (own_hw hw 108 rfl)) (mvT hZ (own_hw hw 109 rfl)) (mvT hZ (own_hw hw 110 rfl)) (by decide) (backOf (W := 0) (own_rm20 l Z a0 hw [] a2 T1.heap n0 Zk1 ) hZ (own_hw hw 110 rfl) (own_hw hw 109 rfl) (by decide) (by decide)) (g := (mkF m 33 #[.val (.ref x0), .val (.ref av1), .val (.int (3 : Int32)), .val (.int (1 : Int32)), .val (.ref a2)] [(.ref a2)])) rfl (by rw [hml]; rfl) (argsL := [(.ref a2)]) (rest := []) (lenOf own_pd_pLjavallanglObjectsqLjavalutillOptionals rfl) rfl (own_W rfl rfl) (hb hby d18_33) (fun _ _ => ⟨rfl, hp63, (by decide : 1 + 1 ≤ _), (by decide : 3 + 1 ≤ _)⟩)
      dsimp only [Pt.U, Pt.locs, Pt.cells, Pt.slots] at X65 l65 y65 z65 st65 hQ65
      subst l65 y65 z65
      obtain ⟨op65, hv65, Nq65, sz_op65, K65, Eo65, Fo65⟩ := hQ65
      have N65 := Fr.app N63 Nq65
      have Kc65 : Keep h0 T65.heap [] := Kc1.trans K65 all0
      subst hv65
      have szo65 : h0.size ≤ op65 := Nat.le_trans (Kc1).1 sz_op65
      refine Goes.to st65 ?_
      show Goes p.tables e below (T65.setTop (mkF m 36 #[.val (.ref x0), .val (.ref av1), .val (.int (3 : Int32)), .val (.int (1 : Int32)), .val (.ref a2)] [(.ref op65)])) _
      obtain ⟨fs, hr, hrun, hended, hW, hsame⟩ := X65.leave (v := some (.ref op65)) (fun h => by rw [Bd.returns] at h; cases h)
      exact ⟨_, _, retOut X65 hx Bd.returns rfl (Or.inr (Or.inr (Or.inr (Or.inr ⟨rfl, rfl, rfl⟩)))) (hb hby d18_36) hr, hrun, hended, _, _, rfl, ⟨op65, rfl, N65, (by show Keep h0 T65.heap []; exact Kc65), (by show Exa Z T65.heap op65 "java/util/Optional"; exact Eo65), (by show Fld Z T65.heap op65 "java/util/Optional" "value" "Ljava/lang/Object;" (own_pick ds a1 a2 a3); unfold own_pick; rw [if_neg hc32, if_pos hc64]; exact Fo65)⟩, ⟨_, rfl⟩, hW, hsame.mono (by decide) (by decide)⟩
    · obtain ⟨hv63, -⟩ := hor63.resolve_left (fun q => hc64 q.2)
      subst hv63
      refine Goes.tr st63 ?_
      refine gx (XS.ifYes X63.here hx rfl (pc0 := 28) (pc' := 37) rfl (hb hby d18_28) rfl ((if0 _ _).trans (teq (by decide : (0 : Int32) = (0 : Int32))).1) (by decide) (by decide)) ?_
      refine gx (XS.iinc X63.here hx rfl (hb hby d18_37) rfl (l' := #[.val (.ref x0), .val (.ref av1), .val (.int (3 : Int32)), .val (.int (2 : Int32)), .val (.ref a2)]) rfl) ?_
      refine gx (XS.goto X63.here hx rfl (pc0 := 40) (pc' := 9) rfl (hb hby d18_40) (by decide) (by decide)) ?_
      refine gx (XS.iloadN X63.here hx rfl (hb hby d18_9) rfl) ?_
      show Goes p.tables e below (T63.setTop (mkF m 10 #[.val (.ref x0), .val (.ref av1), .val (.int (3 : Int32)), .val (.int (2 : Int32)), .val (.ref a2)] [(.int (2 : Int32))])) _
      refine gx (XS.iloadN X63.here hx rfl (hb hby d18_10) rfl) ?_
      refine gx (XS.icmpNo X63.here hx rfl (hb hby d18_11) rfl (tlt (by decide : (2 : Int32) < (3 : Int32))).2.1) ?_
      refine gx (XS.aloadN X63.here hx rfl (hb hby d18_14) rfl rfl) ?_
      refine gx (XS.iloadN X63.here hx rfl (hb hby d18_15) rfl) ?_
      exact own_pt_own_rmNMR_93 l Z a0 hw ws x0 aV kV a1 a2 a3 aE w1 w2 w3 v1 v2 v3 q1 q2 q3 bv kb ds cs h0 n0 Z0 hPm Bd hml0 hh hZ av1 T63 _  T1.heap X63 hp63 N63 Zk1  F5 F6 F7 F18 F19 F20 F21 F22 F23 F24 F25 F26 F27 Va1 hc32 hc64 Kc1

theorem own_pd_pLjavallanglStringsqLjavalutillOptionals : parseMethodDescriptor "(Ljava/lang/String;)Ljava/util/Optional;" = some ⟨[(.object "java/lang/String")], some (.object "java/util/Optional")⟩ := by decide +kernel
theorem own_pd_paCIqLjavallanglStrings : parseMethodDescriptor "([CI)Ljava/lang/String;" = some ⟨[(.array .char), .int], some (.object "java/lang/String")⟩ := by decide +kernel
theorem own_pd_pLjavallanglStringsIqC : parseMethodDescriptor "(Ljava/lang/String;I)C" = some ⟨[(.object "java/lang/String"), .int], some .char⟩ := by decide +kernel
theorem own_pn_0 : plainName "com/example/polgen/polgen/model/MultiplicityNamedPinLaw" = true := by first | (simp [plainName, overriddenIn]; done) | decide +kernel
theorem own_ef_own_rm0 (m : MethodId) (x0 : Int32) (x1 : Int32) (x2 : Int32) (x3 : Int64) : entryFrame m #[(.int x0), (.int x1), (.int x2), (.long x3)] maxLocals = mkF m 0 #[.val (.int x0), .val (.int x1), .val (.int x2), .val (.long x3), .second, .unset, .unset, .unset, .unset, .unset, .unset, .unset, .unset, .unset] [] := by first | (simp [entryFrame, mkF, argsToLocals, Value.category, maxLocals]; done) | rfl
def own_Q_own_rm0 (Z : State) (x0 : Int32) (x1 : Int32) (x2 : Int32) (x3 : Int64) (aV : Addr) (kV : ClassId) (a1 : Addr) (a2 : Addr) (a3 : Addr) (aE : Addr) (w1 : Addr) (w2 : Addr) (w3 : Addr) (v1 : Addr) (v2 : Addr) (v3 : Addr) (q1 : ClassId) (q2 : ClassId) (q3 : ClassId) (cs : Int32) (fm : Value) (h0 : Heap) (n0 : Nat) (v : Option Value) (h : Heap) (L : List Loc) : Prop := v = some (.int (1 : Int32)) ∧ Fr n0 L
def own_P_own_rm0 (Z : State) (a0 : Array Value) (x0 : Int32) (x1 : Int32) (x2 : Int32) (x3 : Int64) (aV : Addr) (kV : ClassId) (a1 : Addr) (a2 : Addr) (a3 : Addr) (aE : Addr) (w1 : Addr) (w2 : Addr) (w3 : Addr) (v1 : Addr) (v2 : Addr) (v3 : Addr) (q1 : ClassId) (q2 : ClassId) (q3 : ClassId) (cs : Int32) (fm : Value) (h0 : Heap) (n0 : Nat) : Prop := (Old Z n0 h0) ∧ (CHv Z own_EL Z.vm Z.heap) ∧ (Sta Z Z.heap "com/example/polgen/polgen/model/Multiplicity" "ONE" "Lcom/example/polgen/polgen/model/Multiplicity;" (.ref a1)) ∧ (Sta Z Z.heap "com/example/polgen/polgen/model/Multiplicity" "OPTIONAL" "Lcom/example/polgen/polgen/model/Multiplicity;" (.ref a2)) ∧ (Sta Z Z.heap "com/example/polgen/polgen/model/Multiplicity" "MANY" "Lcom/example/polgen/polgen/model/Multiplicity;" (.ref a3)) ∧ (Exa Z Z.heap a1 "com/example/polgen/polgen/model/Multiplicity") ∧ (Exa Z Z.heap a2 "com/example/polgen/polgen/model/Multiplicity") ∧ (Exa Z Z.heap a3 "com/example/polgen/polgen/model/Multiplicity") ∧ (Sta Z Z.heap "com/example/polgen/polgen/model/Multiplicity" "$VALUES" "[Lcom/example/polgen/polgen/model/Multiplicity;" (.ref aV)) ∧ (Arv Z Z.heap aV kV (.object "com/example/polgen/polgen/model/Multiplicity") (3 : Int32) [(.ref a1), (.ref a2), (.ref a3)] .null) ∧ (Exa Z Z.heap aV "[Lcom/example/polgen/polgen/model/Multiplicity;") ∧ (Sta Z Z.heap "java/util/Optional" "EMPTY" "Ljava/util/Optional;" (.ref aE)) ∧ (Exa Z Z.heap aE "java/util/Optional") ∧ (Fld Z Z.heap aE "java/util/Optional" "value" "Ljava/lang/Object;" .null) ∧ (Fld Z Z.heap a1 "com/example/polgen/polgen/model/Multiplicity" "word" "Ljava/lang/String;" (.ref w1)) ∧ (Exa Z Z.heap w1 "java/lang/String") ∧ (Fld Z Z.heap w1 "java/lang/String" "coder" "B" (.int (0 : Int32))) ∧ (Fld Z Z.heap w1 "java/lang/String" "value" "[B" (.ref v1)) ∧ (Arv Z Z.heap v1 q1 .byte (3 : Int32) [(.int (111 : Int32)), (.int (110 : Int32)), (.int (101 : Int32))] (.int (0 : Int32))) ∧ (Fld Z Z.heap a2 "com/example/polgen/polgen/model/Multiplicity" "word" "Ljava/lang/String;" (.ref w2)) ∧ (Exa Z Z.heap w2 "java/lang/String") ∧ (Fld Z Z.heap w2 "java/lang/String" "coder" "B" (.int (0 : Int32))) ∧ (Fld Z Z.heap w2 "java/lang/String" "value" "[B" (.ref v2)) ∧ (Arv Z Z.heap v2 q2 .byte (8 : Int32) [(.int (111 : Int32)), (.int (112 : Int32)), (.int (116 : Int32)), (.int (105 : Int32)), (.int (111 : Int32)), (.int (110 : Int32)), (.int (97 : Int32)), (.int (108 : Int32))] (.int (0 : Int32))) ∧ (Fld Z Z.heap a3 "com/example/polgen/polgen/model/Multiplicity" "word" "Ljava/lang/String;" (.ref w3)) ∧ (Exa Z Z.heap w3 "java/lang/String") ∧ (Fld Z Z.heap w3 "java/lang/String" "coder" "B" (.int (0 : Int32))) ∧ (Fld Z Z.heap w3 "java/lang/String" "value" "[B" (.ref v3)) ∧ (Arv Z Z.heap v3 q3 .byte (4 : Int32) [(.int (109 : Int32)), (.int (97 : Int32)), (.int (110 : Int32)), (.int (121 : Int32))] (.int (0 : Int32))) ∧ (Sta Z Z.heap "java/lang/String" "COMPACT_STRINGS" "Z" (.int cs)) ∧ (¬ (cs = (0 : Int32))) ∧ (Sta Z Z.heap "jdk/internal/util/Preconditions" "SIOOBE_FORMATTER" "Ljava/util/function/BiFunction;" fm) ∧ (fm.isRef = true)
set_option maxRecDepth 65536 in
set_option maxHeartbeats 40000000 in
theorem own_pt_own_rm0_72 (l : Launch) (Z : State) (a0 : Array Value) (hw : ∀ d ∈ tables_1, d.before a0 Z = true) (ws : List Jvm.Cond) (x0 : Int32) (x1 : Int32) (x2 : Int32) (x3 : Int64) (aV : Addr) (kV : ClassId) (a1 : Addr) (a2 : Addr) (a3 : Addr) (aE : Addr) (w1 : Addr) (w2 : Addr) (w3 : Addr) (v1 : Addr) (v2 : Addr) (v3 : Addr) (q1 : ClassId) (q2 : ClassId) (q3 : ClassId) (cs : Int32) (fm : Value) (h0 : Heap) (n0 : Nat) (Z0 : n0 ≤ h0.size) (hPm : own_P_own_rm0 Z a0 x0 x1 x2 x3 aV kV a1 a2 a3 aE w1 w2 w3 v1 v2 v3 q1 q2 q3 cs fm h0 n0)
    {p : Program} {e : Env} {s : State} {m : MethodId} {below : List Frame} {meth : Method} {c : Code} {s₁ : State} (Bd : BodyLoose p l x (head1 (Jvm.Cond.code x code maxLocals ret :: ws) room_1) code maxLocals ret e s m #[(.int x0), (.int x1), (.int x2), (.long x3)] below meth c s₁) (hml0 : c.maxLocals = maxLocals) (hh : s.heap = h0) 
    (b1 : Addr)
    (Tpt : State) (lpt : List Loc) (vmpt : Vm) (hZ : Z.Warmed39 vmpt) (hown : vmpt.findClass "com/example/polgen/polgen/model/MultiplicityNamedPinLaw" = some m.cls) (hpt : Heap)
    (Xpt : Stand p l e room_1 (s.setVm vmpt) m #[(.int x0), (.int x1), (.int x2), (.long x3)] below meth c Tpt lpt 1 9) (Ept : Tpt.heap = hpt) (Npt : Fr n0 lpt) (Zpt : n0 ≤ hpt.size) (kpt : Nat) (hSpt : s.Since vmpt kpt) (hkpt : kpt ≤ hpt.size) (Rpt : CHr Z own_EL s.vm h0 vmpt hpt)
    (Old72 : Old Z n0 hpt)
    (Ph72_15 : (x0 &&& (3 : Int32)) = (3 : Int32))
    (Ph72_16 : (((x0.toUInt32 >>> ((2 : Int32) &&& 31).toUInt32).toInt32) % (11 : Int32)) = (10 : Int32))
    : Goes p.tables e below (Tpt.setTop (mkF m 396 #[.val (.int x0), .val (.int x1), .val (.int x2), .val (.long x3), .second, .val (.int (x0 &&& (3 : Int32))), .val (.int ((x0.toUInt32 >>> ((2 : Int32) &&& 31).toUInt32).toInt32)), .val (.int ((x2 &&& (255 : Int32)).toUInt32.toUInt16.toUInt32.toInt32)), .val (.ref b1), .val (.int (0 : Int32)), .val (.int (1 : Int32)), .val (.int (((x0.toUInt32 >>> ((2 : Int32) &&& 31).toUInt32).toInt32) % (11 : Int32))), .unset, .unset] [.null])) (own_RW below s (own_Q_own_rm0 Z x0 x1 x2 x3 aV kV a1 a2 a3 aE w1 w2 w3 v1 v2 v3 q1 q2 q3 cs fm h0 n0) 17 147) := by
  obtain ⟨O0, hCH0, S1, S2, S3, E1, E2, E3, SV, VV, EV, SE, EE, FE, Fw1, Ew1, Cw1, Vw1, Aw1, Fw2, Ew2, Cw2, Vw2, Aw2, Fw3, Ew3, Cw3, Vw3, Aw3, SC, hcs, SF, hfm⟩ := id hPm
  have hx := Bd.exec
  have hby := Bd.bytes
  have hml : c.maxLocals = 14 := hml0
  have hnm := (name_of_methodNamed Bd.named Bd.method).1
  have own_wS' : ∀ a ∈ Bundle.stringAtoms, a.before a0 Z = true := own_wS hw
  have hEL := own_EW hw
  refine gx (XS.astore Xpt.here hx rfl (hb hby at_396) rfl rfl (l' := #[.val (.int x0), .val (.int x1), .val (.int x2), .val (.long x3), .second, .val (.int (x0 &&& (3 : Int32))), .val (.int ((x0.toUInt32 >>> ((2 : Int32) &&& 31).toUInt32).toInt32)), .val (.int ((x2 &&& (255 : Int32)).toUInt32.toUInt16.toUInt32.toInt32)), .val (.ref b1), .val (.int (0 : Int32)), .val (.int (1 : Int32)), .val .null, .unset, .unset]) rfl) ?_
  refine gx (XS.aconstNull Xpt.here hx rfl (hb hby at_398)) ?_
  refine gx (XS.astore Xpt.here hx rfl (hb hby at_399) rfl rfl (l' := #[.val (.int x0), .val (.int x1), .val (.int x2), .val (.long x3), .second, .val (.int (x0 &&& (3 : Int32))), .val (.int ((x0.toUInt32 >>> ((2 : Int32) &&& 31).toUInt32).toInt32)), .val (.int ((x2 &&& (255 : Int32)).toUInt32.toUInt16.toUInt32.toInt32)), .val (.ref b1), .val (.int (0 : Int32)), .val (.int (1 : Int32)), .val .null, .val .null, .unset]) rfl) ?_
  obtain ⟨a73, T73, h73, kk73, b73, k73, X73, e73, E73, hS73, hk73, hZ73, hown73, A73, C73, V73, W73, la73, lb73, Rr73, Lt73, Ns73, st73⟩ := ldcCH (s := s) Xpt hx hZ hown (own_hw hw 1 rfl) own_wS' Ept hSpt hkpt hEL (by decide) Rpt.1 (vs := [(.int (111 : Int32)), (.int (110 : Int32)), (.int (101 : Int32))]) (z := (3 : Int32)) (own_txt _ _ (by decide) rfl) (by decide) rfl (g := (mkF m 401 #[.val (.int x0), .val (.int x1), .val (.int x2), .val (.long x3), .second, .val (.int (x0 &&& (3 : Int32))), .val (.int ((x0.toUInt32 >>> ((2 : Int32) &&& 31).toUInt32).toInt32)), .val (.int ((x2 &&& (255 : Int32)).toUInt32.toUInt16.toUInt32.toInt32)), .val (.ref b1), .val (.int (0 : Int32)), .val (.int (1 : Int32)), .val .null, .val .null, .unset] [])) rfl (hb hby at_401) (n := 12) (by decide) (by decide) (by decide) (by decide)
  subst e73
  have O75 := Old72.ext E73
  have R73 := Rpt.trans Rr73
  have hZ := hZ73
  have hown := hown73
  have Z73 : n0 ≤ T73.heap.size := Nat.le_trans Zpt E73.1
  refine Goes.to st73 ?_
  refine gx (XS.aload X73.here hx rfl (hb hby at_403) rfl rfl) ?_
  obtain ⟨cq77, kq77, q77a, q77b, q77c⟩ := isOf hZ rfl A73
  obtain ⟨_, _, ⟨T77, L77, k77, n77⟩, -, X77, ⟨Lc77, hQ77, l77, y77, z77⟩, st77⟩ := X73.virtualBack hx (y := own_n13) (z := own_n13) hown (mvT hZ (own_hw hw 72 rfl)) (mvT hZ (own_hw hw 73 rfl)) (notFace_of_selects (args := #[]) (mvT hZ (own_hw hw 75 rfl))) (mvT hZ (own_hw hw 75 rfl)) (mvT hZ (own_hw hw 74 rfl)) (by decide) (backOf (W := 0) (own_rmEQN l Z a0 hw [] a73 T73.heap n0 Z73 ) hZ (own_hw hw 76 rfl) (own_hw hw 2 rfl) (by decide) (by decide)) q77a q77c (g := (mkF m 405 #[.val (.int x0), .val (.int x1), .val (.int x2), .val (.long x3), .second, .val (.int (x0 &&& (3 : Int32))), .val (.int ((x0.toUInt32 >>> ((2 : Int32) &&& 31).toUInt32).toInt32)), .val (.int ((x2 &&& (255 : Int32)).toUInt32.toUInt16.toUInt32.toInt32)), .val (.ref b1), .val (.int (0 : Int32)), .val (.int (1 : Int32)), .val .null, .val .null, .unset] [.null, (.ref a73)])) rfl (by rw [hml]; rfl) (Steps.refl _) (argsL := [.null]) (rest := []) (lenOf own_pd_pLjavallanglObjectsqZ rfl) rfl (own_W rfl rfl) (hb hby at_405) (fun _ _ => ⟨rfl, rfl, (by decide : 3 + 0 ≤ _), (by decide : 25 + 0 ≤ _)⟩)
  dsimp only [Pt.U, Pt.locs, Pt.cells, Pt.slots] at X77 l77 y77 z77 st77 hQ77
  subst l77 y77 z77
  obtain ⟨hv77, Nq77, hp77_0⟩ := hQ77
  have N77 := Fr.app Npt Nq77
  subst hv77
  refine Goes.tr st77 ?_
  refine gx (XS.ifYes X77.here hx rfl (pc0 := 408) (pc' := 419) rfl (hb hby at_408) rfl ((if0 _ _).trans (teq (by decide : (0 : Int32) = (0 : Int32))).1) (by decide) (by decide)) ?_
  obtain ⟨a78, T78, h78, kk78, b78, k78, X78, e78, E78, hS78, hk78, hZ78, hown78, A78, C78, V78, W78, la78, lb78, Rr78, Lt78, Ns78, st78⟩ := ldcCH (s := s) X77 hx hZ hown (own_hw hw 132 rfl) own_wS' hp77_0 hS73 hk73 hEL (by decide) R73.1 (vs := [(.int (111 : Int32)), (.int (112 : Int32)), (.int (116 : Int32)), (.int (105 : Int32)), (.int (111 : Int32)), (.int (110 : Int32)), (.int (97 : Int32)), (.int (108 : Int32))]) (z := (8 : Int32)) (own_txt _ _ (by decide) rfl) (by decide) rfl (g := (mkF m 419 #[.val (.int x0), .val (.int x1), .val (.int x2), .val (.long x3), .second, .val (.int (x0 &&& (3 : Int32))), .val (.int ((x0.toUInt32 >>> ((2 : Int32) &&& 31).toUInt32).toInt32)), .val (.int ((x2 &&& (255 : Int32)).toUInt32.toUInt16.toUInt32.toInt32)), .val (.ref b1), .val (.int (0 : Int32)), .val (.int (1 : Int32)), .val .null, .val .null, .unset] [])) rfl (hb hby at_419) (n := 32) (by decide) (by decide) (by decide) (by decide)
  subst e78
  have O80 := O75.ext E78
  have R78 := R73.trans Rr78
  have hZ := hZ78
  have hown := hown78
  have Z78 : n0 ≤ T78.heap.size := Nat.le_trans Z73 E78.1
  refine Goes.to st78 ?_
  refine gx (XS.aload X78.here hx rfl (hb hby at_421) rfl rfl) ?_
  obtain ⟨cq86, kq86, q86a, q86b, q86c⟩ := isOf hZ rfl A78
  obtain ⟨_, _, ⟨T86, L86, k86, n86⟩, -, X86, ⟨Lc86, hQ86, l86, y86, z86⟩, st86⟩ := X78.virtualBack hx (y := own_n13) (z := own_n13) hown (mvT hZ (own_hw hw 72 rfl)) (mvT hZ (own_hw hw 73 rfl)) (notFace_of_selects (args := #[]) (mvT hZ (own_hw hw 75 rfl))) (mvT hZ (own_hw hw 75 rfl)) (mvT hZ (own_hw hw 74 rfl)) (by decide) (backOf (W := 0) (own_rmEQN l Z a0 hw [] a78 T78.heap n0 Z78 ) hZ (own_hw hw 76 rfl) (own_hw hw 2 rfl) (by decide) (by decide)) q86a q86c (g := (mkF m 423 #[.val (.int x0), .val (.int x1), .val (.int x2), .val (.long x3), .second, .val (.int (x0 &&& (3 : Int32))), .val (.int ((x0.toUInt32 >>> ((2 : Int32) &&& 31).toUInt32).toInt32)), .val (.int ((x2 &&& (255 : Int32)).toUInt32.toUInt16.toUInt32.toInt32)), .val (.ref b1), .val (.int (0 : Int32)), .val (.int (1 : Int32)), .val .null, .val .null, .unset] [.null, (.ref a78)])) rfl (by rw [hml]; rfl) (Steps.refl _) (argsL := [.null]) (rest := []) (lenOf own_pd_pLjavallanglObjectsqZ rfl) rfl (own_W rfl rfl) (hb hby at_423) (fun _ _ => ⟨rfl, rfl, (by decide : 5 + 0 ≤ _), (by decide : 61 + 0 ≤ _)⟩)
  dsimp only [Pt.U, Pt.locs, Pt.cells, Pt.slots] at X86 l86 y86 z86 st86 hQ86
  subst l86 y86 z86
  obtain ⟨hv86, Nq86, hp86_0⟩ := hQ86
  have N86 := Fr.app N77 Nq86
  subst hv86
  refine Goes.tr st86 ?_
  refine gx (XS.ifYes X86.here hx rfl (pc0 := 426) (pc' := 437) rfl (hb hby at_426) rfl ((if0 _ _).trans (teq (by decide : (0 : Int32) = (0 : Int32))).1) (by decide) (by decide)) ?_
  obtain ⟨a87, T87, h87, kk87, b87, k87, X87, e87, E87, hS87, hk87, hZ87, hown87, A87, C87, V87, W87, la87, lb87, Rr87, Lt87, Ns87, st87⟩ := ldcCH (s := s) X86 hx hZ hown (own_hw hw 133 rfl) own_wS' hp86_0 hS78 hk78 hEL (by decide) R78.1 (vs := [(.int (109 : Int32)), (.int (97 : Int32)), (.int (110 : Int32)), (.int (121 : Int32))]) (z := (4 : Int32)) (own_txt _ _ (by decide) rfl) (by decide) rfl (g := (mkF m 437 #[.val (.int x0), .val (.int x1), .val (.int x2), .val (.long x3), .second, .val (.int (x0 &&& (3 : Int32))), .val (.int ((x0.toUInt32 >>> ((2 : Int32) &&& 31).toUInt32).toInt32)), .val (.int ((x2 &&& (255 : Int32)).toUInt32.toUInt16.toUInt32.toInt32)), .val (.ref b1), .val (.int (0 : Int32)), .val (.int (1 : Int32)), .val .null, .val .null, .unset] [])) rfl (hb hby at_437) (n := 16) (by decide) (by decide) (by decide) (by decide)
  subst e87
  have O89 := O80.ext E87
  have hZ := hZ87
  have hown := hown87
  have Z87 : n0 ≤ T87.heap.size := Nat.le_trans Z78 E87.1
  refine Goes.to st87 ?_
  refine gx (XS.aload X87.here hx rfl (hb hby at_439) rfl rfl) ?_
  obtain ⟨cq99, kq99, q99a, q99b, q99c⟩ := isOf hZ rfl A87
  obtain ⟨_, _, ⟨T99, L99, k99, n99⟩, -, X99, ⟨Lc99, hQ99, l99, y99, z99⟩, st99⟩ := X87.virtualBack hx (y := own_n13) (z := own_n13) hown (mvT hZ (own_hw hw 72 rfl)) (mvT hZ (own_hw hw 73 rfl)) (notFace_of_selects (args := #[]) (mvT hZ (own_hw hw 75 rfl))) (mvT hZ (own_hw hw 75 rfl)) (mvT hZ (own_hw hw 74 rfl)) (by decide) (backOf (W := 0) (own_rmEQN l Z a0 hw [] a87 T87.heap n0 Z87 ) hZ (own_hw hw 76 rfl) (own_hw hw 2 rfl) (by decide) (by decide)) q99a q99c (g := (mkF m 441 #[.val (.int x0), .val (.int x1), .val (.int x2), .val (.long x3), .second, .val (.int (x0 &&& (3 : Int32))), .val (.int ((x0.toUInt32 >>> ((2 : Int32) &&& 31).toUInt32).toInt32)), .val (.int ((x2 &&& (255 : Int32)).toUInt32.toUInt16.toUInt32.toInt32)), .val (.ref b1), .val (.int (0 : Int32)), .val (.int (1 : Int32)), .val .null, .val .null, .unset] [.null, (.ref a87)])) rfl (by rw [hml]; rfl) (Steps.refl _) (argsL := [.null]) (rest := []) (lenOf own_pd_pLjavallanglObjectsqZ rfl) rfl (own_W rfl rfl) (hb hby at_441) (fun _ _ => ⟨rfl, rfl, (by decide : 7 + 0 ≤ _), (by decide : 81 + 0 ≤ _)⟩)
  dsimp only [Pt.U, Pt.locs, Pt.cells, Pt.slots] at X99 l99 y99 z99 st99 hQ99
  subst l99 y99 z99
  obtain ⟨hv99, Nq99, hp99_0⟩ := hQ99
  have N99 := Fr.app N86 Nq99
  subst hv99
  refine Goes.tr st99 ?_
  refine gx (XS.ifYes X99.here hx rfl (pc0 := 444) (pc' := 452) rfl (hb hby at_444) rfl ((if0 _ _).trans (teq (by decide : (0 : Int32) = (0 : Int32))).1) (by decide) (by decide)) ?_
  refine gx (XS.aload X99.here hx rfl (hb hby at_452) rfl rfl) ?_
  obtain ⟨_, _, ⟨T100, L100, k100, n100⟩, -, X100, ⟨Lc100, hQ100, l100, y100, z100⟩, st100⟩ := Jvm.LawKit.callS X99 hx (y := own_n18) hown (mvT hZ (own_hw hw 84 rfl)) (mvT hZ (own_hw hw 85 rfl)) (mvT hZ (own_hw hw 82 rfl)) (mvT hZ (own_hw hw 86 rfl)) (by decide) (backOf (W := 0) (own_rmNMN l Z a0 hw [] aV kV a1 a2 a3 aE w1 w2 w3 v1 v2 v3 q1 q2 q3 T87.heap n0 Z87 (SV.ext O89.2) (VV.ext O89.2) (EV.ext O89.2) (SE.ext O89.2) (EE.ext O89.2) (FE.ext O89.2) (Fw1.ext O89.2) (Ew1.ext O89.2) (Cw1.ext O89.2) (Vw1.ext O89.2) (Aw1.ext O89.2) (Fw2.ext O89.2) (Ew2.ext O89.2) (Cw2.ext O89.2) (Vw2.ext O89.2) (Aw2.ext O89.2) (Fw3.ext O89.2) (Ew3.ext O89.2) (Cw3.ext O89.2) (Vw3.ext O89.2) (Aw3.ext O89.2)) hZ (own_hw hw 86 rfl) (own_hw hw 82 rfl) (by decide) (by decide)) (g := (mkF m 454 #[.val (.int x0), .val (.int x1), .val (.int x2), .val (.long x3), .second, .val (.int (x0 &&& (3 : Int32))), .val (.int ((x0.toUInt32 >>> ((2 : Int32) &&& 31).toUInt32).toInt32)), .val (.int ((x2 &&& (255 : Int32)).toUInt32.toUInt16.toUInt32.toInt32)), .val (.ref b1), .val (.int (0 : Int32)), .val (.int (1 : Int32)), .val .null, .val .null, .unset] [.null])) rfl (by rw [hml]; rfl) (argsL := [.null]) (rest := []) (lenOf own_pd_pLjavallanglStringsqLjavalutillOptionals rfl) rfl (own_W rfl rfl) (hb hby at_454) (fun _ _ => ⟨rfl, hp99_0, (by decide : 7 + 1 ≤ _), (by decide : 81 + 3 ≤ _)⟩)
  dsimp only [Pt.U, Pt.locs, Pt.cells, Pt.slots] at X100 l100 y100 z100 st100 hQ100
  subst l100 y100 z100
  obtain ⟨op100, hv100, Nq100, K100, Eo100, Fo100⟩ := hQ100
  subst hv100
  have N100 := Fr.app N99 Nq100
  have hk103 := Nat.le_trans hk87 K100.1
  have Zk100 : n0 ≤ T100.heap.size := Nat.le_trans Z87 K100.1
  refine Goes.to st100 ?_
  refine gx (XS.aconstNull X100.here hx rfl (hb hby at_457)) ?_
  obtain ⟨cq118, kq118, q118a, q118b, q118c⟩ := isOf hZ rfl Eo100
  obtain ⟨_, _, ⟨T118, L118, k118, n118⟩, -, X118, ⟨Lc118, hQ118, l118, y118, z118⟩, st118⟩ := X100.virtualBack hx (y := own_n12) (z := own_n12) hown (mvT hZ (own_hw hw 124 rfl)) (mvT hZ (own_hw hw 125 rfl)) (notFace_of_selects (args := #[]) (mvT hZ (own_hw hw 127 rfl))) (mvT hZ (own_hw hw 127 rfl)) (mvT hZ (own_hw hw 126 rfl)) (by decide) (backOf (W := 0) (own_rmOEN l Z a0 hw [] op100 T100.heap n0 Zk100 Fo100) hZ (own_hw hw 128 rfl) (own_hw hw 109 rfl) (by decide) (by decide)) q118a q118c (g := (mkF m 458 #[.val (.int x0), .val (.int x1), .val (.int x2), .val (.long x3), .second, .val (.int (x0 &&& (3 : Int32))), .val (.int ((x0.toUInt32 >>> ((2 : Int32) &&& 31).toUInt32).toInt32)), .val (.int ((x2 &&& (255 : Int32)).toUInt32.toUInt16.toUInt32.toInt32)), .val (.ref b1), .val (.int (0 : Int32)), .val (.int (1 : Int32)), .val .null, .val .null, .unset] [.null, (.ref op100)])) rfl (by rw [hml]; rfl) (Steps.refl _) (argsL := [.null]) (rest := []) (lenOf own_pd_pLjavallanglObjectsqLjavallanglObjects rfl) rfl (own_W rfl rfl) (hb hby at_458) (fun _ _ => ⟨rfl, rfl, (by decide : 8 + 0 ≤ _), (by decide : 84 + 0 ≤ _)⟩)
  dsimp only [Pt.U, Pt.locs, Pt.cells, Pt.slots] at X118 l118 y118 z118 st118 hQ118
  subst l118 y118 z118
  obtain ⟨hv118, Nq118, hp118_0⟩ := hQ118
  have N118 := Fr.app N100 Nq118
  subst hv118
  refine Goes.tr st118 ?_
  refine gx (X118.checkcastNull hx (g := (mkF m 461 #[.val (.int x0), .val (.int x1), .val (.int x2), .val (.long x3), .second, .val (.int (x0 &&& (3 : Int32))), .val (.int ((x0.toUInt32 >>> ((2 : Int32) &&& 31).toUInt32).toInt32)), .val (.int ((x2 &&& (255 : Int32)).toUInt32.toUInt16.toUInt32.toInt32)), .val (.ref b1), .val (.int (0 : Int32)), .val (.int (1 : Int32)), .val .null, .val .null, .unset] [.null])) rfl rfl (hb hby at_461) _) ?_
  refine gx (XS.astore X118.here hx rfl (hb hby at_464) rfl rfl (l' := #[.val (.int x0), .val (.int x1), .val (.int x2), .val (.long x3), .second, .val (.int (x0 &&& (3 : Int32))), .val (.int ((x0.toUInt32 >>> ((2 : Int32) &&& 31).toUInt32).toInt32)), .val (.int ((x2 &&& (255 : Int32)).toUInt32.toUInt16.toUInt32.toInt32)), .val (.ref b1), .val (.int (0 : Int32)), .val (.int (1 : Int32)), .val .null, .val .null, .val .null]) rfl) ?_
  refine gx (XS.aload X118.here hx rfl (hb hby at_466) rfl rfl) ?_
  refine gx (XS.aload X118.here hx rfl (hb hby at_468) rfl rfl) ?_
  refine gx (Jvm.RoadKit.acmp (g := (mkF m 470 #[.val (.int x0), .val (.int x1), .val (.int x2), .val (.long x3), .second, .val (.int (x0 &&& (3 : Int32))), .val (.int ((x0.toUInt32 >>> ((2 : Int32) &&& 31).toUInt32).toInt32)), .val (.int ((x2 &&& (255 : Int32)).toUInt32.toUInt16.toUInt32.toInt32)), .val (.ref b1), .val (.int (0 : Int32)), .val (.int (1 : Int32)), .val .null, .val .null, .val .null] [.null, .null])) X118 hx rfl rfl rfl (pc0 := 470) (pc' := 473) (same := true) rfl (hb hby at_470) rfl (decide_eq_true rfl) (by decide) (by decide)) ?_
  refine gx (XS.iconst X118.here hx rfl (hb hby at_473)) ?_
  refine gx (XS.goto X118.here hx rfl (pc0 := 474) (pc' := 478) rfl (hb hby at_474) (by decide) (by decide)) ?_
  show Goes p.tables e below (T118.setTop (mkF m 478 #[.val (.int x0), .val (.int x1), .val (.int x2), .val (.long x3), .second, .val (.int (x0 &&& (3 : Int32))), .val (.int ((x0.toUInt32 >>> ((2 : Int32) &&& 31).toUInt32).toInt32)), .val (.int ((x2 &&& (255 : Int32)).toUInt32.toUInt16.toUInt32.toInt32)), .val (.ref b1), .val (.int (0 : Int32)), .val (.int (1 : Int32)), .val .null, .val .null, .val .null] [(.int (1 : Int32))])) _
  have hkl := Nat.le_trans hk103 (Nat.le_of_eq (congrArg Array.size (hp118_0).symm))
  obtain ⟨fs, hr, hrun, hended, hEnd⟩ := X118.leaveW (s := s) hS87 hkl (v := some (.int (1 : Int32))) (fun h => by rw [Bd.returns] at h; cases h)
  have hv : (some (.int (1 : Int32)) : Option Value) = some (.int (1 : Int32)) := by
    rfl
  exact ⟨_, _, retN X118 hx (t := .boolean) Bd.returns (by simp) (hb hby at_478) hr, hrun, hended, _, _, rfl, ⟨hv, N118⟩, hEnd.1, hEnd.2.1, hEnd.2.2.1, hEnd.2.2.2.mono (by decide) (by decide)⟩
set_option maxRecDepth 65536 in
set_option maxHeartbeats 40000000 in
theorem own_pt_own_rm0_119 (l : Launch) (Z : State) (a0 : Array Value) (hw : ∀ d ∈ tables_1, d.before a0 Z = true) (ws : List Jvm.Cond) (x0 : Int32) (x1 : Int32) (x2 : Int32) (x3 : Int64) (aV : Addr) (kV : ClassId) (a1 : Addr) (a2 : Addr) (a3 : Addr) (aE : Addr) (w1 : Addr) (w2 : Addr) (w3 : Addr) (v1 : Addr) (v2 : Addr) (v3 : Addr) (q1 : ClassId) (q2 : ClassId) (q3 : ClassId) (cs : Int32) (fm : Value) (h0 : Heap) (n0 : Nat) (Z0 : n0 ≤ h0.size) (hPm : own_P_own_rm0 Z a0 x0 x1 x2 x3 aV kV a1 a2 a3 aE w1 w2 w3 v1 v2 v3 q1 q2 q3 cs fm h0 n0)
    {p : Program} {e : Env} {s : State} {m : MethodId} {below : List Frame} {meth : Method} {c : Code} {s₁ : State} (Bd : BodyLoose p l x (head1 (Jvm.Cond.code x code maxLocals ret :: ws) room_1) code maxLocals ret e s m #[(.int x0), (.int x1), (.int x2), (.long x3)] below meth c s₁) (hml0 : c.maxLocals = maxLocals) (hh : s.heap = h0) 
    (arr : Addr) (karr : ClassId) (lsv : List Int32) (nn : Int32) (u5 : Slot) (u6 : Slot) (u7 : Slot) (u11 : Int32)
    (Tpt : State) (lpt : List Loc) (vmpt : Vm) (hZ : Z.Warmed39 vmpt) (hown : vmpt.findClass "com/example/polgen/polgen/model/MultiplicityNamedPinLaw" = some m.cls) (hpt : Heap)
    (Xpt : Stand p l e room_1 (s.setVm vmpt) m #[(.int x0), (.int x1), (.int x2), (.long x3)] below meth c Tpt lpt 3 49) (Ept : Tpt.heap = hpt) (Npt : Fr n0 lpt) (Zpt : n0 ≤ hpt.size) (kpt : Nat) (hSpt : s.Since vmpt kpt) (hkpt : kpt ≤ hpt.size) (Rpt : CHr Z own_EL s.vm h0 vmpt hpt)
    (Pf119_0 : Arv Z hpt arr karr .char (9 : Int32) (lsv.map Value.int) (.int (0 : Int32)))
    (Old119 : Old Z n0 hpt)
    (hlsv : ∀ c ∈ lsv, P8 c)
    : Goes p.tables e below (Tpt.setTop (mkF m 389 #[.val (.int x0), .val (.int x1), .val (.int x2), .val (.long x3), .second, u5, u6, u7, .val (.ref arr), .val (.int nn), .val (.int (0 : Int32)), .val (.int u11), .unset, .unset] [])) (own_RW below s (own_Q_own_rm0 Z x0 x1 x2 x3 aV kV a1 a2 a3 aE w1 w2 w3 v1 v2 v3 q1 q2 q3 cs fm h0 n0) 17 147) := by
  obtain ⟨O0, hCH0, S1, S2, S3, E1, E2, E3, SV, VV, EV, SE, EE, FE, Fw1, Ew1, Cw1, Vw1, Aw1, Fw2, Ew2, Cw2, Vw2, Aw2, Fw3, Ew3, Cw3, Vw3, Aw3, SC, hcs, SF, hfm⟩ := id hPm
  have hx := Bd.exec
  have hby := Bd.bytes
  have hml : c.maxLocals = 14 := hml0
  have hnm := (name_of_methodNamed Bd.named Bd.method).1
  have own_wS' : ∀ a ∈ Bundle.stringAtoms, a.before a0 Z = true := own_wS hw
  have hEL := own_EW hw
  refine gx (XS.aload Xpt.here hx rfl (hb hby at_389) rfl rfl) ?_
  refine gx (XS.iload Xpt.here hx rfl (hb hby at_391) rfl) ?_
  obtain ⟨_, _, ⟨T120, L120, k120, n120⟩, -, X120, hSn120, hgr120, ⟨Lc120, hQ120, l120, y120, z120, Rr120⟩, st120⟩ := Jvm.RoadKit.callSS Xpt hx (y := own_n17) hown (mvT hZ (own_hw hw 48 rfl)) (mvT hZ (own_hw hw 49 rfl)) (mvT hZ (own_hw hw 24 rfl)) (mvT hZ (own_hw hw 50 rfl)) (by decide) (backOfSH (s := s) (vm0 := vmpt) (W := 0) (own_rm9 l Z a0 hw [] arr nn karr lsv cs hpt n0 Zpt Pf119_0 hlsv (SC.ext Old119.2) hcs) hZ (own_hw hw 50 rfl) (own_hw hw 24 rfl) (by decide) (by decide) hEL Rpt.1) (g := (mkF m 393 #[.val (.int x0), .val (.int x1), .val (.int x2), .val (.long x3), .second, u5, u6, u7, .val (.ref arr), .val (.int nn), .val (.int (0 : Int32)), .val (.int u11), .unset, .unset] [(.int nn), (.ref arr)])) rfl (by rw [hml]; rfl) (argsL := [(.ref arr), (.int nn)]) (rest := []) (lenOf own_pd_paCIqLjavallanglStrings rfl) rfl (own_W rfl rfl) (hb hby at_393) (fun _ _ => ⟨rfl, Ept, (by decide : 3 + 6 ≤ _), (by decide : 49 + 22 ≤ _)⟩)
  dsimp only [Pt.U, Pt.locs, Pt.cells, Pt.slots] at X120 hSn120 hgr120 l120 y120 z120 st120 hQ120 Rr120
  subst l120 y120 z120
  obtain ⟨X120, hS120, hZ120, hown120⟩ := rebS (s := s) hSpt hkpt X120 hSn120 (by rw [← Ept]; exact hgr120) hZ hown
  have R120 := Rpt.trans Rr120
  have hZ := hZ120
  have hown := hown120
  obtain ⟨sa120, bv120, kb120, cs120, hv120, Nq120, K120, Em120, Cm120, Vm120, Am120, ll120, hp8120⟩ := hQ120
  subst hv120
  have N120 := Fr.app Npt Nq120
  have O122 := Old119.keep K120 all0
  have Zk120 : n0 ≤ T120.heap.size := Nat.le_trans Zpt K120.1
  refine Goes.tr st120 ?_
  refine gx (XS.astore X120.here hx rfl (hb hby at_396) rfl rfl (l' := #[.val (.int x0), .val (.int x1), .val (.int x2), .val (.long x3), .second, u5, u6, u7, .val (.ref arr), .val (.int nn), .val (.int (0 : Int32)), .val (.ref sa120), .unset, .unset]) rfl) ?_
  refine gx (XS.aconstNull X120.here hx rfl (hb hby at_398)) ?_
  refine gx (XS.astore X120.here hx rfl (hb hby at_399) rfl rfl (l' := #[.val (.int x0), .val (.int x1), .val (.int x2), .val (.long x3), .second, u5, u6, u7, .val (.ref arr), .val (.int nn), .val (.int (0 : Int32)), .val (.ref sa120), .val .null, .unset]) rfl) ?_
  obtain ⟨a124, T124, h124, kk124, b124, k124, X124, e124, E124, hS124, hk124, hZ124, hown124, A124, C124, V124, W124, la124, lb124, Rr124, Lt124, Ns124, st124⟩ := ldcCH (s := s) X120 hx hZ hown (own_hw hw 1 rfl) own_wS' rfl hS120 (Nat.le_refl _) hEL (by decide) R120.1 (vs := [(.int (111 : Int32)), (.int (110 : Int32)), (.int (101 : Int32))]) (z := (3 : Int32)) (own_txt _ _ (by decide) rfl) (by decide) rfl (g := (mkF m 401 #[.val (.int x0), .val (.int x1), .val (.int x2), .val (.long x3), .second, u5, u6, u7, .val (.ref arr), .val (.int nn), .val (.int (0 : Int32)), .val (.ref sa120), .val .null, .unset] [])) rfl (hb hby at_401) (n := 12) (by decide) (by decide) (by decide) (by decide)
  subst e124
  have O126 := O122.ext E124
  have F128 := Em120.ext E124
  have F129 := Cm120.ext E124
  have F130 := Vm120.ext E124
  have F131 := Am120.ext E124
  have R124 := R120.trans Rr124
  have hZ := hZ124
  have hown := hown124
  have Z124 : n0 ≤ T124.heap.size := Nat.le_trans Zk120 E124.1
  refine Goes.to st124 ?_
  refine gx (XS.aload X124.here hx rfl (hb hby at_403) rfl rfl) ?_
  obtain ⟨cq132, kq132, q132a, q132b, q132c⟩ := isOf hZ rfl A124
  obtain ⟨_, _, ⟨T132, L132, k132, n132⟩, -, X132, ⟨Lc132, hQ132, l132, y132, z132⟩, st132⟩ := X124.virtualBack hx (y := own_n13) (z := own_n13) hown (mvT hZ (own_hw hw 72 rfl)) (mvT hZ (own_hw hw 73 rfl)) (notFace_of_selects (args := #[]) (mvT hZ (own_hw hw 75 rfl))) (mvT hZ (own_hw hw 75 rfl)) (mvT hZ (own_hw hw 74 rfl)) (by decide) (StrChars.Road.eqW (W := 0) hZ (own_hwEq hw) (own_hw hw 3 rfl) (cs := [(111 : Int32), (110 : Int32), (101 : Int32)]) A124 V124 C124 W124 own_cod_one (own_up own_p8_one) (by decide) (ds := cs120) F128 F130 F129 F131 (StrChars.Road.codOf rfl (fun c hc => (hp8120 c hc).2)) (own_up hp8120) (Nat.le_trans ll120 (by decide)) (SC.ext O126.2) hcs (by decide) (by decide)) q132a q132c (g := (mkF m 405 #[.val (.int x0), .val (.int x1), .val (.int x2), .val (.long x3), .second, u5, u6, u7, .val (.ref arr), .val (.int nn), .val (.int (0 : Int32)), .val (.ref sa120), .val .null, .unset] [(.ref sa120), (.ref a124)])) rfl (by rw [hml]; rfl) (Steps.refl _) (argsL := [(.ref sa120)]) (rest := []) (lenOf own_pd_pLjavallanglObjectsqZ rfl) rfl (own_W rfl rfl) (hb hby at_405) (fun _ _ => ⟨rfl, rfl, (by decide : 11 + 0 ≤ _), (by decide : 87 + 0 ≤ _)⟩)
  dsimp only [Pt.U, Pt.locs, Pt.cells, Pt.slots] at X132 l132 y132 z132 st132 hQ132
  subst l132 y132 z132
  obtain ⟨hor132, hL132, hp132⟩ := hQ132
  subst hL132
  have N132 := Fr.app N120 (Fr.nil n0)
  by_cases hc133 : [(111 : Int32), (110 : Int32), (101 : Int32)] = cs120
  · obtain ⟨hv132, -⟩ := hor132.resolve_right (fun q => q.2 hc133)
    subst hv132
    refine Goes.tr st132 ?_
    refine gx (XS.ifNo X132.here hx rfl (hb hby at_408) rfl ((if0 _ _).trans (feq (by decide : ¬ ((1 : Int32) = (0 : Int32)))).1)) ?_
    obtain ⟨T134, X134, e134, st134⟩ := getS2 X132 hx hZ hown (host := "") (Or.inl (own_hw hw 81 rfl)) Via.refl hp132 (S1.ext O126.2) (g := (mkF m 411 #[.val (.int x0), .val (.int x1), .val (.int x2), .val (.long x3), .second, u5, u6, u7, .val (.ref arr), .val (.int nn), .val (.int (0 : Int32)), .val (.ref sa120), .val .null, .unset] [])) rfl (hb hby at_411)
    refine Goes.to st134 ?_
    refine gx (XS.astore X134.here hx rfl (hb hby at_414) rfl rfl (l' := #[.val (.int x0), .val (.int x1), .val (.int x2), .val (.long x3), .second, u5, u6, u7, .val (.ref arr), .val (.int nn), .val (.int (0 : Int32)), .val (.ref sa120), .val (.ref a1), .unset]) rfl) ?_
    refine gx (XS.goto X134.here hx rfl (pc0 := 416) (pc' := 452) rfl (hb hby at_416) (by decide) (by decide)) ?_
    refine gx (XS.aload X134.here hx rfl (hb hby at_452) rfl rfl) ?_
    obtain ⟨_, _, ⟨T135, L135, k135, n135⟩, -, X135, ⟨Lc135, hQ135, l135, y135, z135⟩, st135⟩ := Jvm.LawKit.callS X134 hx (y := own_n18) hown (mvT hZ (own_hw hw 84 rfl)) (mvT hZ (own_hw hw 85 rfl)) (mvT hZ (own_hw hw 82 rfl)) (mvT hZ (own_hw hw 86 rfl)) (by decide) (backOf (W := 0) (own_rmNMR l Z a0 hw [] sa120 aV kV a1 a2 a3 aE w1 w2 w3 v1 v2 v3 q1 q2 q3 bv120 kb120 cs120 cs T124.heap n0 Z124 (SV.ext O126.2) (VV.ext O126.2) (EV.ext O126.2) (SE.ext O126.2) (EE.ext O126.2) (FE.ext O126.2) (Fw1.ext O126.2) (Ew1.ext O126.2) (Cw1.ext O126.2) (Vw1.ext O126.2) (Aw1.ext O126.2) (Fw2.ext O126.2) (Ew2.ext O126.2) (Cw2.ext O126.2) (Vw2.ext O126.2) (Aw2.ext O126.2) (Fw3.ext O126.2) (Ew3.ext O126.2) (Cw3.ext O126.2) (Vw3.ext O126.2) (Aw3.ext O126.2) F128 F129 F130 F131 hp8120 ll120 (SC.ext O126.2) hcs) hZ (own_hw hw 86 rfl) (own_hw hw 82 rfl) (by decide) (by decide)) (g := (mkF m 454 #[.val (.int x0), .val (.int x1), .val (.int x2), .val (.long x3), .second, u5, u6, u7, .val (.ref arr), .val (.int nn), .val (.int (0 : Int32)), .val (.ref sa120), .val (.ref a1), .unset] [(.ref sa120)])) rfl (by rw [hml]; rfl) (argsL := [(.ref sa120)]) (rest := []) (lenOf own_pd_pLjavallanglStringsqLjavalutillOptionals rfl) rfl (own_W rfl rfl) (hb hby at_454) (fun _ _ => ⟨rfl, e134, (by decide : 11 + 2 ≤ _), (by decide : 87 + 4 ≤ _)⟩)
    dsimp only [Pt.U, Pt.locs, Pt.cells, Pt.slots] at X135 l135 y135 z135 st135 hQ135
    subst l135 y135 z135
    obtain ⟨op135, hv135, Nq135, K135, Eo135, Fo135⟩ := hQ135
    subst hv135
    have N135 := Fr.app N132 Nq135
    replace Fo135 : Fld Z T135.heap op135 "java/util/Optional" "value" "Ljava/lang/Object;" (.ref a1) := by
      have q := Fo135
      unfold own_pick at q
      rw [if_pos hc133] at q
      exact q
    have hk138 := Nat.le_trans hk124 K135.1
    have O139 := O126.keep K135 all0
    have Zk135 : n0 ≤ T135.heap.size := Nat.le_trans Z124 K135.1
    refine Goes.to st135 ?_
    refine gx (XS.aconstNull X135.here hx rfl (hb hby at_457)) ?_
    obtain ⟨cq149, kq149, q149a, q149b, q149c⟩ := isOf hZ rfl Eo135
    obtain ⟨_, _, ⟨T149, L149, k149, n149⟩, -, X149, ⟨Lc149, hQ149, l149, y149, z149⟩, st149⟩ := X135.virtualBack hx (y := own_n12) (z := own_n12) hown (mvT hZ (own_hw hw 124 rfl)) (mvT hZ (own_hw hw 125 rfl)) (notFace_of_selects (args := #[]) (mvT hZ (own_hw hw 127 rfl))) (mvT hZ (own_hw hw 127 rfl)) (mvT hZ (own_hw hw 126 rfl)) (by decide) (backOf (W := 0) (own_rmOER l Z a0 hw [] op135 a1 T135.heap n0 Zk135 Fo135) hZ (own_hw hw 128 rfl) (own_hw hw 109 rfl) (by decide) (by decide)) q149a q149c (g := (mkF m 458 #[.val (.int x0), .val (.int x1), .val (.int x2), .val (.long x3), .second, u5, u6, u7, .val (.ref arr), .val (.int nn), .val (.int (0 : Int32)), .val (.ref sa120), .val (.ref a1), .unset] [.null, (.ref op135)])) rfl (by rw [hml]; rfl) (Steps.refl _) (argsL := [.null]) (rest := []) (lenOf own_pd_pLjavallanglObjectsqLjavallanglObjects rfl) rfl (own_W rfl rfl) (hb hby at_458) (fun _ _ => ⟨rfl, rfl, (by decide : 13 + 0 ≤ _), (by decide : 91 + 0 ≤ _)⟩)
    dsimp only [Pt.U, Pt.locs, Pt.cells, Pt.slots] at X149 l149 y149 z149 st149 hQ149
    subst l149 y149 z149
    obtain ⟨hv149, Nq149, hp149_0⟩ := hQ149
    have N149 := Fr.app N135 Nq149
    subst hv149
    refine Goes.tr st149 ?_
    obtain ⟨T150, X150, e150, st150⟩ := castY X149 hx hZ hown (own_hw hw 129 rfl) hp149_0 (Ins.self (E1.ext O139.2)) (g := (mkF m 461 #[.val (.int x0), .val (.int x1), .val (.int x2), .val (.long x3), .second, u5, u6, u7, .val (.ref arr), .val (.int nn), .val (.int (0 : Int32)), .val (.ref sa120), .val (.ref a1), .unset] [(.ref a1)])) rfl rfl (hb hby at_461)
    refine Goes.to st150 ?_
    refine gx (XS.astore X150.here hx rfl (hb hby at_464) rfl rfl (l' := #[.val (.int x0), .val (.int x1), .val (.int x2), .val (.long x3), .second, u5, u6, u7, .val (.ref arr), .val (.int nn), .val (.int (0 : Int32)), .val (.ref sa120), .val (.ref a1), .val (.ref a1)]) rfl) ?_
    refine gx (XS.aload X150.here hx rfl (hb hby at_466) rfl rfl) ?_
    refine gx (XS.aload X150.here hx rfl (hb hby at_468) rfl rfl) ?_
    refine gx (Jvm.RoadKit.acmp (g := (mkF m 470 #[.val (.int x0), .val (.int x1), .val (.int x2), .val (.long x3), .second, u5, u6, u7, .val (.ref arr), .val (.int nn), .val (.int (0 : Int32)), .val (.ref sa120), .val (.ref a1), .val (.ref a1)] [(.ref a1), (.ref a1)])) X150 hx rfl rfl rfl (pc0 := 470) (pc' := 473) (same := true) rfl (hb hby at_470) rfl (decide_eq_true rfl) (by decide) (by decide)) ?_
    refine gx (XS.iconst X150.here hx rfl (hb hby at_473)) ?_
    refine gx (XS.goto X150.here hx rfl (pc0 := 474) (pc' := 478) rfl (hb hby at_474) (by decide) (by decide)) ?_
    show Goes p.tables e below (T150.setTop (mkF m 478 #[.val (.int x0), .val (.int x1), .val (.int x2), .val (.long x3), .second, u5, u6, u7, .val (.ref arr), .val (.int nn), .val (.int (0 : Int32)), .val (.ref sa120), .val (.ref a1), .val (.ref a1)] [(.int (1 : Int32))])) _
    have hkl := Nat.le_trans hk138 (Nat.le_of_eq (congrArg Array.size (e150).symm))
    obtain ⟨fs, hr, hrun, hended, hEnd⟩ := X150.leaveW (s := s) hS124 hkl (v := some (.int (1 : Int32))) (fun h => by rw [Bd.returns] at h; cases h)
    have hv : (some (.int (1 : Int32)) : Option Value) = some (.int (1 : Int32)) := by
      rfl
    exact ⟨_, _, retN X150 hx (t := .boolean) Bd.returns (by simp) (hb hby at_478) hr, hrun, hended, _, _, rfl, ⟨hv, N149⟩, hEnd.1, hEnd.2.1, hEnd.2.2.1, hEnd.2.2.2.mono (by decide) (by decide)⟩
  · obtain ⟨hv132, -⟩ := hor132.resolve_left (fun q => hc133 q.2)
    subst hv132
    refine Goes.tr st132 ?_
    refine gx (XS.ifYes X132.here hx rfl (pc0 := 408) (pc' := 419) rfl (hb hby at_408) rfl ((if0 _ _).trans (teq (by decide : (0 : Int32) = (0 : Int32))).1) (by decide) (by decide)) ?_
    obtain ⟨a151, T151, h151, kk151, b151, k151, X151, e151, E151, hS151, hk151, hZ151, hown151, A151, C151, V151, W151, la151, lb151, Rr151, Lt151, Ns151, st151⟩ := ldcCH (s := s) X132 hx hZ hown (own_hw hw 132 rfl) own_wS' hp132 hS124 hk124 hEL (by decide) R124.1 (vs := [(.int (111 : Int32)), (.int (112 : Int32)), (.int (116 : Int32)), (.int (105 : Int32)), (.int (111 : Int32)), (.int (110 : Int32)), (.int (97 : Int32)), (.int (108 : Int32))]) (z := (8 : Int32)) (own_txt _ _ (by decide) rfl) (by decide) rfl (g := (mkF m 419 #[.val (.int x0), .val (.int x1), .val (.int x2), .val (.long x3), .second, u5, u6, u7, .val (.ref arr), .val (.int nn), .val (.int (0 : Int32)), .val (.ref sa120), .val .null, .unset] [])) rfl (hb hby at_419) (n := 32) (by decide) (by decide) (by decide) (by decide)
    subst e151
    have O153 := O126.ext E151
    have F155 := F128.ext E151
    have F156 := F129.ext E151
    have F157 := F130.ext E151
    have F158 := F131.ext E151
    have R151 := R124.trans Rr151
    have hZ := hZ151
    have hown := hown151
    have Z151 : n0 ≤ T151.heap.size := Nat.le_trans Z124 E151.1
    refine Goes.to st151 ?_
    refine gx (XS.aload X151.here hx rfl (hb hby at_421) rfl rfl) ?_
    obtain ⟨cq163, kq163, q163a, q163b, q163c⟩ := isOf hZ rfl A151
    obtain ⟨_, _, ⟨T163, L163, k163, n163⟩, -, X163, ⟨Lc163, hQ163, l163, y163, z163⟩, st163⟩ := X151.virtualBack hx (y := own_n13) (z := own_n13) hown (mvT hZ (own_hw hw 72 rfl)) (mvT hZ (own_hw hw 73 rfl)) (notFace_of_selects (args := #[]) (mvT hZ (own_hw hw 75 rfl))) (mvT hZ (own_hw hw 75 rfl)) (mvT hZ (own_hw hw 74 rfl)) (by decide) (StrChars.Road.eqW (W := 0) hZ (own_hwEq hw) (own_hw hw 3 rfl) (cs := [(111 : Int32), (112 : Int32), (116 : Int32), (105 : Int32), (111 : Int32), (110 : Int32), (97 : Int32), (108 : Int32)]) A151 V151 C151 W151 own_cod_optional (own_up own_p8_optional) (by decide) (ds := cs120) F155 F157 F156 F158 (StrChars.Road.codOf rfl (fun c hc => (hp8120 c hc).2)) (own_up hp8120) (Nat.le_trans ll120 (by decide)) (SC.ext O153.2) hcs (by decide) (by decide)) q163a q163c (g := (mkF m 423 #[.val (.int x0), .val (.int x1), .val (.int x2), .val (.long x3), .second, u5, u6, u7, .val (.ref arr), .val (.int nn), .val (.int (0 : Int32)), .val (.ref sa120), .val .null, .unset] [(.ref sa120), (.ref a151)])) rfl (by rw [hml]; rfl) (Steps.refl _) (argsL := [(.ref sa120)]) (rest := []) (lenOf own_pd_pLjavallanglObjectsqZ rfl) rfl (own_W rfl rfl) (hb hby at_423) (fun _ _ => ⟨rfl, rfl, (by decide : 13 + 0 ≤ _), (by decide : 123 + 0 ≤ _)⟩)
    dsimp only [Pt.U, Pt.locs, Pt.cells, Pt.slots] at X163 l163 y163 z163 st163 hQ163
    subst l163 y163 z163
    obtain ⟨hor163, hL163, hp163⟩ := hQ163
    subst hL163
    have N163 := Fr.app N132 (Fr.nil n0)
    by_cases hc164 : [(111 : Int32), (112 : Int32), (116 : Int32), (105 : Int32), (111 : Int32), (110 : Int32), (97 : Int32), (108 : Int32)] = cs120
    · obtain ⟨hv163, -⟩ := hor163.resolve_right (fun q => q.2 hc164)
      subst hv163
      refine Goes.tr st163 ?_
      refine gx (XS.ifNo X163.here hx rfl (hb hby at_426) rfl ((if0 _ _).trans (feq (by decide : ¬ ((1 : Int32) = (0 : Int32)))).1)) ?_
      obtain ⟨T165, X165, e165, st165⟩ := getS2 X163 hx hZ hown (host := "") (Or.inl (own_hw hw 141 rfl)) Via.refl hp163 (S2.ext O153.2) (g := (mkF m 429 #[.val (.int x0), .val (.int x1), .val (.int x2), .val (.long x3), .second, u5, u6, u7, .val (.ref arr), .val (.int nn), .val (.int (0 : Int32)), .val (.ref sa120), .val .null, .unset] [])) rfl (hb hby at_429)
      refine Goes.to st165 ?_
      refine gx (XS.astore X165.here hx rfl (hb hby at_432) rfl rfl (l' := #[.val (.int x0), .val (.int x1), .val (.int x2), .val (.long x3), .second, u5, u6, u7, .val (.ref arr), .val (.int nn), .val (.int (0 : Int32)), .val (.ref sa120), .val (.ref a2), .unset]) rfl) ?_
      refine gx (XS.goto X165.here hx rfl (pc0 := 434) (pc' := 452) rfl (hb hby at_434) (by decide) (by decide)) ?_
      refine gx (XS.aload X165.here hx rfl (hb hby at_452) rfl rfl) ?_
      obtain ⟨_, _, ⟨T166, L166, k166, n166⟩, -, X166, ⟨Lc166, hQ166, l166, y166, z166⟩, st166⟩ := Jvm.LawKit.callS X165 hx (y := own_n18) hown (mvT hZ (own_hw hw 84 rfl)) (mvT hZ (own_hw hw 85 rfl)) (mvT hZ (own_hw hw 82 rfl)) (mvT hZ (own_hw hw 86 rfl)) (by decide) (backOf (W := 0) (own_rmNMR l Z a0 hw [] sa120 aV kV a1 a2 a3 aE w1 w2 w3 v1 v2 v3 q1 q2 q3 bv120 kb120 cs120 cs T151.heap n0 Z151 (SV.ext O153.2) (VV.ext O153.2) (EV.ext O153.2) (SE.ext O153.2) (EE.ext O153.2) (FE.ext O153.2) (Fw1.ext O153.2) (Ew1.ext O153.2) (Cw1.ext O153.2) (Vw1.ext O153.2) (Aw1.ext O153.2) (Fw2.ext O153.2) (Ew2.ext O153.2) (Cw2.ext O153.2) (Vw2.ext O153.2) (Aw2.ext O153.2) (Fw3.ext O153.2) (Ew3.ext O153.2) (Cw3.ext O153.2) (Vw3.ext O153.2) (Aw3.ext O153.2) F155 F156 F157 F158 hp8120 ll120 (SC.ext O153.2) hcs) hZ (own_hw hw 86 rfl) (own_hw hw 82 rfl) (by decide) (by decide)) (g := (mkF m 454 #[.val (.int x0), .val (.int x1), .val (.int x2), .val (.long x3), .second, u5, u6, u7, .val (.ref arr), .val (.int nn), .val (.int (0 : Int32)), .val (.ref sa120), .val (.ref a2), .unset] [(.ref sa120)])) rfl (by rw [hml]; rfl) (argsL := [(.ref sa120)]) (rest := []) (lenOf own_pd_pLjavallanglStringsqLjavalutillOptionals rfl) rfl (own_W rfl rfl) (hb hby at_454) (fun _ _ => ⟨rfl, e165, (by decide : 13 + 2 ≤ _), (by decide : 123 + 4 ≤ _)⟩)
      dsimp only [Pt.U, Pt.locs, Pt.cells, Pt.slots] at X166 l166 y166 z166 st166 hQ166
      subst l166 y166 z166
      obtain ⟨op166, hv166, Nq166, K166, Eo166, Fo166⟩ := hQ166
      subst hv166
      have N166 := Fr.app N163 Nq166
      replace Fo166 : Fld Z T166.heap op166 "java/util/Optional" "value" "Ljava/lang/Object;" (.ref a2) := by
        have q := Fo166
        unfold own_pick at q
        rw [if_neg hc133, if_pos hc164] at q
        exact q
      have hk169 := Nat.le_trans hk151 K166.1
      have O170 := O153.keep K166 all0
      have Zk166 : n0 ≤ T166.heap.size := Nat.le_trans Z151 K166.1
      refine Goes.to st166 ?_
      refine gx (XS.aconstNull X166.here hx rfl (hb hby at_457)) ?_
      obtain ⟨cq184, kq184, q184a, q184b, q184c⟩ := isOf hZ rfl Eo166
      obtain ⟨_, _, ⟨T184, L184, k184, n184⟩, -, X184, ⟨Lc184, hQ184, l184, y184, z184⟩, st184⟩ := X166.virtualBack hx (y := own_n12) (z := own_n12) hown (mvT hZ (own_hw hw 124 rfl)) (mvT hZ (own_hw hw 125 rfl)) (notFace_of_selects (args := #[]) (mvT hZ (own_hw hw 127 rfl))) (mvT hZ (own_hw hw 127 rfl)) (mvT hZ (own_hw hw 126 rfl)) (by decide) (backOf (W := 0) (own_rmOER l Z a0 hw [] op166 a2 T166.heap n0 Zk166 Fo166) hZ (own_hw hw 128 rfl) (own_hw hw 109 rfl) (by decide) (by decide)) q184a q184c (g := (mkF m 458 #[.val (.int x0), .val (.int x1), .val (.int x2), .val (.long x3), .second, u5, u6, u7, .val (.ref arr), .val (.int nn), .val (.int (0 : Int32)), .val (.ref sa120), .val (.ref a2), .unset] [.null, (.ref op166)])) rfl (by rw [hml]; rfl) (Steps.refl _) (argsL := [.null]) (rest := []) (lenOf own_pd_pLjavallanglObjectsqLjavallanglObjects rfl) rfl (own_W rfl rfl) (hb hby at_458) (fun _ _ => ⟨rfl, rfl, (by decide : 15 + 0 ≤ _), (by decide : 127 + 0 ≤ _)⟩)
      dsimp only [Pt.U, Pt.locs, Pt.cells, Pt.slots] at X184 l184 y184 z184 st184 hQ184
      subst l184 y184 z184
      obtain ⟨hv184, Nq184, hp184_0⟩ := hQ184
      have N184 := Fr.app N166 Nq184
      subst hv184
      refine Goes.tr st184 ?_
      obtain ⟨T185, X185, e185, st185⟩ := castY X184 hx hZ hown (own_hw hw 129 rfl) hp184_0 (Ins.self (E2.ext O170.2)) (g := (mkF m 461 #[.val (.int x0), .val (.int x1), .val (.int x2), .val (.long x3), .second, u5, u6, u7, .val (.ref arr), .val (.int nn), .val (.int (0 : Int32)), .val (.ref sa120), .val (.ref a2), .unset] [(.ref a2)])) rfl rfl (hb hby at_461)
      refine Goes.to st185 ?_
      refine gx (XS.astore X185.here hx rfl (hb hby at_464) rfl rfl (l' := #[.val (.int x0), .val (.int x1), .val (.int x2), .val (.long x3), .second, u5, u6, u7, .val (.ref arr), .val (.int nn), .val (.int (0 : Int32)), .val (.ref sa120), .val (.ref a2), .val (.ref a2)]) rfl) ?_
      refine gx (XS.aload X185.here hx rfl (hb hby at_466) rfl rfl) ?_
      refine gx (XS.aload X185.here hx rfl (hb hby at_468) rfl rfl) ?_
      refine gx (Jvm.RoadKit.acmp (g := (mkF m 470 #[.val (.int x0), .val (.int x1), .val (.int x2), .val (.long x3), .second, u5, u6, u7, .val (.ref arr), .val (.int nn), .val (.int (0 : Int32)), .val (.ref sa120), .val (.ref a2), .val (.ref a2)] [(.ref a2), (.ref a2)])) X185 hx rfl rfl rfl (pc0 := 470) (pc' := 473) (same := true) rfl (hb hby at_470) rfl (decide_eq_true rfl) (by decide) (by decide)) ?_
      refine gx (XS.iconst X185.here hx rfl (hb hby at_473)) ?_
      refine gx (XS.goto X185.here hx rfl (pc0 := 474) (pc' := 478) rfl (hb hby at_474) (by decide) (by decide)) ?_
      show Goes p.tables e below (T185.setTop (mkF m 478 #[.val (.int x0), .val (.int x1), .val (.int x2), .val (.long x3), .second, u5, u6, u7, .val (.ref arr), .val (.int nn), .val (.int (0 : Int32)), .val (.ref sa120), .val (.ref a2), .val (.ref a2)] [(.int (1 : Int32))])) _
      have hkl := Nat.le_trans hk169 (Nat.le_of_eq (congrArg Array.size (e185).symm))
      obtain ⟨fs, hr, hrun, hended, hEnd⟩ := X185.leaveW (s := s) hS151 hkl (v := some (.int (1 : Int32))) (fun h => by rw [Bd.returns] at h; cases h)
      have hv : (some (.int (1 : Int32)) : Option Value) = some (.int (1 : Int32)) := by
        rfl
      exact ⟨_, _, retN X185 hx (t := .boolean) Bd.returns (by simp) (hb hby at_478) hr, hrun, hended, _, _, rfl, ⟨hv, N184⟩, hEnd.1, hEnd.2.1, hEnd.2.2.1, hEnd.2.2.2.mono (by decide) (by decide)⟩
    · obtain ⟨hv163, -⟩ := hor163.resolve_left (fun q => hc164 q.2)
      subst hv163
      refine Goes.tr st163 ?_
      refine gx (XS.ifYes X163.here hx rfl (pc0 := 426) (pc' := 437) rfl (hb hby at_426) rfl ((if0 _ _).trans (teq (by decide : (0 : Int32) = (0 : Int32))).1) (by decide) (by decide)) ?_
      obtain ⟨a186, T186, h186, kk186, b186, k186, X186, e186, E186, hS186, hk186, hZ186, hown186, A186, C186, V186, W186, la186, lb186, Rr186, Lt186, Ns186, st186⟩ := ldcCH (s := s) X163 hx hZ hown (own_hw hw 133 rfl) own_wS' hp163 hS151 hk151 hEL (by decide) R151.1 (vs := [(.int (109 : Int32)), (.int (97 : Int32)), (.int (110 : Int32)), (.int (121 : Int32))]) (z := (4 : Int32)) (own_txt _ _ (by decide) rfl) (by decide) rfl (g := (mkF m 437 #[.val (.int x0), .val (.int x1), .val (.int x2), .val (.long x3), .second, u5, u6, u7, .val (.ref arr), .val (.int nn), .val (.int (0 : Int32)), .val (.ref sa120), .val .null, .unset] [])) rfl (hb hby at_437) (n := 16) (by decide) (by decide) (by decide) (by decide)
      subst e186
      have O188 := O153.ext E186
      have F190 := F155.ext E186
      have F191 := F156.ext E186
      have F192 := F157.ext E186
      have F193 := F158.ext E186
      have hZ := hZ186
      have hown := hown186
      have Z186 : n0 ≤ T186.heap.size := Nat.le_trans Z151 E186.1
      refine Goes.to st186 ?_
      refine gx (XS.aload X186.here hx rfl (hb hby at_439) rfl rfl) ?_
      obtain ⟨cq202, kq202, q202a, q202b, q202c⟩ := isOf hZ rfl A186
      obtain ⟨_, _, ⟨T202, L202, k202, n202⟩, -, X202, ⟨Lc202, hQ202, l202, y202, z202⟩, st202⟩ := X186.virtualBack hx (y := own_n13) (z := own_n13) hown (mvT hZ (own_hw hw 72 rfl)) (mvT hZ (own_hw hw 73 rfl)) (notFace_of_selects (args := #[]) (mvT hZ (own_hw hw 75 rfl))) (mvT hZ (own_hw hw 75 rfl)) (mvT hZ (own_hw hw 74 rfl)) (by decide) (StrChars.Road.eqW (W := 0) hZ (own_hwEq hw) (own_hw hw 3 rfl) (cs := [(109 : Int32), (97 : Int32), (110 : Int32), (121 : Int32)]) A186 V186 C186 W186 own_cod_many (own_up own_p8_many) (by decide) (ds := cs120) F190 F192 F191 F193 (StrChars.Road.codOf rfl (fun c hc => (hp8120 c hc).2)) (own_up hp8120) (Nat.le_trans ll120 (by decide)) (SC.ext O188.2) hcs (by decide) (by decide)) q202a q202c (g := (mkF m 441 #[.val (.int x0), .val (.int x1), .val (.int x2), .val (.long x3), .second, u5, u6, u7, .val (.ref arr), .val (.int nn), .val (.int (0 : Int32)), .val (.ref sa120), .val .null, .unset] [(.ref sa120), (.ref a186)])) rfl (by rw [hml]; rfl) (Steps.refl _) (argsL := [(.ref sa120)]) (rest := []) (lenOf own_pd_pLjavallanglObjectsqZ rfl) rfl (own_W rfl rfl) (hb hby at_441) (fun _ _ => ⟨rfl, rfl, (by decide : 15 + 0 ≤ _), (by decide : 143 + 0 ≤ _)⟩)
      dsimp only [Pt.U, Pt.locs, Pt.cells, Pt.slots] at X202 l202 y202 z202 st202 hQ202
      subst l202 y202 z202
      obtain ⟨hor202, hL202, hp202⟩ := hQ202
      subst hL202
      have N202 := Fr.app N163 (Fr.nil n0)
      by_cases hc203 : [(109 : Int32), (97 : Int32), (110 : Int32), (121 : Int32)] = cs120
      · obtain ⟨hv202, -⟩ := hor202.resolve_right (fun q => q.2 hc203)
        subst hv202
        refine Goes.tr st202 ?_
        refine gx (XS.ifNo X202.here hx rfl (hb hby at_444) rfl ((if0 _ _).trans (feq (by decide : ¬ ((1 : Int32) = (0 : Int32)))).1)) ?_
        obtain ⟨T204, X204, e204, st204⟩ := getS2 X202 hx hZ hown (host := "") (Or.inl (own_hw hw 138 rfl)) Via.refl hp202 (S3.ext O188.2) (g := (mkF m 447 #[.val (.int x0), .val (.int x1), .val (.int x2), .val (.long x3), .second, u5, u6, u7, .val (.ref arr), .val (.int nn), .val (.int (0 : Int32)), .val (.ref sa120), .val .null, .unset] [])) rfl (hb hby at_447)
        refine Goes.to st204 ?_
        refine gx (XS.astore X204.here hx rfl (hb hby at_450) rfl rfl (l' := #[.val (.int x0), .val (.int x1), .val (.int x2), .val (.long x3), .second, u5, u6, u7, .val (.ref arr), .val (.int nn), .val (.int (0 : Int32)), .val (.ref sa120), .val (.ref a3), .unset]) rfl) ?_
        refine gx (XS.aload X204.here hx rfl (hb hby at_452) rfl rfl) ?_
        obtain ⟨_, _, ⟨T205, L205, k205, n205⟩, -, X205, ⟨Lc205, hQ205, l205, y205, z205⟩, st205⟩ := Jvm.LawKit.callS X204 hx (y := own_n18) hown (mvT hZ (own_hw hw 84 rfl)) (mvT hZ (own_hw hw 85 rfl)) (mvT hZ (own_hw hw 82 rfl)) (mvT hZ (own_hw hw 86 rfl)) (by decide) (backOf (W := 0) (own_rmNMR l Z a0 hw [] sa120 aV kV a1 a2 a3 aE w1 w2 w3 v1 v2 v3 q1 q2 q3 bv120 kb120 cs120 cs T186.heap n0 Z186 (SV.ext O188.2) (VV.ext O188.2) (EV.ext O188.2) (SE.ext O188.2) (EE.ext O188.2) (FE.ext O188.2) (Fw1.ext O188.2) (Ew1.ext O188.2) (Cw1.ext O188.2) (Vw1.ext O188.2) (Aw1.ext O188.2) (Fw2.ext O188.2) (Ew2.ext O188.2) (Cw2.ext O188.2) (Vw2.ext O188.2) (Aw2.ext O188.2) (Fw3.ext O188.2) (Ew3.ext O188.2) (Cw3.ext O188.2) (Vw3.ext O188.2) (Aw3.ext O188.2) F190 F191 F192 F193 hp8120 ll120 (SC.ext O188.2) hcs) hZ (own_hw hw 86 rfl) (own_hw hw 82 rfl) (by decide) (by decide)) (g := (mkF m 454 #[.val (.int x0), .val (.int x1), .val (.int x2), .val (.long x3), .second, u5, u6, u7, .val (.ref arr), .val (.int nn), .val (.int (0 : Int32)), .val (.ref sa120), .val (.ref a3), .unset] [(.ref sa120)])) rfl (by rw [hml]; rfl) (argsL := [(.ref sa120)]) (rest := []) (lenOf own_pd_pLjavallanglStringsqLjavalutillOptionals rfl) rfl (own_W rfl rfl) (hb hby at_454) (fun _ _ => ⟨rfl, e204, (by decide : 15 + 2 ≤ _), (by decide : 143 + 4 ≤ _)⟩)
        dsimp only [Pt.U, Pt.locs, Pt.cells, Pt.slots] at X205 l205 y205 z205 st205 hQ205
        subst l205 y205 z205
        obtain ⟨op205, hv205, Nq205, K205, Eo205, Fo205⟩ := hQ205
        subst hv205
        have N205 := Fr.app N202 Nq205
        replace Fo205 : Fld Z T205.heap op205 "java/util/Optional" "value" "Ljava/lang/Object;" (.ref a3) := by
          have q := Fo205
          unfold own_pick at q
          rw [if_neg hc133, if_neg hc164, if_pos hc203] at q
          exact q
        have hk208 := Nat.le_trans hk186 K205.1
        have O209 := O188.keep K205 all0
        have Zk205 : n0 ≤ T205.heap.size := Nat.le_trans Z186 K205.1
        refine Goes.to st205 ?_
        refine gx (XS.aconstNull X205.here hx rfl (hb hby at_457)) ?_
        obtain ⟨cq227, kq227, q227a, q227b, q227c⟩ := isOf hZ rfl Eo205
        obtain ⟨_, _, ⟨T227, L227, k227, n227⟩, -, X227, ⟨Lc227, hQ227, l227, y227, z227⟩, st227⟩ := X205.virtualBack hx (y := own_n12) (z := own_n12) hown (mvT hZ (own_hw hw 124 rfl)) (mvT hZ (own_hw hw 125 rfl)) (notFace_of_selects (args := #[]) (mvT hZ (own_hw hw 127 rfl))) (mvT hZ (own_hw hw 127 rfl)) (mvT hZ (own_hw hw 126 rfl)) (by decide) (backOf (W := 0) (own_rmOER l Z a0 hw [] op205 a3 T205.heap n0 Zk205 Fo205) hZ (own_hw hw 128 rfl) (own_hw hw 109 rfl) (by decide) (by decide)) q227a q227c (g := (mkF m 458 #[.val (.int x0), .val (.int x1), .val (.int x2), .val (.long x3), .second, u5, u6, u7, .val (.ref arr), .val (.int nn), .val (.int (0 : Int32)), .val (.ref sa120), .val (.ref a3), .unset] [.null, (.ref op205)])) rfl (by rw [hml]; rfl) (Steps.refl _) (argsL := [.null]) (rest := []) (lenOf own_pd_pLjavallanglObjectsqLjavallanglObjects rfl) rfl (own_W rfl rfl) (hb hby at_458) (fun _ _ => ⟨rfl, rfl, (by decide : 17 + 0 ≤ _), (by decide : 147 + 0 ≤ _)⟩)
        dsimp only [Pt.U, Pt.locs, Pt.cells, Pt.slots] at X227 l227 y227 z227 st227 hQ227
        subst l227 y227 z227
        obtain ⟨hv227, Nq227, hp227_0⟩ := hQ227
        have N227 := Fr.app N205 Nq227
        subst hv227
        refine Goes.tr st227 ?_
        obtain ⟨T228, X228, e228, st228⟩ := castY X227 hx hZ hown (own_hw hw 129 rfl) hp227_0 (Ins.self (E3.ext O209.2)) (g := (mkF m 461 #[.val (.int x0), .val (.int x1), .val (.int x2), .val (.long x3), .second, u5, u6, u7, .val (.ref arr), .val (.int nn), .val (.int (0 : Int32)), .val (.ref sa120), .val (.ref a3), .unset] [(.ref a3)])) rfl rfl (hb hby at_461)
        refine Goes.to st228 ?_
        refine gx (XS.astore X228.here hx rfl (hb hby at_464) rfl rfl (l' := #[.val (.int x0), .val (.int x1), .val (.int x2), .val (.long x3), .second, u5, u6, u7, .val (.ref arr), .val (.int nn), .val (.int (0 : Int32)), .val (.ref sa120), .val (.ref a3), .val (.ref a3)]) rfl) ?_
        refine gx (XS.aload X228.here hx rfl (hb hby at_466) rfl rfl) ?_
        refine gx (XS.aload X228.here hx rfl (hb hby at_468) rfl rfl) ?_
        refine gx (Jvm.RoadKit.acmp (g := (mkF m 470 #[.val (.int x0), .val (.int x1), .val (.int x2), .val (.long x3), .second, u5, u6, u7, .val (.ref arr), .val (.int nn), .val (.int (0 : Int32)), .val (.ref sa120), .val (.ref a3), .val (.ref a3)] [(.ref a3), (.ref a3)])) X228 hx rfl rfl rfl (pc0 := 470) (pc' := 473) (same := true) rfl (hb hby at_470) rfl (decide_eq_true rfl) (by decide) (by decide)) ?_
        refine gx (XS.iconst X228.here hx rfl (hb hby at_473)) ?_
        refine gx (XS.goto X228.here hx rfl (pc0 := 474) (pc' := 478) rfl (hb hby at_474) (by decide) (by decide)) ?_
        show Goes p.tables e below (T228.setTop (mkF m 478 #[.val (.int x0), .val (.int x1), .val (.int x2), .val (.long x3), .second, u5, u6, u7, .val (.ref arr), .val (.int nn), .val (.int (0 : Int32)), .val (.ref sa120), .val (.ref a3), .val (.ref a3)] [(.int (1 : Int32))])) _
        have hkl := Nat.le_trans hk208 (Nat.le_of_eq (congrArg Array.size (e228).symm))
        obtain ⟨fs, hr, hrun, hended, hEnd⟩ := X228.leaveW (s := s) hS186 hkl (v := some (.int (1 : Int32))) (fun h => by rw [Bd.returns] at h; cases h)
        have hv : (some (.int (1 : Int32)) : Option Value) = some (.int (1 : Int32)) := by
          rfl
        exact ⟨_, _, retN X228 hx (t := .boolean) Bd.returns (by simp) (hb hby at_478) hr, hrun, hended, _, _, rfl, ⟨hv, N227⟩, hEnd.1, hEnd.2.1, hEnd.2.2.1, hEnd.2.2.2.mono (by decide) (by decide)⟩
      · obtain ⟨hv202, -⟩ := hor202.resolve_left (fun q => hc203 q.2)
        subst hv202
        refine Goes.tr st202 ?_
        refine gx (XS.ifYes X202.here hx rfl (pc0 := 444) (pc' := 452) rfl (hb hby at_444) rfl ((if0 _ _).trans (teq (by decide : (0 : Int32) = (0 : Int32))).1) (by decide) (by decide)) ?_
        refine gx (XS.aload X202.here hx rfl (hb hby at_452) rfl rfl) ?_
        obtain ⟨_, _, ⟨T229, L229, k229, n229⟩, -, X229, ⟨Lc229, hQ229, l229, y229, z229⟩, st229⟩ := Jvm.LawKit.callS X202 hx (y := own_n18) hown (mvT hZ (own_hw hw 84 rfl)) (mvT hZ (own_hw hw 85 rfl)) (mvT hZ (own_hw hw 82 rfl)) (mvT hZ (own_hw hw 86 rfl)) (by decide) (backOf (W := 0) (own_rmNMR l Z a0 hw [] sa120 aV kV a1 a2 a3 aE w1 w2 w3 v1 v2 v3 q1 q2 q3 bv120 kb120 cs120 cs T186.heap n0 Z186 (SV.ext O188.2) (VV.ext O188.2) (EV.ext O188.2) (SE.ext O188.2) (EE.ext O188.2) (FE.ext O188.2) (Fw1.ext O188.2) (Ew1.ext O188.2) (Cw1.ext O188.2) (Vw1.ext O188.2) (Aw1.ext O188.2) (Fw2.ext O188.2) (Ew2.ext O188.2) (Cw2.ext O188.2) (Vw2.ext O188.2) (Aw2.ext O188.2) (Fw3.ext O188.2) (Ew3.ext O188.2) (Cw3.ext O188.2) (Vw3.ext O188.2) (Aw3.ext O188.2) F190 F191 F192 F193 hp8120 ll120 (SC.ext O188.2) hcs) hZ (own_hw hw 86 rfl) (own_hw hw 82 rfl) (by decide) (by decide)) (g := (mkF m 454 #[.val (.int x0), .val (.int x1), .val (.int x2), .val (.long x3), .second, u5, u6, u7, .val (.ref arr), .val (.int nn), .val (.int (0 : Int32)), .val (.ref sa120), .val .null, .unset] [(.ref sa120)])) rfl (by rw [hml]; rfl) (argsL := [(.ref sa120)]) (rest := []) (lenOf own_pd_pLjavallanglStringsqLjavalutillOptionals rfl) rfl (own_W rfl rfl) (hb hby at_454) (fun _ _ => ⟨rfl, hp202, (by decide : 15 + 2 ≤ _), (by decide : 143 + 4 ≤ _)⟩)
        dsimp only [Pt.U, Pt.locs, Pt.cells, Pt.slots] at X229 l229 y229 z229 st229 hQ229
        subst l229 y229 z229
        obtain ⟨op229, hv229, Nq229, K229, Eo229, Fo229⟩ := hQ229
        subst hv229
        have N229 := Fr.app N202 Nq229
        replace Fo229 : Fld Z T229.heap op229 "java/util/Optional" "value" "Ljava/lang/Object;" .null := by
          have q := Fo229
          unfold own_pick at q
          rw [if_neg hc133, if_neg hc164, if_neg hc203] at q
          exact q
        have hk232 := Nat.le_trans hk186 K229.1
        have Zk229 : n0 ≤ T229.heap.size := Nat.le_trans Z186 K229.1
        refine Goes.to st229 ?_
        refine gx (XS.aconstNull X229.here hx rfl (hb hby at_457)) ?_
        obtain ⟨cq251, kq251, q251a, q251b, q251c⟩ := isOf hZ rfl Eo229
        obtain ⟨_, _, ⟨T251, L251, k251, n251⟩, -, X251, ⟨Lc251, hQ251, l251, y251, z251⟩, st251⟩ := X229.virtualBack hx (y := own_n12) (z := own_n12) hown (mvT hZ (own_hw hw 124 rfl)) (mvT hZ (own_hw hw 125 rfl)) (notFace_of_selects (args := #[]) (mvT hZ (own_hw hw 127 rfl))) (mvT hZ (own_hw hw 127 rfl)) (mvT hZ (own_hw hw 126 rfl)) (by decide) (backOf (W := 0) (own_rmOEN l Z a0 hw [] op229 T229.heap n0 Zk229 Fo229) hZ (own_hw hw 128 rfl) (own_hw hw 109 rfl) (by decide) (by decide)) q251a q251c (g := (mkF m 458 #[.val (.int x0), .val (.int x1), .val (.int x2), .val (.long x3), .second, u5, u6, u7, .val (.ref arr), .val (.int nn), .val (.int (0 : Int32)), .val (.ref sa120), .val .null, .unset] [.null, (.ref op229)])) rfl (by rw [hml]; rfl) (Steps.refl _) (argsL := [.null]) (rest := []) (lenOf own_pd_pLjavallanglObjectsqLjavallanglObjects rfl) rfl (own_W rfl rfl) (hb hby at_458) (fun _ _ => ⟨rfl, rfl, (by decide : 17 + 0 ≤ _), (by decide : 147 + 0 ≤ _)⟩)
        dsimp only [Pt.U, Pt.locs, Pt.cells, Pt.slots] at X251 l251 y251 z251 st251 hQ251
        subst l251 y251 z251
        obtain ⟨hv251, Nq251, hp251_0⟩ := hQ251
        have N251 := Fr.app N229 Nq251
        subst hv251
        refine Goes.tr st251 ?_
        refine gx (X251.checkcastNull hx (g := (mkF m 461 #[.val (.int x0), .val (.int x1), .val (.int x2), .val (.long x3), .second, u5, u6, u7, .val (.ref arr), .val (.int nn), .val (.int (0 : Int32)), .val (.ref sa120), .val .null, .unset] [.null])) rfl rfl (hb hby at_461) _) ?_
        refine gx (XS.astore X251.here hx rfl (hb hby at_464) rfl rfl (l' := #[.val (.int x0), .val (.int x1), .val (.int x2), .val (.long x3), .second, u5, u6, u7, .val (.ref arr), .val (.int nn), .val (.int (0 : Int32)), .val (.ref sa120), .val .null, .val .null]) rfl) ?_
        refine gx (XS.aload X251.here hx rfl (hb hby at_466) rfl rfl) ?_
        refine gx (XS.aload X251.here hx rfl (hb hby at_468) rfl rfl) ?_
        refine gx (Jvm.RoadKit.acmp (g := (mkF m 470 #[.val (.int x0), .val (.int x1), .val (.int x2), .val (.long x3), .second, u5, u6, u7, .val (.ref arr), .val (.int nn), .val (.int (0 : Int32)), .val (.ref sa120), .val .null, .val .null] [.null, .null])) X251 hx rfl rfl rfl (pc0 := 470) (pc' := 473) (same := true) rfl (hb hby at_470) rfl (decide_eq_true rfl) (by decide) (by decide)) ?_
        refine gx (XS.iconst X251.here hx rfl (hb hby at_473)) ?_
        refine gx (XS.goto X251.here hx rfl (pc0 := 474) (pc' := 478) rfl (hb hby at_474) (by decide) (by decide)) ?_
        show Goes p.tables e below (T251.setTop (mkF m 478 #[.val (.int x0), .val (.int x1), .val (.int x2), .val (.long x3), .second, u5, u6, u7, .val (.ref arr), .val (.int nn), .val (.int (0 : Int32)), .val (.ref sa120), .val .null, .val .null] [(.int (1 : Int32))])) _
        have hkl := Nat.le_trans hk232 (Nat.le_of_eq (congrArg Array.size (hp251_0).symm))
        obtain ⟨fs, hr, hrun, hended, hEnd⟩ := X251.leaveW (s := s) hS186 hkl (v := some (.int (1 : Int32))) (fun h => by rw [Bd.returns] at h; cases h)
        have hv : (some (.int (1 : Int32)) : Option Value) = some (.int (1 : Int32)) := by
          rfl
        exact ⟨_, _, retN X251 hx (t := .boolean) Bd.returns (by simp) (hb hby at_478) hr, hrun, hended, _, _, rfl, ⟨hv, N251⟩, hEnd.1, hEnd.2.1, hEnd.2.2.1, hEnd.2.2.2.mono (by decide) (by decide)⟩
set_option maxRecDepth 65536 in
set_option maxHeartbeats 40000000 in
theorem own_pt_own_rm0_49 (l : Launch) (Z : State) (a0 : Array Value) (hw : ∀ d ∈ tables_1, d.before a0 Z = true) (ws : List Jvm.Cond) (x0 : Int32) (x1 : Int32) (x2 : Int32) (x3 : Int64) (aV : Addr) (kV : ClassId) (a1 : Addr) (a2 : Addr) (a3 : Addr) (aE : Addr) (w1 : Addr) (w2 : Addr) (w3 : Addr) (v1 : Addr) (v2 : Addr) (v3 : Addr) (q1 : ClassId) (q2 : ClassId) (q3 : ClassId) (cs : Int32) (fm : Value) (h0 : Heap) (n0 : Nat) (Z0 : n0 ≤ h0.size) (hPm : own_P_own_rm0 Z a0 x0 x1 x2 x3 aV kV a1 a2 a3 aE w1 w2 w3 v1 v2 v3 q1 q2 q3 cs fm h0 n0)
    {p : Program} {e : Env} {s : State} {m : MethodId} {below : List Frame} {meth : Method} {c : Code} {s₁ : State} (Bd : BodyLoose p l x (head1 (Jvm.Cond.code x code maxLocals ret :: ws) room_1) code maxLocals ret e s m #[(.int x0), (.int x1), (.int x2), (.long x3)] below meth c s₁) (hml0 : c.maxLocals = maxLocals) (hh : s.heap = h0) 
    (b1 : Addr) (k1 : ClassId)
    (Tpt : State) (lpt : List Loc) (vmpt : Vm) (hZ : Z.Warmed39 vmpt) (hown : vmpt.findClass "com/example/polgen/polgen/model/MultiplicityNamedPinLaw" = some m.cls) (hpt : Heap)
    (Xpt : Stand p l e room_1 (s.setVm vmpt) m #[(.int x0), (.int x1), (.int x2), (.long x3)] below meth c Tpt lpt 1 9) (Ept : Tpt.heap = hpt) (Npt : Fr n0 lpt) (Zpt : n0 ≤ hpt.size) (kpt : Nat) (hSpt : s.Since vmpt kpt) (hkpt : kpt ≤ hpt.size) (Rpt : CHr Z own_EL s.vm h0 vmpt hpt)
    (Pf49_0 : Safe Z own_EL vmpt hpt b1)
    (Pf49_1 : Arv Z hpt b1 k1 .char (9 : Int32) [(.int (nar .char (((x3 &&& (255 : Int64)).toInt32).toUInt32.toUInt16.toUInt32.toInt32))), (.int (nar .char (((((x3.toUInt64 >>> ((8 : Int32) &&& 0x3f).toInt64.toUInt64).toInt64) &&& (255 : Int64)).toInt32).toUInt32.toUInt16.toUInt32.toInt32))), (.int (nar .char (((((x3.toUInt64 >>> ((16 : Int32) &&& 0x3f).toInt64.toUInt64).toInt64) &&& (255 : Int64)).toInt32).toUInt32.toUInt16.toUInt32.toInt32))), (.int (nar .char (((((x3.toUInt64 >>> ((24 : Int32) &&& 0x3f).toInt64.toUInt64).toInt64) &&& (255 : Int64)).toInt32).toUInt32.toUInt16.toUInt32.toInt32))), (.int (nar .char (((((x3.toUInt64 >>> ((32 : Int32) &&& 0x3f).toInt64.toUInt64).toInt64) &&& (255 : Int64)).toInt32).toUInt32.toUInt16.toUInt32.toInt32))), (.int (nar .char (((((x3.toUInt64 >>> ((40 : Int32) &&& 0x3f).toInt64.toUInt64).toInt64) &&& (255 : Int64)).toInt32).toUInt32.toUInt16.toUInt32.toInt32))), (.int (0 : Int32)), (.int (0 : Int32)), (.int (0 : Int32))] (.int (0 : Int32)))
    (Pg49_13 : n0 ≤ b1)
    (Old49 : Old Z n0 hpt)
    (Ph49_15 : (x0 &&& (3 : Int32)) = (3 : Int32))
    : Goes p.tables e below (Tpt.setTop (mkF m 116 #[.val (.int x0), .val (.int x1), .val (.int x2), .val (.long x3), .second, .val (.int (x0 &&& (3 : Int32))), .val (.int ((x0.toUInt32 >>> ((2 : Int32) &&& 31).toUInt32).toInt32)), .val (.int ((x2 &&& (255 : Int32)).toUInt32.toUInt16.toUInt32.toInt32)), .val (.ref b1), .unset, .val (.int (0 : Int32)), .unset, .unset, .unset] [(.ref b1)])) (own_RW below s (own_Q_own_rm0 Z x0 x1 x2 x3 aV kV a1 a2 a3 aE w1 w2 w3 v1 v2 v3 q1 q2 q3 cs fm h0 n0) 17 147) := by
  obtain ⟨O0, hCH0, S1, S2, S3, E1, E2, E3, SV, VV, EV, SE, EE, FE, Fw1, Ew1, Cw1, Vw1, Aw1, Fw2, Ew2, Cw2, Vw2, Aw2, Fw3, Ew3, Cw3, Vw3, Aw3, SC, hcs, SF, hfm⟩ := id hPm
  have hx := Bd.exec
  have hby := Bd.bytes
  have hml : c.maxLocals = 14 := hml0
  have hnm := (name_of_methodNamed Bd.named Bd.method).1
  have own_wS' : ∀ a ∈ Bundle.stringAtoms, a.before a0 Z = true := own_wS hw
  have hEL := own_EW hw
  refine gx (XS.bipush Xpt.here hx rfl (hb hby at_116)) ?_
  refine gx (XS.lloadN Xpt.here hx rfl (hb hby at_118) rfl) ?_
  refine gx (XS.bipush Xpt.here hx rfl (hb hby at_119)) ?_
  refine gx (XS.lushr Xpt.here hx rfl (hb hby at_121) rfl) ?_
  refine gx (Xpt.ldc2Long hx hown (mvT hZ (own_hw hw 139 rfl)) (g := (mkF m 122 #[.val (.int x0), .val (.int x1), .val (.int x2), .val (.long x3), .second, .val (.int (x0 &&& (3 : Int32))), .val (.int ((x0.toUInt32 >>> ((2 : Int32) &&& 31).toUInt32).toInt32)), .val (.int ((x2 &&& (255 : Int32)).toUInt32.toUInt16.toUInt32.toInt32)), .val (.ref b1), .unset, .val (.int (0 : Int32)), .unset, .unset, .unset] [(.long ((x3.toUInt64 >>> ((48 : Int32) &&& 0x3f).toInt64.toUInt64).toInt64)), (.int (6 : Int32)), (.ref b1)])) rfl (hb hby at_122) _) ?_
  refine gx (XS.land Xpt.here hx rfl (hb hby at_125) rfl) ?_
  refine gx (XS.l2i Xpt.here hx rfl (hb hby at_126) rfl) ?_
  refine gx (XS.i2c Xpt.here hx rfl (hb hby at_127) rfl) ?_
  obtain ⟨cl50, Ar50, q50, S50, N50, H50, G50⟩ := id Pf49_1
  have hin50 : ¬ ((6 : Int32) < 0 ∨ cl50.slots.size ≤ ((6 : Int32)).toNatClampNeg) := inb_of S50 ⟨by decide, by decide⟩
  obtain ⟨T51, h51, X51, e51, W51, st51⟩ := stC Xpt hx hZ Ept Ar50 (j := (6 : Int32)) hin50 (g := (mkF m 128 #[.val (.int x0), .val (.int x1), .val (.int x2), .val (.long x3), .second, .val (.int (x0 &&& (3 : Int32))), .val (.int ((x0.toUInt32 >>> ((2 : Int32) &&& 31).toUInt32).toInt32)), .val (.int ((x2 &&& (255 : Int32)).toUInt32.toUInt16.toUInt32.toInt32)), .val (.ref b1), .unset, .val (.int (0 : Int32)), .unset, .unset, .unset] [(.int (((((x3.toUInt64 >>> ((48 : Int32) &&& 0x3f).toInt64.toUInt64).toInt64) &&& (255 : Int64)).toInt32).toUInt32.toUInt16.toUInt32.toInt32)), (.int (6 : Int32)), (.ref b1)])) rfl rfl (hb hby at_128)
  subst e51
  have Sf52 := Safe.wr W51 Pf49_0 Rpt.1 Pf49_0
  have R53 := Rpt.trans (CHr.wr W51 Pf49_0 Rpt.1)
  have hk54 := Nat.le_trans hkpt (Nat.le_of_eq W51.size.symm)
  have O55 := Old49.wr W51 Pg49_13
  have N51 := Fr.snoc X51 Npt Pg49_13
  have Z51 : n0 ≤ T51.heap.size := Nat.le_trans Zpt (Nat.le_of_eq W51.size.symm)
  have V51 : Arv Z T51.heap b1 k1 .char (9 : Int32) [(.int (nar .char (((x3 &&& (255 : Int64)).toInt32).toUInt32.toUInt16.toUInt32.toInt32))), (.int (nar .char (((((x3.toUInt64 >>> ((8 : Int32) &&& 0x3f).toInt64.toUInt64).toInt64) &&& (255 : Int64)).toInt32).toUInt32.toUInt16.toUInt32.toInt32))), (.int (nar .char (((((x3.toUInt64 >>> ((16 : Int32) &&& 0x3f).toInt64.toUInt64).toInt64) &&& (255 : Int64)).toInt32).toUInt32.toUInt16.toUInt32.toInt32))), (.int (nar .char (((((x3.toUInt64 >>> ((24 : Int32) &&& 0x3f).toInt64.toUInt64).toInt64) &&& (255 : Int64)).toInt32).toUInt32.toUInt16.toUInt32.toInt32))), (.int (nar .char (((((x3.toUInt64 >>> ((32 : Int32) &&& 0x3f).toInt64.toUInt64).toInt64) &&& (255 : Int64)).toInt32).toUInt32.toUInt16.toUInt32.toInt32))), (.int (nar .char (((((x3.toUInt64 >>> ((40 : Int32) &&& 0x3f).toInt64.toUInt64).toInt64) &&& (255 : Int64)).toInt32).toUInt32.toUInt16.toUInt32.toInt32))), (.int (nar .char (((((x3.toUInt64 >>> ((48 : Int32) &&& 0x3f).toInt64.toUInt64).toInt64) &&& (255 : Int64)).toInt32).toUInt32.toUInt16.toUInt32.toInt32))), (.int (0 : Int32)), (.int (0 : Int32))] (.int (0 : Int32)) := Arv.set Ar50 q50 S50 N50 H50 G50 (fits_nar_char _) W51 6 rfl (Nat.le_of_ble_eq_true rfl)
  refine Goes.to st51 ?_
  refine gx (XS.aload X51.here hx rfl (hb hby at_129) rfl rfl) ?_
  refine gx (XS.bipush X51.here hx rfl (hb hby at_131)) ?_
  refine gx (XS.lloadN X51.here hx rfl (hb hby at_133) rfl) ?_
  refine gx (XS.bipush X51.here hx rfl (hb hby at_134)) ?_
  show Goes p.tables e below (T51.setTop (mkF m 136 #[.val (.int x0), .val (.int x1), .val (.int x2), .val (.long x3), .second, .val (.int (x0 &&& (3 : Int32))), .val (.int ((x0.toUInt32 >>> ((2 : Int32) &&& 31).toUInt32).toInt32)), .val (.int ((x2 &&& (255 : Int32)).toUInt32.toUInt16.toUInt32.toInt32)), .val (.ref b1), .unset, .val (.int (0 : Int32)), .unset, .unset, .unset] [(.int (56 : Int32)), (.long x3), (.int (7 : Int32)), (.ref b1)])) _
  refine gx (XS.lushr X51.here hx rfl (hb hby at_136) rfl) ?_
  refine gx (X51.ldc2Long hx hown (mvT hZ (own_hw hw 139 rfl)) (g := (mkF m 137 #[.val (.int x0), .val (.int x1), .val (.int x2), .val (.long x3), .second, .val (.int (x0 &&& (3 : Int32))), .val (.int ((x0.toUInt32 >>> ((2 : Int32) &&& 31).toUInt32).toInt32)), .val (.int ((x2 &&& (255 : Int32)).toUInt32.toUInt16.toUInt32.toInt32)), .val (.ref b1), .unset, .val (.int (0 : Int32)), .unset, .unset, .unset] [(.long ((x3.toUInt64 >>> ((56 : Int32) &&& 0x3f).toInt64.toUInt64).toInt64)), (.int (7 : Int32)), (.ref b1)])) rfl (hb hby at_137) _) ?_
  refine gx (XS.land X51.here hx rfl (hb hby at_140) rfl) ?_
  refine gx (XS.l2i X51.here hx rfl (hb hby at_141) rfl) ?_
  refine gx (XS.i2c X51.here hx rfl (hb hby at_142) rfl) ?_
  obtain ⟨cl57, Ar57, q57, S57, N57, H57, G57⟩ := id V51
  have hin57 : ¬ ((7 : Int32) < 0 ∨ cl57.slots.size ≤ ((7 : Int32)).toNatClampNeg) := inb_of S57 ⟨by decide, by decide⟩
  obtain ⟨T58, h58, X58, e58, W58, st58⟩ := stC X51 hx hZ rfl Ar57 (j := (7 : Int32)) hin57 (g := (mkF m 143 #[.val (.int x0), .val (.int x1), .val (.int x2), .val (.long x3), .second, .val (.int (x0 &&& (3 : Int32))), .val (.int ((x0.toUInt32 >>> ((2 : Int32) &&& 31).toUInt32).toInt32)), .val (.int ((x2 &&& (255 : Int32)).toUInt32.toUInt16.toUInt32.toInt32)), .val (.ref b1), .unset, .val (.int (0 : Int32)), .unset, .unset, .unset] [(.int (((((x3.toUInt64 >>> ((56 : Int32) &&& 0x3f).toInt64.toUInt64).toInt64) &&& (255 : Int64)).toInt32).toUInt32.toUInt16.toUInt32.toInt32)), (.int (7 : Int32)), (.ref b1)])) rfl rfl (hb hby at_143)
  subst e58
  have Sf59 := Safe.wr W58 Sf52 R53.1 Sf52
  have R60 := R53.trans (CHr.wr W58 Sf52 R53.1)
  have hk61 := Nat.le_trans hk54 (Nat.le_of_eq W58.size.symm)
  have O62 := O55.wr W58 Pg49_13
  have N58 := Fr.snoc X58 N51 Pg49_13
  have Z58 : n0 ≤ T58.heap.size := Nat.le_trans Z51 (Nat.le_of_eq W58.size.symm)
  have V58 : Arv Z T58.heap b1 k1 .char (9 : Int32) [(.int (nar .char (((x3 &&& (255 : Int64)).toInt32).toUInt32.toUInt16.toUInt32.toInt32))), (.int (nar .char (((((x3.toUInt64 >>> ((8 : Int32) &&& 0x3f).toInt64.toUInt64).toInt64) &&& (255 : Int64)).toInt32).toUInt32.toUInt16.toUInt32.toInt32))), (.int (nar .char (((((x3.toUInt64 >>> ((16 : Int32) &&& 0x3f).toInt64.toUInt64).toInt64) &&& (255 : Int64)).toInt32).toUInt32.toUInt16.toUInt32.toInt32))), (.int (nar .char (((((x3.toUInt64 >>> ((24 : Int32) &&& 0x3f).toInt64.toUInt64).toInt64) &&& (255 : Int64)).toInt32).toUInt32.toUInt16.toUInt32.toInt32))), (.int (nar .char (((((x3.toUInt64 >>> ((32 : Int32) &&& 0x3f).toInt64.toUInt64).toInt64) &&& (255 : Int64)).toInt32).toUInt32.toUInt16.toUInt32.toInt32))), (.int (nar .char (((((x3.toUInt64 >>> ((40 : Int32) &&& 0x3f).toInt64.toUInt64).toInt64) &&& (255 : Int64)).toInt32).toUInt32.toUInt16.toUInt32.toInt32))), (.int (nar .char (((((x3.toUInt64 >>> ((48 : Int32) &&& 0x3f).toInt64.toUInt64).toInt64) &&& (255 : Int64)).toInt32).toUInt32.toUInt16.toUInt32.toInt32))), (.int (nar .char (((((x3.toUInt64 >>> ((56 : Int32) &&& 0x3f).toInt64.toUInt64).toInt64) &&& (255 : Int64)).toInt32).toUInt32.toUInt16.toUInt32.toInt32))), (.int (0 : Int32))] (.int (0 : Int32)) := Arv.set Ar57 q57 S57 N57 H57 G57 (fits_nar_char _) W58 7 rfl (Nat.le_of_ble_eq_true rfl)
  refine Goes.to st58 ?_
  refine gx (XS.aload X58.here hx rfl (hb hby at_144) rfl rfl) ?_
  refine gx (XS.bipush X58.here hx rfl (hb hby at_146)) ?_
  refine gx (XS.iload X58.here hx rfl (hb hby at_148) rfl) ?_
  obtain ⟨cl64, Ar64, q64, S64, N64, H64, G64⟩ := id V58
  have hin64 : ¬ ((8 : Int32) < 0 ∨ cl64.slots.size ≤ ((8 : Int32)).toNatClampNeg) := inb_of S64 ⟨by decide, by decide⟩
  obtain ⟨T65, h65, X65, e65, W65, st65⟩ := stC X58 hx hZ rfl Ar64 (j := (8 : Int32)) hin64 (g := (mkF m 150 #[.val (.int x0), .val (.int x1), .val (.int x2), .val (.long x3), .second, .val (.int (x0 &&& (3 : Int32))), .val (.int ((x0.toUInt32 >>> ((2 : Int32) &&& 31).toUInt32).toInt32)), .val (.int ((x2 &&& (255 : Int32)).toUInt32.toUInt16.toUInt32.toInt32)), .val (.ref b1), .unset, .val (.int (0 : Int32)), .unset, .unset, .unset] [(.int ((x2 &&& (255 : Int32)).toUInt32.toUInt16.toUInt32.toInt32)), (.int (8 : Int32)), (.ref b1)])) rfl rfl (hb hby at_150)
  subst e65
  have R67 := R60.trans (CHr.wr W65 Sf59 R60.1)
  have hk68 := Nat.le_trans hk61 (Nat.le_of_eq W65.size.symm)
  have O69 := O62.wr W65 Pg49_13
  have N65 := Fr.snoc X65 N58 Pg49_13
  have Z65 : n0 ≤ T65.heap.size := Nat.le_trans Z58 (Nat.le_of_eq W65.size.symm)
  have V65 : Arv Z T65.heap b1 k1 .char (9 : Int32) [(.int (nar .char (((x3 &&& (255 : Int64)).toInt32).toUInt32.toUInt16.toUInt32.toInt32))), (.int (nar .char (((((x3.toUInt64 >>> ((8 : Int32) &&& 0x3f).toInt64.toUInt64).toInt64) &&& (255 : Int64)).toInt32).toUInt32.toUInt16.toUInt32.toInt32))), (.int (nar .char (((((x3.toUInt64 >>> ((16 : Int32) &&& 0x3f).toInt64.toUInt64).toInt64) &&& (255 : Int64)).toInt32).toUInt32.toUInt16.toUInt32.toInt32))), (.int (nar .char (((((x3.toUInt64 >>> ((24 : Int32) &&& 0x3f).toInt64.toUInt64).toInt64) &&& (255 : Int64)).toInt32).toUInt32.toUInt16.toUInt32.toInt32))), (.int (nar .char (((((x3.toUInt64 >>> ((32 : Int32) &&& 0x3f).toInt64.toUInt64).toInt64) &&& (255 : Int64)).toInt32).toUInt32.toUInt16.toUInt32.toInt32))), (.int (nar .char (((((x3.toUInt64 >>> ((40 : Int32) &&& 0x3f).toInt64.toUInt64).toInt64) &&& (255 : Int64)).toInt32).toUInt32.toUInt16.toUInt32.toInt32))), (.int (nar .char (((((x3.toUInt64 >>> ((48 : Int32) &&& 0x3f).toInt64.toUInt64).toInt64) &&& (255 : Int64)).toInt32).toUInt32.toUInt16.toUInt32.toInt32))), (.int (nar .char (((((x3.toUInt64 >>> ((56 : Int32) &&& 0x3f).toInt64.toUInt64).toInt64) &&& (255 : Int64)).toInt32).toUInt32.toUInt16.toUInt32.toInt32))), (.int (nar .char ((x2 &&& (255 : Int32)).toUInt32.toUInt16.toUInt32.toInt32)))] (.int (0 : Int32)) := Arv.set Ar64 q64 S64 N64 H64 G64 (fits_nar_char _) W65 8 rfl (Nat.le_of_ble_eq_true rfl)
  refine Goes.to st65 ?_
  refine gx (XS.iload X65.here hx rfl (hb hby at_151) rfl) ?_
  refine gx (XS.bipush X65.here hx rfl (hb hby at_153)) ?_
  refine gx (Jvm.RoadKit.iremM X65 hx rfl (hb hby at_155) rfl (by decide)) ?_
  refine gx (XS.istore X65.here hx rfl (hb hby at_156) rfl (l' := #[.val (.int x0), .val (.int x1), .val (.int x2), .val (.long x3), .second, .val (.int (x0 &&& (3 : Int32))), .val (.int ((x0.toUInt32 >>> ((2 : Int32) &&& 31).toUInt32).toInt32)), .val (.int ((x2 &&& (255 : Int32)).toUInt32.toUInt16.toUInt32.toInt32)), .val (.ref b1), .unset, .val (.int (0 : Int32)), .val (.int (((x0.toUInt32 >>> ((2 : Int32) &&& 31).toUInt32).toInt32) % (11 : Int32))), .unset, .unset]) rfl) ?_
  refine gx (XS.iload X65.here hx rfl (hb hby at_158) rfl) ?_
  refine gx (XS.bipush X65.here hx rfl (hb hby at_160)) ?_
  by_cases hc71 : (((x0.toUInt32 >>> ((2 : Int32) &&& 31).toUInt32).toInt32) % (11 : Int32)) = (10 : Int32)
  · refine gx (XS.icmpNo X65.here hx rfl (hb hby at_162) rfl (teq hc71).2) ?_
    show Goes p.tables e below (T65.setTop (mkF m 165 #[.val (.int x0), .val (.int x1), .val (.int x2), .val (.long x3), .second, .val (.int (x0 &&& (3 : Int32))), .val (.int ((x0.toUInt32 >>> ((2 : Int32) &&& 31).toUInt32).toInt32)), .val (.int ((x2 &&& (255 : Int32)).toUInt32.toUInt16.toUInt32.toInt32)), .val (.ref b1), .unset, .val (.int (0 : Int32)), .val (.int (((x0.toUInt32 >>> ((2 : Int32) &&& 31).toUInt32).toInt32) % (11 : Int32))), .unset, .unset] [])) _
    refine gx (XS.iconst X65.here hx rfl (hb hby at_165)) ?_
    refine gx (XS.istore X65.here hx rfl (hb hby at_166) rfl (l' := #[.val (.int x0), .val (.int x1), .val (.int x2), .val (.long x3), .second, .val (.int (x0 &&& (3 : Int32))), .val (.int ((x0.toUInt32 >>> ((2 : Int32) &&& 31).toUInt32).toInt32)), .val (.int ((x2 &&& (255 : Int32)).toUInt32.toUInt16.toUInt32.toInt32)), .val (.ref b1), .unset, .val (.int (1 : Int32)), .val (.int (((x0.toUInt32 >>> ((2 : Int32) &&& 31).toUInt32).toInt32) % (11 : Int32))), .unset, .unset]) rfl) ?_
    refine gx (XS.iconst X65.here hx rfl (hb hby at_168)) ?_
    refine gx (XS.istore X65.here hx rfl (hb hby at_169) rfl (l' := #[.val (.int x0), .val (.int x1), .val (.int x2), .val (.long x3), .second, .val (.int (x0 &&& (3 : Int32))), .val (.int ((x0.toUInt32 >>> ((2 : Int32) &&& 31).toUInt32).toInt32)), .val (.int ((x2 &&& (255 : Int32)).toUInt32.toUInt16.toUInt32.toInt32)), .val (.ref b1), .val (.int (0 : Int32)), .val (.int (1 : Int32)), .val (.int (((x0.toUInt32 >>> ((2 : Int32) &&& 31).toUInt32).toInt32) % (11 : Int32))), .unset, .unset]) rfl) ?_
    refine gx (XS.goto X65.here hx rfl (pc0 := 171) (pc' := 178) rfl (hb hby at_171) (by decide) (by decide)) ?_
    show Goes p.tables e below (T65.setTop (mkF m 178 #[.val (.int x0), .val (.int x1), .val (.int x2), .val (.long x3), .second, .val (.int (x0 &&& (3 : Int32))), .val (.int ((x0.toUInt32 >>> ((2 : Int32) &&& 31).toUInt32).toInt32)), .val (.int ((x2 &&& (255 : Int32)).toUInt32.toUInt16.toUInt32.toInt32)), .val (.ref b1), .val (.int (0 : Int32)), .val (.int (1 : Int32)), .val (.int (((x0.toUInt32 >>> ((2 : Int32) &&& 31).toUInt32).toInt32) % (11 : Int32))), .unset, .unset] [])) _
    refine gx (XS.goto X65.here hx rfl (pc0 := 178) (pc' := 380) rfl (hb hby at_178) (by decide) (by decide)) ?_
    refine gx (XS.iload X65.here hx rfl (hb hby at_380) rfl) ?_
    refine gx (XS.ifNo X65.here hx rfl (hb hby at_382) rfl ((if0 _ _).trans (feq (by decide : ¬ ((1 : Int32) = (0 : Int32)))).1)) ?_
    refine gx (XS.aconstNull X65.here hx rfl (hb hby at_385)) ?_
    refine gx (XS.goto X65.here hx rfl (pc0 := 386) (pc' := 396) rfl (hb hby at_386) (by decide) (by decide)) ?_
    exact own_pt_own_rm0_72 l Z a0 hw ws x0 x1 x2 x3 aV kV a1 a2 a3 aE w1 w2 w3 v1 v2 v3 q1 q2 q3 cs fm h0 n0 Z0 hPm Bd hml0 hh  b1 T65 _ vmpt hZ hown T65.heap X65 rfl N65 Z65  _ hSpt hk68 R67 O69 Ph49_15 hc71
  · refine gx (XS.icmpYes X65.here hx rfl (pc0 := 162) (pc' := 174) rfl (hb hby at_162) rfl (feq hc71).2 (by decide) (by decide)) ?_
    show Goes p.tables e below (T65.setTop (mkF m 174 #[.val (.int x0), .val (.int x1), .val (.int x2), .val (.long x3), .second, .val (.int (x0 &&& (3 : Int32))), .val (.int ((x0.toUInt32 >>> ((2 : Int32) &&& 31).toUInt32).toInt32)), .val (.int ((x2 &&& (255 : Int32)).toUInt32.toUInt16.toUInt32.toInt32)), .val (.ref b1), .unset, .val (.int (0 : Int32)), .val (.int (((x0.toUInt32 >>> ((2 : Int32) &&& 31).toUInt32).toInt32) % (11 : Int32))), .unset, .unset] [])) _
    refine gx (XS.iload X65.here hx rfl (hb hby at_174) rfl) ?_
    refine gx (XS.istore X65.here hx rfl (hb hby at_176) rfl (l' := #[.val (.int x0), .val (.int x1), .val (.int x2), .val (.long x3), .second, .val (.int (x0 &&& (3 : Int32))), .val (.int ((x0.toUInt32 >>> ((2 : Int32) &&& 31).toUInt32).toInt32)), .val (.int ((x2 &&& (255 : Int32)).toUInt32.toUInt16.toUInt32.toInt32)), .val (.ref b1), .val (.int (((x0.toUInt32 >>> ((2 : Int32) &&& 31).toUInt32).toInt32) % (11 : Int32))), .val (.int (0 : Int32)), .val (.int (((x0.toUInt32 >>> ((2 : Int32) &&& 31).toUInt32).toInt32) % (11 : Int32))), .unset, .unset]) rfl) ?_
    refine gx (XS.goto X65.here hx rfl (pc0 := 178) (pc' := 380) rfl (hb hby at_178) (by decide) (by decide)) ?_
    refine gx (XS.iload X65.here hx rfl (hb hby at_380) rfl) ?_
    refine gx (XS.ifYes X65.here hx rfl (pc0 := 382) (pc' := 389) rfl (hb hby at_382) rfl ((if0 _ _).trans (teq (by decide : (0 : Int32) = (0 : Int32))).1) (by decide) (by decide)) ?_
    exact own_pt_own_rm0_119 l Z a0 hw ws x0 x1 x2 x3 aV kV a1 a2 a3 aE w1 w2 w3 v1 v2 v3 q1 q2 q3 cs fm h0 n0 Z0 hPm Bd hml0 hh  b1 k1 ([(nar .char (((x3 &&& (255 : Int64)).toInt32).toUInt32.toUInt16.toUInt32.toInt32)), (nar .char (((((x3.toUInt64 >>> ((8 : Int32) &&& 0x3f).toInt64.toUInt64).toInt64) &&& (255 : Int64)).toInt32).toUInt32.toUInt16.toUInt32.toInt32)), (nar .char (((((x3.toUInt64 >>> ((16 : Int32) &&& 0x3f).toInt64.toUInt64).toInt64) &&& (255 : Int64)).toInt32).toUInt32.toUInt16.toUInt32.toInt32)), (nar .char (((((x3.toUInt64 >>> ((24 : Int32) &&& 0x3f).toInt64.toUInt64).toInt64) &&& (255 : Int64)).toInt32).toUInt32.toUInt16.toUInt32.toInt32)), (nar .char (((((x3.toUInt64 >>> ((32 : Int32) &&& 0x3f).toInt64.toUInt64).toInt64) &&& (255 : Int64)).toInt32).toUInt32.toUInt16.toUInt32.toInt32)), (nar .char (((((x3.toUInt64 >>> ((40 : Int32) &&& 0x3f).toInt64.toUInt64).toInt64) &&& (255 : Int64)).toInt32).toUInt32.toUInt16.toUInt32.toInt32)), (nar .char (((((x3.toUInt64 >>> ((48 : Int32) &&& 0x3f).toInt64.toUInt64).toInt64) &&& (255 : Int64)).toInt32).toUInt32.toUInt16.toUInt32.toInt32)), (nar .char (((((x3.toUInt64 >>> ((56 : Int32) &&& 0x3f).toInt64.toUInt64).toInt64) &&& (255 : Int64)).toInt32).toUInt32.toUInt16.toUInt32.toInt32)), (nar .char ((x2 &&& (255 : Int32)).toUInt32.toUInt16.toUInt32.toInt32))] : List Int32) (((x0.toUInt32 >>> ((2 : Int32) &&& 31).toUInt32).toInt32) % (11 : Int32)) (.val (.int (x0 &&& (3 : Int32)))) (.val (.int ((x0.toUInt32 >>> ((2 : Int32) &&& 31).toUInt32).toInt32))) (.val (.int ((x2 &&& (255 : Int32)).toUInt32.toUInt16.toUInt32.toInt32))) (((x0.toUInt32 >>> ((2 : Int32) &&& 31).toUInt32).toInt32) % (11 : Int32)) T65 _ vmpt hZ hown T65.heap (own_wk X65 (by decide) (by decide)) rfl N65 Z65  _ hSpt hk68 R67 V65 O69 (own_aS (own_p8nar (own_p8i2c (own_p8andl _))) (own_aS (own_p8nar (own_p8i2c (own_p8andl _))) (own_aS (own_p8nar (own_p8i2c (own_p8andl _))) (own_aS (own_p8nar (own_p8i2c (own_p8andl _))) (own_aS (own_p8nar (own_p8i2c (own_p8andl _))) (own_aS (own_p8nar (own_p8i2c (own_p8andl _))) (own_aS (own_p8nar (own_p8i2c (own_p8andl _))) (own_aS (own_p8nar (own_p8i2c (own_p8andl _))) (own_aS (own_p8nar (own_p8i2c (own_p8and _))) own_a0)))))))))
set_option maxRecDepth 65536 in
set_option maxHeartbeats 40000000 in
theorem own_pt_own_rm0_20 (l : Launch) (Z : State) (a0 : Array Value) (hw : ∀ d ∈ tables_1, d.before a0 Z = true) (ws : List Jvm.Cond) (x0 : Int32) (x1 : Int32) (x2 : Int32) (x3 : Int64) (aV : Addr) (kV : ClassId) (a1 : Addr) (a2 : Addr) (a3 : Addr) (aE : Addr) (w1 : Addr) (w2 : Addr) (w3 : Addr) (v1 : Addr) (v2 : Addr) (v3 : Addr) (q1 : ClassId) (q2 : ClassId) (q3 : ClassId) (cs : Int32) (fm : Value) (h0 : Heap) (n0 : Nat) (Z0 : n0 ≤ h0.size) (hPm : own_P_own_rm0 Z a0 x0 x1 x2 x3 aV kV a1 a2 a3 aE w1 w2 w3 v1 v2 v3 q1 q2 q3 cs fm h0 n0)
    {p : Program} {e : Env} {s : State} {m : MethodId} {below : List Frame} {meth : Method} {c : Code} {s₁ : State} (Bd : BodyLoose p l x (head1 (Jvm.Cond.code x code maxLocals ret :: ws) room_1) code maxLocals ret e s m #[(.int x0), (.int x1), (.int x2), (.long x3)] below meth c s₁) (hml0 : c.maxLocals = maxLocals) (hh : s.heap = h0) 
    (b1 : Addr) (k1 : ClassId)
    (Tpt : State) (lpt : List Loc) (vmpt : Vm) (hZ : Z.Warmed39 vmpt) (hown : vmpt.findClass "com/example/polgen/polgen/model/MultiplicityNamedPinLaw" = some m.cls) (hpt : Heap)
    (Xpt : Stand p l e room_1 (s.setVm vmpt) m #[(.int x0), (.int x1), (.int x2), (.long x3)] below meth c Tpt lpt 1 9) (Ept : Tpt.heap = hpt) (Npt : Fr n0 lpt) (Zpt : n0 ≤ hpt.size) (kpt : Nat) (hSpt : s.Since vmpt kpt) (hkpt : kpt ≤ hpt.size) (Rpt : CHr Z own_EL s.vm h0 vmpt hpt)
    (Pf20_0 : Safe Z own_EL vmpt hpt b1)
    (Pf20_1 : Arv Z hpt b1 k1 .char (9 : Int32) [(.int (nar .char (((x3 &&& (255 : Int64)).toInt32).toUInt32.toUInt16.toUInt32.toInt32))), (.int (nar .char (((((x3.toUInt64 >>> ((8 : Int32) &&& 0x3f).toInt64.toUInt64).toInt64) &&& (255 : Int64)).toInt32).toUInt32.toUInt16.toUInt32.toInt32))), (.int (0 : Int32)), (.int (0 : Int32)), (.int (0 : Int32)), (.int (0 : Int32)), (.int (0 : Int32)), (.int (0 : Int32)), (.int (0 : Int32))] (.int (0 : Int32)))
    (Pg20_13 : n0 ≤ b1)
    (Old20 : Old Z n0 hpt)
    (Ph20_15 : (x0 &&& (3 : Int32)) = (3 : Int32))
    : Goes p.tables e below (Tpt.setTop (mkF m 60 #[.val (.int x0), .val (.int x1), .val (.int x2), .val (.long x3), .second, .val (.int (x0 &&& (3 : Int32))), .val (.int ((x0.toUInt32 >>> ((2 : Int32) &&& 31).toUInt32).toInt32)), .val (.int ((x2 &&& (255 : Int32)).toUInt32.toUInt16.toUInt32.toInt32)), .val (.ref b1), .unset, .val (.int (0 : Int32)), .unset, .unset, .unset] [(.ref b1)])) (own_RW below s (own_Q_own_rm0 Z x0 x1 x2 x3 aV kV a1 a2 a3 aE w1 w2 w3 v1 v2 v3 q1 q2 q3 cs fm h0 n0) 17 147) := by
  obtain ⟨O0, hCH0, S1, S2, S3, E1, E2, E3, SV, VV, EV, SE, EE, FE, Fw1, Ew1, Cw1, Vw1, Aw1, Fw2, Ew2, Cw2, Vw2, Aw2, Fw3, Ew3, Cw3, Vw3, Aw3, SC, hcs, SF, hfm⟩ := id hPm
  have hx := Bd.exec
  have hby := Bd.bytes
  have hml : c.maxLocals = 14 := hml0
  have hnm := (name_of_methodNamed Bd.named Bd.method).1
  have own_wS' : ∀ a ∈ Bundle.stringAtoms, a.before a0 Z = true := own_wS hw
  have hEL := own_EW hw
  refine gx (XS.iconst Xpt.here hx rfl (hb hby at_60)) ?_
  refine gx (XS.lloadN Xpt.here hx rfl (hb hby at_61) rfl) ?_
  refine gx (XS.bipush Xpt.here hx rfl (hb hby at_62)) ?_
  refine gx (XS.lushr Xpt.here hx rfl (hb hby at_64) rfl) ?_
  refine gx (Xpt.ldc2Long hx hown (mvT hZ (own_hw hw 139 rfl)) (g := (mkF m 65 #[.val (.int x0), .val (.int x1), .val (.int x2), .val (.long x3), .second, .val (.int (x0 &&& (3 : Int32))), .val (.int ((x0.toUInt32 >>> ((2 : Int32) &&& 31).toUInt32).toInt32)), .val (.int ((x2 &&& (255 : Int32)).toUInt32.toUInt16.toUInt32.toInt32)), .val (.ref b1), .unset, .val (.int (0 : Int32)), .unset, .unset, .unset] [(.long ((x3.toUInt64 >>> ((16 : Int32) &&& 0x3f).toInt64.toUInt64).toInt64)), (.int (2 : Int32)), (.ref b1)])) rfl (hb hby at_65) _) ?_
  refine gx (XS.land Xpt.here hx rfl (hb hby at_68) rfl) ?_
  refine gx (XS.l2i Xpt.here hx rfl (hb hby at_69) rfl) ?_
  refine gx (XS.i2c Xpt.here hx rfl (hb hby at_70) rfl) ?_
  obtain ⟨cl21, Ar21, q21, S21, N21, H21, G21⟩ := id Pf20_1
  have hin21 : ¬ ((2 : Int32) < 0 ∨ cl21.slots.size ≤ ((2 : Int32)).toNatClampNeg) := inb_of S21 ⟨by decide, by decide⟩
  obtain ⟨T22, h22, X22, e22, W22, st22⟩ := stC Xpt hx hZ Ept Ar21 (j := (2 : Int32)) hin21 (g := (mkF m 71 #[.val (.int x0), .val (.int x1), .val (.int x2), .val (.long x3), .second, .val (.int (x0 &&& (3 : Int32))), .val (.int ((x0.toUInt32 >>> ((2 : Int32) &&& 31).toUInt32).toInt32)), .val (.int ((x2 &&& (255 : Int32)).toUInt32.toUInt16.toUInt32.toInt32)), .val (.ref b1), .unset, .val (.int (0 : Int32)), .unset, .unset, .unset] [(.int (((((x3.toUInt64 >>> ((16 : Int32) &&& 0x3f).toInt64.toUInt64).toInt64) &&& (255 : Int64)).toInt32).toUInt32.toUInt16.toUInt32.toInt32)), (.int (2 : Int32)), (.ref b1)])) rfl rfl (hb hby at_71)
  subst e22
  have Sf23 := Safe.wr W22 Pf20_0 Rpt.1 Pf20_0
  have R24 := Rpt.trans (CHr.wr W22 Pf20_0 Rpt.1)
  have hk25 := Nat.le_trans hkpt (Nat.le_of_eq W22.size.symm)
  have O26 := Old20.wr W22 Pg20_13
  have N22 := Fr.snoc X22 Npt Pg20_13
  have Z22 : n0 ≤ T22.heap.size := Nat.le_trans Zpt (Nat.le_of_eq W22.size.symm)
  have V22 : Arv Z T22.heap b1 k1 .char (9 : Int32) [(.int (nar .char (((x3 &&& (255 : Int64)).toInt32).toUInt32.toUInt16.toUInt32.toInt32))), (.int (nar .char (((((x3.toUInt64 >>> ((8 : Int32) &&& 0x3f).toInt64.toUInt64).toInt64) &&& (255 : Int64)).toInt32).toUInt32.toUInt16.toUInt32.toInt32))), (.int (nar .char (((((x3.toUInt64 >>> ((16 : Int32) &&& 0x3f).toInt64.toUInt64).toInt64) &&& (255 : Int64)).toInt32).toUInt32.toUInt16.toUInt32.toInt32))), (.int (0 : Int32)), (.int (0 : Int32)), (.int (0 : Int32)), (.int (0 : Int32)), (.int (0 : Int32)), (.int (0 : Int32))] (.int (0 : Int32)) := Arv.set Ar21 q21 S21 N21 H21 G21 (fits_nar_char _) W22 2 rfl (Nat.le_of_ble_eq_true rfl)
  refine Goes.to st22 ?_
  refine gx (XS.aload X22.here hx rfl (hb hby at_72) rfl rfl) ?_
  refine gx (XS.iconst X22.here hx rfl (hb hby at_74)) ?_
  refine gx (XS.lloadN X22.here hx rfl (hb hby at_75) rfl) ?_
  refine gx (XS.bipush X22.here hx rfl (hb hby at_76)) ?_
  show Goes p.tables e below (T22.setTop (mkF m 78 #[.val (.int x0), .val (.int x1), .val (.int x2), .val (.long x3), .second, .val (.int (x0 &&& (3 : Int32))), .val (.int ((x0.toUInt32 >>> ((2 : Int32) &&& 31).toUInt32).toInt32)), .val (.int ((x2 &&& (255 : Int32)).toUInt32.toUInt16.toUInt32.toInt32)), .val (.ref b1), .unset, .val (.int (0 : Int32)), .unset, .unset, .unset] [(.int (24 : Int32)), (.long x3), (.int (3 : Int32)), (.ref b1)])) _
  refine gx (XS.lushr X22.here hx rfl (hb hby at_78) rfl) ?_
  refine gx (X22.ldc2Long hx hown (mvT hZ (own_hw hw 139 rfl)) (g := (mkF m 79 #[.val (.int x0), .val (.int x1), .val (.int x2), .val (.long x3), .second, .val (.int (x0 &&& (3 : Int32))), .val (.int ((x0.toUInt32 >>> ((2 : Int32) &&& 31).toUInt32).toInt32)), .val (.int ((x2 &&& (255 : Int32)).toUInt32.toUInt16.toUInt32.toInt32)), .val (.ref b1), .unset, .val (.int (0 : Int32)), .unset, .unset, .unset] [(.long ((x3.toUInt64 >>> ((24 : Int32) &&& 0x3f).toInt64.toUInt64).toInt64)), (.int (3 : Int32)), (.ref b1)])) rfl (hb hby at_79) _) ?_
  refine gx (XS.land X22.here hx rfl (hb hby at_82) rfl) ?_
  refine gx (XS.l2i X22.here hx rfl (hb hby at_83) rfl) ?_
  refine gx (XS.i2c X22.here hx rfl (hb hby at_84) rfl) ?_
  obtain ⟨cl28, Ar28, q28, S28, N28, H28, G28⟩ := id V22
  have hin28 : ¬ ((3 : Int32) < 0 ∨ cl28.slots.size ≤ ((3 : Int32)).toNatClampNeg) := inb_of S28 ⟨by decide, by decide⟩
  obtain ⟨T29, h29, X29, e29, W29, st29⟩ := stC X22 hx hZ rfl Ar28 (j := (3 : Int32)) hin28 (g := (mkF m 85 #[.val (.int x0), .val (.int x1), .val (.int x2), .val (.long x3), .second, .val (.int (x0 &&& (3 : Int32))), .val (.int ((x0.toUInt32 >>> ((2 : Int32) &&& 31).toUInt32).toInt32)), .val (.int ((x2 &&& (255 : Int32)).toUInt32.toUInt16.toUInt32.toInt32)), .val (.ref b1), .unset, .val (.int (0 : Int32)), .unset, .unset, .unset] [(.int (((((x3.toUInt64 >>> ((24 : Int32) &&& 0x3f).toInt64.toUInt64).toInt64) &&& (255 : Int64)).toInt32).toUInt32.toUInt16.toUInt32.toInt32)), (.int (3 : Int32)), (.ref b1)])) rfl rfl (hb hby at_85)
  subst e29
  have Sf30 := Safe.wr W29 Sf23 R24.1 Sf23
  have R31 := R24.trans (CHr.wr W29 Sf23 R24.1)
  have hk32 := Nat.le_trans hk25 (Nat.le_of_eq W29.size.symm)
  have O33 := O26.wr W29 Pg20_13
  have N29 := Fr.snoc X29 N22 Pg20_13
  have Z29 : n0 ≤ T29.heap.size := Nat.le_trans Z22 (Nat.le_of_eq W29.size.symm)
  have V29 : Arv Z T29.heap b1 k1 .char (9 : Int32) [(.int (nar .char (((x3 &&& (255 : Int64)).toInt32).toUInt32.toUInt16.toUInt32.toInt32))), (.int (nar .char (((((x3.toUInt64 >>> ((8 : Int32) &&& 0x3f).toInt64.toUInt64).toInt64) &&& (255 : Int64)).toInt32).toUInt32.toUInt16.toUInt32.toInt32))), (.int (nar .char (((((x3.toUInt64 >>> ((16 : Int32) &&& 0x3f).toInt64.toUInt64).toInt64) &&& (255 : Int64)).toInt32).toUInt32.toUInt16.toUInt32.toInt32))), (.int (nar .char (((((x3.toUInt64 >>> ((24 : Int32) &&& 0x3f).toInt64.toUInt64).toInt64) &&& (255 : Int64)).toInt32).toUInt32.toUInt16.toUInt32.toInt32))), (.int (0 : Int32)), (.int (0 : Int32)), (.int (0 : Int32)), (.int (0 : Int32)), (.int (0 : Int32))] (.int (0 : Int32)) := Arv.set Ar28 q28 S28 N28 H28 G28 (fits_nar_char _) W29 3 rfl (Nat.le_of_ble_eq_true rfl)
  refine Goes.to st29 ?_
  refine gx (XS.aload X29.here hx rfl (hb hby at_86) rfl rfl) ?_
  refine gx (XS.iconst X29.here hx rfl (hb hby at_88)) ?_
  refine gx (XS.lloadN X29.here hx rfl (hb hby at_89) rfl) ?_
  refine gx (XS.bipush X29.here hx rfl (hb hby at_90)) ?_
  show Goes p.tables e below (T29.setTop (mkF m 92 #[.val (.int x0), .val (.int x1), .val (.int x2), .val (.long x3), .second, .val (.int (x0 &&& (3 : Int32))), .val (.int ((x0.toUInt32 >>> ((2 : Int32) &&& 31).toUInt32).toInt32)), .val (.int ((x2 &&& (255 : Int32)).toUInt32.toUInt16.toUInt32.toInt32)), .val (.ref b1), .unset, .val (.int (0 : Int32)), .unset, .unset, .unset] [(.int (32 : Int32)), (.long x3), (.int (4 : Int32)), (.ref b1)])) _
  refine gx (XS.lushr X29.here hx rfl (hb hby at_92) rfl) ?_
  refine gx (X29.ldc2Long hx hown (mvT hZ (own_hw hw 139 rfl)) (g := (mkF m 93 #[.val (.int x0), .val (.int x1), .val (.int x2), .val (.long x3), .second, .val (.int (x0 &&& (3 : Int32))), .val (.int ((x0.toUInt32 >>> ((2 : Int32) &&& 31).toUInt32).toInt32)), .val (.int ((x2 &&& (255 : Int32)).toUInt32.toUInt16.toUInt32.toInt32)), .val (.ref b1), .unset, .val (.int (0 : Int32)), .unset, .unset, .unset] [(.long ((x3.toUInt64 >>> ((32 : Int32) &&& 0x3f).toInt64.toUInt64).toInt64)), (.int (4 : Int32)), (.ref b1)])) rfl (hb hby at_93) _) ?_
  refine gx (XS.land X29.here hx rfl (hb hby at_96) rfl) ?_
  refine gx (XS.l2i X29.here hx rfl (hb hby at_97) rfl) ?_
  refine gx (XS.i2c X29.here hx rfl (hb hby at_98) rfl) ?_
  obtain ⟨cl35, Ar35, q35, S35, N35, H35, G35⟩ := id V29
  have hin35 : ¬ ((4 : Int32) < 0 ∨ cl35.slots.size ≤ ((4 : Int32)).toNatClampNeg) := inb_of S35 ⟨by decide, by decide⟩
  obtain ⟨T36, h36, X36, e36, W36, st36⟩ := stC X29 hx hZ rfl Ar35 (j := (4 : Int32)) hin35 (g := (mkF m 99 #[.val (.int x0), .val (.int x1), .val (.int x2), .val (.long x3), .second, .val (.int (x0 &&& (3 : Int32))), .val (.int ((x0.toUInt32 >>> ((2 : Int32) &&& 31).toUInt32).toInt32)), .val (.int ((x2 &&& (255 : Int32)).toUInt32.toUInt16.toUInt32.toInt32)), .val (.ref b1), .unset, .val (.int (0 : Int32)), .unset, .unset, .unset] [(.int (((((x3.toUInt64 >>> ((32 : Int32) &&& 0x3f).toInt64.toUInt64).toInt64) &&& (255 : Int64)).toInt32).toUInt32.toUInt16.toUInt32.toInt32)), (.int (4 : Int32)), (.ref b1)])) rfl rfl (hb hby at_99)
  subst e36
  have Sf37 := Safe.wr W36 Sf30 R31.1 Sf30
  have R38 := R31.trans (CHr.wr W36 Sf30 R31.1)
  have hk39 := Nat.le_trans hk32 (Nat.le_of_eq W36.size.symm)
  have O40 := O33.wr W36 Pg20_13
  have N36 := Fr.snoc X36 N29 Pg20_13
  have Z36 : n0 ≤ T36.heap.size := Nat.le_trans Z29 (Nat.le_of_eq W36.size.symm)
  have V36 : Arv Z T36.heap b1 k1 .char (9 : Int32) [(.int (nar .char (((x3 &&& (255 : Int64)).toInt32).toUInt32.toUInt16.toUInt32.toInt32))), (.int (nar .char (((((x3.toUInt64 >>> ((8 : Int32) &&& 0x3f).toInt64.toUInt64).toInt64) &&& (255 : Int64)).toInt32).toUInt32.toUInt16.toUInt32.toInt32))), (.int (nar .char (((((x3.toUInt64 >>> ((16 : Int32) &&& 0x3f).toInt64.toUInt64).toInt64) &&& (255 : Int64)).toInt32).toUInt32.toUInt16.toUInt32.toInt32))), (.int (nar .char (((((x3.toUInt64 >>> ((24 : Int32) &&& 0x3f).toInt64.toUInt64).toInt64) &&& (255 : Int64)).toInt32).toUInt32.toUInt16.toUInt32.toInt32))), (.int (nar .char (((((x3.toUInt64 >>> ((32 : Int32) &&& 0x3f).toInt64.toUInt64).toInt64) &&& (255 : Int64)).toInt32).toUInt32.toUInt16.toUInt32.toInt32))), (.int (0 : Int32)), (.int (0 : Int32)), (.int (0 : Int32)), (.int (0 : Int32))] (.int (0 : Int32)) := Arv.set Ar35 q35 S35 N35 H35 G35 (fits_nar_char _) W36 4 rfl (Nat.le_of_ble_eq_true rfl)
  refine Goes.to st36 ?_
  refine gx (XS.aload X36.here hx rfl (hb hby at_100) rfl rfl) ?_
  refine gx (XS.iconst X36.here hx rfl (hb hby at_102)) ?_
  refine gx (XS.lloadN X36.here hx rfl (hb hby at_103) rfl) ?_
  refine gx (XS.bipush X36.here hx rfl (hb hby at_104)) ?_
  show Goes p.tables e below (T36.setTop (mkF m 106 #[.val (.int x0), .val (.int x1), .val (.int x2), .val (.long x3), .second, .val (.int (x0 &&& (3 : Int32))), .val (.int ((x0.toUInt32 >>> ((2 : Int32) &&& 31).toUInt32).toInt32)), .val (.int ((x2 &&& (255 : Int32)).toUInt32.toUInt16.toUInt32.toInt32)), .val (.ref b1), .unset, .val (.int (0 : Int32)), .unset, .unset, .unset] [(.int (40 : Int32)), (.long x3), (.int (5 : Int32)), (.ref b1)])) _
  refine gx (XS.lushr X36.here hx rfl (hb hby at_106) rfl) ?_
  refine gx (X36.ldc2Long hx hown (mvT hZ (own_hw hw 139 rfl)) (g := (mkF m 107 #[.val (.int x0), .val (.int x1), .val (.int x2), .val (.long x3), .second, .val (.int (x0 &&& (3 : Int32))), .val (.int ((x0.toUInt32 >>> ((2 : Int32) &&& 31).toUInt32).toInt32)), .val (.int ((x2 &&& (255 : Int32)).toUInt32.toUInt16.toUInt32.toInt32)), .val (.ref b1), .unset, .val (.int (0 : Int32)), .unset, .unset, .unset] [(.long ((x3.toUInt64 >>> ((40 : Int32) &&& 0x3f).toInt64.toUInt64).toInt64)), (.int (5 : Int32)), (.ref b1)])) rfl (hb hby at_107) _) ?_
  refine gx (XS.land X36.here hx rfl (hb hby at_110) rfl) ?_
  refine gx (XS.l2i X36.here hx rfl (hb hby at_111) rfl) ?_
  refine gx (XS.i2c X36.here hx rfl (hb hby at_112) rfl) ?_
  obtain ⟨cl42, Ar42, q42, S42, N42, H42, G42⟩ := id V36
  have hin42 : ¬ ((5 : Int32) < 0 ∨ cl42.slots.size ≤ ((5 : Int32)).toNatClampNeg) := inb_of S42 ⟨by decide, by decide⟩
  obtain ⟨T43, h43, X43, e43, W43, st43⟩ := stC X36 hx hZ rfl Ar42 (j := (5 : Int32)) hin42 (g := (mkF m 113 #[.val (.int x0), .val (.int x1), .val (.int x2), .val (.long x3), .second, .val (.int (x0 &&& (3 : Int32))), .val (.int ((x0.toUInt32 >>> ((2 : Int32) &&& 31).toUInt32).toInt32)), .val (.int ((x2 &&& (255 : Int32)).toUInt32.toUInt16.toUInt32.toInt32)), .val (.ref b1), .unset, .val (.int (0 : Int32)), .unset, .unset, .unset] [(.int (((((x3.toUInt64 >>> ((40 : Int32) &&& 0x3f).toInt64.toUInt64).toInt64) &&& (255 : Int64)).toInt32).toUInt32.toUInt16.toUInt32.toInt32)), (.int (5 : Int32)), (.ref b1)])) rfl rfl (hb hby at_113)
  subst e43
  have Sf44 := Safe.wr W43 Sf37 R38.1 Sf37
  have R45 := R38.trans (CHr.wr W43 Sf37 R38.1)
  have hk46 := Nat.le_trans hk39 (Nat.le_of_eq W43.size.symm)
  have O47 := O40.wr W43 Pg20_13
  have N43 := Fr.snoc X43 N36 Pg20_13
  have Z43 : n0 ≤ T43.heap.size := Nat.le_trans Z36 (Nat.le_of_eq W43.size.symm)
  have V43 : Arv Z T43.heap b1 k1 .char (9 : Int32) [(.int (nar .char (((x3 &&& (255 : Int64)).toInt32).toUInt32.toUInt16.toUInt32.toInt32))), (.int (nar .char (((((x3.toUInt64 >>> ((8 : Int32) &&& 0x3f).toInt64.toUInt64).toInt64) &&& (255 : Int64)).toInt32).toUInt32.toUInt16.toUInt32.toInt32))), (.int (nar .char (((((x3.toUInt64 >>> ((16 : Int32) &&& 0x3f).toInt64.toUInt64).toInt64) &&& (255 : Int64)).toInt32).toUInt32.toUInt16.toUInt32.toInt32))), (.int (nar .char (((((x3.toUInt64 >>> ((24 : Int32) &&& 0x3f).toInt64.toUInt64).toInt64) &&& (255 : Int64)).toInt32).toUInt32.toUInt16.toUInt32.toInt32))), (.int (nar .char (((((x3.toUInt64 >>> ((32 : Int32) &&& 0x3f).toInt64.toUInt64).toInt64) &&& (255 : Int64)).toInt32).toUInt32.toUInt16.toUInt32.toInt32))), (.int (nar .char (((((x3.toUInt64 >>> ((40 : Int32) &&& 0x3f).toInt64.toUInt64).toInt64) &&& (255 : Int64)).toInt32).toUInt32.toUInt16.toUInt32.toInt32))), (.int (0 : Int32)), (.int (0 : Int32)), (.int (0 : Int32))] (.int (0 : Int32)) := Arv.set Ar42 q42 S42 N42 H42 G42 (fits_nar_char _) W43 5 rfl (Nat.le_of_ble_eq_true rfl)
  refine Goes.to st43 ?_
  refine gx (XS.aload X43.here hx rfl (hb hby at_114) rfl rfl) ?_
  exact own_pt_own_rm0_49 l Z a0 hw ws x0 x1 x2 x3 aV kV a1 a2 a3 aE w1 w2 w3 v1 v2 v3 q1 q2 q3 cs fm h0 n0 Z0 hPm Bd hml0 hh  b1 k1 T43 _ vmpt hZ hown T43.heap X43 rfl N43 Z43  _ hSpt hk46 R45 Sf44 V43 Pg20_13 O47 Ph20_15
set_option maxRecDepth 65536 in
set_option maxHeartbeats 40000000 in
theorem own_pt_own_rm0_369 (l : Launch) (Z : State) (a0 : Array Value) (hw : ∀ d ∈ tables_1, d.before a0 Z = true) (ws : List Jvm.Cond) (x0 : Int32) (x1 : Int32) (x2 : Int32) (x3 : Int64) (aV : Addr) (kV : ClassId) (a1 : Addr) (a2 : Addr) (a3 : Addr) (aE : Addr) (w1 : Addr) (w2 : Addr) (w3 : Addr) (v1 : Addr) (v2 : Addr) (v3 : Addr) (q1 : ClassId) (q2 : ClassId) (q3 : ClassId) (cs : Int32) (fm : Value) (h0 : Heap) (n0 : Nat) (Z0 : n0 ≤ h0.size) (hPm : own_P_own_rm0 Z a0 x0 x1 x2 x3 aV kV a1 a2 a3 aE w1 w2 w3 v1 v2 v3 q1 q2 q3 cs fm h0 n0)
    {p : Program} {e : Env} {s : State} {m : MethodId} {below : List Frame} {meth : Method} {c : Code} {s₁ : State} (Bd : BodyLoose p l x (head1 (Jvm.Cond.code x code maxLocals ret :: ws) room_1) code maxLocals ret e s m #[(.int x0), (.int x1), (.int x2), (.long x3)] below meth c s₁) (hml0 : c.maxLocals = maxLocals) (hh : s.heap = h0) 
    (arr : Addr) (karr : ClassId) (u11 : Addr) (lsv : List Int32) (nn : Int32) (u5 : Slot) (u6 : Slot) (u7 : Slot) (u12 : Int32) (u13 : Int32)
    (Tpt : State) (lpt : List Loc) (vmpt : Vm) (hZ : Z.Warmed39 vmpt) (hown : vmpt.findClass "com/example/polgen/polgen/model/MultiplicityNamedPinLaw" = some m.cls) (hpt : Heap)
    (Xpt : Stand p l e room_1 (s.setVm vmpt) m #[(.int x0), (.int x1), (.int x2), (.long x3)] below meth c Tpt lpt 3 49) (Ept : Tpt.heap = hpt) (Npt : Fr n0 lpt) (Zpt : n0 ≤ hpt.size) (kpt : Nat) (hSpt : s.Since vmpt kpt) (hkpt : kpt ≤ hpt.size) (Rpt : CHr Z own_EL s.vm h0 vmpt hpt)
    (Pf369_0 : Arv Z hpt arr karr .char (9 : Int32) (lsv.map Value.int) (.int (0 : Int32)))
    (Old369 : Old Z n0 hpt)
    (hlsv : ∀ c ∈ lsv, P8 c)
    : Goes p.tables e below (Tpt.setTop (mkF m 389 #[.val (.int x0), .val (.int x1), .val (.int x2), .val (.long x3), .second, u5, u6, u7, .val (.ref arr), .val (.int nn), .val (.int (0 : Int32)), .val (.ref u11), .val (.int u12), .val (.int u13)] [])) (own_RW below s (own_Q_own_rm0 Z x0 x1 x2 x3 aV kV a1 a2 a3 aE w1 w2 w3 v1 v2 v3 q1 q2 q3 cs fm h0 n0) 17 147) := by
  obtain ⟨O0, hCH0, S1, S2, S3, E1, E2, E3, SV, VV, EV, SE, EE, FE, Fw1, Ew1, Cw1, Vw1, Aw1, Fw2, Ew2, Cw2, Vw2, Aw2, Fw3, Ew3, Cw3, Vw3, Aw3, SC, hcs, SF, hfm⟩ := id hPm
  have hx := Bd.exec
  have hby := Bd.bytes
  have hml : c.maxLocals = 14 := hml0
  have hnm := (name_of_methodNamed Bd.named Bd.method).1
  have own_wS' : ∀ a ∈ Bundle.stringAtoms, a.before a0 Z = true := own_wS hw
  have hEL := own_EW hw
  refine gx (XS.aload Xpt.here hx rfl (hb hby at_389) rfl rfl) ?_
  refine gx (XS.iload Xpt.here hx rfl (hb hby at_391) rfl) ?_
  obtain ⟨_, _, ⟨T370, L370, k370, n370⟩, -, X370, hSn370, hgr370, ⟨Lc370, hQ370, l370, y370, z370, Rr370⟩, st370⟩ := Jvm.RoadKit.callSS Xpt hx (y := own_n17) hown (mvT hZ (own_hw hw 48 rfl)) (mvT hZ (own_hw hw 49 rfl)) (mvT hZ (own_hw hw 24 rfl)) (mvT hZ (own_hw hw 50 rfl)) (by decide) (backOfSH (s := s) (vm0 := vmpt) (W := 0) (own_rm9 l Z a0 hw [] arr nn karr lsv cs hpt n0 Zpt Pf369_0 hlsv (SC.ext Old369.2) hcs) hZ (own_hw hw 50 rfl) (own_hw hw 24 rfl) (by decide) (by decide) hEL Rpt.1) (g := (mkF m 393 #[.val (.int x0), .val (.int x1), .val (.int x2), .val (.long x3), .second, u5, u6, u7, .val (.ref arr), .val (.int nn), .val (.int (0 : Int32)), .val (.ref u11), .val (.int u12), .val (.int u13)] [(.int nn), (.ref arr)])) rfl (by rw [hml]; rfl) (argsL := [(.ref arr), (.int nn)]) (rest := []) (lenOf own_pd_paCIqLjavallanglStrings rfl) rfl (own_W rfl rfl) (hb hby at_393) (fun _ _ => ⟨rfl, Ept, (by decide : 3 + 6 ≤ _), (by decide : 49 + 22 ≤ _)⟩)
  dsimp only [Pt.U, Pt.locs, Pt.cells, Pt.slots] at X370 hSn370 hgr370 l370 y370 z370 st370 hQ370 Rr370
  subst l370 y370 z370
  obtain ⟨X370, hS370, hZ370, hown370⟩ := rebS (s := s) hSpt hkpt X370 hSn370 (by rw [← Ept]; exact hgr370) hZ hown
  have R370 := Rpt.trans Rr370
  have hZ := hZ370
  have hown := hown370
  obtain ⟨sa370, bv370, kb370, cs370, hv370, Nq370, K370, Em370, Cm370, Vm370, Am370, ll370, hp8370⟩ := hQ370
  subst hv370
  have N370 := Fr.app Npt Nq370
  have O372 := Old369.keep K370 all0
  have Zk370 : n0 ≤ T370.heap.size := Nat.le_trans Zpt K370.1
  refine Goes.tr st370 ?_
  refine gx (XS.astore X370.here hx rfl (hb hby at_396) rfl rfl (l' := #[.val (.int x0), .val (.int x1), .val (.int x2), .val (.long x3), .second, u5, u6, u7, .val (.ref arr), .val (.int nn), .val (.int (0 : Int32)), .val (.ref sa370), .val (.int u12), .val (.int u13)]) rfl) ?_
  refine gx (XS.aconstNull X370.here hx rfl (hb hby at_398)) ?_
  refine gx (XS.astore X370.here hx rfl (hb hby at_399) rfl rfl (l' := #[.val (.int x0), .val (.int x1), .val (.int x2), .val (.long x3), .second, u5, u6, u7, .val (.ref arr), .val (.int nn), .val (.int (0 : Int32)), .val (.ref sa370), .val .null, .val (.int u13)]) rfl) ?_
  obtain ⟨a374, T374, h374, kk374, b374, k374, X374, e374, E374, hS374, hk374, hZ374, hown374, A374, C374, V374, W374, la374, lb374, Rr374, Lt374, Ns374, st374⟩ := ldcCH (s := s) X370 hx hZ hown (own_hw hw 1 rfl) own_wS' rfl hS370 (Nat.le_refl _) hEL (by decide) R370.1 (vs := [(.int (111 : Int32)), (.int (110 : Int32)), (.int (101 : Int32))]) (z := (3 : Int32)) (own_txt _ _ (by decide) rfl) (by decide) rfl (g := (mkF m 401 #[.val (.int x0), .val (.int x1), .val (.int x2), .val (.long x3), .second, u5, u6, u7, .val (.ref arr), .val (.int nn), .val (.int (0 : Int32)), .val (.ref sa370), .val .null, .val (.int u13)] [])) rfl (hb hby at_401) (n := 12) (by decide) (by decide) (by decide) (by decide)
  subst e374
  have O376 := O372.ext E374
  have F378 := Em370.ext E374
  have F379 := Cm370.ext E374
  have F380 := Vm370.ext E374
  have F381 := Am370.ext E374
  have R374 := R370.trans Rr374
  have hZ := hZ374
  have hown := hown374
  have Z374 : n0 ≤ T374.heap.size := Nat.le_trans Zk370 E374.1
  refine Goes.to st374 ?_
  refine gx (XS.aload X374.here hx rfl (hb hby at_403) rfl rfl) ?_
  obtain ⟨cq382, kq382, q382a, q382b, q382c⟩ := isOf hZ rfl A374
  obtain ⟨_, _, ⟨T382, L382, k382, n382⟩, -, X382, ⟨Lc382, hQ382, l382, y382, z382⟩, st382⟩ := X374.virtualBack hx (y := own_n13) (z := own_n13) hown (mvT hZ (own_hw hw 72 rfl)) (mvT hZ (own_hw hw 73 rfl)) (notFace_of_selects (args := #[]) (mvT hZ (own_hw hw 75 rfl))) (mvT hZ (own_hw hw 75 rfl)) (mvT hZ (own_hw hw 74 rfl)) (by decide) (StrChars.Road.eqW (W := 0) hZ (own_hwEq hw) (own_hw hw 3 rfl) (cs := [(111 : Int32), (110 : Int32), (101 : Int32)]) A374 V374 C374 W374 own_cod_one (own_up own_p8_one) (by decide) (ds := cs370) F378 F380 F379 F381 (StrChars.Road.codOf rfl (fun c hc => (hp8370 c hc).2)) (own_up hp8370) (Nat.le_trans ll370 (by decide)) (SC.ext O376.2) hcs (by decide) (by decide)) q382a q382c (g := (mkF m 405 #[.val (.int x0), .val (.int x1), .val (.int x2), .val (.long x3), .second, u5, u6, u7, .val (.ref arr), .val (.int nn), .val (.int (0 : Int32)), .val (.ref sa370), .val .null, .val (.int u13)] [(.ref sa370), (.ref a374)])) rfl (by rw [hml]; rfl) (Steps.refl _) (argsL := [(.ref sa370)]) (rest := []) (lenOf own_pd_pLjavallanglObjectsqZ rfl) rfl (own_W rfl rfl) (hb hby at_405) (fun _ _ => ⟨rfl, rfl, (by decide : 11 + 0 ≤ _), (by decide : 87 + 0 ≤ _)⟩)
  dsimp only [Pt.U, Pt.locs, Pt.cells, Pt.slots] at X382 l382 y382 z382 st382 hQ382
  subst l382 y382 z382
  obtain ⟨hor382, hL382, hp382⟩ := hQ382
  subst hL382
  have N382 := Fr.app N370 (Fr.nil n0)
  by_cases hc383 : [(111 : Int32), (110 : Int32), (101 : Int32)] = cs370
  · obtain ⟨hv382, -⟩ := hor382.resolve_right (fun q => q.2 hc383)
    subst hv382
    refine Goes.tr st382 ?_
    refine gx (XS.ifNo X382.here hx rfl (hb hby at_408) rfl ((if0 _ _).trans (feq (by decide : ¬ ((1 : Int32) = (0 : Int32)))).1)) ?_
    obtain ⟨T384, X384, e384, st384⟩ := getS2 X382 hx hZ hown (host := "") (Or.inl (own_hw hw 81 rfl)) Via.refl hp382 (S1.ext O376.2) (g := (mkF m 411 #[.val (.int x0), .val (.int x1), .val (.int x2), .val (.long x3), .second, u5, u6, u7, .val (.ref arr), .val (.int nn), .val (.int (0 : Int32)), .val (.ref sa370), .val .null, .val (.int u13)] [])) rfl (hb hby at_411)
    refine Goes.to st384 ?_
    refine gx (XS.astore X384.here hx rfl (hb hby at_414) rfl rfl (l' := #[.val (.int x0), .val (.int x1), .val (.int x2), .val (.long x3), .second, u5, u6, u7, .val (.ref arr), .val (.int nn), .val (.int (0 : Int32)), .val (.ref sa370), .val (.ref a1), .val (.int u13)]) rfl) ?_
    refine gx (XS.goto X384.here hx rfl (pc0 := 416) (pc' := 452) rfl (hb hby at_416) (by decide) (by decide)) ?_
    refine gx (XS.aload X384.here hx rfl (hb hby at_452) rfl rfl) ?_
    obtain ⟨_, _, ⟨T385, L385, k385, n385⟩, -, X385, ⟨Lc385, hQ385, l385, y385, z385⟩, st385⟩ := Jvm.LawKit.callS X384 hx (y := own_n18) hown (mvT hZ (own_hw hw 84 rfl)) (mvT hZ (own_hw hw 85 rfl)) (mvT hZ (own_hw hw 82 rfl)) (mvT hZ (own_hw hw 86 rfl)) (by decide) (backOf (W := 0) (own_rmNMR l Z a0 hw [] sa370 aV kV a1 a2 a3 aE w1 w2 w3 v1 v2 v3 q1 q2 q3 bv370 kb370 cs370 cs T374.heap n0 Z374 (SV.ext O376.2) (VV.ext O376.2) (EV.ext O376.2) (SE.ext O376.2) (EE.ext O376.2) (FE.ext O376.2) (Fw1.ext O376.2) (Ew1.ext O376.2) (Cw1.ext O376.2) (Vw1.ext O376.2) (Aw1.ext O376.2) (Fw2.ext O376.2) (Ew2.ext O376.2) (Cw2.ext O376.2) (Vw2.ext O376.2) (Aw2.ext O376.2) (Fw3.ext O376.2) (Ew3.ext O376.2) (Cw3.ext O376.2) (Vw3.ext O376.2) (Aw3.ext O376.2) F378 F379 F380 F381 hp8370 ll370 (SC.ext O376.2) hcs) hZ (own_hw hw 86 rfl) (own_hw hw 82 rfl) (by decide) (by decide)) (g := (mkF m 454 #[.val (.int x0), .val (.int x1), .val (.int x2), .val (.long x3), .second, u5, u6, u7, .val (.ref arr), .val (.int nn), .val (.int (0 : Int32)), .val (.ref sa370), .val (.ref a1), .val (.int u13)] [(.ref sa370)])) rfl (by rw [hml]; rfl) (argsL := [(.ref sa370)]) (rest := []) (lenOf own_pd_pLjavallanglStringsqLjavalutillOptionals rfl) rfl (own_W rfl rfl) (hb hby at_454) (fun _ _ => ⟨rfl, e384, (by decide : 11 + 2 ≤ _), (by decide : 87 + 4 ≤ _)⟩)
    dsimp only [Pt.U, Pt.locs, Pt.cells, Pt.slots] at X385 l385 y385 z385 st385 hQ385
    subst l385 y385 z385
    obtain ⟨op385, hv385, Nq385, K385, Eo385, Fo385⟩ := hQ385
    subst hv385
    have N385 := Fr.app N382 Nq385
    replace Fo385 : Fld Z T385.heap op385 "java/util/Optional" "value" "Ljava/lang/Object;" (.ref a1) := by
      have q := Fo385
      unfold own_pick at q
      rw [if_pos hc383] at q
      exact q
    have hk388 := Nat.le_trans hk374 K385.1
    have O389 := O376.keep K385 all0
    have Zk385 : n0 ≤ T385.heap.size := Nat.le_trans Z374 K385.1
    refine Goes.to st385 ?_
    refine gx (XS.aconstNull X385.here hx rfl (hb hby at_457)) ?_
    obtain ⟨cq399, kq399, q399a, q399b, q399c⟩ := isOf hZ rfl Eo385
    obtain ⟨_, _, ⟨T399, L399, k399, n399⟩, -, X399, ⟨Lc399, hQ399, l399, y399, z399⟩, st399⟩ := X385.virtualBack hx (y := own_n12) (z := own_n12) hown (mvT hZ (own_hw hw 124 rfl)) (mvT hZ (own_hw hw 125 rfl)) (notFace_of_selects (args := #[]) (mvT hZ (own_hw hw 127 rfl))) (mvT hZ (own_hw hw 127 rfl)) (mvT hZ (own_hw hw 126 rfl)) (by decide) (backOf (W := 0) (own_rmOER l Z a0 hw [] op385 a1 T385.heap n0 Zk385 Fo385) hZ (own_hw hw 128 rfl) (own_hw hw 109 rfl) (by decide) (by decide)) q399a q399c (g := (mkF m 458 #[.val (.int x0), .val (.int x1), .val (.int x2), .val (.long x3), .second, u5, u6, u7, .val (.ref arr), .val (.int nn), .val (.int (0 : Int32)), .val (.ref sa370), .val (.ref a1), .val (.int u13)] [.null, (.ref op385)])) rfl (by rw [hml]; rfl) (Steps.refl _) (argsL := [.null]) (rest := []) (lenOf own_pd_pLjavallanglObjectsqLjavallanglObjects rfl) rfl (own_W rfl rfl) (hb hby at_458) (fun _ _ => ⟨rfl, rfl, (by decide : 13 + 0 ≤ _), (by decide : 91 + 0 ≤ _)⟩)
    dsimp only [Pt.U, Pt.locs, Pt.cells, Pt.slots] at X399 l399 y399 z399 st399 hQ399
    subst l399 y399 z399
    obtain ⟨hv399, Nq399, hp399_0⟩ := hQ399
    have N399 := Fr.app N385 Nq399
    subst hv399
    refine Goes.tr st399 ?_
    obtain ⟨T400, X400, e400, st400⟩ := castY X399 hx hZ hown (own_hw hw 129 rfl) hp399_0 (Ins.self (E1.ext O389.2)) (g := (mkF m 461 #[.val (.int x0), .val (.int x1), .val (.int x2), .val (.long x3), .second, u5, u6, u7, .val (.ref arr), .val (.int nn), .val (.int (0 : Int32)), .val (.ref sa370), .val (.ref a1), .val (.int u13)] [(.ref a1)])) rfl rfl (hb hby at_461)
    refine Goes.to st400 ?_
    refine gx (XS.astore X400.here hx rfl (hb hby at_464) rfl rfl (l' := #[.val (.int x0), .val (.int x1), .val (.int x2), .val (.long x3), .second, u5, u6, u7, .val (.ref arr), .val (.int nn), .val (.int (0 : Int32)), .val (.ref sa370), .val (.ref a1), .val (.ref a1)]) rfl) ?_
    refine gx (XS.aload X400.here hx rfl (hb hby at_466) rfl rfl) ?_
    refine gx (XS.aload X400.here hx rfl (hb hby at_468) rfl rfl) ?_
    refine gx (Jvm.RoadKit.acmp (g := (mkF m 470 #[.val (.int x0), .val (.int x1), .val (.int x2), .val (.long x3), .second, u5, u6, u7, .val (.ref arr), .val (.int nn), .val (.int (0 : Int32)), .val (.ref sa370), .val (.ref a1), .val (.ref a1)] [(.ref a1), (.ref a1)])) X400 hx rfl rfl rfl (pc0 := 470) (pc' := 473) (same := true) rfl (hb hby at_470) rfl (decide_eq_true rfl) (by decide) (by decide)) ?_
    refine gx (XS.iconst X400.here hx rfl (hb hby at_473)) ?_
    refine gx (XS.goto X400.here hx rfl (pc0 := 474) (pc' := 478) rfl (hb hby at_474) (by decide) (by decide)) ?_
    show Goes p.tables e below (T400.setTop (mkF m 478 #[.val (.int x0), .val (.int x1), .val (.int x2), .val (.long x3), .second, u5, u6, u7, .val (.ref arr), .val (.int nn), .val (.int (0 : Int32)), .val (.ref sa370), .val (.ref a1), .val (.ref a1)] [(.int (1 : Int32))])) _
    have hkl := Nat.le_trans hk388 (Nat.le_of_eq (congrArg Array.size (e400).symm))
    obtain ⟨fs, hr, hrun, hended, hEnd⟩ := X400.leaveW (s := s) hS374 hkl (v := some (.int (1 : Int32))) (fun h => by rw [Bd.returns] at h; cases h)
    have hv : (some (.int (1 : Int32)) : Option Value) = some (.int (1 : Int32)) := by
      rfl
    exact ⟨_, _, retN X400 hx (t := .boolean) Bd.returns (by simp) (hb hby at_478) hr, hrun, hended, _, _, rfl, ⟨hv, N399⟩, hEnd.1, hEnd.2.1, hEnd.2.2.1, hEnd.2.2.2.mono (by decide) (by decide)⟩
  · obtain ⟨hv382, -⟩ := hor382.resolve_left (fun q => hc383 q.2)
    subst hv382
    refine Goes.tr st382 ?_
    refine gx (XS.ifYes X382.here hx rfl (pc0 := 408) (pc' := 419) rfl (hb hby at_408) rfl ((if0 _ _).trans (teq (by decide : (0 : Int32) = (0 : Int32))).1) (by decide) (by decide)) ?_
    obtain ⟨a401, T401, h401, kk401, b401, k401, X401, e401, E401, hS401, hk401, hZ401, hown401, A401, C401, V401, W401, la401, lb401, Rr401, Lt401, Ns401, st401⟩ := ldcCH (s := s) X382 hx hZ hown (own_hw hw 132 rfl) own_wS' hp382 hS374 hk374 hEL (by decide) R374.1 (vs := [(.int (111 : Int32)), (.int (112 : Int32)), (.int (116 : Int32)), (.int (105 : Int32)), (.int (111 : Int32)), (.int (110 : Int32)), (.int (97 : Int32)), (.int (108 : Int32))]) (z := (8 : Int32)) (own_txt _ _ (by decide) rfl) (by decide) rfl (g := (mkF m 419 #[.val (.int x0), .val (.int x1), .val (.int x2), .val (.long x3), .second, u5, u6, u7, .val (.ref arr), .val (.int nn), .val (.int (0 : Int32)), .val (.ref sa370), .val .null, .val (.int u13)] [])) rfl (hb hby at_419) (n := 32) (by decide) (by decide) (by decide) (by decide)
    subst e401
    have O403 := O376.ext E401
    have F405 := F378.ext E401
    have F406 := F379.ext E401
    have F407 := F380.ext E401
    have F408 := F381.ext E401
    have R401 := R374.trans Rr401
    have hZ := hZ401
    have hown := hown401
    have Z401 : n0 ≤ T401.heap.size := Nat.le_trans Z374 E401.1
    refine Goes.to st401 ?_
    refine gx (XS.aload X401.here hx rfl (hb hby at_421) rfl rfl) ?_
    obtain ⟨cq413, kq413, q413a, q413b, q413c⟩ := isOf hZ rfl A401
    obtain ⟨_, _, ⟨T413, L413, k413, n413⟩, -, X413, ⟨Lc413, hQ413, l413, y413, z413⟩, st413⟩ := X401.virtualBack hx (y := own_n13) (z := own_n13) hown (mvT hZ (own_hw hw 72 rfl)) (mvT hZ (own_hw hw 73 rfl)) (notFace_of_selects (args := #[]) (mvT hZ (own_hw hw 75 rfl))) (mvT hZ (own_hw hw 75 rfl)) (mvT hZ (own_hw hw 74 rfl)) (by decide) (StrChars.Road.eqW (W := 0) hZ (own_hwEq hw) (own_hw hw 3 rfl) (cs := [(111 : Int32), (112 : Int32), (116 : Int32), (105 : Int32), (111 : Int32), (110 : Int32), (97 : Int32), (108 : Int32)]) A401 V401 C401 W401 own_cod_optional (own_up own_p8_optional) (by decide) (ds := cs370) F405 F407 F406 F408 (StrChars.Road.codOf rfl (fun c hc => (hp8370 c hc).2)) (own_up hp8370) (Nat.le_trans ll370 (by decide)) (SC.ext O403.2) hcs (by decide) (by decide)) q413a q413c (g := (mkF m 423 #[.val (.int x0), .val (.int x1), .val (.int x2), .val (.long x3), .second, u5, u6, u7, .val (.ref arr), .val (.int nn), .val (.int (0 : Int32)), .val (.ref sa370), .val .null, .val (.int u13)] [(.ref sa370), (.ref a401)])) rfl (by rw [hml]; rfl) (Steps.refl _) (argsL := [(.ref sa370)]) (rest := []) (lenOf own_pd_pLjavallanglObjectsqZ rfl) rfl (own_W rfl rfl) (hb hby at_423) (fun _ _ => ⟨rfl, rfl, (by decide : 13 + 0 ≤ _), (by decide : 123 + 0 ≤ _)⟩)
    dsimp only [Pt.U, Pt.locs, Pt.cells, Pt.slots] at X413 l413 y413 z413 st413 hQ413
    subst l413 y413 z413
    obtain ⟨hor413, hL413, hp413⟩ := hQ413
    subst hL413
    have N413 := Fr.app N382 (Fr.nil n0)
    by_cases hc414 : [(111 : Int32), (112 : Int32), (116 : Int32), (105 : Int32), (111 : Int32), (110 : Int32), (97 : Int32), (108 : Int32)] = cs370
    · obtain ⟨hv413, -⟩ := hor413.resolve_right (fun q => q.2 hc414)
      subst hv413
      refine Goes.tr st413 ?_
      refine gx (XS.ifNo X413.here hx rfl (hb hby at_426) rfl ((if0 _ _).trans (feq (by decide : ¬ ((1 : Int32) = (0 : Int32)))).1)) ?_
      obtain ⟨T415, X415, e415, st415⟩ := getS2 X413 hx hZ hown (host := "") (Or.inl (own_hw hw 141 rfl)) Via.refl hp413 (S2.ext O403.2) (g := (mkF m 429 #[.val (.int x0), .val (.int x1), .val (.int x2), .val (.long x3), .second, u5, u6, u7, .val (.ref arr), .val (.int nn), .val (.int (0 : Int32)), .val (.ref sa370), .val .null, .val (.int u13)] [])) rfl (hb hby at_429)
      refine Goes.to st415 ?_
      refine gx (XS.astore X415.here hx rfl (hb hby at_432) rfl rfl (l' := #[.val (.int x0), .val (.int x1), .val (.int x2), .val (.long x3), .second, u5, u6, u7, .val (.ref arr), .val (.int nn), .val (.int (0 : Int32)), .val (.ref sa370), .val (.ref a2), .val (.int u13)]) rfl) ?_
      refine gx (XS.goto X415.here hx rfl (pc0 := 434) (pc' := 452) rfl (hb hby at_434) (by decide) (by decide)) ?_
      refine gx (XS.aload X415.here hx rfl (hb hby at_452) rfl rfl) ?_
      obtain ⟨_, _, ⟨T416, L416, k416, n416⟩, -, X416, ⟨Lc416, hQ416, l416, y416, z416⟩, st416⟩ := Jvm.LawKit.callS X415 hx (y := own_n18) hown (mvT hZ (own_hw hw 84 rfl)) (mvT hZ (own_hw hw 85 rfl)) (mvT hZ (own_hw hw 82 rfl)) (mvT hZ (own_hw hw 86 rfl)) (by decide) (backOf (W := 0) (own_rmNMR l Z a0 hw [] sa370 aV kV a1 a2 a3 aE w1 w2 w3 v1 v2 v3 q1 q2 q3 bv370 kb370 cs370 cs T401.heap n0 Z401 (SV.ext O403.2) (VV.ext O403.2) (EV.ext O403.2) (SE.ext O403.2) (EE.ext O403.2) (FE.ext O403.2) (Fw1.ext O403.2) (Ew1.ext O403.2) (Cw1.ext O403.2) (Vw1.ext O403.2) (Aw1.ext O403.2) (Fw2.ext O403.2) (Ew2.ext O403.2) (Cw2.ext O403.2) (Vw2.ext O403.2) (Aw2.ext O403.2) (Fw3.ext O403.2) (Ew3.ext O403.2) (Cw3.ext O403.2) (Vw3.ext O403.2) (Aw3.ext O403.2) F405 F406 F407 F408 hp8370 ll370 (SC.ext O403.2) hcs) hZ (own_hw hw 86 rfl) (own_hw hw 82 rfl) (by decide) (by decide)) (g := (mkF m 454 #[.val (.int x0), .val (.int x1), .val (.int x2), .val (.long x3), .second, u5, u6, u7, .val (.ref arr), .val (.int nn), .val (.int (0 : Int32)), .val (.ref sa370), .val (.ref a2), .val (.int u13)] [(.ref sa370)])) rfl (by rw [hml]; rfl) (argsL := [(.ref sa370)]) (rest := []) (lenOf own_pd_pLjavallanglStringsqLjavalutillOptionals rfl) rfl (own_W rfl rfl) (hb hby at_454) (fun _ _ => ⟨rfl, e415, (by decide : 13 + 2 ≤ _), (by decide : 123 + 4 ≤ _)⟩)
      dsimp only [Pt.U, Pt.locs, Pt.cells, Pt.slots] at X416 l416 y416 z416 st416 hQ416
      subst l416 y416 z416
      obtain ⟨op416, hv416, Nq416, K416, Eo416, Fo416⟩ := hQ416
      subst hv416
      have N416 := Fr.app N413 Nq416
      replace Fo416 : Fld Z T416.heap op416 "java/util/Optional" "value" "Ljava/lang/Object;" (.ref a2) := by
        have q := Fo416
        unfold own_pick at q
        rw [if_neg hc383, if_pos hc414] at q
        exact q
      have hk419 := Nat.le_trans hk401 K416.1
      have O420 := O403.keep K416 all0
      have Zk416 : n0 ≤ T416.heap.size := Nat.le_trans Z401 K416.1
      refine Goes.to st416 ?_
      refine gx (XS.aconstNull X416.here hx rfl (hb hby at_457)) ?_
      obtain ⟨cq434, kq434, q434a, q434b, q434c⟩ := isOf hZ rfl Eo416
      obtain ⟨_, _, ⟨T434, L434, k434, n434⟩, -, X434, ⟨Lc434, hQ434, l434, y434, z434⟩, st434⟩ := X416.virtualBack hx (y := own_n12) (z := own_n12) hown (mvT hZ (own_hw hw 124 rfl)) (mvT hZ (own_hw hw 125 rfl)) (notFace_of_selects (args := #[]) (mvT hZ (own_hw hw 127 rfl))) (mvT hZ (own_hw hw 127 rfl)) (mvT hZ (own_hw hw 126 rfl)) (by decide) (backOf (W := 0) (own_rmOER l Z a0 hw [] op416 a2 T416.heap n0 Zk416 Fo416) hZ (own_hw hw 128 rfl) (own_hw hw 109 rfl) (by decide) (by decide)) q434a q434c (g := (mkF m 458 #[.val (.int x0), .val (.int x1), .val (.int x2), .val (.long x3), .second, u5, u6, u7, .val (.ref arr), .val (.int nn), .val (.int (0 : Int32)), .val (.ref sa370), .val (.ref a2), .val (.int u13)] [.null, (.ref op416)])) rfl (by rw [hml]; rfl) (Steps.refl _) (argsL := [.null]) (rest := []) (lenOf own_pd_pLjavallanglObjectsqLjavallanglObjects rfl) rfl (own_W rfl rfl) (hb hby at_458) (fun _ _ => ⟨rfl, rfl, (by decide : 15 + 0 ≤ _), (by decide : 127 + 0 ≤ _)⟩)
      dsimp only [Pt.U, Pt.locs, Pt.cells, Pt.slots] at X434 l434 y434 z434 st434 hQ434
      subst l434 y434 z434
      obtain ⟨hv434, Nq434, hp434_0⟩ := hQ434
      have N434 := Fr.app N416 Nq434
      subst hv434
      refine Goes.tr st434 ?_
      obtain ⟨T435, X435, e435, st435⟩ := castY X434 hx hZ hown (own_hw hw 129 rfl) hp434_0 (Ins.self (E2.ext O420.2)) (g := (mkF m 461 #[.val (.int x0), .val (.int x1), .val (.int x2), .val (.long x3), .second, u5, u6, u7, .val (.ref arr), .val (.int nn), .val (.int (0 : Int32)), .val (.ref sa370), .val (.ref a2), .val (.int u13)] [(.ref a2)])) rfl rfl (hb hby at_461)
      refine Goes.to st435 ?_
      refine gx (XS.astore X435.here hx rfl (hb hby at_464) rfl rfl (l' := #[.val (.int x0), .val (.int x1), .val (.int x2), .val (.long x3), .second, u5, u6, u7, .val (.ref arr), .val (.int nn), .val (.int (0 : Int32)), .val (.ref sa370), .val (.ref a2), .val (.ref a2)]) rfl) ?_
      refine gx (XS.aload X435.here hx rfl (hb hby at_466) rfl rfl) ?_
      refine gx (XS.aload X435.here hx rfl (hb hby at_468) rfl rfl) ?_
      refine gx (Jvm.RoadKit.acmp (g := (mkF m 470 #[.val (.int x0), .val (.int x1), .val (.int x2), .val (.long x3), .second, u5, u6, u7, .val (.ref arr), .val (.int nn), .val (.int (0 : Int32)), .val (.ref sa370), .val (.ref a2), .val (.ref a2)] [(.ref a2), (.ref a2)])) X435 hx rfl rfl rfl (pc0 := 470) (pc' := 473) (same := true) rfl (hb hby at_470) rfl (decide_eq_true rfl) (by decide) (by decide)) ?_
      refine gx (XS.iconst X435.here hx rfl (hb hby at_473)) ?_
      refine gx (XS.goto X435.here hx rfl (pc0 := 474) (pc' := 478) rfl (hb hby at_474) (by decide) (by decide)) ?_
      show Goes p.tables e below (T435.setTop (mkF m 478 #[.val (.int x0), .val (.int x1), .val (.int x2), .val (.long x3), .second, u5, u6, u7, .val (.ref arr), .val (.int nn), .val (.int (0 : Int32)), .val (.ref sa370), .val (.ref a2), .val (.ref a2)] [(.int (1 : Int32))])) _
      have hkl := Nat.le_trans hk419 (Nat.le_of_eq (congrArg Array.size (e435).symm))
      obtain ⟨fs, hr, hrun, hended, hEnd⟩ := X435.leaveW (s := s) hS401 hkl (v := some (.int (1 : Int32))) (fun h => by rw [Bd.returns] at h; cases h)
      have hv : (some (.int (1 : Int32)) : Option Value) = some (.int (1 : Int32)) := by
        rfl
      exact ⟨_, _, retN X435 hx (t := .boolean) Bd.returns (by simp) (hb hby at_478) hr, hrun, hended, _, _, rfl, ⟨hv, N434⟩, hEnd.1, hEnd.2.1, hEnd.2.2.1, hEnd.2.2.2.mono (by decide) (by decide)⟩
    · obtain ⟨hv413, -⟩ := hor413.resolve_left (fun q => hc414 q.2)
      subst hv413
      refine Goes.tr st413 ?_
      refine gx (XS.ifYes X413.here hx rfl (pc0 := 426) (pc' := 437) rfl (hb hby at_426) rfl ((if0 _ _).trans (teq (by decide : (0 : Int32) = (0 : Int32))).1) (by decide) (by decide)) ?_
      obtain ⟨a436, T436, h436, kk436, b436, k436, X436, e436, E436, hS436, hk436, hZ436, hown436, A436, C436, V436, W436, la436, lb436, Rr436, Lt436, Ns436, st436⟩ := ldcCH (s := s) X413 hx hZ hown (own_hw hw 133 rfl) own_wS' hp413 hS401 hk401 hEL (by decide) R401.1 (vs := [(.int (109 : Int32)), (.int (97 : Int32)), (.int (110 : Int32)), (.int (121 : Int32))]) (z := (4 : Int32)) (own_txt _ _ (by decide) rfl) (by decide) rfl (g := (mkF m 437 #[.val (.int x0), .val (.int x1), .val (.int x2), .val (.long x3), .second, u5, u6, u7, .val (.ref arr), .val (.int nn), .val (.int (0 : Int32)), .val (.ref sa370), .val .null, .val (.int u13)] [])) rfl (hb hby at_437) (n := 16) (by decide) (by decide) (by decide) (by decide)
      subst e436
      have O438 := O403.ext E436
      have F440 := F405.ext E436
      have F441 := F406.ext E436
      have F442 := F407.ext E436
      have F443 := F408.ext E436
      have hZ := hZ436
      have hown := hown436
      have Z436 : n0 ≤ T436.heap.size := Nat.le_trans Z401 E436.1
      refine Goes.to st436 ?_
      refine gx (XS.aload X436.here hx rfl (hb hby at_439) rfl rfl) ?_
      obtain ⟨cq452, kq452, q452a, q452b, q452c⟩ := isOf hZ rfl A436
      obtain ⟨_, _, ⟨T452, L452, k452, n452⟩, -, X452, ⟨Lc452, hQ452, l452, y452, z452⟩, st452⟩ := X436.virtualBack hx (y := own_n13) (z := own_n13) hown (mvT hZ (own_hw hw 72 rfl)) (mvT hZ (own_hw hw 73 rfl)) (notFace_of_selects (args := #[]) (mvT hZ (own_hw hw 75 rfl))) (mvT hZ (own_hw hw 75 rfl)) (mvT hZ (own_hw hw 74 rfl)) (by decide) (StrChars.Road.eqW (W := 0) hZ (own_hwEq hw) (own_hw hw 3 rfl) (cs := [(109 : Int32), (97 : Int32), (110 : Int32), (121 : Int32)]) A436 V436 C436 W436 own_cod_many (own_up own_p8_many) (by decide) (ds := cs370) F440 F442 F441 F443 (StrChars.Road.codOf rfl (fun c hc => (hp8370 c hc).2)) (own_up hp8370) (Nat.le_trans ll370 (by decide)) (SC.ext O438.2) hcs (by decide) (by decide)) q452a q452c (g := (mkF m 441 #[.val (.int x0), .val (.int x1), .val (.int x2), .val (.long x3), .second, u5, u6, u7, .val (.ref arr), .val (.int nn), .val (.int (0 : Int32)), .val (.ref sa370), .val .null, .val (.int u13)] [(.ref sa370), (.ref a436)])) rfl (by rw [hml]; rfl) (Steps.refl _) (argsL := [(.ref sa370)]) (rest := []) (lenOf own_pd_pLjavallanglObjectsqZ rfl) rfl (own_W rfl rfl) (hb hby at_441) (fun _ _ => ⟨rfl, rfl, (by decide : 15 + 0 ≤ _), (by decide : 143 + 0 ≤ _)⟩)
      dsimp only [Pt.U, Pt.locs, Pt.cells, Pt.slots] at X452 l452 y452 z452 st452 hQ452
      subst l452 y452 z452
      obtain ⟨hor452, hL452, hp452⟩ := hQ452
      subst hL452
      have N452 := Fr.app N413 (Fr.nil n0)
      by_cases hc453 : [(109 : Int32), (97 : Int32), (110 : Int32), (121 : Int32)] = cs370
      · obtain ⟨hv452, -⟩ := hor452.resolve_right (fun q => q.2 hc453)
        subst hv452
        refine Goes.tr st452 ?_
        refine gx (XS.ifNo X452.here hx rfl (hb hby at_444) rfl ((if0 _ _).trans (feq (by decide : ¬ ((1 : Int32) = (0 : Int32)))).1)) ?_
        obtain ⟨T454, X454, e454, st454⟩ := getS2 X452 hx hZ hown (host := "") (Or.inl (own_hw hw 138 rfl)) Via.refl hp452 (S3.ext O438.2) (g := (mkF m 447 #[.val (.int x0), .val (.int x1), .val (.int x2), .val (.long x3), .second, u5, u6, u7, .val (.ref arr), .val (.int nn), .val (.int (0 : Int32)), .val (.ref sa370), .val .null, .val (.int u13)] [])) rfl (hb hby at_447)
        refine Goes.to st454 ?_
        refine gx (XS.astore X454.here hx rfl (hb hby at_450) rfl rfl (l' := #[.val (.int x0), .val (.int x1), .val (.int x2), .val (.long x3), .second, u5, u6, u7, .val (.ref arr), .val (.int nn), .val (.int (0 : Int32)), .val (.ref sa370), .val (.ref a3), .val (.int u13)]) rfl) ?_
        refine gx (XS.aload X454.here hx rfl (hb hby at_452) rfl rfl) ?_
        obtain ⟨_, _, ⟨T455, L455, k455, n455⟩, -, X455, ⟨Lc455, hQ455, l455, y455, z455⟩, st455⟩ := Jvm.LawKit.callS X454 hx (y := own_n18) hown (mvT hZ (own_hw hw 84 rfl)) (mvT hZ (own_hw hw 85 rfl)) (mvT hZ (own_hw hw 82 rfl)) (mvT hZ (own_hw hw 86 rfl)) (by decide) (backOf (W := 0) (own_rmNMR l Z a0 hw [] sa370 aV kV a1 a2 a3 aE w1 w2 w3 v1 v2 v3 q1 q2 q3 bv370 kb370 cs370 cs T436.heap n0 Z436 (SV.ext O438.2) (VV.ext O438.2) (EV.ext O438.2) (SE.ext O438.2) (EE.ext O438.2) (FE.ext O438.2) (Fw1.ext O438.2) (Ew1.ext O438.2) (Cw1.ext O438.2) (Vw1.ext O438.2) (Aw1.ext O438.2) (Fw2.ext O438.2) (Ew2.ext O438.2) (Cw2.ext O438.2) (Vw2.ext O438.2) (Aw2.ext O438.2) (Fw3.ext O438.2) (Ew3.ext O438.2) (Cw3.ext O438.2) (Vw3.ext O438.2) (Aw3.ext O438.2) F440 F441 F442 F443 hp8370 ll370 (SC.ext O438.2) hcs) hZ (own_hw hw 86 rfl) (own_hw hw 82 rfl) (by decide) (by decide)) (g := (mkF m 454 #[.val (.int x0), .val (.int x1), .val (.int x2), .val (.long x3), .second, u5, u6, u7, .val (.ref arr), .val (.int nn), .val (.int (0 : Int32)), .val (.ref sa370), .val (.ref a3), .val (.int u13)] [(.ref sa370)])) rfl (by rw [hml]; rfl) (argsL := [(.ref sa370)]) (rest := []) (lenOf own_pd_pLjavallanglStringsqLjavalutillOptionals rfl) rfl (own_W rfl rfl) (hb hby at_454) (fun _ _ => ⟨rfl, e454, (by decide : 15 + 2 ≤ _), (by decide : 143 + 4 ≤ _)⟩)
        dsimp only [Pt.U, Pt.locs, Pt.cells, Pt.slots] at X455 l455 y455 z455 st455 hQ455
        subst l455 y455 z455
        obtain ⟨op455, hv455, Nq455, K455, Eo455, Fo455⟩ := hQ455
        subst hv455
        have N455 := Fr.app N452 Nq455
        replace Fo455 : Fld Z T455.heap op455 "java/util/Optional" "value" "Ljava/lang/Object;" (.ref a3) := by
          have q := Fo455
          unfold own_pick at q
          rw [if_neg hc383, if_neg hc414, if_pos hc453] at q
          exact q
        have hk458 := Nat.le_trans hk436 K455.1
        have O459 := O438.keep K455 all0
        have Zk455 : n0 ≤ T455.heap.size := Nat.le_trans Z436 K455.1
        refine Goes.to st455 ?_
        refine gx (XS.aconstNull X455.here hx rfl (hb hby at_457)) ?_
        obtain ⟨cq477, kq477, q477a, q477b, q477c⟩ := isOf hZ rfl Eo455
        obtain ⟨_, _, ⟨T477, L477, k477, n477⟩, -, X477, ⟨Lc477, hQ477, l477, y477, z477⟩, st477⟩ := X455.virtualBack hx (y := own_n12) (z := own_n12) hown (mvT hZ (own_hw hw 124 rfl)) (mvT hZ (own_hw hw 125 rfl)) (notFace_of_selects (args := #[]) (mvT hZ (own_hw hw 127 rfl))) (mvT hZ (own_hw hw 127 rfl)) (mvT hZ (own_hw hw 126 rfl)) (by decide) (backOf (W := 0) (own_rmOER l Z a0 hw [] op455 a3 T455.heap n0 Zk455 Fo455) hZ (own_hw hw 128 rfl) (own_hw hw 109 rfl) (by decide) (by decide)) q477a q477c (g := (mkF m 458 #[.val (.int x0), .val (.int x1), .val (.int x2), .val (.long x3), .second, u5, u6, u7, .val (.ref arr), .val (.int nn), .val (.int (0 : Int32)), .val (.ref sa370), .val (.ref a3), .val (.int u13)] [.null, (.ref op455)])) rfl (by rw [hml]; rfl) (Steps.refl _) (argsL := [.null]) (rest := []) (lenOf own_pd_pLjavallanglObjectsqLjavallanglObjects rfl) rfl (own_W rfl rfl) (hb hby at_458) (fun _ _ => ⟨rfl, rfl, (by decide : 17 + 0 ≤ _), (by decide : 147 + 0 ≤ _)⟩)
        dsimp only [Pt.U, Pt.locs, Pt.cells, Pt.slots] at X477 l477 y477 z477 st477 hQ477
        subst l477 y477 z477
        obtain ⟨hv477, Nq477, hp477_0⟩ := hQ477
        have N477 := Fr.app N455 Nq477
        subst hv477
        refine Goes.tr st477 ?_
        obtain ⟨T478, X478, e478, st478⟩ := castY X477 hx hZ hown (own_hw hw 129 rfl) hp477_0 (Ins.self (E3.ext O459.2)) (g := (mkF m 461 #[.val (.int x0), .val (.int x1), .val (.int x2), .val (.long x3), .second, u5, u6, u7, .val (.ref arr), .val (.int nn), .val (.int (0 : Int32)), .val (.ref sa370), .val (.ref a3), .val (.int u13)] [(.ref a3)])) rfl rfl (hb hby at_461)
        refine Goes.to st478 ?_
        refine gx (XS.astore X478.here hx rfl (hb hby at_464) rfl rfl (l' := #[.val (.int x0), .val (.int x1), .val (.int x2), .val (.long x3), .second, u5, u6, u7, .val (.ref arr), .val (.int nn), .val (.int (0 : Int32)), .val (.ref sa370), .val (.ref a3), .val (.ref a3)]) rfl) ?_
        refine gx (XS.aload X478.here hx rfl (hb hby at_466) rfl rfl) ?_
        refine gx (XS.aload X478.here hx rfl (hb hby at_468) rfl rfl) ?_
        refine gx (Jvm.RoadKit.acmp (g := (mkF m 470 #[.val (.int x0), .val (.int x1), .val (.int x2), .val (.long x3), .second, u5, u6, u7, .val (.ref arr), .val (.int nn), .val (.int (0 : Int32)), .val (.ref sa370), .val (.ref a3), .val (.ref a3)] [(.ref a3), (.ref a3)])) X478 hx rfl rfl rfl (pc0 := 470) (pc' := 473) (same := true) rfl (hb hby at_470) rfl (decide_eq_true rfl) (by decide) (by decide)) ?_
        refine gx (XS.iconst X478.here hx rfl (hb hby at_473)) ?_
        refine gx (XS.goto X478.here hx rfl (pc0 := 474) (pc' := 478) rfl (hb hby at_474) (by decide) (by decide)) ?_
        show Goes p.tables e below (T478.setTop (mkF m 478 #[.val (.int x0), .val (.int x1), .val (.int x2), .val (.long x3), .second, u5, u6, u7, .val (.ref arr), .val (.int nn), .val (.int (0 : Int32)), .val (.ref sa370), .val (.ref a3), .val (.ref a3)] [(.int (1 : Int32))])) _
        have hkl := Nat.le_trans hk458 (Nat.le_of_eq (congrArg Array.size (e478).symm))
        obtain ⟨fs, hr, hrun, hended, hEnd⟩ := X478.leaveW (s := s) hS436 hkl (v := some (.int (1 : Int32))) (fun h => by rw [Bd.returns] at h; cases h)
        have hv : (some (.int (1 : Int32)) : Option Value) = some (.int (1 : Int32)) := by
          rfl
        exact ⟨_, _, retN X478 hx (t := .boolean) Bd.returns (by simp) (hb hby at_478) hr, hrun, hended, _, _, rfl, ⟨hv, N477⟩, hEnd.1, hEnd.2.1, hEnd.2.2.1, hEnd.2.2.2.mono (by decide) (by decide)⟩
      · obtain ⟨hv452, -⟩ := hor452.resolve_left (fun q => hc453 q.2)
        subst hv452
        refine Goes.tr st452 ?_
        refine gx (XS.ifYes X452.here hx rfl (pc0 := 444) (pc' := 452) rfl (hb hby at_444) rfl ((if0 _ _).trans (teq (by decide : (0 : Int32) = (0 : Int32))).1) (by decide) (by decide)) ?_
        refine gx (XS.aload X452.here hx rfl (hb hby at_452) rfl rfl) ?_
        obtain ⟨_, _, ⟨T479, L479, k479, n479⟩, -, X479, ⟨Lc479, hQ479, l479, y479, z479⟩, st479⟩ := Jvm.LawKit.callS X452 hx (y := own_n18) hown (mvT hZ (own_hw hw 84 rfl)) (mvT hZ (own_hw hw 85 rfl)) (mvT hZ (own_hw hw 82 rfl)) (mvT hZ (own_hw hw 86 rfl)) (by decide) (backOf (W := 0) (own_rmNMR l Z a0 hw [] sa370 aV kV a1 a2 a3 aE w1 w2 w3 v1 v2 v3 q1 q2 q3 bv370 kb370 cs370 cs T436.heap n0 Z436 (SV.ext O438.2) (VV.ext O438.2) (EV.ext O438.2) (SE.ext O438.2) (EE.ext O438.2) (FE.ext O438.2) (Fw1.ext O438.2) (Ew1.ext O438.2) (Cw1.ext O438.2) (Vw1.ext O438.2) (Aw1.ext O438.2) (Fw2.ext O438.2) (Ew2.ext O438.2) (Cw2.ext O438.2) (Vw2.ext O438.2) (Aw2.ext O438.2) (Fw3.ext O438.2) (Ew3.ext O438.2) (Cw3.ext O438.2) (Vw3.ext O438.2) (Aw3.ext O438.2) F440 F441 F442 F443 hp8370 ll370 (SC.ext O438.2) hcs) hZ (own_hw hw 86 rfl) (own_hw hw 82 rfl) (by decide) (by decide)) (g := (mkF m 454 #[.val (.int x0), .val (.int x1), .val (.int x2), .val (.long x3), .second, u5, u6, u7, .val (.ref arr), .val (.int nn), .val (.int (0 : Int32)), .val (.ref sa370), .val .null, .val (.int u13)] [(.ref sa370)])) rfl (by rw [hml]; rfl) (argsL := [(.ref sa370)]) (rest := []) (lenOf own_pd_pLjavallanglStringsqLjavalutillOptionals rfl) rfl (own_W rfl rfl) (hb hby at_454) (fun _ _ => ⟨rfl, hp452, (by decide : 15 + 2 ≤ _), (by decide : 143 + 4 ≤ _)⟩)
        dsimp only [Pt.U, Pt.locs, Pt.cells, Pt.slots] at X479 l479 y479 z479 st479 hQ479
        subst l479 y479 z479
        obtain ⟨op479, hv479, Nq479, K479, Eo479, Fo479⟩ := hQ479
        subst hv479
        have N479 := Fr.app N452 Nq479
        replace Fo479 : Fld Z T479.heap op479 "java/util/Optional" "value" "Ljava/lang/Object;" .null := by
          have q := Fo479
          unfold own_pick at q
          rw [if_neg hc383, if_neg hc414, if_neg hc453] at q
          exact q
        have hk482 := Nat.le_trans hk436 K479.1
        have Zk479 : n0 ≤ T479.heap.size := Nat.le_trans Z436 K479.1
        refine Goes.to st479 ?_
        refine gx (XS.aconstNull X479.here hx rfl (hb hby at_457)) ?_
        obtain ⟨cq501, kq501, q501a, q501b, q501c⟩ := isOf hZ rfl Eo479
        obtain ⟨_, _, ⟨T501, L501, k501, n501⟩, -, X501, ⟨Lc501, hQ501, l501, y501, z501⟩, st501⟩ := X479.virtualBack hx (y := own_n12) (z := own_n12) hown (mvT hZ (own_hw hw 124 rfl)) (mvT hZ (own_hw hw 125 rfl)) (notFace_of_selects (args := #[]) (mvT hZ (own_hw hw 127 rfl))) (mvT hZ (own_hw hw 127 rfl)) (mvT hZ (own_hw hw 126 rfl)) (by decide) (backOf (W := 0) (own_rmOEN l Z a0 hw [] op479 T479.heap n0 Zk479 Fo479) hZ (own_hw hw 128 rfl) (own_hw hw 109 rfl) (by decide) (by decide)) q501a q501c (g := (mkF m 458 #[.val (.int x0), .val (.int x1), .val (.int x2), .val (.long x3), .second, u5, u6, u7, .val (.ref arr), .val (.int nn), .val (.int (0 : Int32)), .val (.ref sa370), .val .null, .val (.int u13)] [.null, (.ref op479)])) rfl (by rw [hml]; rfl) (Steps.refl _) (argsL := [.null]) (rest := []) (lenOf own_pd_pLjavallanglObjectsqLjavallanglObjects rfl) rfl (own_W rfl rfl) (hb hby at_458) (fun _ _ => ⟨rfl, rfl, (by decide : 17 + 0 ≤ _), (by decide : 147 + 0 ≤ _)⟩)
        dsimp only [Pt.U, Pt.locs, Pt.cells, Pt.slots] at X501 l501 y501 z501 st501 hQ501
        subst l501 y501 z501
        obtain ⟨hv501, Nq501, hp501_0⟩ := hQ501
        have N501 := Fr.app N479 Nq501
        subst hv501
        refine Goes.tr st501 ?_
        refine gx (X501.checkcastNull hx (g := (mkF m 461 #[.val (.int x0), .val (.int x1), .val (.int x2), .val (.long x3), .second, u5, u6, u7, .val (.ref arr), .val (.int nn), .val (.int (0 : Int32)), .val (.ref sa370), .val .null, .val (.int u13)] [.null])) rfl rfl (hb hby at_461) _) ?_
        refine gx (XS.astore X501.here hx rfl (hb hby at_464) rfl rfl (l' := #[.val (.int x0), .val (.int x1), .val (.int x2), .val (.long x3), .second, u5, u6, u7, .val (.ref arr), .val (.int nn), .val (.int (0 : Int32)), .val (.ref sa370), .val .null, .val .null]) rfl) ?_
        refine gx (XS.aload X501.here hx rfl (hb hby at_466) rfl rfl) ?_
        refine gx (XS.aload X501.here hx rfl (hb hby at_468) rfl rfl) ?_
        refine gx (Jvm.RoadKit.acmp (g := (mkF m 470 #[.val (.int x0), .val (.int x1), .val (.int x2), .val (.long x3), .second, u5, u6, u7, .val (.ref arr), .val (.int nn), .val (.int (0 : Int32)), .val (.ref sa370), .val .null, .val .null] [.null, .null])) X501 hx rfl rfl rfl (pc0 := 470) (pc' := 473) (same := true) rfl (hb hby at_470) rfl (decide_eq_true rfl) (by decide) (by decide)) ?_
        refine gx (XS.iconst X501.here hx rfl (hb hby at_473)) ?_
        refine gx (XS.goto X501.here hx rfl (pc0 := 474) (pc' := 478) rfl (hb hby at_474) (by decide) (by decide)) ?_
        show Goes p.tables e below (T501.setTop (mkF m 478 #[.val (.int x0), .val (.int x1), .val (.int x2), .val (.long x3), .second, u5, u6, u7, .val (.ref arr), .val (.int nn), .val (.int (0 : Int32)), .val (.ref sa370), .val .null, .val .null] [(.int (1 : Int32))])) _
        have hkl := Nat.le_trans hk482 (Nat.le_of_eq (congrArg Array.size (hp501_0).symm))
        obtain ⟨fs, hr, hrun, hended, hEnd⟩ := X501.leaveW (s := s) hS436 hkl (v := some (.int (1 : Int32))) (fun h => by rw [Bd.returns] at h; cases h)
        have hv : (some (.int (1 : Int32)) : Option Value) = some (.int (1 : Int32)) := by
          rfl
        exact ⟨_, _, retN X501 hx (t := .boolean) Bd.returns (by simp) (hb hby at_478) hr, hrun, hended, _, _, rfl, ⟨hv, N501⟩, hEnd.1, hEnd.2.1, hEnd.2.2.1, hEnd.2.2.2.mono (by decide) (by decide)⟩
set_option maxRecDepth 65536 in
set_option maxHeartbeats 40000000 in
theorem own_pt_own_rm0_355 (l : Launch) (Z : State) (a0 : Array Value) (hw : ∀ d ∈ tables_1, d.before a0 Z = true) (ws : List Jvm.Cond) (x0 : Int32) (x1 : Int32) (x2 : Int32) (x3 : Int64) (aV : Addr) (kV : ClassId) (a1 : Addr) (a2 : Addr) (a3 : Addr) (aE : Addr) (w1 : Addr) (w2 : Addr) (w3 : Addr) (v1 : Addr) (v2 : Addr) (v3 : Addr) (q1 : ClassId) (q2 : ClassId) (q3 : ClassId) (cs : Int32) (fm : Value) (h0 : Heap) (n0 : Nat) (Z0 : n0 ≤ h0.size) (hPm : own_P_own_rm0 Z a0 x0 x1 x2 x3 aV kV a1 a2 a3 aE w1 w2 w3 v1 v2 v3 q1 q2 q3 cs fm h0 n0)
    {p : Program} {e : Env} {s : State} {m : MethodId} {below : List Frame} {meth : Method} {c : Code} {s₁ : State} (Bd : BodyLoose p l x (head1 (Jvm.Cond.code x code maxLocals ret :: ws) room_1) code maxLocals ret e s m #[(.int x0), (.int x1), (.int x2), (.long x3)] below meth c s₁) (hml0 : c.maxLocals = maxLocals) (hh : s.heap = h0) 
    (b1 : Addr) (a253 : Addr) (b253 : Addr) (k253 : ClassId) (k1 : ClassId)
    (Tpt : State) (lpt : List Loc) (vmpt : Vm) (hZ : Z.Warmed39 vmpt) (hown : vmpt.findClass "com/example/polgen/polgen/model/MultiplicityNamedPinLaw" = some m.cls) (hpt : Heap)
    (Xpt : Stand p l e room_1 (s.setVm vmpt) m #[(.int x0), (.int x1), (.int x2), (.long x3)] below meth c Tpt lpt 3 25) (Ept : Tpt.heap = hpt) (Npt : Fr n0 lpt) (Zpt : n0 ≤ hpt.size) (kpt : Nat) (hSpt : s.Since vmpt kpt) (hkpt : kpt ≤ hpt.size) (Rpt : CHr Z own_EL s.vm h0 vmpt hpt)
    (Pf355_0 : Safe Z own_EL vmpt hpt b1)
    (Pf355_1 : Exa Z hpt a253 "java/lang/String")
    (Pf355_2 : Fld Z hpt a253 "java/lang/String" "coder" "B" (.int (0 : Int32)))
    (Pf355_3 : Fld Z hpt a253 "java/lang/String" "value" "[B" (.ref b253))
    (Pf355_4 : Arv Z hpt b253 k253 .byte (3 : Int32) [(.int (111 : Int32)), (.int (110 : Int32)), (.int (101 : Int32))] (.int (0 : Int32)))
    (Pf355_5 : Arv Z hpt b1 k1 .char (9 : Int32) [(.int (111 : Int32)), (.int (110 : Int32)), (.int (101 : Int32)), (.int (0 : Int32)), (.int (0 : Int32)), (.int (0 : Int32)), (.int (0 : Int32)), (.int (0 : Int32)), (.int (0 : Int32))] (.int (0 : Int32)))
    (Pg355_17 : n0 ≤ b1)
    (Old355 : Old Z n0 hpt)
    (Ph355_21 : ¬ ((x0 &&& (3 : Int32)) = (3 : Int32)))
    (Ph355_22 : (x0 &&& (3 : Int32)) = (0 : Int32))
    : Goes p.tables e below (Tpt.setTop (mkF m 303 #[.val (.int x0), .val (.int x1), .val (.int x2), .val (.long x3), .second, .val (.int (x0 &&& (3 : Int32))), .val (.int ((x0.toUInt32 >>> ((2 : Int32) &&& 31).toUInt32).toInt32)), .val (.int ((x2 &&& (255 : Int32)).toUInt32.toUInt16.toUInt32.toInt32)), .val (.ref b1), .unset, .val (.int (0 : Int32)), .val (.ref a253), .val (.int (3 : Int32)), .unset] [(.ref a253), (.int (8 : Int32)), (.ref b1)])) (own_RW below s (own_Q_own_rm0 Z x0 x1 x2 x3 aV kV a1 a2 a3 aE w1 w2 w3 v1 v2 v3 q1 q2 q3 cs fm h0 n0) 17 147) := by
  obtain ⟨O0, hCH0, S1, S2, S3, E1, E2, E3, SV, VV, EV, SE, EE, FE, Fw1, Ew1, Cw1, Vw1, Aw1, Fw2, Ew2, Cw2, Vw2, Aw2, Fw3, Ew3, Cw3, Vw3, Aw3, SC, hcs, SF, hfm⟩ := id hPm
  have hx := Bd.exec
  have hby := Bd.bytes
  have hml : c.maxLocals = 14 := hml0
  have hnm := (name_of_methodNamed Bd.named Bd.method).1
  have own_wS' : ∀ a ∈ Bundle.stringAtoms, a.before a0 Z = true := own_wS hw
  have hEL := own_EW hw
  refine gx (XS.bipush Xpt.here hx rfl (hb hby at_303)) ?_
  obtain ⟨_, _, ⟨T356, L356, k356, n356⟩, -, X356, ⟨Lc356, hQ356, l356, y356, z356⟩, st356⟩ := Jvm.LawKit.callS Xpt hx (y := own_n7) hown (mvT hZ (own_hw hw 22 rfl)) (mvT hZ (own_hw hw 23 rfl)) (mvT hZ (own_hw hw 24 rfl)) (mvT hZ (own_hw hw 25 rfl)) (by decide) (backOf (W := 2) (own_rm3 l Z a0 hw [] a253 (8 : Int32) b253 k253 (3 : Int32) [(.int (111 : Int32)), (.int (110 : Int32)), (.int (101 : Int32))] (0 : Int32) cs fm hpt n0 Zpt Pf355_1 Pf355_2 Pf355_3 Pf355_4 (SC.ext Old355.2) hcs (SF.ext Old355.2) hfm (by decide) (fun q => absurd q (by decide))) hZ (own_hw hw 25 rfl) (own_hw hw 24 rfl) (by decide) (by decide)) (g := (mkF m 305 #[.val (.int x0), .val (.int x1), .val (.int x2), .val (.long x3), .second, .val (.int (x0 &&& (3 : Int32))), .val (.int ((x0.toUInt32 >>> ((2 : Int32) &&& 31).toUInt32).toInt32)), .val (.int ((x2 &&& (255 : Int32)).toUInt32.toUInt16.toUInt32.toInt32)), .val (.ref b1), .unset, .val (.int (0 : Int32)), .val (.ref a253), .val (.int (3 : Int32)), .unset] [(.int (8 : Int32)), (.ref a253), (.int (8 : Int32)), (.ref b1)])) rfl (by rw [hml]; rfl) (argsL := [(.ref a253), (.int (8 : Int32))]) (rest := [(.int (8 : Int32)), (.ref b1)]) (lenOf own_pd_pLjavallanglStringsIqC rfl) rfl (own_W rfl rfl) (hb hby at_305) (fun _ _ => ⟨rfl, Ept, (by decide : 3 + 0 ≤ _), (by decide : 25 + 0 ≤ _)⟩)
  dsimp only [Pt.U, Pt.locs, Pt.cells, Pt.slots] at X356 l356 y356 z356 st356 hQ356
  subst l356 y356 z356
  obtain ⟨hv356, Nq356, hp356_0⟩ := hQ356
  have N356 := Fr.app Npt Nq356
  rw [show own_atc (8 : Int32) (3 : Int32) (0 : Int32) = (0 : Int32) from by decide] at hv356
  subst hv356
  refine Goes.to st356 ?_
  obtain ⟨cl357, Ar357, q357, S357, N357, H357, G357⟩ := id Pf355_5
  have hin357 : ¬ ((8 : Int32) < 0 ∨ cl357.slots.size ≤ ((8 : Int32)).toNatClampNeg) := inb_of S357 ⟨by decide, by decide⟩
  obtain ⟨T358, h358, X358, e358, W358, st358⟩ := stC X356 hx hZ hp356_0 Ar357 (j := (8 : Int32)) hin357 (g := (mkF m 308 #[.val (.int x0), .val (.int x1), .val (.int x2), .val (.long x3), .second, .val (.int (x0 &&& (3 : Int32))), .val (.int ((x0.toUInt32 >>> ((2 : Int32) &&& 31).toUInt32).toInt32)), .val (.int ((x2 &&& (255 : Int32)).toUInt32.toUInt16.toUInt32.toInt32)), .val (.ref b1), .unset, .val (.int (0 : Int32)), .val (.ref a253), .val (.int (3 : Int32)), .unset] [(.int (0 : Int32)), (.int (8 : Int32)), (.ref b1)])) rfl rfl (hb hby at_308)
  subst e358
  have Sf359 := Safe.wr W358 Pf355_0 Rpt.1 Pf355_0
  have R360 := Rpt.trans (CHr.wr W358 Pf355_0 Rpt.1)
  have hk361 := Nat.le_trans hkpt (Nat.le_of_eq W358.size.symm)
  have O362 := Old355.wr W358 Pg355_17
  have N358 := Fr.snoc X358 N356 Pg355_17
  have Z358 : n0 ≤ T358.heap.size := Nat.le_trans Zpt (Nat.le_of_eq W358.size.symm)
  have V358 : Arv Z T358.heap b1 k1 .char (9 : Int32) [(.int (111 : Int32)), (.int (110 : Int32)), (.int (101 : Int32)), (.int (0 : Int32)), (.int (0 : Int32)), (.int (0 : Int32)), (.int (0 : Int32)), (.int (0 : Int32)), (.int (0 : Int32))] (.int (0 : Int32)) := Arv.set Ar357 q357 S357 N357 H357 G357 (fits_nar_char _) W358 8 rfl (Nat.le_of_ble_eq_true rfl)
  refine Goes.to st358 ?_
  refine gx (XS.iload X358.here hx rfl (hb hby at_309) rfl) ?_
  refine gx (XS.iconst X358.here hx rfl (hb hby at_311)) ?_
  refine gx (XS.iand X358.here hx rfl (hb hby at_312) rfl) ?_
  refine gx (XS.istore X358.here hx rfl (hb hby at_313) rfl (l' := #[.val (.int x0), .val (.int x1), .val (.int x2), .val (.long x3), .second, .val (.int (x0 &&& (3 : Int32))), .val (.int ((x0.toUInt32 >>> ((2 : Int32) &&& 31).toUInt32).toInt32)), .val (.int ((x2 &&& (255 : Int32)).toUInt32.toUInt16.toUInt32.toInt32)), .val (.ref b1), .unset, .val (.int (0 : Int32)), .val (.ref a253), .val (.int (3 : Int32)), .val (.int (((x0.toUInt32 >>> ((2 : Int32) &&& 31).toUInt32).toInt32) &&& (3 : Int32)))]) rfl) ?_
  show Goes p.tables e below (T358.setTop (mkF m 315 #[.val (.int x0), .val (.int x1), .val (.int x2), .val (.long x3), .second, .val (.int (x0 &&& (3 : Int32))), .val (.int ((x0.toUInt32 >>> ((2 : Int32) &&& 31).toUInt32).toInt32)), .val (.int ((x2 &&& (255 : Int32)).toUInt32.toUInt16.toUInt32.toInt32)), .val (.ref b1), .unset, .val (.int (0 : Int32)), .val (.ref a253), .val (.int (3 : Int32)), .val (.int (((x0.toUInt32 >>> ((2 : Int32) &&& 31).toUInt32).toInt32) &&& (3 : Int32)))] [])) _
  refine gx (XS.iload X358.here hx rfl (hb hby at_315) rfl) ?_
  by_cases hc368 : (((x0.toUInt32 >>> ((2 : Int32) &&& 31).toUInt32).toInt32) &&& (3 : Int32)) = (0 : Int32)
  · refine gx (XS.ifNo X358.here hx rfl (hb hby at_317) rfl ((if0 _ _).trans (teq hc368).2)) ?_
    refine gx (XS.iload X358.here hx rfl (hb hby at_320) rfl) ?_
    refine gx (XS.istore X358.here hx rfl (hb hby at_322) rfl (l' := #[.val (.int x0), .val (.int x1), .val (.int x2), .val (.long x3), .second, .val (.int (x0 &&& (3 : Int32))), .val (.int ((x0.toUInt32 >>> ((2 : Int32) &&& 31).toUInt32).toInt32)), .val (.int ((x2 &&& (255 : Int32)).toUInt32.toUInt16.toUInt32.toInt32)), .val (.ref b1), .val (.int (3 : Int32)), .val (.int (0 : Int32)), .val (.ref a253), .val (.int (3 : Int32)), .val (.int (((x0.toUInt32 >>> ((2 : Int32) &&& 31).toUInt32).toInt32) &&& (3 : Int32)))]) rfl) ?_
    refine gx (XS.goto X358.here hx rfl (pc0 := 324) (pc' := 380) rfl (hb hby at_324) (by decide) (by decide)) ?_
    show Goes p.tables e below (T358.setTop (mkF m 380 #[.val (.int x0), .val (.int x1), .val (.int x2), .val (.long x3), .second, .val (.int (x0 &&& (3 : Int32))), .val (.int ((x0.toUInt32 >>> ((2 : Int32) &&& 31).toUInt32).toInt32)), .val (.int ((x2 &&& (255 : Int32)).toUInt32.toUInt16.toUInt32.toInt32)), .val (.ref b1), .val (.int (3 : Int32)), .val (.int (0 : Int32)), .val (.ref a253), .val (.int (3 : Int32)), .val (.int (((x0.toUInt32 >>> ((2 : Int32) &&& 31).toUInt32).toInt32) &&& (3 : Int32)))] [])) _
    refine gx (XS.iload X358.here hx rfl (hb hby at_380) rfl) ?_
    refine gx (XS.ifYes X358.here hx rfl (pc0 := 382) (pc' := 389) rfl (hb hby at_382) rfl ((if0 _ _).trans (teq (by decide : (0 : Int32) = (0 : Int32))).1) (by decide) (by decide)) ?_
    exact own_pt_own_rm0_369 l Z a0 hw ws x0 x1 x2 x3 aV kV a1 a2 a3 aE w1 w2 w3 v1 v2 v3 q1 q2 q3 cs fm h0 n0 Z0 hPm Bd hml0 hh  b1 k1 a253 ([(111 : Int32), (110 : Int32), (101 : Int32), (0 : Int32), (0 : Int32), (0 : Int32), (0 : Int32), (0 : Int32), (0 : Int32)] : List Int32) (3 : Int32) (.val (.int (x0 &&& (3 : Int32)))) (.val (.int ((x0.toUInt32 >>> ((2 : Int32) &&& 31).toUInt32).toInt32))) (.val (.int ((x2 &&& (255 : Int32)).toUInt32.toUInt16.toUInt32.toInt32))) (3 : Int32) (((x0.toUInt32 >>> ((2 : Int32) &&& 31).toUInt32).toInt32) &&& (3 : Int32)) T358 _ vmpt hZ hown T358.heap (own_wk X358 (by decide) (by decide)) rfl N358 Z358  _ hSpt hk361 R360 V358 O362 (own_aS (by unfold P8; decide) (own_aS (by unfold P8; decide) (own_aS (by unfold P8; decide) (own_aS (by unfold P8; decide) (own_aS (by unfold P8; decide) (own_aS (by unfold P8; decide) (own_aS (by unfold P8; decide) (own_aS (by unfold P8; decide) (own_aS (by unfold P8; decide) own_a0)))))))))
  · refine gx (XS.ifYes X358.here hx rfl (pc0 := 317) (pc' := 327) rfl (hb hby at_317) rfl ((if0 _ _).trans (feq hc368).2) (by decide) (by decide)) ?_
    refine gx (XS.iload X358.here hx rfl (hb hby at_327) rfl) ?_
    refine gx (XS.iconst X358.here hx rfl (hb hby at_329)) ?_
    by_cases hc502 : (((x0.toUInt32 >>> ((2 : Int32) &&& 31).toUInt32).toInt32) &&& (3 : Int32)) = (1 : Int32)
    · refine gx (XS.icmpNo X358.here hx rfl (hb hby at_330) rfl (teq hc502).2) ?_
      show Goes p.tables e below (T358.setTop (mkF m 333 #[.val (.int x0), .val (.int x1), .val (.int x2), .val (.long x3), .second, .val (.int (x0 &&& (3 : Int32))), .val (.int ((x0.toUInt32 >>> ((2 : Int32) &&& 31).toUInt32).toInt32)), .val (.int ((x2 &&& (255 : Int32)).toUInt32.toUInt16.toUInt32.toInt32)), .val (.ref b1), .unset, .val (.int (0 : Int32)), .val (.ref a253), .val (.int (3 : Int32)), .val (.int (((x0.toUInt32 >>> ((2 : Int32) &&& 31).toUInt32).toInt32) &&& (3 : Int32)))] [])) _
      refine gx (XS.aload X358.here hx rfl (hb hby at_333) rfl rfl) ?_
      refine gx (XS.iloadN X358.here hx rfl (hb hby at_335) rfl) ?_
      refine gx (X358.ldcInt hx hown (mvT hZ (own_hw hw 131 rfl)) (g := (mkF m 336 #[.val (.int x0), .val (.int x1), .val (.int x2), .val (.long x3), .second, .val (.int (x0 &&& (3 : Int32))), .val (.int ((x0.toUInt32 >>> ((2 : Int32) &&& 31).toUInt32).toInt32)), .val (.int ((x2 &&& (255 : Int32)).toUInt32.toUInt16.toUInt32.toInt32)), .val (.ref b1), .unset, .val (.int (0 : Int32)), .val (.ref a253), .val (.int (3 : Int32)), .val (.int (((x0.toUInt32 >>> ((2 : Int32) &&& 31).toUInt32).toInt32) &&& (3 : Int32)))] [(.int x1), (.ref b1)])) rfl (hb hby at_336) _) ?_
      refine gx (XS.iand X358.here hx rfl (hb hby at_338) rfl) ?_
      refine gx (XS.iload X358.here hx rfl (hb hby at_339) rfl) ?_
      refine gx (Jvm.RoadKit.iremM X358 hx rfl (hb hby at_341) rfl (by decide)) ?_
      refine gx (XS.iload X358.here hx rfl (hb hby at_342) rfl) ?_
      show Goes p.tables e below (T358.setTop (mkF m 344 #[.val (.int x0), .val (.int x1), .val (.int x2), .val (.long x3), .second, .val (.int (x0 &&& (3 : Int32))), .val (.int ((x0.toUInt32 >>> ((2 : Int32) &&& 31).toUInt32).toInt32)), .val (.int ((x2 &&& (255 : Int32)).toUInt32.toUInt16.toUInt32.toInt32)), .val (.ref b1), .unset, .val (.int (0 : Int32)), .val (.ref a253), .val (.int (3 : Int32)), .val (.int (((x0.toUInt32 >>> ((2 : Int32) &&& 31).toUInt32).toInt32) &&& (3 : Int32)))] [(.int ((x2 &&& (255 : Int32)).toUInt32.toUInt16.toUInt32.toInt32)), (.int ((x1 &&& (2147483647 : Int32)) % (3 : Int32))), (.ref b1)])) _
      obtain ⟨cl503, Ar503, q503, S503, N503, H503, G503⟩ := id V358
      have hin503 : ¬ (((x1 &&& (2147483647 : Int32)) % (3 : Int32)) < 0 ∨ cl503.slots.size ≤ (((x1 &&& (2147483647 : Int32)) % (3 : Int32))).toNatClampNeg) := by
        have k1 := rng32 x1
        have k2 : (x1 &&& (2147483647 : Int32)).toInt = x1.toInt % 2147483648 := c_mask x1 (2147483647 : Int32) 31 (by decide) (by decide)
        have k3 := c_irem (x1 &&& (2147483647 : Int32)) (3 : Int32) 3 rfl
        have k4 := rng32 ((x1 &&& (2147483647 : Int32)) % (3 : Int32))
        have k5 : (9 : Int32).toInt = 9 := rfl
        have k6 : (0 : Int32).toInt = 0 := rfl
        refine inb_of S503 ⟨fun hq => ?_, Int32.lt_iff_toInt_lt.mpr ?_⟩
        · have hq' := Int32.lt_iff_toInt_lt.mp hq
          omega
        · omega
      have hlt503 : (((x1 &&& (2147483647 : Int32)) % (3 : Int32))).toNatClampNeg < 9 := Nat.lt_of_lt_of_eq (Nat.lt_of_not_le fun y => hin503 (Or.inr y)) (by rw [S503]; rfl)
      obtain ⟨T504, h504, X504, e504, W504, st504⟩ := stC X358 hx hZ rfl Ar503 (j := ((x1 &&& (2147483647 : Int32)) % (3 : Int32))) hin503 (g := (mkF m 344 #[.val (.int x0), .val (.int x1), .val (.int x2), .val (.long x3), .second, .val (.int (x0 &&& (3 : Int32))), .val (.int ((x0.toUInt32 >>> ((2 : Int32) &&& 31).toUInt32).toInt32)), .val (.int ((x2 &&& (255 : Int32)).toUInt32.toUInt16.toUInt32.toInt32)), .val (.ref b1), .unset, .val (.int (0 : Int32)), .val (.ref a253), .val (.int (3 : Int32)), .val (.int (((x0.toUInt32 >>> ((2 : Int32) &&& 31).toUInt32).toInt32) &&& (3 : Int32)))] [(.int ((x2 &&& (255 : Int32)).toUInt32.toUInt16.toUInt32.toInt32)), (.int ((x1 &&& (2147483647 : Int32)) % (3 : Int32))), (.ref b1)])) rfl rfl (hb hby at_344)
      subst e504
      have R506 := R360.trans (CHr.wr W504 Sf359 R360.1)
      have hk507 := Nat.le_trans hk361 (Nat.le_of_eq W504.size.symm)
      have O508 := O362.wr W504 Pg355_17
      have N504 := Fr.snoc X504 N358 Pg355_17
      have Z504 : n0 ≤ T504.heap.size := Nat.le_trans Z358 (Nat.le_of_eq W504.size.symm)
      have V504 : Arv Z T504.heap b1 k1 .char (9 : Int32) ((([(111 : Int32), (110 : Int32), (101 : Int32), (0 : Int32), (0 : Int32), (0 : Int32), (0 : Int32), (0 : Int32), (0 : Int32)] : List Int32).set (((x1 &&& (2147483647 : Int32)) % (3 : Int32))).toNatClampNeg (nar .char ((x2 &&& (255 : Int32)).toUInt32.toUInt16.toUInt32.toInt32))).map Value.int) (.int (0 : Int32)) := by
        rw [List.map_set]
        exact Arv.set Ar503 q503 S503 N503 H503 G503 (fits_nar_char _) W504 _ rfl hlt503
      refine Goes.to st504 ?_
      refine gx (XS.iload X504.here hx rfl (hb hby at_345) rfl) ?_
      refine gx (XS.istore X504.here hx rfl (hb hby at_347) rfl (l' := #[.val (.int x0), .val (.int x1), .val (.int x2), .val (.long x3), .second, .val (.int (x0 &&& (3 : Int32))), .val (.int ((x0.toUInt32 >>> ((2 : Int32) &&& 31).toUInt32).toInt32)), .val (.int ((x2 &&& (255 : Int32)).toUInt32.toUInt16.toUInt32.toInt32)), .val (.ref b1), .val (.int (3 : Int32)), .val (.int (0 : Int32)), .val (.ref a253), .val (.int (3 : Int32)), .val (.int (((x0.toUInt32 >>> ((2 : Int32) &&& 31).toUInt32).toInt32) &&& (3 : Int32)))]) rfl) ?_
      refine gx (XS.goto X504.here hx rfl (pc0 := 349) (pc' := 380) rfl (hb hby at_349) (by decide) (by decide)) ?_
      refine gx (XS.iload X504.here hx rfl (hb hby at_380) rfl) ?_
      show Goes p.tables e below (T504.setTop (mkF m 382 #[.val (.int x0), .val (.int x1), .val (.int x2), .val (.long x3), .second, .val (.int (x0 &&& (3 : Int32))), .val (.int ((x0.toUInt32 >>> ((2 : Int32) &&& 31).toUInt32).toInt32)), .val (.int ((x2 &&& (255 : Int32)).toUInt32.toUInt16.toUInt32.toInt32)), .val (.ref b1), .val (.int (3 : Int32)), .val (.int (0 : Int32)), .val (.ref a253), .val (.int (3 : Int32)), .val (.int (((x0.toUInt32 >>> ((2 : Int32) &&& 31).toUInt32).toInt32) &&& (3 : Int32)))] [(.int (0 : Int32))])) _
      refine gx (XS.ifYes X504.here hx rfl (pc0 := 382) (pc' := 389) rfl (hb hby at_382) rfl ((if0 _ _).trans (teq (by decide : (0 : Int32) = (0 : Int32))).1) (by decide) (by decide)) ?_
      exact own_pt_own_rm0_369 l Z a0 hw ws x0 x1 x2 x3 aV kV a1 a2 a3 aE w1 w2 w3 v1 v2 v3 q1 q2 q3 cs fm h0 n0 Z0 hPm Bd hml0 hh  b1 k1 a253 (([(111 : Int32), (110 : Int32), (101 : Int32), (0 : Int32), (0 : Int32), (0 : Int32), (0 : Int32), (0 : Int32), (0 : Int32)] : List Int32).set (((x1 &&& (2147483647 : Int32)) % (3 : Int32))).toNatClampNeg (nar .char ((x2 &&& (255 : Int32)).toUInt32.toUInt16.toUInt32.toInt32))) (3 : Int32) (.val (.int (x0 &&& (3 : Int32)))) (.val (.int ((x0.toUInt32 >>> ((2 : Int32) &&& 31).toUInt32).toInt32))) (.val (.int ((x2 &&& (255 : Int32)).toUInt32.toUInt16.toUInt32.toInt32))) (3 : Int32) (((x0.toUInt32 >>> ((2 : Int32) &&& 31).toUInt32).toInt32) &&& (3 : Int32)) T504 _ vmpt hZ hown T504.heap (own_wk X504 (by decide) (by decide)) rfl N504 Z504  _ hSpt hk507 R506 V504 O508 (own_set8 (own_aS (by unfold P8; decide) (own_aS (by unfold P8; decide) (own_aS (by unfold P8; decide) (own_aS (by unfold P8; decide) (own_aS (by unfold P8; decide) (own_aS (by unfold P8; decide) (own_aS (by unfold P8; decide) (own_aS (by unfold P8; decide) (own_aS (by unfold P8; decide) own_a0))))))))) (own_p8nar (own_p8i2c (own_p8and _))))
    · refine gx (XS.icmpYes X358.here hx rfl (pc0 := 330) (pc' := 352) rfl (hb hby at_330) rfl (feq hc502).2 (by decide) (by decide)) ?_
      show Goes p.tables e below (T358.setTop (mkF m 352 #[.val (.int x0), .val (.int x1), .val (.int x2), .val (.long x3), .second, .val (.int (x0 &&& (3 : Int32))), .val (.int ((x0.toUInt32 >>> ((2 : Int32) &&& 31).toUInt32).toInt32)), .val (.int ((x2 &&& (255 : Int32)).toUInt32.toUInt16.toUInt32.toInt32)), .val (.ref b1), .unset, .val (.int (0 : Int32)), .val (.ref a253), .val (.int (3 : Int32)), .val (.int (((x0.toUInt32 >>> ((2 : Int32) &&& 31).toUInt32).toInt32) &&& (3 : Int32)))] [])) _
      refine gx (XS.iload X358.here hx rfl (hb hby at_352) rfl) ?_
      refine gx (XS.iconst X358.here hx rfl (hb hby at_354)) ?_
      by_cases hc515 : (((x0.toUInt32 >>> ((2 : Int32) &&& 31).toUInt32).toInt32) &&& (3 : Int32)) = (2 : Int32)
      · refine gx (XS.icmpNo X358.here hx rfl (hb hby at_355) rfl (teq hc515).2) ?_
        refine gx (XS.aload X358.here hx rfl (hb hby at_358) rfl rfl) ?_
        refine gx (XS.iload X358.here hx rfl (hb hby at_360) rfl) ?_
        show Goes p.tables e below (T358.setTop (mkF m 362 #[.val (.int x0), .val (.int x1), .val (.int x2), .val (.long x3), .second, .val (.int (x0 &&& (3 : Int32))), .val (.int ((x0.toUInt32 >>> ((2 : Int32) &&& 31).toUInt32).toInt32)), .val (.int ((x2 &&& (255 : Int32)).toUInt32.toUInt16.toUInt32.toInt32)), .val (.ref b1), .unset, .val (.int (0 : Int32)), .val (.ref a253), .val (.int (3 : Int32)), .val (.int (((x0.toUInt32 >>> ((2 : Int32) &&& 31).toUInt32).toInt32) &&& (3 : Int32)))] [(.int (3 : Int32)), (.ref b1)])) _
        refine gx (XS.iload X358.here hx rfl (hb hby at_362) rfl) ?_
        obtain ⟨cl516, Ar516, q516, S516, N516, H516, G516⟩ := id V358
        have hin516 : ¬ ((3 : Int32) < 0 ∨ cl516.slots.size ≤ ((3 : Int32)).toNatClampNeg) := inb_of S516 ⟨by decide, by decide⟩
        obtain ⟨T517, h517, X517, e517, W517, st517⟩ := stC X358 hx hZ rfl Ar516 (j := (3 : Int32)) hin516 (g := (mkF m 364 #[.val (.int x0), .val (.int x1), .val (.int x2), .val (.long x3), .second, .val (.int (x0 &&& (3 : Int32))), .val (.int ((x0.toUInt32 >>> ((2 : Int32) &&& 31).toUInt32).toInt32)), .val (.int ((x2 &&& (255 : Int32)).toUInt32.toUInt16.toUInt32.toInt32)), .val (.ref b1), .unset, .val (.int (0 : Int32)), .val (.ref a253), .val (.int (3 : Int32)), .val (.int (((x0.toUInt32 >>> ((2 : Int32) &&& 31).toUInt32).toInt32) &&& (3 : Int32)))] [(.int ((x2 &&& (255 : Int32)).toUInt32.toUInt16.toUInt32.toInt32)), (.int (3 : Int32)), (.ref b1)])) rfl rfl (hb hby at_364)
        subst e517
        have R519 := R360.trans (CHr.wr W517 Sf359 R360.1)
        have hk520 := Nat.le_trans hk361 (Nat.le_of_eq W517.size.symm)
        have O521 := O362.wr W517 Pg355_17
        have N517 := Fr.snoc X517 N358 Pg355_17
        have Z517 : n0 ≤ T517.heap.size := Nat.le_trans Z358 (Nat.le_of_eq W517.size.symm)
        have V517 : Arv Z T517.heap b1 k1 .char (9 : Int32) [(.int (111 : Int32)), (.int (110 : Int32)), (.int (101 : Int32)), (.int (nar .char ((x2 &&& (255 : Int32)).toUInt32.toUInt16.toUInt32.toInt32))), (.int (0 : Int32)), (.int (0 : Int32)), (.int (0 : Int32)), (.int (0 : Int32)), (.int (0 : Int32))] (.int (0 : Int32)) := Arv.set Ar516 q516 S516 N516 H516 G516 (fits_nar_char _) W517 3 rfl (Nat.le_of_ble_eq_true rfl)
        refine Goes.to st517 ?_
        refine gx (XS.iload X517.here hx rfl (hb hby at_365) rfl) ?_
        refine gx (XS.iconst X517.here hx rfl (hb hby at_367)) ?_
        refine gx (XS.iadd X517.here hx rfl (hb hby at_368) rfl) ?_
        refine gx (XS.istore X517.here hx rfl (hb hby at_369) rfl (l' := #[.val (.int x0), .val (.int x1), .val (.int x2), .val (.long x3), .second, .val (.int (x0 &&& (3 : Int32))), .val (.int ((x0.toUInt32 >>> ((2 : Int32) &&& 31).toUInt32).toInt32)), .val (.int ((x2 &&& (255 : Int32)).toUInt32.toUInt16.toUInt32.toInt32)), .val (.ref b1), .val (.int (4 : Int32)), .val (.int (0 : Int32)), .val (.ref a253), .val (.int (3 : Int32)), .val (.int (((x0.toUInt32 >>> ((2 : Int32) &&& 31).toUInt32).toInt32) &&& (3 : Int32)))]) rfl) ?_
        show Goes p.tables e below (T517.setTop (mkF m 371 #[.val (.int x0), .val (.int x1), .val (.int x2), .val (.long x3), .second, .val (.int (x0 &&& (3 : Int32))), .val (.int ((x0.toUInt32 >>> ((2 : Int32) &&& 31).toUInt32).toInt32)), .val (.int ((x2 &&& (255 : Int32)).toUInt32.toUInt16.toUInt32.toInt32)), .val (.ref b1), .val (.int (4 : Int32)), .val (.int (0 : Int32)), .val (.ref a253), .val (.int (3 : Int32)), .val (.int (((x0.toUInt32 >>> ((2 : Int32) &&& 31).toUInt32).toInt32) &&& (3 : Int32)))] [])) _
        refine gx (XS.goto X517.here hx rfl (pc0 := 371) (pc' := 380) rfl (hb hby at_371) (by decide) (by decide)) ?_
        refine gx (XS.iload X517.here hx rfl (hb hby at_380) rfl) ?_
        refine gx (XS.ifYes X517.here hx rfl (pc0 := 382) (pc' := 389) rfl (hb hby at_382) rfl ((if0 _ _).trans (teq (by decide : (0 : Int32) = (0 : Int32))).1) (by decide) (by decide)) ?_
        exact own_pt_own_rm0_369 l Z a0 hw ws x0 x1 x2 x3 aV kV a1 a2 a3 aE w1 w2 w3 v1 v2 v3 q1 q2 q3 cs fm h0 n0 Z0 hPm Bd hml0 hh  b1 k1 a253 ([(111 : Int32), (110 : Int32), (101 : Int32), (nar .char ((x2 &&& (255 : Int32)).toUInt32.toUInt16.toUInt32.toInt32)), (0 : Int32), (0 : Int32), (0 : Int32), (0 : Int32), (0 : Int32)] : List Int32) (4 : Int32) (.val (.int (x0 &&& (3 : Int32)))) (.val (.int ((x0.toUInt32 >>> ((2 : Int32) &&& 31).toUInt32).toInt32))) (.val (.int ((x2 &&& (255 : Int32)).toUInt32.toUInt16.toUInt32.toInt32))) (3 : Int32) (((x0.toUInt32 >>> ((2 : Int32) &&& 31).toUInt32).toInt32) &&& (3 : Int32)) T517 _ vmpt hZ hown T517.heap (own_wk X517 (by decide) (by decide)) rfl N517 Z517  _ hSpt hk520 R519 V517 O521 (own_aS (by unfold P8; decide) (own_aS (by unfold P8; decide) (own_aS (by unfold P8; decide) (own_aS (own_p8nar (own_p8i2c (own_p8and _))) (own_aS (by unfold P8; decide) (own_aS (by unfold P8; decide) (own_aS (by unfold P8; decide) (own_aS (by unfold P8; decide) (own_aS (by unfold P8; decide) own_a0)))))))))
      · refine gx (XS.icmpYes X358.here hx rfl (pc0 := 355) (pc' := 374) rfl (hb hby at_355) rfl (feq hc515).2 (by decide) (by decide)) ?_
        refine gx (XS.iload X358.here hx rfl (hb hby at_374) rfl) ?_
        refine gx (XS.iconst X358.here hx rfl (hb hby at_376)) ?_
        show Goes p.tables e below (T358.setTop (mkF m 377 #[.val (.int x0), .val (.int x1), .val (.int x2), .val (.long x3), .second, .val (.int (x0 &&& (3 : Int32))), .val (.int ((x0.toUInt32 >>> ((2 : Int32) &&& 31).toUInt32).toInt32)), .val (.int ((x2 &&& (255 : Int32)).toUInt32.toUInt16.toUInt32.toInt32)), .val (.ref b1), .unset, .val (.int (0 : Int32)), .val (.ref a253), .val (.int (3 : Int32)), .val (.int (((x0.toUInt32 >>> ((2 : Int32) &&& 31).toUInt32).toInt32) &&& (3 : Int32)))] [(.int (1 : Int32)), (.int (3 : Int32))])) _
        refine gx (XS.isub X358.here hx rfl (hb hby at_377) rfl) ?_
        refine gx (XS.istore X358.here hx rfl (hb hby at_378) rfl (l' := #[.val (.int x0), .val (.int x1), .val (.int x2), .val (.long x3), .second, .val (.int (x0 &&& (3 : Int32))), .val (.int ((x0.toUInt32 >>> ((2 : Int32) &&& 31).toUInt32).toInt32)), .val (.int ((x2 &&& (255 : Int32)).toUInt32.toUInt16.toUInt32.toInt32)), .val (.ref b1), .val (.int (2 : Int32)), .val (.int (0 : Int32)), .val (.ref a253), .val (.int (3 : Int32)), .val (.int (((x0.toUInt32 >>> ((2 : Int32) &&& 31).toUInt32).toInt32) &&& (3 : Int32)))]) rfl) ?_
        refine gx (XS.iload X358.here hx rfl (hb hby at_380) rfl) ?_
        refine gx (XS.ifYes X358.here hx rfl (pc0 := 382) (pc' := 389) rfl (hb hby at_382) rfl ((if0 _ _).trans (teq (by decide : (0 : Int32) = (0 : Int32))).1) (by decide) (by decide)) ?_
        exact own_pt_own_rm0_369 l Z a0 hw ws x0 x1 x2 x3 aV kV a1 a2 a3 aE w1 w2 w3 v1 v2 v3 q1 q2 q3 cs fm h0 n0 Z0 hPm Bd hml0 hh  b1 k1 a253 ([(111 : Int32), (110 : Int32), (101 : Int32), (0 : Int32), (0 : Int32), (0 : Int32), (0 : Int32), (0 : Int32), (0 : Int32)] : List Int32) (2 : Int32) (.val (.int (x0 &&& (3 : Int32)))) (.val (.int ((x0.toUInt32 >>> ((2 : Int32) &&& 31).toUInt32).toInt32))) (.val (.int ((x2 &&& (255 : Int32)).toUInt32.toUInt16.toUInt32.toInt32))) (3 : Int32) (((x0.toUInt32 >>> ((2 : Int32) &&& 31).toUInt32).toInt32) &&& (3 : Int32)) T358 _ vmpt hZ hown T358.heap (own_wk X358 (by decide) (by decide)) rfl N358 Z358  _ hSpt hk361 R360 V358 O362 (own_aS (by unfold P8; decide) (own_aS (by unfold P8; decide) (own_aS (by unfold P8; decide) (own_aS (by unfold P8; decide) (own_aS (by unfold P8; decide) (own_aS (by unfold P8; decide) (own_aS (by unfold P8; decide) (own_aS (by unfold P8; decide) (own_aS (by unfold P8; decide) own_a0)))))))))
set_option maxRecDepth 65536 in
set_option maxHeartbeats 40000000 in
theorem own_pt_own_rm0_271 (l : Launch) (Z : State) (a0 : Array Value) (hw : ∀ d ∈ tables_1, d.before a0 Z = true) (ws : List Jvm.Cond) (x0 : Int32) (x1 : Int32) (x2 : Int32) (x3 : Int64) (aV : Addr) (kV : ClassId) (a1 : Addr) (a2 : Addr) (a3 : Addr) (aE : Addr) (w1 : Addr) (w2 : Addr) (w3 : Addr) (v1 : Addr) (v2 : Addr) (v3 : Addr) (q1 : ClassId) (q2 : ClassId) (q3 : ClassId) (cs : Int32) (fm : Value) (h0 : Heap) (n0 : Nat) (Z0 : n0 ≤ h0.size) (hPm : own_P_own_rm0 Z a0 x0 x1 x2 x3 aV kV a1 a2 a3 aE w1 w2 w3 v1 v2 v3 q1 q2 q3 cs fm h0 n0)
    {p : Program} {e : Env} {s : State} {m : MethodId} {below : List Frame} {meth : Method} {c : Code} {s₁ : State} (Bd : BodyLoose p l x (head1 (Jvm.Cond.code x code maxLocals ret :: ws) room_1) code maxLocals ret e s m #[(.int x0), (.int x1), (.int x2), (.long x3)] below meth c s₁) (hml0 : c.maxLocals = maxLocals) (hh : s.heap = h0) 
    (b1 : Addr) (a253 : Addr) (b253 : Addr) (k253 : ClassId) (k1 : ClassId)
    (Tpt : State) (lpt : List Loc) (vmpt : Vm) (hZ : Z.Warmed39 vmpt) (hown : vmpt.findClass "com/example/polgen/polgen/model/MultiplicityNamedPinLaw" = some m.cls) (hpt : Heap)
    (Xpt : Stand p l e room_1 (s.setVm vmpt) m #[(.int x0), (.int x1), (.int x2), (.long x3)] below meth c Tpt lpt 3 25) (Ept : Tpt.heap = hpt) (Npt : Fr n0 lpt) (Zpt : n0 ≤ hpt.size) (kpt : Nat) (hSpt : s.Since vmpt kpt) (hkpt : kpt ≤ hpt.size) (Rpt : CHr Z own_EL s.vm h0 vmpt hpt)
    (Pf271_0 : Safe Z own_EL vmpt hpt b1)
    (Pf271_1 : Exa Z hpt a253 "java/lang/String")
    (Pf271_2 : Fld Z hpt a253 "java/lang/String" "coder" "B" (.int (0 : Int32)))
    (Pf271_3 : Fld Z hpt a253 "java/lang/String" "value" "[B" (.ref b253))
    (Pf271_4 : Arv Z hpt b253 k253 .byte (3 : Int32) [(.int (111 : Int32)), (.int (110 : Int32)), (.int (101 : Int32))] (.int (0 : Int32)))
    (Pf271_5 : Arv Z hpt b1 k1 .char (9 : Int32) [(.int (111 : Int32)), (.int (0 : Int32)), (.int (0 : Int32)), (.int (0 : Int32)), (.int (0 : Int32)), (.int (0 : Int32)), (.int (0 : Int32)), (.int (0 : Int32)), (.int (0 : Int32))] (.int (0 : Int32)))
    (Pg271_17 : n0 ≤ b1)
    (Pn271_18 : b1 ≠ a253)
    (Pn271_19 : b1 ≠ b253)
    (Old271 : Old Z n0 hpt)
    (Ph271_21 : ¬ ((x0 &&& (3 : Int32)) = (3 : Int32)))
    (Ph271_22 : (x0 &&& (3 : Int32)) = (0 : Int32))
    : Goes p.tables e below (Tpt.setTop (mkF m 232 #[.val (.int x0), .val (.int x1), .val (.int x2), .val (.long x3), .second, .val (.int (x0 &&& (3 : Int32))), .val (.int ((x0.toUInt32 >>> ((2 : Int32) &&& 31).toUInt32).toInt32)), .val (.int ((x2 &&& (255 : Int32)).toUInt32.toUInt16.toUInt32.toInt32)), .val (.ref b1), .unset, .val (.int (0 : Int32)), .val (.ref a253), .val (.int (3 : Int32)), .unset] [(.int (110 : Int32)), (.int (1 : Int32)), (.ref b1)])) (own_RW below s (own_Q_own_rm0 Z x0 x1 x2 x3 aV kV a1 a2 a3 aE w1 w2 w3 v1 v2 v3 q1 q2 q3 cs fm h0 n0) 17 147) := by
  obtain ⟨O0, hCH0, S1, S2, S3, E1, E2, E3, SV, VV, EV, SE, EE, FE, Fw1, Ew1, Cw1, Vw1, Aw1, Fw2, Ew2, Cw2, Vw2, Aw2, Fw3, Ew3, Cw3, Vw3, Aw3, SC, hcs, SF, hfm⟩ := id hPm
  have hx := Bd.exec
  have hby := Bd.bytes
  have hml : c.maxLocals = 14 := hml0
  have hnm := (name_of_methodNamed Bd.named Bd.method).1
  have own_wS' : ∀ a ∈ Bundle.stringAtoms, a.before a0 Z = true := own_wS hw
  have hEL := own_EW hw
  obtain ⟨cl272, Ar272, q272, S272, N272, H272, G272⟩ := id Pf271_5
  have hin272 : ¬ ((1 : Int32) < 0 ∨ cl272.slots.size ≤ ((1 : Int32)).toNatClampNeg) := inb_of S272 ⟨by decide, by decide⟩
  obtain ⟨T273, h273, X273, e273, W273, st273⟩ := stC Xpt hx hZ Ept Ar272 (j := (1 : Int32)) hin272 (g := (mkF m 232 #[.val (.int x0), .val (.int x1), .val (.int x2), .val (.long x3), .second, .val (.int (x0 &&& (3 : Int32))), .val (.int ((x0.toUInt32 >>> ((2 : Int32) &&& 31).toUInt32).toInt32)), .val (.int ((x2 &&& (255 : Int32)).toUInt32.toUInt16.toUInt32.toInt32)), .val (.ref b1), .unset, .val (.int (0 : Int32)), .val (.ref a253), .val (.int (3 : Int32)), .unset] [(.int (110 : Int32)), (.int (1 : Int32)), (.ref b1)])) rfl rfl (hb hby at_232)
  subst e273
  have Sf274 := Safe.wr W273 Pf271_0 Rpt.1 Pf271_0
  have R275 := Rpt.trans (CHr.wr W273 Pf271_0 Rpt.1)
  have hk276 := Nat.le_trans hkpt (Nat.le_of_eq W273.size.symm)
  have O277 := Old271.wr W273 Pg271_17
  have F278 := Pf271_1.wr W273
  have F279 := Pf271_2.other W273 (Or.inl (Ne.symm Pn271_18))
  have F280 := Pf271_3.other W273 (Or.inl (Ne.symm Pn271_18))
  have F281 := Pf271_4.other W273 (Ne.symm Pn271_19)
  have N273 := Fr.snoc X273 Npt Pg271_17
  have Z273 : n0 ≤ T273.heap.size := Nat.le_trans Zpt (Nat.le_of_eq W273.size.symm)
  have V273 : Arv Z T273.heap b1 k1 .char (9 : Int32) [(.int (111 : Int32)), (.int (110 : Int32)), (.int (0 : Int32)), (.int (0 : Int32)), (.int (0 : Int32)), (.int (0 : Int32)), (.int (0 : Int32)), (.int (0 : Int32)), (.int (0 : Int32))] (.int (0 : Int32)) := Arv.set Ar272 q272 S272 N272 H272 G272 (fits_nar_char _) W273 1 rfl (Nat.le_of_ble_eq_true rfl)
  refine Goes.to st273 ?_
  refine gx (XS.aload X273.here hx rfl (hb hby at_233) rfl rfl) ?_
  refine gx (XS.iconst X273.here hx rfl (hb hby at_235)) ?_
  refine gx (XS.aload X273.here hx rfl (hb hby at_236) rfl rfl) ?_
  refine gx (XS.iconst X273.here hx rfl (hb hby at_238)) ?_
  obtain ⟨_, _, ⟨T283, L283, k283, n283⟩, -, X283, ⟨Lc283, hQ283, l283, y283, z283⟩, st283⟩ := Jvm.LawKit.callS X273 hx (y := own_n7) hown (mvT hZ (own_hw hw 22 rfl)) (mvT hZ (own_hw hw 23 rfl)) (mvT hZ (own_hw hw 24 rfl)) (mvT hZ (own_hw hw 25 rfl)) (by decide) (backOf (W := 2) (own_rm3 l Z a0 hw [] a253 (2 : Int32) b253 k253 (3 : Int32) [(.int (111 : Int32)), (.int (110 : Int32)), (.int (101 : Int32))] (101 : Int32) cs fm T273.heap n0 Z273 F278 F279 F280 F281 (SC.ext O277.2) hcs (SF.ext O277.2) hfm (by decide) (fun _ => rfl)) hZ (own_hw hw 25 rfl) (own_hw hw 24 rfl) (by decide) (by decide)) (g := (mkF m 239 #[.val (.int x0), .val (.int x1), .val (.int x2), .val (.long x3), .second, .val (.int (x0 &&& (3 : Int32))), .val (.int ((x0.toUInt32 >>> ((2 : Int32) &&& 31).toUInt32).toInt32)), .val (.int ((x2 &&& (255 : Int32)).toUInt32.toUInt16.toUInt32.toInt32)), .val (.ref b1), .unset, .val (.int (0 : Int32)), .val (.ref a253), .val (.int (3 : Int32)), .unset] [(.int (2 : Int32)), (.ref a253), (.int (2 : Int32)), (.ref b1)])) rfl (by rw [hml]; rfl) (argsL := [(.ref a253), (.int (2 : Int32))]) (rest := [(.int (2 : Int32)), (.ref b1)]) (lenOf own_pd_pLjavallanglStringsIqC rfl) rfl (own_W rfl rfl) (hb hby at_239) (fun _ _ => ⟨rfl, rfl, (by decide : 3 + 0 ≤ _), (by decide : 25 + 0 ≤ _)⟩)
  dsimp only [Pt.U, Pt.locs, Pt.cells, Pt.slots] at X283 l283 y283 z283 st283 hQ283
  subst l283 y283 z283
  obtain ⟨hv283, Nq283, hp283_0⟩ := hQ283
  have N283 := Fr.app N273 Nq283
  rw [show own_atc (2 : Int32) (3 : Int32) (101 : Int32) = (101 : Int32) from by decide] at hv283
  subst hv283
  refine Goes.to st283 ?_
  obtain ⟨cl284, Ar284, q284, S284, N284, H284, G284⟩ := id V273
  have hin284 : ¬ ((2 : Int32) < 0 ∨ cl284.slots.size ≤ ((2 : Int32)).toNatClampNeg) := inb_of S284 ⟨by decide, by decide⟩
  obtain ⟨T285, h285, X285, e285, W285, st285⟩ := stC X283 hx hZ hp283_0 Ar284 (j := (2 : Int32)) hin284 (g := (mkF m 242 #[.val (.int x0), .val (.int x1), .val (.int x2), .val (.long x3), .second, .val (.int (x0 &&& (3 : Int32))), .val (.int ((x0.toUInt32 >>> ((2 : Int32) &&& 31).toUInt32).toInt32)), .val (.int ((x2 &&& (255 : Int32)).toUInt32.toUInt16.toUInt32.toInt32)), .val (.ref b1), .unset, .val (.int (0 : Int32)), .val (.ref a253), .val (.int (3 : Int32)), .unset] [(.int (101 : Int32)), (.int (2 : Int32)), (.ref b1)])) rfl rfl (hb hby at_242)
  subst e285
  have Sf286 := Safe.wr W285 Sf274 R275.1 Sf274
  have R287 := R275.trans (CHr.wr W285 Sf274 R275.1)
  have hk288 := Nat.le_trans hk276 (Nat.le_of_eq W285.size.symm)
  have O289 := O277.wr W285 Pg271_17
  have F290 := F278.wr W285
  have F291 := F279.other W285 (Or.inl (Ne.symm Pn271_18))
  have F292 := F280.other W285 (Or.inl (Ne.symm Pn271_18))
  have F293 := F281.other W285 (Ne.symm Pn271_19)
  have N285 := Fr.snoc X285 N283 Pg271_17
  have Z285 : n0 ≤ T285.heap.size := Nat.le_trans Z273 (Nat.le_of_eq W285.size.symm)
  have V285 : Arv Z T285.heap b1 k1 .char (9 : Int32) [(.int (111 : Int32)), (.int (110 : Int32)), (.int (101 : Int32)), (.int (0 : Int32)), (.int (0 : Int32)), (.int (0 : Int32)), (.int (0 : Int32)), (.int (0 : Int32)), (.int (0 : Int32))] (.int (0 : Int32)) := Arv.set Ar284 q284 S284 N284 H284 G284 (fits_nar_char _) W285 2 rfl (Nat.le_of_ble_eq_true rfl)
  refine Goes.to st285 ?_
  refine gx (XS.aload X285.here hx rfl (hb hby at_243) rfl rfl) ?_
  refine gx (XS.iconst X285.here hx rfl (hb hby at_245)) ?_
  refine gx (XS.aload X285.here hx rfl (hb hby at_246) rfl rfl) ?_
  refine gx (XS.iconst X285.here hx rfl (hb hby at_248)) ?_
  obtain ⟨_, _, ⟨T295, L295, k295, n295⟩, -, X295, ⟨Lc295, hQ295, l295, y295, z295⟩, st295⟩ := Jvm.LawKit.callS X285 hx (y := own_n7) hown (mvT hZ (own_hw hw 22 rfl)) (mvT hZ (own_hw hw 23 rfl)) (mvT hZ (own_hw hw 24 rfl)) (mvT hZ (own_hw hw 25 rfl)) (by decide) (backOf (W := 2) (own_rm3 l Z a0 hw [] a253 (3 : Int32) b253 k253 (3 : Int32) [(.int (111 : Int32)), (.int (110 : Int32)), (.int (101 : Int32))] (0 : Int32) cs fm T285.heap n0 Z285 F290 F291 F292 F293 (SC.ext O289.2) hcs (SF.ext O289.2) hfm (by decide) (fun q => absurd q (by decide))) hZ (own_hw hw 25 rfl) (own_hw hw 24 rfl) (by decide) (by decide)) (g := (mkF m 249 #[.val (.int x0), .val (.int x1), .val (.int x2), .val (.long x3), .second, .val (.int (x0 &&& (3 : Int32))), .val (.int ((x0.toUInt32 >>> ((2 : Int32) &&& 31).toUInt32).toInt32)), .val (.int ((x2 &&& (255 : Int32)).toUInt32.toUInt16.toUInt32.toInt32)), .val (.ref b1), .unset, .val (.int (0 : Int32)), .val (.ref a253), .val (.int (3 : Int32)), .unset] [(.int (3 : Int32)), (.ref a253), (.int (3 : Int32)), (.ref b1)])) rfl (by rw [hml]; rfl) (argsL := [(.ref a253), (.int (3 : Int32))]) (rest := [(.int (3 : Int32)), (.ref b1)]) (lenOf own_pd_pLjavallanglStringsIqC rfl) rfl (own_W rfl rfl) (hb hby at_249) (fun _ _ => ⟨rfl, rfl, (by decide : 3 + 0 ≤ _), (by decide : 25 + 0 ≤ _)⟩)
  dsimp only [Pt.U, Pt.locs, Pt.cells, Pt.slots] at X295 l295 y295 z295 st295 hQ295
  subst l295 y295 z295
  obtain ⟨hv295, Nq295, hp295_0⟩ := hQ295
  have N295 := Fr.app N285 Nq295
  rw [show own_atc (3 : Int32) (3 : Int32) (0 : Int32) = (0 : Int32) from by decide] at hv295
  subst hv295
  refine Goes.to st295 ?_
  obtain ⟨cl296, Ar296, q296, S296, N296, H296, G296⟩ := id V285
  have hin296 : ¬ ((3 : Int32) < 0 ∨ cl296.slots.size ≤ ((3 : Int32)).toNatClampNeg) := inb_of S296 ⟨by decide, by decide⟩
  obtain ⟨T297, h297, X297, e297, W297, st297⟩ := stC X295 hx hZ hp295_0 Ar296 (j := (3 : Int32)) hin296 (g := (mkF m 252 #[.val (.int x0), .val (.int x1), .val (.int x2), .val (.long x3), .second, .val (.int (x0 &&& (3 : Int32))), .val (.int ((x0.toUInt32 >>> ((2 : Int32) &&& 31).toUInt32).toInt32)), .val (.int ((x2 &&& (255 : Int32)).toUInt32.toUInt16.toUInt32.toInt32)), .val (.ref b1), .unset, .val (.int (0 : Int32)), .val (.ref a253), .val (.int (3 : Int32)), .unset] [(.int (0 : Int32)), (.int (3 : Int32)), (.ref b1)])) rfl rfl (hb hby at_252)
  subst e297
  have Sf298 := Safe.wr W297 Sf286 R287.1 Sf286
  have R299 := R287.trans (CHr.wr W297 Sf286 R287.1)
  have hk300 := Nat.le_trans hk288 (Nat.le_of_eq W297.size.symm)
  have O301 := O289.wr W297 Pg271_17
  have F302 := F290.wr W297
  have F303 := F291.other W297 (Or.inl (Ne.symm Pn271_18))
  have F304 := F292.other W297 (Or.inl (Ne.symm Pn271_18))
  have F305 := F293.other W297 (Ne.symm Pn271_19)
  have N297 := Fr.snoc X297 N295 Pg271_17
  have Z297 : n0 ≤ T297.heap.size := Nat.le_trans Z285 (Nat.le_of_eq W297.size.symm)
  have V297 : Arv Z T297.heap b1 k1 .char (9 : Int32) [(.int (111 : Int32)), (.int (110 : Int32)), (.int (101 : Int32)), (.int (0 : Int32)), (.int (0 : Int32)), (.int (0 : Int32)), (.int (0 : Int32)), (.int (0 : Int32)), (.int (0 : Int32))] (.int (0 : Int32)) := Arv.set Ar296 q296 S296 N296 H296 G296 (fits_nar_char _) W297 3 rfl (Nat.le_of_ble_eq_true rfl)
  refine Goes.to st297 ?_
  refine gx (XS.aload X297.here hx rfl (hb hby at_253) rfl rfl) ?_
  refine gx (XS.iconst X297.here hx rfl (hb hby at_255)) ?_
  refine gx (XS.aload X297.here hx rfl (hb hby at_256) rfl rfl) ?_
  refine gx (XS.iconst X297.here hx rfl (hb hby at_258)) ?_
  obtain ⟨_, _, ⟨T307, L307, k307, n307⟩, -, X307, ⟨Lc307, hQ307, l307, y307, z307⟩, st307⟩ := Jvm.LawKit.callS X297 hx (y := own_n7) hown (mvT hZ (own_hw hw 22 rfl)) (mvT hZ (own_hw hw 23 rfl)) (mvT hZ (own_hw hw 24 rfl)) (mvT hZ (own_hw hw 25 rfl)) (by decide) (backOf (W := 2) (own_rm3 l Z a0 hw [] a253 (4 : Int32) b253 k253 (3 : Int32) [(.int (111 : Int32)), (.int (110 : Int32)), (.int (101 : Int32))] (0 : Int32) cs fm T297.heap n0 Z297 F302 F303 F304 F305 (SC.ext O301.2) hcs (SF.ext O301.2) hfm (by decide) (fun q => absurd q (by decide))) hZ (own_hw hw 25 rfl) (own_hw hw 24 rfl) (by decide) (by decide)) (g := (mkF m 259 #[.val (.int x0), .val (.int x1), .val (.int x2), .val (.long x3), .second, .val (.int (x0 &&& (3 : Int32))), .val (.int ((x0.toUInt32 >>> ((2 : Int32) &&& 31).toUInt32).toInt32)), .val (.int ((x2 &&& (255 : Int32)).toUInt32.toUInt16.toUInt32.toInt32)), .val (.ref b1), .unset, .val (.int (0 : Int32)), .val (.ref a253), .val (.int (3 : Int32)), .unset] [(.int (4 : Int32)), (.ref a253), (.int (4 : Int32)), (.ref b1)])) rfl (by rw [hml]; rfl) (argsL := [(.ref a253), (.int (4 : Int32))]) (rest := [(.int (4 : Int32)), (.ref b1)]) (lenOf own_pd_pLjavallanglStringsIqC rfl) rfl (own_W rfl rfl) (hb hby at_259) (fun _ _ => ⟨rfl, rfl, (by decide : 3 + 0 ≤ _), (by decide : 25 + 0 ≤ _)⟩)
  dsimp only [Pt.U, Pt.locs, Pt.cells, Pt.slots] at X307 l307 y307 z307 st307 hQ307
  subst l307 y307 z307
  obtain ⟨hv307, Nq307, hp307_0⟩ := hQ307
  have N307 := Fr.app N297 Nq307
  rw [show own_atc (4 : Int32) (3 : Int32) (0 : Int32) = (0 : Int32) from by decide] at hv307
  subst hv307
  refine Goes.to st307 ?_
  obtain ⟨cl308, Ar308, q308, S308, N308, H308, G308⟩ := id V297
  have hin308 : ¬ ((4 : Int32) < 0 ∨ cl308.slots.size ≤ ((4 : Int32)).toNatClampNeg) := inb_of S308 ⟨by decide, by decide⟩
  obtain ⟨T309, h309, X309, e309, W309, st309⟩ := stC X307 hx hZ hp307_0 Ar308 (j := (4 : Int32)) hin308 (g := (mkF m 262 #[.val (.int x0), .val (.int x1), .val (.int x2), .val (.long x3), .second, .val (.int (x0 &&& (3 : Int32))), .val (.int ((x0.toUInt32 >>> ((2 : Int32) &&& 31).toUInt32).toInt32)), .val (.int ((x2 &&& (255 : Int32)).toUInt32.toUInt16.toUInt32.toInt32)), .val (.ref b1), .unset, .val (.int (0 : Int32)), .val (.ref a253), .val (.int (3 : Int32)), .unset] [(.int (0 : Int32)), (.int (4 : Int32)), (.ref b1)])) rfl rfl (hb hby at_262)
  subst e309
  have Sf310 := Safe.wr W309 Sf298 R299.1 Sf298
  have R311 := R299.trans (CHr.wr W309 Sf298 R299.1)
  have hk312 := Nat.le_trans hk300 (Nat.le_of_eq W309.size.symm)
  have O313 := O301.wr W309 Pg271_17
  have F314 := F302.wr W309
  have F315 := F303.other W309 (Or.inl (Ne.symm Pn271_18))
  have F316 := F304.other W309 (Or.inl (Ne.symm Pn271_18))
  have F317 := F305.other W309 (Ne.symm Pn271_19)
  have N309 := Fr.snoc X309 N307 Pg271_17
  have Z309 : n0 ≤ T309.heap.size := Nat.le_trans Z297 (Nat.le_of_eq W309.size.symm)
  have V309 : Arv Z T309.heap b1 k1 .char (9 : Int32) [(.int (111 : Int32)), (.int (110 : Int32)), (.int (101 : Int32)), (.int (0 : Int32)), (.int (0 : Int32)), (.int (0 : Int32)), (.int (0 : Int32)), (.int (0 : Int32)), (.int (0 : Int32))] (.int (0 : Int32)) := Arv.set Ar308 q308 S308 N308 H308 G308 (fits_nar_char _) W309 4 rfl (Nat.le_of_ble_eq_true rfl)
  refine Goes.to st309 ?_
  refine gx (XS.aload X309.here hx rfl (hb hby at_263) rfl rfl) ?_
  refine gx (XS.iconst X309.here hx rfl (hb hby at_265)) ?_
  refine gx (XS.aload X309.here hx rfl (hb hby at_266) rfl rfl) ?_
  refine gx (XS.iconst X309.here hx rfl (hb hby at_268)) ?_
  obtain ⟨_, _, ⟨T319, L319, k319, n319⟩, -, X319, ⟨Lc319, hQ319, l319, y319, z319⟩, st319⟩ := Jvm.LawKit.callS X309 hx (y := own_n7) hown (mvT hZ (own_hw hw 22 rfl)) (mvT hZ (own_hw hw 23 rfl)) (mvT hZ (own_hw hw 24 rfl)) (mvT hZ (own_hw hw 25 rfl)) (by decide) (backOf (W := 2) (own_rm3 l Z a0 hw [] a253 (5 : Int32) b253 k253 (3 : Int32) [(.int (111 : Int32)), (.int (110 : Int32)), (.int (101 : Int32))] (0 : Int32) cs fm T309.heap n0 Z309 F314 F315 F316 F317 (SC.ext O313.2) hcs (SF.ext O313.2) hfm (by decide) (fun q => absurd q (by decide))) hZ (own_hw hw 25 rfl) (own_hw hw 24 rfl) (by decide) (by decide)) (g := (mkF m 269 #[.val (.int x0), .val (.int x1), .val (.int x2), .val (.long x3), .second, .val (.int (x0 &&& (3 : Int32))), .val (.int ((x0.toUInt32 >>> ((2 : Int32) &&& 31).toUInt32).toInt32)), .val (.int ((x2 &&& (255 : Int32)).toUInt32.toUInt16.toUInt32.toInt32)), .val (.ref b1), .unset, .val (.int (0 : Int32)), .val (.ref a253), .val (.int (3 : Int32)), .unset] [(.int (5 : Int32)), (.ref a253), (.int (5 : Int32)), (.ref b1)])) rfl (by rw [hml]; rfl) (argsL := [(.ref a253), (.int (5 : Int32))]) (rest := [(.int (5 : Int32)), (.ref b1)]) (lenOf own_pd_pLjavallanglStringsIqC rfl) rfl (own_W rfl rfl) (hb hby at_269) (fun _ _ => ⟨rfl, rfl, (by decide : 3 + 0 ≤ _), (by decide : 25 + 0 ≤ _)⟩)
  dsimp only [Pt.U, Pt.locs, Pt.cells, Pt.slots] at X319 l319 y319 z319 st319 hQ319
  subst l319 y319 z319
  obtain ⟨hv319, Nq319, hp319_0⟩ := hQ319
  have N319 := Fr.app N309 Nq319
  rw [show own_atc (5 : Int32) (3 : Int32) (0 : Int32) = (0 : Int32) from by decide] at hv319
  subst hv319
  refine Goes.to st319 ?_
  obtain ⟨cl320, Ar320, q320, S320, N320, H320, G320⟩ := id V309
  have hin320 : ¬ ((5 : Int32) < 0 ∨ cl320.slots.size ≤ ((5 : Int32)).toNatClampNeg) := inb_of S320 ⟨by decide, by decide⟩
  obtain ⟨T321, h321, X321, e321, W321, st321⟩ := stC X319 hx hZ hp319_0 Ar320 (j := (5 : Int32)) hin320 (g := (mkF m 272 #[.val (.int x0), .val (.int x1), .val (.int x2), .val (.long x3), .second, .val (.int (x0 &&& (3 : Int32))), .val (.int ((x0.toUInt32 >>> ((2 : Int32) &&& 31).toUInt32).toInt32)), .val (.int ((x2 &&& (255 : Int32)).toUInt32.toUInt16.toUInt32.toInt32)), .val (.ref b1), .unset, .val (.int (0 : Int32)), .val (.ref a253), .val (.int (3 : Int32)), .unset] [(.int (0 : Int32)), (.int (5 : Int32)), (.ref b1)])) rfl rfl (hb hby at_272)
  subst e321
  have Sf322 := Safe.wr W321 Sf310 R311.1 Sf310
  have R323 := R311.trans (CHr.wr W321 Sf310 R311.1)
  have hk324 := Nat.le_trans hk312 (Nat.le_of_eq W321.size.symm)
  have O325 := O313.wr W321 Pg271_17
  have F326 := F314.wr W321
  have F327 := F315.other W321 (Or.inl (Ne.symm Pn271_18))
  have F328 := F316.other W321 (Or.inl (Ne.symm Pn271_18))
  have F329 := F317.other W321 (Ne.symm Pn271_19)
  have N321 := Fr.snoc X321 N319 Pg271_17
  have Z321 : n0 ≤ T321.heap.size := Nat.le_trans Z309 (Nat.le_of_eq W321.size.symm)
  have V321 : Arv Z T321.heap b1 k1 .char (9 : Int32) [(.int (111 : Int32)), (.int (110 : Int32)), (.int (101 : Int32)), (.int (0 : Int32)), (.int (0 : Int32)), (.int (0 : Int32)), (.int (0 : Int32)), (.int (0 : Int32)), (.int (0 : Int32))] (.int (0 : Int32)) := Arv.set Ar320 q320 S320 N320 H320 G320 (fits_nar_char _) W321 5 rfl (Nat.le_of_ble_eq_true rfl)
  refine Goes.to st321 ?_
  refine gx (XS.aload X321.here hx rfl (hb hby at_273) rfl rfl) ?_
  refine gx (XS.bipush X321.here hx rfl (hb hby at_275)) ?_
  refine gx (XS.aload X321.here hx rfl (hb hby at_277) rfl rfl) ?_
  refine gx (XS.bipush X321.here hx rfl (hb hby at_279)) ?_
  obtain ⟨_, _, ⟨T331, L331, k331, n331⟩, -, X331, ⟨Lc331, hQ331, l331, y331, z331⟩, st331⟩ := Jvm.LawKit.callS X321 hx (y := own_n7) hown (mvT hZ (own_hw hw 22 rfl)) (mvT hZ (own_hw hw 23 rfl)) (mvT hZ (own_hw hw 24 rfl)) (mvT hZ (own_hw hw 25 rfl)) (by decide) (backOf (W := 2) (own_rm3 l Z a0 hw [] a253 (6 : Int32) b253 k253 (3 : Int32) [(.int (111 : Int32)), (.int (110 : Int32)), (.int (101 : Int32))] (0 : Int32) cs fm T321.heap n0 Z321 F326 F327 F328 F329 (SC.ext O325.2) hcs (SF.ext O325.2) hfm (by decide) (fun q => absurd q (by decide))) hZ (own_hw hw 25 rfl) (own_hw hw 24 rfl) (by decide) (by decide)) (g := (mkF m 281 #[.val (.int x0), .val (.int x1), .val (.int x2), .val (.long x3), .second, .val (.int (x0 &&& (3 : Int32))), .val (.int ((x0.toUInt32 >>> ((2 : Int32) &&& 31).toUInt32).toInt32)), .val (.int ((x2 &&& (255 : Int32)).toUInt32.toUInt16.toUInt32.toInt32)), .val (.ref b1), .unset, .val (.int (0 : Int32)), .val (.ref a253), .val (.int (3 : Int32)), .unset] [(.int (6 : Int32)), (.ref a253), (.int (6 : Int32)), (.ref b1)])) rfl (by rw [hml]; rfl) (argsL := [(.ref a253), (.int (6 : Int32))]) (rest := [(.int (6 : Int32)), (.ref b1)]) (lenOf own_pd_pLjavallanglStringsIqC rfl) rfl (own_W rfl rfl) (hb hby at_281) (fun _ _ => ⟨rfl, rfl, (by decide : 3 + 0 ≤ _), (by decide : 25 + 0 ≤ _)⟩)
  dsimp only [Pt.U, Pt.locs, Pt.cells, Pt.slots] at X331 l331 y331 z331 st331 hQ331
  subst l331 y331 z331
  obtain ⟨hv331, Nq331, hp331_0⟩ := hQ331
  have N331 := Fr.app N321 Nq331
  rw [show own_atc (6 : Int32) (3 : Int32) (0 : Int32) = (0 : Int32) from by decide] at hv331
  subst hv331
  refine Goes.to st331 ?_
  obtain ⟨cl332, Ar332, q332, S332, N332, H332, G332⟩ := id V321
  have hin332 : ¬ ((6 : Int32) < 0 ∨ cl332.slots.size ≤ ((6 : Int32)).toNatClampNeg) := inb_of S332 ⟨by decide, by decide⟩
  obtain ⟨T333, h333, X333, e333, W333, st333⟩ := stC X331 hx hZ hp331_0 Ar332 (j := (6 : Int32)) hin332 (g := (mkF m 284 #[.val (.int x0), .val (.int x1), .val (.int x2), .val (.long x3), .second, .val (.int (x0 &&& (3 : Int32))), .val (.int ((x0.toUInt32 >>> ((2 : Int32) &&& 31).toUInt32).toInt32)), .val (.int ((x2 &&& (255 : Int32)).toUInt32.toUInt16.toUInt32.toInt32)), .val (.ref b1), .unset, .val (.int (0 : Int32)), .val (.ref a253), .val (.int (3 : Int32)), .unset] [(.int (0 : Int32)), (.int (6 : Int32)), (.ref b1)])) rfl rfl (hb hby at_284)
  subst e333
  have Sf334 := Safe.wr W333 Sf322 R323.1 Sf322
  have R335 := R323.trans (CHr.wr W333 Sf322 R323.1)
  have hk336 := Nat.le_trans hk324 (Nat.le_of_eq W333.size.symm)
  have O337 := O325.wr W333 Pg271_17
  have F338 := F326.wr W333
  have F339 := F327.other W333 (Or.inl (Ne.symm Pn271_18))
  have F340 := F328.other W333 (Or.inl (Ne.symm Pn271_18))
  have F341 := F329.other W333 (Ne.symm Pn271_19)
  have N333 := Fr.snoc X333 N331 Pg271_17
  have Z333 : n0 ≤ T333.heap.size := Nat.le_trans Z321 (Nat.le_of_eq W333.size.symm)
  have V333 : Arv Z T333.heap b1 k1 .char (9 : Int32) [(.int (111 : Int32)), (.int (110 : Int32)), (.int (101 : Int32)), (.int (0 : Int32)), (.int (0 : Int32)), (.int (0 : Int32)), (.int (0 : Int32)), (.int (0 : Int32)), (.int (0 : Int32))] (.int (0 : Int32)) := Arv.set Ar332 q332 S332 N332 H332 G332 (fits_nar_char _) W333 6 rfl (Nat.le_of_ble_eq_true rfl)
  refine Goes.to st333 ?_
  refine gx (XS.aload X333.here hx rfl (hb hby at_285) rfl rfl) ?_
  refine gx (XS.bipush X333.here hx rfl (hb hby at_287)) ?_
  refine gx (XS.aload X333.here hx rfl (hb hby at_289) rfl rfl) ?_
  refine gx (XS.bipush X333.here hx rfl (hb hby at_291)) ?_
  obtain ⟨_, _, ⟨T343, L343, k343, n343⟩, -, X343, ⟨Lc343, hQ343, l343, y343, z343⟩, st343⟩ := Jvm.LawKit.callS X333 hx (y := own_n7) hown (mvT hZ (own_hw hw 22 rfl)) (mvT hZ (own_hw hw 23 rfl)) (mvT hZ (own_hw hw 24 rfl)) (mvT hZ (own_hw hw 25 rfl)) (by decide) (backOf (W := 2) (own_rm3 l Z a0 hw [] a253 (7 : Int32) b253 k253 (3 : Int32) [(.int (111 : Int32)), (.int (110 : Int32)), (.int (101 : Int32))] (0 : Int32) cs fm T333.heap n0 Z333 F338 F339 F340 F341 (SC.ext O337.2) hcs (SF.ext O337.2) hfm (by decide) (fun q => absurd q (by decide))) hZ (own_hw hw 25 rfl) (own_hw hw 24 rfl) (by decide) (by decide)) (g := (mkF m 293 #[.val (.int x0), .val (.int x1), .val (.int x2), .val (.long x3), .second, .val (.int (x0 &&& (3 : Int32))), .val (.int ((x0.toUInt32 >>> ((2 : Int32) &&& 31).toUInt32).toInt32)), .val (.int ((x2 &&& (255 : Int32)).toUInt32.toUInt16.toUInt32.toInt32)), .val (.ref b1), .unset, .val (.int (0 : Int32)), .val (.ref a253), .val (.int (3 : Int32)), .unset] [(.int (7 : Int32)), (.ref a253), (.int (7 : Int32)), (.ref b1)])) rfl (by rw [hml]; rfl) (argsL := [(.ref a253), (.int (7 : Int32))]) (rest := [(.int (7 : Int32)), (.ref b1)]) (lenOf own_pd_pLjavallanglStringsIqC rfl) rfl (own_W rfl rfl) (hb hby at_293) (fun _ _ => ⟨rfl, rfl, (by decide : 3 + 0 ≤ _), (by decide : 25 + 0 ≤ _)⟩)
  dsimp only [Pt.U, Pt.locs, Pt.cells, Pt.slots] at X343 l343 y343 z343 st343 hQ343
  subst l343 y343 z343
  obtain ⟨hv343, Nq343, hp343_0⟩ := hQ343
  have N343 := Fr.app N333 Nq343
  rw [show own_atc (7 : Int32) (3 : Int32) (0 : Int32) = (0 : Int32) from by decide] at hv343
  subst hv343
  refine Goes.to st343 ?_
  obtain ⟨cl344, Ar344, q344, S344, N344, H344, G344⟩ := id V333
  have hin344 : ¬ ((7 : Int32) < 0 ∨ cl344.slots.size ≤ ((7 : Int32)).toNatClampNeg) := inb_of S344 ⟨by decide, by decide⟩
  obtain ⟨T345, h345, X345, e345, W345, st345⟩ := stC X343 hx hZ hp343_0 Ar344 (j := (7 : Int32)) hin344 (g := (mkF m 296 #[.val (.int x0), .val (.int x1), .val (.int x2), .val (.long x3), .second, .val (.int (x0 &&& (3 : Int32))), .val (.int ((x0.toUInt32 >>> ((2 : Int32) &&& 31).toUInt32).toInt32)), .val (.int ((x2 &&& (255 : Int32)).toUInt32.toUInt16.toUInt32.toInt32)), .val (.ref b1), .unset, .val (.int (0 : Int32)), .val (.ref a253), .val (.int (3 : Int32)), .unset] [(.int (0 : Int32)), (.int (7 : Int32)), (.ref b1)])) rfl rfl (hb hby at_296)
  subst e345
  have Sf346 := Safe.wr W345 Sf334 R335.1 Sf334
  have R347 := R335.trans (CHr.wr W345 Sf334 R335.1)
  have hk348 := Nat.le_trans hk336 (Nat.le_of_eq W345.size.symm)
  have O349 := O337.wr W345 Pg271_17
  have F350 := F338.wr W345
  have F351 := F339.other W345 (Or.inl (Ne.symm Pn271_18))
  have F352 := F340.other W345 (Or.inl (Ne.symm Pn271_18))
  have F353 := F341.other W345 (Ne.symm Pn271_19)
  have N345 := Fr.snoc X345 N343 Pg271_17
  have Z345 : n0 ≤ T345.heap.size := Nat.le_trans Z333 (Nat.le_of_eq W345.size.symm)
  have V345 : Arv Z T345.heap b1 k1 .char (9 : Int32) [(.int (111 : Int32)), (.int (110 : Int32)), (.int (101 : Int32)), (.int (0 : Int32)), (.int (0 : Int32)), (.int (0 : Int32)), (.int (0 : Int32)), (.int (0 : Int32)), (.int (0 : Int32))] (.int (0 : Int32)) := Arv.set Ar344 q344 S344 N344 H344 G344 (fits_nar_char _) W345 7 rfl (Nat.le_of_ble_eq_true rfl)
  refine Goes.to st345 ?_
  refine gx (XS.aload X345.here hx rfl (hb hby at_297) rfl rfl) ?_
  refine gx (XS.bipush X345.here hx rfl (hb hby at_299)) ?_
  refine gx (XS.aload X345.here hx rfl (hb hby at_301) rfl rfl) ?_
  exact own_pt_own_rm0_355 l Z a0 hw ws x0 x1 x2 x3 aV kV a1 a2 a3 aE w1 w2 w3 v1 v2 v3 q1 q2 q3 cs fm h0 n0 Z0 hPm Bd hml0 hh  b1 a253 b253 k253 k1 T345 _ vmpt hZ hown T345.heap X345 rfl N345 Z345  _ hSpt hk348 R347 Sf346 F350 F351 F352 F353 V345 Pg271_17 O349 Ph271_21 Ph271_22
set_option maxRecDepth 65536 in
set_option maxHeartbeats 40000000 in
theorem own_pt_own_rm0_632 (l : Launch) (Z : State) (a0 : Array Value) (hw : ∀ d ∈ tables_1, d.before a0 Z = true) (ws : List Jvm.Cond) (x0 : Int32) (x1 : Int32) (x2 : Int32) (x3 : Int64) (aV : Addr) (kV : ClassId) (a1 : Addr) (a2 : Addr) (a3 : Addr) (aE : Addr) (w1 : Addr) (w2 : Addr) (w3 : Addr) (v1 : Addr) (v2 : Addr) (v3 : Addr) (q1 : ClassId) (q2 : ClassId) (q3 : ClassId) (cs : Int32) (fm : Value) (h0 : Heap) (n0 : Nat) (Z0 : n0 ≤ h0.size) (hPm : own_P_own_rm0 Z a0 x0 x1 x2 x3 aV kV a1 a2 a3 aE w1 w2 w3 v1 v2 v3 q1 q2 q3 cs fm h0 n0)
    {p : Program} {e : Env} {s : State} {m : MethodId} {below : List Frame} {meth : Method} {c : Code} {s₁ : State} (Bd : BodyLoose p l x (head1 (Jvm.Cond.code x code maxLocals ret :: ws) room_1) code maxLocals ret e s m #[(.int x0), (.int x1), (.int x2), (.long x3)] below meth c s₁) (hml0 : c.maxLocals = maxLocals) (hh : s.heap = h0) 
    (b1 : Addr) (a530 : Addr) (b530 : Addr) (k530 : ClassId) (k1 : ClassId)
    (Tpt : State) (lpt : List Loc) (vmpt : Vm) (hZ : Z.Warmed39 vmpt) (hown : vmpt.findClass "com/example/polgen/polgen/model/MultiplicityNamedPinLaw" = some m.cls) (hpt : Heap)
    (Xpt : Stand p l e room_1 (s.setVm vmpt) m #[(.int x0), (.int x1), (.int x2), (.long x3)] below meth c Tpt lpt 3 45) (Ept : Tpt.heap = hpt) (Npt : Fr n0 lpt) (Zpt : n0 ≤ hpt.size) (kpt : Nat) (hSpt : s.Since vmpt kpt) (hkpt : kpt ≤ hpt.size) (Rpt : CHr Z own_EL s.vm h0 vmpt hpt)
    (Pf632_0 : Safe Z own_EL vmpt hpt b1)
    (Pf632_1 : Exa Z hpt a530 "java/lang/String")
    (Pf632_2 : Fld Z hpt a530 "java/lang/String" "coder" "B" (.int (0 : Int32)))
    (Pf632_3 : Fld Z hpt a530 "java/lang/String" "value" "[B" (.ref b530))
    (Pf632_4 : Arv Z hpt b530 k530 .byte (8 : Int32) [(.int (111 : Int32)), (.int (112 : Int32)), (.int (116 : Int32)), (.int (105 : Int32)), (.int (111 : Int32)), (.int (110 : Int32)), (.int (97 : Int32)), (.int (108 : Int32))] (.int (0 : Int32)))
    (Pf632_5 : Arv Z hpt b1 k1 .char (9 : Int32) [(.int (111 : Int32)), (.int (112 : Int32)), (.int (116 : Int32)), (.int (105 : Int32)), (.int (111 : Int32)), (.int (110 : Int32)), (.int (97 : Int32)), (.int (108 : Int32)), (.int (0 : Int32))] (.int (0 : Int32)))
    (Pg632_17 : n0 ≤ b1)
    (Old632 : Old Z n0 hpt)
    (Ph632_21 : ¬ ((x0 &&& (3 : Int32)) = (3 : Int32)))
    (Ph632_22 : ¬ ((x0 &&& (3 : Int32)) = (0 : Int32)))
    (Ph632_23 : (x0 &&& (3 : Int32)) = (1 : Int32))
    : Goes p.tables e below (Tpt.setTop (mkF m 297 #[.val (.int x0), .val (.int x1), .val (.int x2), .val (.long x3), .second, .val (.int (x0 &&& (3 : Int32))), .val (.int ((x0.toUInt32 >>> ((2 : Int32) &&& 31).toUInt32).toInt32)), .val (.int ((x2 &&& (255 : Int32)).toUInt32.toUInt16.toUInt32.toInt32)), .val (.ref b1), .unset, .val (.int (0 : Int32)), .val (.ref a530), .val (.int (8 : Int32)), .unset] [])) (own_RW below s (own_Q_own_rm0 Z x0 x1 x2 x3 aV kV a1 a2 a3 aE w1 w2 w3 v1 v2 v3 q1 q2 q3 cs fm h0 n0) 17 147) := by
  obtain ⟨O0, hCH0, S1, S2, S3, E1, E2, E3, SV, VV, EV, SE, EE, FE, Fw1, Ew1, Cw1, Vw1, Aw1, Fw2, Ew2, Cw2, Vw2, Aw2, Fw3, Ew3, Cw3, Vw3, Aw3, SC, hcs, SF, hfm⟩ := id hPm
  have hx := Bd.exec
  have hby := Bd.bytes
  have hml : c.maxLocals = 14 := hml0
  have hnm := (name_of_methodNamed Bd.named Bd.method).1
  have own_wS' : ∀ a ∈ Bundle.stringAtoms, a.before a0 Z = true := own_wS hw
  have hEL := own_EW hw
  refine gx (XS.aload Xpt.here hx rfl (hb hby at_297) rfl rfl) ?_
  refine gx (XS.bipush Xpt.here hx rfl (hb hby at_299)) ?_
  refine gx (XS.aload Xpt.here hx rfl (hb hby at_301) rfl rfl) ?_
  refine gx (XS.bipush Xpt.here hx rfl (hb hby at_303)) ?_
  obtain ⟨_, _, ⟨T633, L633, k633, n633⟩, -, X633, ⟨Lc633, hQ633, l633, y633, z633⟩, st633⟩ := Jvm.LawKit.callS Xpt hx (y := own_n7) hown (mvT hZ (own_hw hw 22 rfl)) (mvT hZ (own_hw hw 23 rfl)) (mvT hZ (own_hw hw 24 rfl)) (mvT hZ (own_hw hw 25 rfl)) (by decide) (backOf (W := 2) (own_rm3 l Z a0 hw [] a530 (8 : Int32) b530 k530 (8 : Int32) [(.int (111 : Int32)), (.int (112 : Int32)), (.int (116 : Int32)), (.int (105 : Int32)), (.int (111 : Int32)), (.int (110 : Int32)), (.int (97 : Int32)), (.int (108 : Int32))] (0 : Int32) cs fm hpt n0 Zpt Pf632_1 Pf632_2 Pf632_3 Pf632_4 (SC.ext Old632.2) hcs (SF.ext Old632.2) hfm (by decide) (fun q => absurd q (by decide))) hZ (own_hw hw 25 rfl) (own_hw hw 24 rfl) (by decide) (by decide)) (g := (mkF m 305 #[.val (.int x0), .val (.int x1), .val (.int x2), .val (.long x3), .second, .val (.int (x0 &&& (3 : Int32))), .val (.int ((x0.toUInt32 >>> ((2 : Int32) &&& 31).toUInt32).toInt32)), .val (.int ((x2 &&& (255 : Int32)).toUInt32.toUInt16.toUInt32.toInt32)), .val (.ref b1), .unset, .val (.int (0 : Int32)), .val (.ref a530), .val (.int (8 : Int32)), .unset] [(.int (8 : Int32)), (.ref a530), (.int (8 : Int32)), (.ref b1)])) rfl (by rw [hml]; rfl) (argsL := [(.ref a530), (.int (8 : Int32))]) (rest := [(.int (8 : Int32)), (.ref b1)]) (lenOf own_pd_pLjavallanglStringsIqC rfl) rfl (own_W rfl rfl) (hb hby at_305) (fun _ _ => ⟨rfl, Ept, (by decide : 3 + 0 ≤ _), (by decide : 45 + 0 ≤ _)⟩)
  dsimp only [Pt.U, Pt.locs, Pt.cells, Pt.slots] at X633 l633 y633 z633 st633 hQ633
  subst l633 y633 z633
  obtain ⟨hv633, Nq633, hp633_0⟩ := hQ633
  have N633 := Fr.app Npt Nq633
  rw [show own_atc (8 : Int32) (8 : Int32) (0 : Int32) = (0 : Int32) from by decide] at hv633
  subst hv633
  refine Goes.to st633 ?_
  obtain ⟨cl634, Ar634, q634, S634, N634, H634, G634⟩ := id Pf632_5
  have hin634 : ¬ ((8 : Int32) < 0 ∨ cl634.slots.size ≤ ((8 : Int32)).toNatClampNeg) := inb_of S634 ⟨by decide, by decide⟩
  obtain ⟨T635, h635, X635, e635, W635, st635⟩ := stC X633 hx hZ hp633_0 Ar634 (j := (8 : Int32)) hin634 (g := (mkF m 308 #[.val (.int x0), .val (.int x1), .val (.int x2), .val (.long x3), .second, .val (.int (x0 &&& (3 : Int32))), .val (.int ((x0.toUInt32 >>> ((2 : Int32) &&& 31).toUInt32).toInt32)), .val (.int ((x2 &&& (255 : Int32)).toUInt32.toUInt16.toUInt32.toInt32)), .val (.ref b1), .unset, .val (.int (0 : Int32)), .val (.ref a530), .val (.int (8 : Int32)), .unset] [(.int (0 : Int32)), (.int (8 : Int32)), (.ref b1)])) rfl rfl (hb hby at_308)
  subst e635
  have Sf636 := Safe.wr W635 Pf632_0 Rpt.1 Pf632_0
  have R637 := Rpt.trans (CHr.wr W635 Pf632_0 Rpt.1)
  have hk638 := Nat.le_trans hkpt (Nat.le_of_eq W635.size.symm)
  have O639 := Old632.wr W635 Pg632_17
  have N635 := Fr.snoc X635 N633 Pg632_17
  have Z635 : n0 ≤ T635.heap.size := Nat.le_trans Zpt (Nat.le_of_eq W635.size.symm)
  have V635 : Arv Z T635.heap b1 k1 .char (9 : Int32) [(.int (111 : Int32)), (.int (112 : Int32)), (.int (116 : Int32)), (.int (105 : Int32)), (.int (111 : Int32)), (.int (110 : Int32)), (.int (97 : Int32)), (.int (108 : Int32)), (.int (0 : Int32))] (.int (0 : Int32)) := Arv.set Ar634 q634 S634 N634 H634 G634 (fits_nar_char _) W635 8 rfl (Nat.le_of_ble_eq_true rfl)
  refine Goes.to st635 ?_
  refine gx (XS.iload X635.here hx rfl (hb hby at_309) rfl) ?_
  refine gx (XS.iconst X635.here hx rfl (hb hby at_311)) ?_
  refine gx (XS.iand X635.here hx rfl (hb hby at_312) rfl) ?_
  refine gx (XS.istore X635.here hx rfl (hb hby at_313) rfl (l' := #[.val (.int x0), .val (.int x1), .val (.int x2), .val (.long x3), .second, .val (.int (x0 &&& (3 : Int32))), .val (.int ((x0.toUInt32 >>> ((2 : Int32) &&& 31).toUInt32).toInt32)), .val (.int ((x2 &&& (255 : Int32)).toUInt32.toUInt16.toUInt32.toInt32)), .val (.ref b1), .unset, .val (.int (0 : Int32)), .val (.ref a530), .val (.int (8 : Int32)), .val (.int (((x0.toUInt32 >>> ((2 : Int32) &&& 31).toUInt32).toInt32) &&& (3 : Int32)))]) rfl) ?_
  show Goes p.tables e below (T635.setTop (mkF m 315 #[.val (.int x0), .val (.int x1), .val (.int x2), .val (.long x3), .second, .val (.int (x0 &&& (3 : Int32))), .val (.int ((x0.toUInt32 >>> ((2 : Int32) &&& 31).toUInt32).toInt32)), .val (.int ((x2 &&& (255 : Int32)).toUInt32.toUInt16.toUInt32.toInt32)), .val (.ref b1), .unset, .val (.int (0 : Int32)), .val (.ref a530), .val (.int (8 : Int32)), .val (.int (((x0.toUInt32 >>> ((2 : Int32) &&& 31).toUInt32).toInt32) &&& (3 : Int32)))] [])) _
  refine gx (XS.iload X635.here hx rfl (hb hby at_315) rfl) ?_
  by_cases hc645 : (((x0.toUInt32 >>> ((2 : Int32) &&& 31).toUInt32).toInt32) &&& (3 : Int32)) = (0 : Int32)
  · refine gx (XS.ifNo X635.here hx rfl (hb hby at_317) rfl ((if0 _ _).trans (teq hc645).2)) ?_
    refine gx (XS.iload X635.here hx rfl (hb hby at_320) rfl) ?_
    refine gx (XS.istore X635.here hx rfl (hb hby at_322) rfl (l' := #[.val (.int x0), .val (.int x1), .val (.int x2), .val (.long x3), .second, .val (.int (x0 &&& (3 : Int32))), .val (.int ((x0.toUInt32 >>> ((2 : Int32) &&& 31).toUInt32).toInt32)), .val (.int ((x2 &&& (255 : Int32)).toUInt32.toUInt16.toUInt32.toInt32)), .val (.ref b1), .val (.int (8 : Int32)), .val (.int (0 : Int32)), .val (.ref a530), .val (.int (8 : Int32)), .val (.int (((x0.toUInt32 >>> ((2 : Int32) &&& 31).toUInt32).toInt32) &&& (3 : Int32)))]) rfl) ?_
    refine gx (XS.goto X635.here hx rfl (pc0 := 324) (pc' := 380) rfl (hb hby at_324) (by decide) (by decide)) ?_
    show Goes p.tables e below (T635.setTop (mkF m 380 #[.val (.int x0), .val (.int x1), .val (.int x2), .val (.long x3), .second, .val (.int (x0 &&& (3 : Int32))), .val (.int ((x0.toUInt32 >>> ((2 : Int32) &&& 31).toUInt32).toInt32)), .val (.int ((x2 &&& (255 : Int32)).toUInt32.toUInt16.toUInt32.toInt32)), .val (.ref b1), .val (.int (8 : Int32)), .val (.int (0 : Int32)), .val (.ref a530), .val (.int (8 : Int32)), .val (.int (((x0.toUInt32 >>> ((2 : Int32) &&& 31).toUInt32).toInt32) &&& (3 : Int32)))] [])) _
    refine gx (XS.iload X635.here hx rfl (hb hby at_380) rfl) ?_
    refine gx (XS.ifYes X635.here hx rfl (pc0 := 382) (pc' := 389) rfl (hb hby at_382) rfl ((if0 _ _).trans (teq (by decide : (0 : Int32) = (0 : Int32))).1) (by decide) (by decide)) ?_
    exact own_pt_own_rm0_369 l Z a0 hw ws x0 x1 x2 x3 aV kV a1 a2 a3 aE w1 w2 w3 v1 v2 v3 q1 q2 q3 cs fm h0 n0 Z0 hPm Bd hml0 hh  b1 k1 a530 ([(111 : Int32), (112 : Int32), (116 : Int32), (105 : Int32), (111 : Int32), (110 : Int32), (97 : Int32), (108 : Int32), (0 : Int32)] : List Int32) (8 : Int32) (.val (.int (x0 &&& (3 : Int32)))) (.val (.int ((x0.toUInt32 >>> ((2 : Int32) &&& 31).toUInt32).toInt32))) (.val (.int ((x2 &&& (255 : Int32)).toUInt32.toUInt16.toUInt32.toInt32))) (8 : Int32) (((x0.toUInt32 >>> ((2 : Int32) &&& 31).toUInt32).toInt32) &&& (3 : Int32)) T635 _ vmpt hZ hown T635.heap (own_wk X635 (by decide) (by decide)) rfl N635 Z635  _ hSpt hk638 R637 V635 O639 (own_aS (by unfold P8; decide) (own_aS (by unfold P8; decide) (own_aS (by unfold P8; decide) (own_aS (by unfold P8; decide) (own_aS (by unfold P8; decide) (own_aS (by unfold P8; decide) (own_aS (by unfold P8; decide) (own_aS (by unfold P8; decide) (own_aS (by unfold P8; decide) own_a0)))))))))
  · refine gx (XS.ifYes X635.here hx rfl (pc0 := 317) (pc' := 327) rfl (hb hby at_317) rfl ((if0 _ _).trans (feq hc645).2) (by decide) (by decide)) ?_
    refine gx (XS.iload X635.here hx rfl (hb hby at_327) rfl) ?_
    refine gx (XS.iconst X635.here hx rfl (hb hby at_329)) ?_
    by_cases hc647 : (((x0.toUInt32 >>> ((2 : Int32) &&& 31).toUInt32).toInt32) &&& (3 : Int32)) = (1 : Int32)
    · refine gx (XS.icmpNo X635.here hx rfl (hb hby at_330) rfl (teq hc647).2) ?_
      show Goes p.tables e below (T635.setTop (mkF m 333 #[.val (.int x0), .val (.int x1), .val (.int x2), .val (.long x3), .second, .val (.int (x0 &&& (3 : Int32))), .val (.int ((x0.toUInt32 >>> ((2 : Int32) &&& 31).toUInt32).toInt32)), .val (.int ((x2 &&& (255 : Int32)).toUInt32.toUInt16.toUInt32.toInt32)), .val (.ref b1), .unset, .val (.int (0 : Int32)), .val (.ref a530), .val (.int (8 : Int32)), .val (.int (((x0.toUInt32 >>> ((2 : Int32) &&& 31).toUInt32).toInt32) &&& (3 : Int32)))] [])) _
      refine gx (XS.aload X635.here hx rfl (hb hby at_333) rfl rfl) ?_
      refine gx (XS.iloadN X635.here hx rfl (hb hby at_335) rfl) ?_
      refine gx (X635.ldcInt hx hown (mvT hZ (own_hw hw 131 rfl)) (g := (mkF m 336 #[.val (.int x0), .val (.int x1), .val (.int x2), .val (.long x3), .second, .val (.int (x0 &&& (3 : Int32))), .val (.int ((x0.toUInt32 >>> ((2 : Int32) &&& 31).toUInt32).toInt32)), .val (.int ((x2 &&& (255 : Int32)).toUInt32.toUInt16.toUInt32.toInt32)), .val (.ref b1), .unset, .val (.int (0 : Int32)), .val (.ref a530), .val (.int (8 : Int32)), .val (.int (((x0.toUInt32 >>> ((2 : Int32) &&& 31).toUInt32).toInt32) &&& (3 : Int32)))] [(.int x1), (.ref b1)])) rfl (hb hby at_336) _) ?_
      refine gx (XS.iand X635.here hx rfl (hb hby at_338) rfl) ?_
      refine gx (XS.iload X635.here hx rfl (hb hby at_339) rfl) ?_
      refine gx (Jvm.RoadKit.iremM X635 hx rfl (hb hby at_341) rfl (by decide)) ?_
      refine gx (XS.iload X635.here hx rfl (hb hby at_342) rfl) ?_
      show Goes p.tables e below (T635.setTop (mkF m 344 #[.val (.int x0), .val (.int x1), .val (.int x2), .val (.long x3), .second, .val (.int (x0 &&& (3 : Int32))), .val (.int ((x0.toUInt32 >>> ((2 : Int32) &&& 31).toUInt32).toInt32)), .val (.int ((x2 &&& (255 : Int32)).toUInt32.toUInt16.toUInt32.toInt32)), .val (.ref b1), .unset, .val (.int (0 : Int32)), .val (.ref a530), .val (.int (8 : Int32)), .val (.int (((x0.toUInt32 >>> ((2 : Int32) &&& 31).toUInt32).toInt32) &&& (3 : Int32)))] [(.int ((x2 &&& (255 : Int32)).toUInt32.toUInt16.toUInt32.toInt32)), (.int ((x1 &&& (2147483647 : Int32)) % (8 : Int32))), (.ref b1)])) _
      obtain ⟨cl648, Ar648, q648, S648, N648, H648, G648⟩ := id V635
      have hin648 : ¬ (((x1 &&& (2147483647 : Int32)) % (8 : Int32)) < 0 ∨ cl648.slots.size ≤ (((x1 &&& (2147483647 : Int32)) % (8 : Int32))).toNatClampNeg) := by
        have k1 := rng32 x1
        have k2 : (x1 &&& (2147483647 : Int32)).toInt = x1.toInt % 2147483648 := c_mask x1 (2147483647 : Int32) 31 (by decide) (by decide)
        have k3 := c_irem (x1 &&& (2147483647 : Int32)) (8 : Int32) 8 rfl
        have k4 := rng32 ((x1 &&& (2147483647 : Int32)) % (8 : Int32))
        have k5 : (9 : Int32).toInt = 9 := rfl
        have k6 : (0 : Int32).toInt = 0 := rfl
        refine inb_of S648 ⟨fun hq => ?_, Int32.lt_iff_toInt_lt.mpr ?_⟩
        · have hq' := Int32.lt_iff_toInt_lt.mp hq
          omega
        · omega
      have hlt648 : (((x1 &&& (2147483647 : Int32)) % (8 : Int32))).toNatClampNeg < 9 := Nat.lt_of_lt_of_eq (Nat.lt_of_not_le fun y => hin648 (Or.inr y)) (by rw [S648]; rfl)
      obtain ⟨T649, h649, X649, e649, W649, st649⟩ := stC X635 hx hZ rfl Ar648 (j := ((x1 &&& (2147483647 : Int32)) % (8 : Int32))) hin648 (g := (mkF m 344 #[.val (.int x0), .val (.int x1), .val (.int x2), .val (.long x3), .second, .val (.int (x0 &&& (3 : Int32))), .val (.int ((x0.toUInt32 >>> ((2 : Int32) &&& 31).toUInt32).toInt32)), .val (.int ((x2 &&& (255 : Int32)).toUInt32.toUInt16.toUInt32.toInt32)), .val (.ref b1), .unset, .val (.int (0 : Int32)), .val (.ref a530), .val (.int (8 : Int32)), .val (.int (((x0.toUInt32 >>> ((2 : Int32) &&& 31).toUInt32).toInt32) &&& (3 : Int32)))] [(.int ((x2 &&& (255 : Int32)).toUInt32.toUInt16.toUInt32.toInt32)), (.int ((x1 &&& (2147483647 : Int32)) % (8 : Int32))), (.ref b1)])) rfl rfl (hb hby at_344)
      subst e649
      have R651 := R637.trans (CHr.wr W649 Sf636 R637.1)
      have hk652 := Nat.le_trans hk638 (Nat.le_of_eq W649.size.symm)
      have O653 := O639.wr W649 Pg632_17
      have N649 := Fr.snoc X649 N635 Pg632_17
      have Z649 : n0 ≤ T649.heap.size := Nat.le_trans Z635 (Nat.le_of_eq W649.size.symm)
      have V649 : Arv Z T649.heap b1 k1 .char (9 : Int32) ((([(111 : Int32), (112 : Int32), (116 : Int32), (105 : Int32), (111 : Int32), (110 : Int32), (97 : Int32), (108 : Int32), (0 : Int32)] : List Int32).set (((x1 &&& (2147483647 : Int32)) % (8 : Int32))).toNatClampNeg (nar .char ((x2 &&& (255 : Int32)).toUInt32.toUInt16.toUInt32.toInt32))).map Value.int) (.int (0 : Int32)) := by
        rw [List.map_set]
        exact Arv.set Ar648 q648 S648 N648 H648 G648 (fits_nar_char _) W649 _ rfl hlt648
      refine Goes.to st649 ?_
      refine gx (XS.iload X649.here hx rfl (hb hby at_345) rfl) ?_
      refine gx (XS.istore X649.here hx rfl (hb hby at_347) rfl (l' := #[.val (.int x0), .val (.int x1), .val (.int x2), .val (.long x3), .second, .val (.int (x0 &&& (3 : Int32))), .val (.int ((x0.toUInt32 >>> ((2 : Int32) &&& 31).toUInt32).toInt32)), .val (.int ((x2 &&& (255 : Int32)).toUInt32.toUInt16.toUInt32.toInt32)), .val (.ref b1), .val (.int (8 : Int32)), .val (.int (0 : Int32)), .val (.ref a530), .val (.int (8 : Int32)), .val (.int (((x0.toUInt32 >>> ((2 : Int32) &&& 31).toUInt32).toInt32) &&& (3 : Int32)))]) rfl) ?_
      refine gx (XS.goto X649.here hx rfl (pc0 := 349) (pc' := 380) rfl (hb hby at_349) (by decide) (by decide)) ?_
      refine gx (XS.iload X649.here hx rfl (hb hby at_380) rfl) ?_
      show Goes p.tables e below (T649.setTop (mkF m 382 #[.val (.int x0), .val (.int x1), .val (.int x2), .val (.long x3), .second, .val (.int (x0 &&& (3 : Int32))), .val (.int ((x0.toUInt32 >>> ((2 : Int32) &&& 31).toUInt32).toInt32)), .val (.int ((x2 &&& (255 : Int32)).toUInt32.toUInt16.toUInt32.toInt32)), .val (.ref b1), .val (.int (8 : Int32)), .val (.int (0 : Int32)), .val (.ref a530), .val (.int (8 : Int32)), .val (.int (((x0.toUInt32 >>> ((2 : Int32) &&& 31).toUInt32).toInt32) &&& (3 : Int32)))] [(.int (0 : Int32))])) _
      refine gx (XS.ifYes X649.here hx rfl (pc0 := 382) (pc' := 389) rfl (hb hby at_382) rfl ((if0 _ _).trans (teq (by decide : (0 : Int32) = (0 : Int32))).1) (by decide) (by decide)) ?_
      exact own_pt_own_rm0_369 l Z a0 hw ws x0 x1 x2 x3 aV kV a1 a2 a3 aE w1 w2 w3 v1 v2 v3 q1 q2 q3 cs fm h0 n0 Z0 hPm Bd hml0 hh  b1 k1 a530 (([(111 : Int32), (112 : Int32), (116 : Int32), (105 : Int32), (111 : Int32), (110 : Int32), (97 : Int32), (108 : Int32), (0 : Int32)] : List Int32).set (((x1 &&& (2147483647 : Int32)) % (8 : Int32))).toNatClampNeg (nar .char ((x2 &&& (255 : Int32)).toUInt32.toUInt16.toUInt32.toInt32))) (8 : Int32) (.val (.int (x0 &&& (3 : Int32)))) (.val (.int ((x0.toUInt32 >>> ((2 : Int32) &&& 31).toUInt32).toInt32))) (.val (.int ((x2 &&& (255 : Int32)).toUInt32.toUInt16.toUInt32.toInt32))) (8 : Int32) (((x0.toUInt32 >>> ((2 : Int32) &&& 31).toUInt32).toInt32) &&& (3 : Int32)) T649 _ vmpt hZ hown T649.heap (own_wk X649 (by decide) (by decide)) rfl N649 Z649  _ hSpt hk652 R651 V649 O653 (own_set8 (own_aS (by unfold P8; decide) (own_aS (by unfold P8; decide) (own_aS (by unfold P8; decide) (own_aS (by unfold P8; decide) (own_aS (by unfold P8; decide) (own_aS (by unfold P8; decide) (own_aS (by unfold P8; decide) (own_aS (by unfold P8; decide) (own_aS (by unfold P8; decide) own_a0))))))))) (own_p8nar (own_p8i2c (own_p8and _))))
    · refine gx (XS.icmpYes X635.here hx rfl (pc0 := 330) (pc' := 352) rfl (hb hby at_330) rfl (feq hc647).2 (by decide) (by decide)) ?_
      show Goes p.tables e below (T635.setTop (mkF m 352 #[.val (.int x0), .val (.int x1), .val (.int x2), .val (.long x3), .second, .val (.int (x0 &&& (3 : Int32))), .val (.int ((x0.toUInt32 >>> ((2 : Int32) &&& 31).toUInt32).toInt32)), .val (.int ((x2 &&& (255 : Int32)).toUInt32.toUInt16.toUInt32.toInt32)), .val (.ref b1), .unset, .val (.int (0 : Int32)), .val (.ref a530), .val (.int (8 : Int32)), .val (.int (((x0.toUInt32 >>> ((2 : Int32) &&& 31).toUInt32).toInt32) &&& (3 : Int32)))] [])) _
      refine gx (XS.iload X635.here hx rfl (hb hby at_352) rfl) ?_
      refine gx (XS.iconst X635.here hx rfl (hb hby at_354)) ?_
      by_cases hc660 : (((x0.toUInt32 >>> ((2 : Int32) &&& 31).toUInt32).toInt32) &&& (3 : Int32)) = (2 : Int32)
      · refine gx (XS.icmpNo X635.here hx rfl (hb hby at_355) rfl (teq hc660).2) ?_
        refine gx (XS.aload X635.here hx rfl (hb hby at_358) rfl rfl) ?_
        refine gx (XS.iload X635.here hx rfl (hb hby at_360) rfl) ?_
        show Goes p.tables e below (T635.setTop (mkF m 362 #[.val (.int x0), .val (.int x1), .val (.int x2), .val (.long x3), .second, .val (.int (x0 &&& (3 : Int32))), .val (.int ((x0.toUInt32 >>> ((2 : Int32) &&& 31).toUInt32).toInt32)), .val (.int ((x2 &&& (255 : Int32)).toUInt32.toUInt16.toUInt32.toInt32)), .val (.ref b1), .unset, .val (.int (0 : Int32)), .val (.ref a530), .val (.int (8 : Int32)), .val (.int (((x0.toUInt32 >>> ((2 : Int32) &&& 31).toUInt32).toInt32) &&& (3 : Int32)))] [(.int (8 : Int32)), (.ref b1)])) _
        refine gx (XS.iload X635.here hx rfl (hb hby at_362) rfl) ?_
        obtain ⟨cl661, Ar661, q661, S661, N661, H661, G661⟩ := id V635
        have hin661 : ¬ ((8 : Int32) < 0 ∨ cl661.slots.size ≤ ((8 : Int32)).toNatClampNeg) := inb_of S661 ⟨by decide, by decide⟩
        obtain ⟨T662, h662, X662, e662, W662, st662⟩ := stC X635 hx hZ rfl Ar661 (j := (8 : Int32)) hin661 (g := (mkF m 364 #[.val (.int x0), .val (.int x1), .val (.int x2), .val (.long x3), .second, .val (.int (x0 &&& (3 : Int32))), .val (.int ((x0.toUInt32 >>> ((2 : Int32) &&& 31).toUInt32).toInt32)), .val (.int ((x2 &&& (255 : Int32)).toUInt32.toUInt16.toUInt32.toInt32)), .val (.ref b1), .unset, .val (.int (0 : Int32)), .val (.ref a530), .val (.int (8 : Int32)), .val (.int (((x0.toUInt32 >>> ((2 : Int32) &&& 31).toUInt32).toInt32) &&& (3 : Int32)))] [(.int ((x2 &&& (255 : Int32)).toUInt32.toUInt16.toUInt32.toInt32)), (.int (8 : Int32)), (.ref b1)])) rfl rfl (hb hby at_364)
        subst e662
        have R664 := R637.trans (CHr.wr W662 Sf636 R637.1)
        have hk665 := Nat.le_trans hk638 (Nat.le_of_eq W662.size.symm)
        have O666 := O639.wr W662 Pg632_17
        have N662 := Fr.snoc X662 N635 Pg632_17
        have Z662 : n0 ≤ T662.heap.size := Nat.le_trans Z635 (Nat.le_of_eq W662.size.symm)
        have V662 : Arv Z T662.heap b1 k1 .char (9 : Int32) [(.int (111 : Int32)), (.int (112 : Int32)), (.int (116 : Int32)), (.int (105 : Int32)), (.int (111 : Int32)), (.int (110 : Int32)), (.int (97 : Int32)), (.int (108 : Int32)), (.int (nar .char ((x2 &&& (255 : Int32)).toUInt32.toUInt16.toUInt32.toInt32)))] (.int (0 : Int32)) := Arv.set Ar661 q661 S661 N661 H661 G661 (fits_nar_char _) W662 8 rfl (Nat.le_of_ble_eq_true rfl)
        refine Goes.to st662 ?_
        refine gx (XS.iload X662.here hx rfl (hb hby at_365) rfl) ?_
        refine gx (XS.iconst X662.here hx rfl (hb hby at_367)) ?_
        refine gx (XS.iadd X662.here hx rfl (hb hby at_368) rfl) ?_
        refine gx (XS.istore X662.here hx rfl (hb hby at_369) rfl (l' := #[.val (.int x0), .val (.int x1), .val (.int x2), .val (.long x3), .second, .val (.int (x0 &&& (3 : Int32))), .val (.int ((x0.toUInt32 >>> ((2 : Int32) &&& 31).toUInt32).toInt32)), .val (.int ((x2 &&& (255 : Int32)).toUInt32.toUInt16.toUInt32.toInt32)), .val (.ref b1), .val (.int (9 : Int32)), .val (.int (0 : Int32)), .val (.ref a530), .val (.int (8 : Int32)), .val (.int (((x0.toUInt32 >>> ((2 : Int32) &&& 31).toUInt32).toInt32) &&& (3 : Int32)))]) rfl) ?_
        show Goes p.tables e below (T662.setTop (mkF m 371 #[.val (.int x0), .val (.int x1), .val (.int x2), .val (.long x3), .second, .val (.int (x0 &&& (3 : Int32))), .val (.int ((x0.toUInt32 >>> ((2 : Int32) &&& 31).toUInt32).toInt32)), .val (.int ((x2 &&& (255 : Int32)).toUInt32.toUInt16.toUInt32.toInt32)), .val (.ref b1), .val (.int (9 : Int32)), .val (.int (0 : Int32)), .val (.ref a530), .val (.int (8 : Int32)), .val (.int (((x0.toUInt32 >>> ((2 : Int32) &&& 31).toUInt32).toInt32) &&& (3 : Int32)))] [])) _
        refine gx (XS.goto X662.here hx rfl (pc0 := 371) (pc' := 380) rfl (hb hby at_371) (by decide) (by decide)) ?_
        refine gx (XS.iload X662.here hx rfl (hb hby at_380) rfl) ?_
        refine gx (XS.ifYes X662.here hx rfl (pc0 := 382) (pc' := 389) rfl (hb hby at_382) rfl ((if0 _ _).trans (teq (by decide : (0 : Int32) = (0 : Int32))).1) (by decide) (by decide)) ?_
        exact own_pt_own_rm0_369 l Z a0 hw ws x0 x1 x2 x3 aV kV a1 a2 a3 aE w1 w2 w3 v1 v2 v3 q1 q2 q3 cs fm h0 n0 Z0 hPm Bd hml0 hh  b1 k1 a530 ([(111 : Int32), (112 : Int32), (116 : Int32), (105 : Int32), (111 : Int32), (110 : Int32), (97 : Int32), (108 : Int32), (nar .char ((x2 &&& (255 : Int32)).toUInt32.toUInt16.toUInt32.toInt32))] : List Int32) (9 : Int32) (.val (.int (x0 &&& (3 : Int32)))) (.val (.int ((x0.toUInt32 >>> ((2 : Int32) &&& 31).toUInt32).toInt32))) (.val (.int ((x2 &&& (255 : Int32)).toUInt32.toUInt16.toUInt32.toInt32))) (8 : Int32) (((x0.toUInt32 >>> ((2 : Int32) &&& 31).toUInt32).toInt32) &&& (3 : Int32)) T662 _ vmpt hZ hown T662.heap (own_wk X662 (by decide) (by decide)) rfl N662 Z662  _ hSpt hk665 R664 V662 O666 (own_aS (by unfold P8; decide) (own_aS (by unfold P8; decide) (own_aS (by unfold P8; decide) (own_aS (by unfold P8; decide) (own_aS (by unfold P8; decide) (own_aS (by unfold P8; decide) (own_aS (by unfold P8; decide) (own_aS (by unfold P8; decide) (own_aS (own_p8nar (own_p8i2c (own_p8and _))) own_a0)))))))))
      · refine gx (XS.icmpYes X635.here hx rfl (pc0 := 355) (pc' := 374) rfl (hb hby at_355) rfl (feq hc660).2 (by decide) (by decide)) ?_
        refine gx (XS.iload X635.here hx rfl (hb hby at_374) rfl) ?_
        refine gx (XS.iconst X635.here hx rfl (hb hby at_376)) ?_
        show Goes p.tables e below (T635.setTop (mkF m 377 #[.val (.int x0), .val (.int x1), .val (.int x2), .val (.long x3), .second, .val (.int (x0 &&& (3 : Int32))), .val (.int ((x0.toUInt32 >>> ((2 : Int32) &&& 31).toUInt32).toInt32)), .val (.int ((x2 &&& (255 : Int32)).toUInt32.toUInt16.toUInt32.toInt32)), .val (.ref b1), .unset, .val (.int (0 : Int32)), .val (.ref a530), .val (.int (8 : Int32)), .val (.int (((x0.toUInt32 >>> ((2 : Int32) &&& 31).toUInt32).toInt32) &&& (3 : Int32)))] [(.int (1 : Int32)), (.int (8 : Int32))])) _
        refine gx (XS.isub X635.here hx rfl (hb hby at_377) rfl) ?_
        refine gx (XS.istore X635.here hx rfl (hb hby at_378) rfl (l' := #[.val (.int x0), .val (.int x1), .val (.int x2), .val (.long x3), .second, .val (.int (x0 &&& (3 : Int32))), .val (.int ((x0.toUInt32 >>> ((2 : Int32) &&& 31).toUInt32).toInt32)), .val (.int ((x2 &&& (255 : Int32)).toUInt32.toUInt16.toUInt32.toInt32)), .val (.ref b1), .val (.int (7 : Int32)), .val (.int (0 : Int32)), .val (.ref a530), .val (.int (8 : Int32)), .val (.int (((x0.toUInt32 >>> ((2 : Int32) &&& 31).toUInt32).toInt32) &&& (3 : Int32)))]) rfl) ?_
        refine gx (XS.iload X635.here hx rfl (hb hby at_380) rfl) ?_
        refine gx (XS.ifYes X635.here hx rfl (pc0 := 382) (pc' := 389) rfl (hb hby at_382) rfl ((if0 _ _).trans (teq (by decide : (0 : Int32) = (0 : Int32))).1) (by decide) (by decide)) ?_
        exact own_pt_own_rm0_369 l Z a0 hw ws x0 x1 x2 x3 aV kV a1 a2 a3 aE w1 w2 w3 v1 v2 v3 q1 q2 q3 cs fm h0 n0 Z0 hPm Bd hml0 hh  b1 k1 a530 ([(111 : Int32), (112 : Int32), (116 : Int32), (105 : Int32), (111 : Int32), (110 : Int32), (97 : Int32), (108 : Int32), (0 : Int32)] : List Int32) (7 : Int32) (.val (.int (x0 &&& (3 : Int32)))) (.val (.int ((x0.toUInt32 >>> ((2 : Int32) &&& 31).toUInt32).toInt32))) (.val (.int ((x2 &&& (255 : Int32)).toUInt32.toUInt16.toUInt32.toInt32))) (8 : Int32) (((x0.toUInt32 >>> ((2 : Int32) &&& 31).toUInt32).toInt32) &&& (3 : Int32)) T635 _ vmpt hZ hown T635.heap (own_wk X635 (by decide) (by decide)) rfl N635 Z635  _ hSpt hk638 R637 V635 O639 (own_aS (by unfold P8; decide) (own_aS (by unfold P8; decide) (own_aS (by unfold P8; decide) (own_aS (by unfold P8; decide) (own_aS (by unfold P8; decide) (own_aS (by unfold P8; decide) (own_aS (by unfold P8; decide) (own_aS (by unfold P8; decide) (own_aS (by unfold P8; decide) own_a0)))))))))
set_option maxRecDepth 65536 in
set_option maxHeartbeats 40000000 in
theorem own_pt_own_rm0_547 (l : Launch) (Z : State) (a0 : Array Value) (hw : ∀ d ∈ tables_1, d.before a0 Z = true) (ws : List Jvm.Cond) (x0 : Int32) (x1 : Int32) (x2 : Int32) (x3 : Int64) (aV : Addr) (kV : ClassId) (a1 : Addr) (a2 : Addr) (a3 : Addr) (aE : Addr) (w1 : Addr) (w2 : Addr) (w3 : Addr) (v1 : Addr) (v2 : Addr) (v3 : Addr) (q1 : ClassId) (q2 : ClassId) (q3 : ClassId) (cs : Int32) (fm : Value) (h0 : Heap) (n0 : Nat) (Z0 : n0 ≤ h0.size) (hPm : own_P_own_rm0 Z a0 x0 x1 x2 x3 aV kV a1 a2 a3 aE w1 w2 w3 v1 v2 v3 q1 q2 q3 cs fm h0 n0)
    {p : Program} {e : Env} {s : State} {m : MethodId} {below : List Frame} {meth : Method} {c : Code} {s₁ : State} (Bd : BodyLoose p l x (head1 (Jvm.Cond.code x code maxLocals ret :: ws) room_1) code maxLocals ret e s m #[(.int x0), (.int x1), (.int x2), (.long x3)] below meth c s₁) (hml0 : c.maxLocals = maxLocals) (hh : s.heap = h0) 
    (b1 : Addr) (a530 : Addr) (b530 : Addr) (k530 : ClassId) (k1 : ClassId)
    (Tpt : State) (lpt : List Loc) (vmpt : Vm) (hZ : Z.Warmed39 vmpt) (hown : vmpt.findClass "com/example/polgen/polgen/model/MultiplicityNamedPinLaw" = some m.cls) (hpt : Heap)
    (Xpt : Stand p l e room_1 (s.setVm vmpt) m #[(.int x0), (.int x1), (.int x2), (.long x3)] below meth c Tpt lpt 3 45) (Ept : Tpt.heap = hpt) (Npt : Fr n0 lpt) (Zpt : n0 ≤ hpt.size) (kpt : Nat) (hSpt : s.Since vmpt kpt) (hkpt : kpt ≤ hpt.size) (Rpt : CHr Z own_EL s.vm h0 vmpt hpt)
    (Pf547_0 : Safe Z own_EL vmpt hpt b1)
    (Pf547_1 : Exa Z hpt a530 "java/lang/String")
    (Pf547_2 : Fld Z hpt a530 "java/lang/String" "coder" "B" (.int (0 : Int32)))
    (Pf547_3 : Fld Z hpt a530 "java/lang/String" "value" "[B" (.ref b530))
    (Pf547_4 : Arv Z hpt b530 k530 .byte (8 : Int32) [(.int (111 : Int32)), (.int (112 : Int32)), (.int (116 : Int32)), (.int (105 : Int32)), (.int (111 : Int32)), (.int (110 : Int32)), (.int (97 : Int32)), (.int (108 : Int32))] (.int (0 : Int32)))
    (Pf547_5 : Arv Z hpt b1 k1 .char (9 : Int32) [(.int (111 : Int32)), (.int (0 : Int32)), (.int (0 : Int32)), (.int (0 : Int32)), (.int (0 : Int32)), (.int (0 : Int32)), (.int (0 : Int32)), (.int (0 : Int32)), (.int (0 : Int32))] (.int (0 : Int32)))
    (Pg547_17 : n0 ≤ b1)
    (Pn547_18 : b1 ≠ a530)
    (Pn547_19 : b1 ≠ b530)
    (Old547 : Old Z n0 hpt)
    (Ph547_21 : ¬ ((x0 &&& (3 : Int32)) = (3 : Int32)))
    (Ph547_22 : ¬ ((x0 &&& (3 : Int32)) = (0 : Int32)))
    (Ph547_23 : (x0 &&& (3 : Int32)) = (1 : Int32))
    : Goes p.tables e below (Tpt.setTop (mkF m 226 #[.val (.int x0), .val (.int x1), .val (.int x2), .val (.long x3), .second, .val (.int (x0 &&& (3 : Int32))), .val (.int ((x0.toUInt32 >>> ((2 : Int32) &&& 31).toUInt32).toInt32)), .val (.int ((x2 &&& (255 : Int32)).toUInt32.toUInt16.toUInt32.toInt32)), .val (.ref b1), .unset, .val (.int (0 : Int32)), .val (.ref a530), .val (.int (8 : Int32)), .unset] [(.int (1 : Int32)), (.ref b1)])) (own_RW below s (own_Q_own_rm0 Z x0 x1 x2 x3 aV kV a1 a2 a3 aE w1 w2 w3 v1 v2 v3 q1 q2 q3 cs fm h0 n0) 17 147) := by
  obtain ⟨O0, hCH0, S1, S2, S3, E1, E2, E3, SV, VV, EV, SE, EE, FE, Fw1, Ew1, Cw1, Vw1, Aw1, Fw2, Ew2, Cw2, Vw2, Aw2, Fw3, Ew3, Cw3, Vw3, Aw3, SC, hcs, SF, hfm⟩ := id hPm
  have hx := Bd.exec
  have hby := Bd.bytes
  have hml : c.maxLocals = 14 := hml0
  have hnm := (name_of_methodNamed Bd.named Bd.method).1
  have own_wS' : ∀ a ∈ Bundle.stringAtoms, a.before a0 Z = true := own_wS hw
  have hEL := own_EW hw
  refine gx (XS.aload Xpt.here hx rfl (hb hby at_226) rfl rfl) ?_
  refine gx (XS.iconst Xpt.here hx rfl (hb hby at_228)) ?_
  obtain ⟨_, _, ⟨T548, L548, k548, n548⟩, -, X548, ⟨Lc548, hQ548, l548, y548, z548⟩, st548⟩ := Jvm.LawKit.callS Xpt hx (y := own_n7) hown (mvT hZ (own_hw hw 22 rfl)) (mvT hZ (own_hw hw 23 rfl)) (mvT hZ (own_hw hw 24 rfl)) (mvT hZ (own_hw hw 25 rfl)) (by decide) (backOf (W := 2) (own_rm3 l Z a0 hw [] a530 (1 : Int32) b530 k530 (8 : Int32) [(.int (111 : Int32)), (.int (112 : Int32)), (.int (116 : Int32)), (.int (105 : Int32)), (.int (111 : Int32)), (.int (110 : Int32)), (.int (97 : Int32)), (.int (108 : Int32))] (112 : Int32) cs fm hpt n0 Zpt Pf547_1 Pf547_2 Pf547_3 Pf547_4 (SC.ext Old547.2) hcs (SF.ext Old547.2) hfm (by decide) (fun _ => rfl)) hZ (own_hw hw 25 rfl) (own_hw hw 24 rfl) (by decide) (by decide)) (g := (mkF m 229 #[.val (.int x0), .val (.int x1), .val (.int x2), .val (.long x3), .second, .val (.int (x0 &&& (3 : Int32))), .val (.int ((x0.toUInt32 >>> ((2 : Int32) &&& 31).toUInt32).toInt32)), .val (.int ((x2 &&& (255 : Int32)).toUInt32.toUInt16.toUInt32.toInt32)), .val (.ref b1), .unset, .val (.int (0 : Int32)), .val (.ref a530), .val (.int (8 : Int32)), .unset] [(.int (1 : Int32)), (.ref a530), (.int (1 : Int32)), (.ref b1)])) rfl (by rw [hml]; rfl) (argsL := [(.ref a530), (.int (1 : Int32))]) (rest := [(.int (1 : Int32)), (.ref b1)]) (lenOf own_pd_pLjavallanglStringsIqC rfl) rfl (own_W rfl rfl) (hb hby at_229) (fun _ _ => ⟨rfl, Ept, (by decide : 3 + 0 ≤ _), (by decide : 45 + 0 ≤ _)⟩)
  dsimp only [Pt.U, Pt.locs, Pt.cells, Pt.slots] at X548 l548 y548 z548 st548 hQ548
  subst l548 y548 z548
  obtain ⟨hv548, Nq548, hp548_0⟩ := hQ548
  have N548 := Fr.app Npt Nq548
  rw [show own_atc (1 : Int32) (8 : Int32) (112 : Int32) = (112 : Int32) from by decide] at hv548
  subst hv548
  refine Goes.to st548 ?_
  obtain ⟨cl549, Ar549, q549, S549, N549, H549, G549⟩ := id Pf547_5
  have hin549 : ¬ ((1 : Int32) < 0 ∨ cl549.slots.size ≤ ((1 : Int32)).toNatClampNeg) := inb_of S549 ⟨by decide, by decide⟩
  obtain ⟨T550, h550, X550, e550, W550, st550⟩ := stC X548 hx hZ hp548_0 Ar549 (j := (1 : Int32)) hin549 (g := (mkF m 232 #[.val (.int x0), .val (.int x1), .val (.int x2), .val (.long x3), .second, .val (.int (x0 &&& (3 : Int32))), .val (.int ((x0.toUInt32 >>> ((2 : Int32) &&& 31).toUInt32).toInt32)), .val (.int ((x2 &&& (255 : Int32)).toUInt32.toUInt16.toUInt32.toInt32)), .val (.ref b1), .unset, .val (.int (0 : Int32)), .val (.ref a530), .val (.int (8 : Int32)), .unset] [(.int (112 : Int32)), (.int (1 : Int32)), (.ref b1)])) rfl rfl (hb hby at_232)
  subst e550
  have Sf551 := Safe.wr W550 Pf547_0 Rpt.1 Pf547_0
  have R552 := Rpt.trans (CHr.wr W550 Pf547_0 Rpt.1)
  have hk553 := Nat.le_trans hkpt (Nat.le_of_eq W550.size.symm)
  have O554 := Old547.wr W550 Pg547_17
  have F555 := Pf547_1.wr W550
  have F556 := Pf547_2.other W550 (Or.inl (Ne.symm Pn547_18))
  have F557 := Pf547_3.other W550 (Or.inl (Ne.symm Pn547_18))
  have F558 := Pf547_4.other W550 (Ne.symm Pn547_19)
  have N550 := Fr.snoc X550 N548 Pg547_17
  have Z550 : n0 ≤ T550.heap.size := Nat.le_trans Zpt (Nat.le_of_eq W550.size.symm)
  have V550 : Arv Z T550.heap b1 k1 .char (9 : Int32) [(.int (111 : Int32)), (.int (112 : Int32)), (.int (0 : Int32)), (.int (0 : Int32)), (.int (0 : Int32)), (.int (0 : Int32)), (.int (0 : Int32)), (.int (0 : Int32)), (.int (0 : Int32))] (.int (0 : Int32)) := Arv.set Ar549 q549 S549 N549 H549 G549 (fits_nar_char _) W550 1 rfl (Nat.le_of_ble_eq_true rfl)
  refine Goes.to st550 ?_
  refine gx (XS.aload X550.here hx rfl (hb hby at_233) rfl rfl) ?_
  refine gx (XS.iconst X550.here hx rfl (hb hby at_235)) ?_
  refine gx (XS.aload X550.here hx rfl (hb hby at_236) rfl rfl) ?_
  refine gx (XS.iconst X550.here hx rfl (hb hby at_238)) ?_
  obtain ⟨_, _, ⟨T560, L560, k560, n560⟩, -, X560, ⟨Lc560, hQ560, l560, y560, z560⟩, st560⟩ := Jvm.LawKit.callS X550 hx (y := own_n7) hown (mvT hZ (own_hw hw 22 rfl)) (mvT hZ (own_hw hw 23 rfl)) (mvT hZ (own_hw hw 24 rfl)) (mvT hZ (own_hw hw 25 rfl)) (by decide) (backOf (W := 2) (own_rm3 l Z a0 hw [] a530 (2 : Int32) b530 k530 (8 : Int32) [(.int (111 : Int32)), (.int (112 : Int32)), (.int (116 : Int32)), (.int (105 : Int32)), (.int (111 : Int32)), (.int (110 : Int32)), (.int (97 : Int32)), (.int (108 : Int32))] (116 : Int32) cs fm T550.heap n0 Z550 F555 F556 F557 F558 (SC.ext O554.2) hcs (SF.ext O554.2) hfm (by decide) (fun _ => rfl)) hZ (own_hw hw 25 rfl) (own_hw hw 24 rfl) (by decide) (by decide)) (g := (mkF m 239 #[.val (.int x0), .val (.int x1), .val (.int x2), .val (.long x3), .second, .val (.int (x0 &&& (3 : Int32))), .val (.int ((x0.toUInt32 >>> ((2 : Int32) &&& 31).toUInt32).toInt32)), .val (.int ((x2 &&& (255 : Int32)).toUInt32.toUInt16.toUInt32.toInt32)), .val (.ref b1), .unset, .val (.int (0 : Int32)), .val (.ref a530), .val (.int (8 : Int32)), .unset] [(.int (2 : Int32)), (.ref a530), (.int (2 : Int32)), (.ref b1)])) rfl (by rw [hml]; rfl) (argsL := [(.ref a530), (.int (2 : Int32))]) (rest := [(.int (2 : Int32)), (.ref b1)]) (lenOf own_pd_pLjavallanglStringsIqC rfl) rfl (own_W rfl rfl) (hb hby at_239) (fun _ _ => ⟨rfl, rfl, (by decide : 3 + 0 ≤ _), (by decide : 45 + 0 ≤ _)⟩)
  dsimp only [Pt.U, Pt.locs, Pt.cells, Pt.slots] at X560 l560 y560 z560 st560 hQ560
  subst l560 y560 z560
  obtain ⟨hv560, Nq560, hp560_0⟩ := hQ560
  have N560 := Fr.app N550 Nq560
  rw [show own_atc (2 : Int32) (8 : Int32) (116 : Int32) = (116 : Int32) from by decide] at hv560
  subst hv560
  refine Goes.to st560 ?_
  obtain ⟨cl561, Ar561, q561, S561, N561, H561, G561⟩ := id V550
  have hin561 : ¬ ((2 : Int32) < 0 ∨ cl561.slots.size ≤ ((2 : Int32)).toNatClampNeg) := inb_of S561 ⟨by decide, by decide⟩
  obtain ⟨T562, h562, X562, e562, W562, st562⟩ := stC X560 hx hZ hp560_0 Ar561 (j := (2 : Int32)) hin561 (g := (mkF m 242 #[.val (.int x0), .val (.int x1), .val (.int x2), .val (.long x3), .second, .val (.int (x0 &&& (3 : Int32))), .val (.int ((x0.toUInt32 >>> ((2 : Int32) &&& 31).toUInt32).toInt32)), .val (.int ((x2 &&& (255 : Int32)).toUInt32.toUInt16.toUInt32.toInt32)), .val (.ref b1), .unset, .val (.int (0 : Int32)), .val (.ref a530), .val (.int (8 : Int32)), .unset] [(.int (116 : Int32)), (.int (2 : Int32)), (.ref b1)])) rfl rfl (hb hby at_242)
  subst e562
  have Sf563 := Safe.wr W562 Sf551 R552.1 Sf551
  have R564 := R552.trans (CHr.wr W562 Sf551 R552.1)
  have hk565 := Nat.le_trans hk553 (Nat.le_of_eq W562.size.symm)
  have O566 := O554.wr W562 Pg547_17
  have F567 := F555.wr W562
  have F568 := F556.other W562 (Or.inl (Ne.symm Pn547_18))
  have F569 := F557.other W562 (Or.inl (Ne.symm Pn547_18))
  have F570 := F558.other W562 (Ne.symm Pn547_19)
  have N562 := Fr.snoc X562 N560 Pg547_17
  have Z562 : n0 ≤ T562.heap.size := Nat.le_trans Z550 (Nat.le_of_eq W562.size.symm)
  have V562 : Arv Z T562.heap b1 k1 .char (9 : Int32) [(.int (111 : Int32)), (.int (112 : Int32)), (.int (116 : Int32)), (.int (0 : Int32)), (.int (0 : Int32)), (.int (0 : Int32)), (.int (0 : Int32)), (.int (0 : Int32)), (.int (0 : Int32))] (.int (0 : Int32)) := Arv.set Ar561 q561 S561 N561 H561 G561 (fits_nar_char _) W562 2 rfl (Nat.le_of_ble_eq_true rfl)
  refine Goes.to st562 ?_
  refine gx (XS.aload X562.here hx rfl (hb hby at_243) rfl rfl) ?_
  refine gx (XS.iconst X562.here hx rfl (hb hby at_245)) ?_
  refine gx (XS.aload X562.here hx rfl (hb hby at_246) rfl rfl) ?_
  refine gx (XS.iconst X562.here hx rfl (hb hby at_248)) ?_
  obtain ⟨_, _, ⟨T572, L572, k572, n572⟩, -, X572, ⟨Lc572, hQ572, l572, y572, z572⟩, st572⟩ := Jvm.LawKit.callS X562 hx (y := own_n7) hown (mvT hZ (own_hw hw 22 rfl)) (mvT hZ (own_hw hw 23 rfl)) (mvT hZ (own_hw hw 24 rfl)) (mvT hZ (own_hw hw 25 rfl)) (by decide) (backOf (W := 2) (own_rm3 l Z a0 hw [] a530 (3 : Int32) b530 k530 (8 : Int32) [(.int (111 : Int32)), (.int (112 : Int32)), (.int (116 : Int32)), (.int (105 : Int32)), (.int (111 : Int32)), (.int (110 : Int32)), (.int (97 : Int32)), (.int (108 : Int32))] (105 : Int32) cs fm T562.heap n0 Z562 F567 F568 F569 F570 (SC.ext O566.2) hcs (SF.ext O566.2) hfm (by decide) (fun _ => rfl)) hZ (own_hw hw 25 rfl) (own_hw hw 24 rfl) (by decide) (by decide)) (g := (mkF m 249 #[.val (.int x0), .val (.int x1), .val (.int x2), .val (.long x3), .second, .val (.int (x0 &&& (3 : Int32))), .val (.int ((x0.toUInt32 >>> ((2 : Int32) &&& 31).toUInt32).toInt32)), .val (.int ((x2 &&& (255 : Int32)).toUInt32.toUInt16.toUInt32.toInt32)), .val (.ref b1), .unset, .val (.int (0 : Int32)), .val (.ref a530), .val (.int (8 : Int32)), .unset] [(.int (3 : Int32)), (.ref a530), (.int (3 : Int32)), (.ref b1)])) rfl (by rw [hml]; rfl) (argsL := [(.ref a530), (.int (3 : Int32))]) (rest := [(.int (3 : Int32)), (.ref b1)]) (lenOf own_pd_pLjavallanglStringsIqC rfl) rfl (own_W rfl rfl) (hb hby at_249) (fun _ _ => ⟨rfl, rfl, (by decide : 3 + 0 ≤ _), (by decide : 45 + 0 ≤ _)⟩)
  dsimp only [Pt.U, Pt.locs, Pt.cells, Pt.slots] at X572 l572 y572 z572 st572 hQ572
  subst l572 y572 z572
  obtain ⟨hv572, Nq572, hp572_0⟩ := hQ572
  have N572 := Fr.app N562 Nq572
  rw [show own_atc (3 : Int32) (8 : Int32) (105 : Int32) = (105 : Int32) from by decide] at hv572
  subst hv572
  refine Goes.to st572 ?_
  obtain ⟨cl573, Ar573, q573, S573, N573, H573, G573⟩ := id V562
  have hin573 : ¬ ((3 : Int32) < 0 ∨ cl573.slots.size ≤ ((3 : Int32)).toNatClampNeg) := inb_of S573 ⟨by decide, by decide⟩
  obtain ⟨T574, h574, X574, e574, W574, st574⟩ := stC X572 hx hZ hp572_0 Ar573 (j := (3 : Int32)) hin573 (g := (mkF m 252 #[.val (.int x0), .val (.int x1), .val (.int x2), .val (.long x3), .second, .val (.int (x0 &&& (3 : Int32))), .val (.int ((x0.toUInt32 >>> ((2 : Int32) &&& 31).toUInt32).toInt32)), .val (.int ((x2 &&& (255 : Int32)).toUInt32.toUInt16.toUInt32.toInt32)), .val (.ref b1), .unset, .val (.int (0 : Int32)), .val (.ref a530), .val (.int (8 : Int32)), .unset] [(.int (105 : Int32)), (.int (3 : Int32)), (.ref b1)])) rfl rfl (hb hby at_252)
  subst e574
  have Sf575 := Safe.wr W574 Sf563 R564.1 Sf563
  have R576 := R564.trans (CHr.wr W574 Sf563 R564.1)
  have hk577 := Nat.le_trans hk565 (Nat.le_of_eq W574.size.symm)
  have O578 := O566.wr W574 Pg547_17
  have F579 := F567.wr W574
  have F580 := F568.other W574 (Or.inl (Ne.symm Pn547_18))
  have F581 := F569.other W574 (Or.inl (Ne.symm Pn547_18))
  have F582 := F570.other W574 (Ne.symm Pn547_19)
  have N574 := Fr.snoc X574 N572 Pg547_17
  have Z574 : n0 ≤ T574.heap.size := Nat.le_trans Z562 (Nat.le_of_eq W574.size.symm)
  have V574 : Arv Z T574.heap b1 k1 .char (9 : Int32) [(.int (111 : Int32)), (.int (112 : Int32)), (.int (116 : Int32)), (.int (105 : Int32)), (.int (0 : Int32)), (.int (0 : Int32)), (.int (0 : Int32)), (.int (0 : Int32)), (.int (0 : Int32))] (.int (0 : Int32)) := Arv.set Ar573 q573 S573 N573 H573 G573 (fits_nar_char _) W574 3 rfl (Nat.le_of_ble_eq_true rfl)
  refine Goes.to st574 ?_
  refine gx (XS.aload X574.here hx rfl (hb hby at_253) rfl rfl) ?_
  refine gx (XS.iconst X574.here hx rfl (hb hby at_255)) ?_
  refine gx (XS.aload X574.here hx rfl (hb hby at_256) rfl rfl) ?_
  refine gx (XS.iconst X574.here hx rfl (hb hby at_258)) ?_
  obtain ⟨_, _, ⟨T584, L584, k584, n584⟩, -, X584, ⟨Lc584, hQ584, l584, y584, z584⟩, st584⟩ := Jvm.LawKit.callS X574 hx (y := own_n7) hown (mvT hZ (own_hw hw 22 rfl)) (mvT hZ (own_hw hw 23 rfl)) (mvT hZ (own_hw hw 24 rfl)) (mvT hZ (own_hw hw 25 rfl)) (by decide) (backOf (W := 2) (own_rm3 l Z a0 hw [] a530 (4 : Int32) b530 k530 (8 : Int32) [(.int (111 : Int32)), (.int (112 : Int32)), (.int (116 : Int32)), (.int (105 : Int32)), (.int (111 : Int32)), (.int (110 : Int32)), (.int (97 : Int32)), (.int (108 : Int32))] (111 : Int32) cs fm T574.heap n0 Z574 F579 F580 F581 F582 (SC.ext O578.2) hcs (SF.ext O578.2) hfm (by decide) (fun _ => rfl)) hZ (own_hw hw 25 rfl) (own_hw hw 24 rfl) (by decide) (by decide)) (g := (mkF m 259 #[.val (.int x0), .val (.int x1), .val (.int x2), .val (.long x3), .second, .val (.int (x0 &&& (3 : Int32))), .val (.int ((x0.toUInt32 >>> ((2 : Int32) &&& 31).toUInt32).toInt32)), .val (.int ((x2 &&& (255 : Int32)).toUInt32.toUInt16.toUInt32.toInt32)), .val (.ref b1), .unset, .val (.int (0 : Int32)), .val (.ref a530), .val (.int (8 : Int32)), .unset] [(.int (4 : Int32)), (.ref a530), (.int (4 : Int32)), (.ref b1)])) rfl (by rw [hml]; rfl) (argsL := [(.ref a530), (.int (4 : Int32))]) (rest := [(.int (4 : Int32)), (.ref b1)]) (lenOf own_pd_pLjavallanglStringsIqC rfl) rfl (own_W rfl rfl) (hb hby at_259) (fun _ _ => ⟨rfl, rfl, (by decide : 3 + 0 ≤ _), (by decide : 45 + 0 ≤ _)⟩)
  dsimp only [Pt.U, Pt.locs, Pt.cells, Pt.slots] at X584 l584 y584 z584 st584 hQ584
  subst l584 y584 z584
  obtain ⟨hv584, Nq584, hp584_0⟩ := hQ584
  have N584 := Fr.app N574 Nq584
  rw [show own_atc (4 : Int32) (8 : Int32) (111 : Int32) = (111 : Int32) from by decide] at hv584
  subst hv584
  refine Goes.to st584 ?_
  obtain ⟨cl585, Ar585, q585, S585, N585, H585, G585⟩ := id V574
  have hin585 : ¬ ((4 : Int32) < 0 ∨ cl585.slots.size ≤ ((4 : Int32)).toNatClampNeg) := inb_of S585 ⟨by decide, by decide⟩
  obtain ⟨T586, h586, X586, e586, W586, st586⟩ := stC X584 hx hZ hp584_0 Ar585 (j := (4 : Int32)) hin585 (g := (mkF m 262 #[.val (.int x0), .val (.int x1), .val (.int x2), .val (.long x3), .second, .val (.int (x0 &&& (3 : Int32))), .val (.int ((x0.toUInt32 >>> ((2 : Int32) &&& 31).toUInt32).toInt32)), .val (.int ((x2 &&& (255 : Int32)).toUInt32.toUInt16.toUInt32.toInt32)), .val (.ref b1), .unset, .val (.int (0 : Int32)), .val (.ref a530), .val (.int (8 : Int32)), .unset] [(.int (111 : Int32)), (.int (4 : Int32)), (.ref b1)])) rfl rfl (hb hby at_262)
  subst e586
  have Sf587 := Safe.wr W586 Sf575 R576.1 Sf575
  have R588 := R576.trans (CHr.wr W586 Sf575 R576.1)
  have hk589 := Nat.le_trans hk577 (Nat.le_of_eq W586.size.symm)
  have O590 := O578.wr W586 Pg547_17
  have F591 := F579.wr W586
  have F592 := F580.other W586 (Or.inl (Ne.symm Pn547_18))
  have F593 := F581.other W586 (Or.inl (Ne.symm Pn547_18))
  have F594 := F582.other W586 (Ne.symm Pn547_19)
  have N586 := Fr.snoc X586 N584 Pg547_17
  have Z586 : n0 ≤ T586.heap.size := Nat.le_trans Z574 (Nat.le_of_eq W586.size.symm)
  have V586 : Arv Z T586.heap b1 k1 .char (9 : Int32) [(.int (111 : Int32)), (.int (112 : Int32)), (.int (116 : Int32)), (.int (105 : Int32)), (.int (111 : Int32)), (.int (0 : Int32)), (.int (0 : Int32)), (.int (0 : Int32)), (.int (0 : Int32))] (.int (0 : Int32)) := Arv.set Ar585 q585 S585 N585 H585 G585 (fits_nar_char _) W586 4 rfl (Nat.le_of_ble_eq_true rfl)
  refine Goes.to st586 ?_
  refine gx (XS.aload X586.here hx rfl (hb hby at_263) rfl rfl) ?_
  refine gx (XS.iconst X586.here hx rfl (hb hby at_265)) ?_
  refine gx (XS.aload X586.here hx rfl (hb hby at_266) rfl rfl) ?_
  refine gx (XS.iconst X586.here hx rfl (hb hby at_268)) ?_
  obtain ⟨_, _, ⟨T596, L596, k596, n596⟩, -, X596, ⟨Lc596, hQ596, l596, y596, z596⟩, st596⟩ := Jvm.LawKit.callS X586 hx (y := own_n7) hown (mvT hZ (own_hw hw 22 rfl)) (mvT hZ (own_hw hw 23 rfl)) (mvT hZ (own_hw hw 24 rfl)) (mvT hZ (own_hw hw 25 rfl)) (by decide) (backOf (W := 2) (own_rm3 l Z a0 hw [] a530 (5 : Int32) b530 k530 (8 : Int32) [(.int (111 : Int32)), (.int (112 : Int32)), (.int (116 : Int32)), (.int (105 : Int32)), (.int (111 : Int32)), (.int (110 : Int32)), (.int (97 : Int32)), (.int (108 : Int32))] (110 : Int32) cs fm T586.heap n0 Z586 F591 F592 F593 F594 (SC.ext O590.2) hcs (SF.ext O590.2) hfm (by decide) (fun _ => rfl)) hZ (own_hw hw 25 rfl) (own_hw hw 24 rfl) (by decide) (by decide)) (g := (mkF m 269 #[.val (.int x0), .val (.int x1), .val (.int x2), .val (.long x3), .second, .val (.int (x0 &&& (3 : Int32))), .val (.int ((x0.toUInt32 >>> ((2 : Int32) &&& 31).toUInt32).toInt32)), .val (.int ((x2 &&& (255 : Int32)).toUInt32.toUInt16.toUInt32.toInt32)), .val (.ref b1), .unset, .val (.int (0 : Int32)), .val (.ref a530), .val (.int (8 : Int32)), .unset] [(.int (5 : Int32)), (.ref a530), (.int (5 : Int32)), (.ref b1)])) rfl (by rw [hml]; rfl) (argsL := [(.ref a530), (.int (5 : Int32))]) (rest := [(.int (5 : Int32)), (.ref b1)]) (lenOf own_pd_pLjavallanglStringsIqC rfl) rfl (own_W rfl rfl) (hb hby at_269) (fun _ _ => ⟨rfl, rfl, (by decide : 3 + 0 ≤ _), (by decide : 45 + 0 ≤ _)⟩)
  dsimp only [Pt.U, Pt.locs, Pt.cells, Pt.slots] at X596 l596 y596 z596 st596 hQ596
  subst l596 y596 z596
  obtain ⟨hv596, Nq596, hp596_0⟩ := hQ596
  have N596 := Fr.app N586 Nq596
  rw [show own_atc (5 : Int32) (8 : Int32) (110 : Int32) = (110 : Int32) from by decide] at hv596
  subst hv596
  refine Goes.to st596 ?_
  obtain ⟨cl597, Ar597, q597, S597, N597, H597, G597⟩ := id V586
  have hin597 : ¬ ((5 : Int32) < 0 ∨ cl597.slots.size ≤ ((5 : Int32)).toNatClampNeg) := inb_of S597 ⟨by decide, by decide⟩
  obtain ⟨T598, h598, X598, e598, W598, st598⟩ := stC X596 hx hZ hp596_0 Ar597 (j := (5 : Int32)) hin597 (g := (mkF m 272 #[.val (.int x0), .val (.int x1), .val (.int x2), .val (.long x3), .second, .val (.int (x0 &&& (3 : Int32))), .val (.int ((x0.toUInt32 >>> ((2 : Int32) &&& 31).toUInt32).toInt32)), .val (.int ((x2 &&& (255 : Int32)).toUInt32.toUInt16.toUInt32.toInt32)), .val (.ref b1), .unset, .val (.int (0 : Int32)), .val (.ref a530), .val (.int (8 : Int32)), .unset] [(.int (110 : Int32)), (.int (5 : Int32)), (.ref b1)])) rfl rfl (hb hby at_272)
  subst e598
  have Sf599 := Safe.wr W598 Sf587 R588.1 Sf587
  have R600 := R588.trans (CHr.wr W598 Sf587 R588.1)
  have hk601 := Nat.le_trans hk589 (Nat.le_of_eq W598.size.symm)
  have O602 := O590.wr W598 Pg547_17
  have F603 := F591.wr W598
  have F604 := F592.other W598 (Or.inl (Ne.symm Pn547_18))
  have F605 := F593.other W598 (Or.inl (Ne.symm Pn547_18))
  have F606 := F594.other W598 (Ne.symm Pn547_19)
  have N598 := Fr.snoc X598 N596 Pg547_17
  have Z598 : n0 ≤ T598.heap.size := Nat.le_trans Z586 (Nat.le_of_eq W598.size.symm)
  have V598 : Arv Z T598.heap b1 k1 .char (9 : Int32) [(.int (111 : Int32)), (.int (112 : Int32)), (.int (116 : Int32)), (.int (105 : Int32)), (.int (111 : Int32)), (.int (110 : Int32)), (.int (0 : Int32)), (.int (0 : Int32)), (.int (0 : Int32))] (.int (0 : Int32)) := Arv.set Ar597 q597 S597 N597 H597 G597 (fits_nar_char _) W598 5 rfl (Nat.le_of_ble_eq_true rfl)
  refine Goes.to st598 ?_
  refine gx (XS.aload X598.here hx rfl (hb hby at_273) rfl rfl) ?_
  refine gx (XS.bipush X598.here hx rfl (hb hby at_275)) ?_
  refine gx (XS.aload X598.here hx rfl (hb hby at_277) rfl rfl) ?_
  refine gx (XS.bipush X598.here hx rfl (hb hby at_279)) ?_
  obtain ⟨_, _, ⟨T608, L608, k608, n608⟩, -, X608, ⟨Lc608, hQ608, l608, y608, z608⟩, st608⟩ := Jvm.LawKit.callS X598 hx (y := own_n7) hown (mvT hZ (own_hw hw 22 rfl)) (mvT hZ (own_hw hw 23 rfl)) (mvT hZ (own_hw hw 24 rfl)) (mvT hZ (own_hw hw 25 rfl)) (by decide) (backOf (W := 2) (own_rm3 l Z a0 hw [] a530 (6 : Int32) b530 k530 (8 : Int32) [(.int (111 : Int32)), (.int (112 : Int32)), (.int (116 : Int32)), (.int (105 : Int32)), (.int (111 : Int32)), (.int (110 : Int32)), (.int (97 : Int32)), (.int (108 : Int32))] (97 : Int32) cs fm T598.heap n0 Z598 F603 F604 F605 F606 (SC.ext O602.2) hcs (SF.ext O602.2) hfm (by decide) (fun _ => rfl)) hZ (own_hw hw 25 rfl) (own_hw hw 24 rfl) (by decide) (by decide)) (g := (mkF m 281 #[.val (.int x0), .val (.int x1), .val (.int x2), .val (.long x3), .second, .val (.int (x0 &&& (3 : Int32))), .val (.int ((x0.toUInt32 >>> ((2 : Int32) &&& 31).toUInt32).toInt32)), .val (.int ((x2 &&& (255 : Int32)).toUInt32.toUInt16.toUInt32.toInt32)), .val (.ref b1), .unset, .val (.int (0 : Int32)), .val (.ref a530), .val (.int (8 : Int32)), .unset] [(.int (6 : Int32)), (.ref a530), (.int (6 : Int32)), (.ref b1)])) rfl (by rw [hml]; rfl) (argsL := [(.ref a530), (.int (6 : Int32))]) (rest := [(.int (6 : Int32)), (.ref b1)]) (lenOf own_pd_pLjavallanglStringsIqC rfl) rfl (own_W rfl rfl) (hb hby at_281) (fun _ _ => ⟨rfl, rfl, (by decide : 3 + 0 ≤ _), (by decide : 45 + 0 ≤ _)⟩)
  dsimp only [Pt.U, Pt.locs, Pt.cells, Pt.slots] at X608 l608 y608 z608 st608 hQ608
  subst l608 y608 z608
  obtain ⟨hv608, Nq608, hp608_0⟩ := hQ608
  have N608 := Fr.app N598 Nq608
  rw [show own_atc (6 : Int32) (8 : Int32) (97 : Int32) = (97 : Int32) from by decide] at hv608
  subst hv608
  refine Goes.to st608 ?_
  obtain ⟨cl609, Ar609, q609, S609, N609, H609, G609⟩ := id V598
  have hin609 : ¬ ((6 : Int32) < 0 ∨ cl609.slots.size ≤ ((6 : Int32)).toNatClampNeg) := inb_of S609 ⟨by decide, by decide⟩
  obtain ⟨T610, h610, X610, e610, W610, st610⟩ := stC X608 hx hZ hp608_0 Ar609 (j := (6 : Int32)) hin609 (g := (mkF m 284 #[.val (.int x0), .val (.int x1), .val (.int x2), .val (.long x3), .second, .val (.int (x0 &&& (3 : Int32))), .val (.int ((x0.toUInt32 >>> ((2 : Int32) &&& 31).toUInt32).toInt32)), .val (.int ((x2 &&& (255 : Int32)).toUInt32.toUInt16.toUInt32.toInt32)), .val (.ref b1), .unset, .val (.int (0 : Int32)), .val (.ref a530), .val (.int (8 : Int32)), .unset] [(.int (97 : Int32)), (.int (6 : Int32)), (.ref b1)])) rfl rfl (hb hby at_284)
  subst e610
  have Sf611 := Safe.wr W610 Sf599 R600.1 Sf599
  have R612 := R600.trans (CHr.wr W610 Sf599 R600.1)
  have hk613 := Nat.le_trans hk601 (Nat.le_of_eq W610.size.symm)
  have O614 := O602.wr W610 Pg547_17
  have F615 := F603.wr W610
  have F616 := F604.other W610 (Or.inl (Ne.symm Pn547_18))
  have F617 := F605.other W610 (Or.inl (Ne.symm Pn547_18))
  have F618 := F606.other W610 (Ne.symm Pn547_19)
  have N610 := Fr.snoc X610 N608 Pg547_17
  have Z610 : n0 ≤ T610.heap.size := Nat.le_trans Z598 (Nat.le_of_eq W610.size.symm)
  have V610 : Arv Z T610.heap b1 k1 .char (9 : Int32) [(.int (111 : Int32)), (.int (112 : Int32)), (.int (116 : Int32)), (.int (105 : Int32)), (.int (111 : Int32)), (.int (110 : Int32)), (.int (97 : Int32)), (.int (0 : Int32)), (.int (0 : Int32))] (.int (0 : Int32)) := Arv.set Ar609 q609 S609 N609 H609 G609 (fits_nar_char _) W610 6 rfl (Nat.le_of_ble_eq_true rfl)
  refine Goes.to st610 ?_
  refine gx (XS.aload X610.here hx rfl (hb hby at_285) rfl rfl) ?_
  refine gx (XS.bipush X610.here hx rfl (hb hby at_287)) ?_
  refine gx (XS.aload X610.here hx rfl (hb hby at_289) rfl rfl) ?_
  refine gx (XS.bipush X610.here hx rfl (hb hby at_291)) ?_
  obtain ⟨_, _, ⟨T620, L620, k620, n620⟩, -, X620, ⟨Lc620, hQ620, l620, y620, z620⟩, st620⟩ := Jvm.LawKit.callS X610 hx (y := own_n7) hown (mvT hZ (own_hw hw 22 rfl)) (mvT hZ (own_hw hw 23 rfl)) (mvT hZ (own_hw hw 24 rfl)) (mvT hZ (own_hw hw 25 rfl)) (by decide) (backOf (W := 2) (own_rm3 l Z a0 hw [] a530 (7 : Int32) b530 k530 (8 : Int32) [(.int (111 : Int32)), (.int (112 : Int32)), (.int (116 : Int32)), (.int (105 : Int32)), (.int (111 : Int32)), (.int (110 : Int32)), (.int (97 : Int32)), (.int (108 : Int32))] (108 : Int32) cs fm T610.heap n0 Z610 F615 F616 F617 F618 (SC.ext O614.2) hcs (SF.ext O614.2) hfm (by decide) (fun _ => rfl)) hZ (own_hw hw 25 rfl) (own_hw hw 24 rfl) (by decide) (by decide)) (g := (mkF m 293 #[.val (.int x0), .val (.int x1), .val (.int x2), .val (.long x3), .second, .val (.int (x0 &&& (3 : Int32))), .val (.int ((x0.toUInt32 >>> ((2 : Int32) &&& 31).toUInt32).toInt32)), .val (.int ((x2 &&& (255 : Int32)).toUInt32.toUInt16.toUInt32.toInt32)), .val (.ref b1), .unset, .val (.int (0 : Int32)), .val (.ref a530), .val (.int (8 : Int32)), .unset] [(.int (7 : Int32)), (.ref a530), (.int (7 : Int32)), (.ref b1)])) rfl (by rw [hml]; rfl) (argsL := [(.ref a530), (.int (7 : Int32))]) (rest := [(.int (7 : Int32)), (.ref b1)]) (lenOf own_pd_pLjavallanglStringsIqC rfl) rfl (own_W rfl rfl) (hb hby at_293) (fun _ _ => ⟨rfl, rfl, (by decide : 3 + 0 ≤ _), (by decide : 45 + 0 ≤ _)⟩)
  dsimp only [Pt.U, Pt.locs, Pt.cells, Pt.slots] at X620 l620 y620 z620 st620 hQ620
  subst l620 y620 z620
  obtain ⟨hv620, Nq620, hp620_0⟩ := hQ620
  have N620 := Fr.app N610 Nq620
  rw [show own_atc (7 : Int32) (8 : Int32) (108 : Int32) = (108 : Int32) from by decide] at hv620
  subst hv620
  refine Goes.to st620 ?_
  obtain ⟨cl621, Ar621, q621, S621, N621, H621, G621⟩ := id V610
  have hin621 : ¬ ((7 : Int32) < 0 ∨ cl621.slots.size ≤ ((7 : Int32)).toNatClampNeg) := inb_of S621 ⟨by decide, by decide⟩
  obtain ⟨T622, h622, X622, e622, W622, st622⟩ := stC X620 hx hZ hp620_0 Ar621 (j := (7 : Int32)) hin621 (g := (mkF m 296 #[.val (.int x0), .val (.int x1), .val (.int x2), .val (.long x3), .second, .val (.int (x0 &&& (3 : Int32))), .val (.int ((x0.toUInt32 >>> ((2 : Int32) &&& 31).toUInt32).toInt32)), .val (.int ((x2 &&& (255 : Int32)).toUInt32.toUInt16.toUInt32.toInt32)), .val (.ref b1), .unset, .val (.int (0 : Int32)), .val (.ref a530), .val (.int (8 : Int32)), .unset] [(.int (108 : Int32)), (.int (7 : Int32)), (.ref b1)])) rfl rfl (hb hby at_296)
  subst e622
  have Sf623 := Safe.wr W622 Sf611 R612.1 Sf611
  have R624 := R612.trans (CHr.wr W622 Sf611 R612.1)
  have hk625 := Nat.le_trans hk613 (Nat.le_of_eq W622.size.symm)
  have O626 := O614.wr W622 Pg547_17
  have F627 := F615.wr W622
  have F628 := F616.other W622 (Or.inl (Ne.symm Pn547_18))
  have F629 := F617.other W622 (Or.inl (Ne.symm Pn547_18))
  have F630 := F618.other W622 (Ne.symm Pn547_19)
  have N622 := Fr.snoc X622 N620 Pg547_17
  have Z622 : n0 ≤ T622.heap.size := Nat.le_trans Z610 (Nat.le_of_eq W622.size.symm)
  have V622 : Arv Z T622.heap b1 k1 .char (9 : Int32) [(.int (111 : Int32)), (.int (112 : Int32)), (.int (116 : Int32)), (.int (105 : Int32)), (.int (111 : Int32)), (.int (110 : Int32)), (.int (97 : Int32)), (.int (108 : Int32)), (.int (0 : Int32))] (.int (0 : Int32)) := Arv.set Ar621 q621 S621 N621 H621 G621 (fits_nar_char _) W622 7 rfl (Nat.le_of_ble_eq_true rfl)
  refine Goes.to st622 ?_
  exact own_pt_own_rm0_632 l Z a0 hw ws x0 x1 x2 x3 aV kV a1 a2 a3 aE w1 w2 w3 v1 v2 v3 q1 q2 q3 cs fm h0 n0 Z0 hPm Bd hml0 hh  b1 a530 b530 k530 k1 T622 _ vmpt hZ hown T622.heap X622 rfl N622 Z622  _ hSpt hk625 R624 Sf623 F627 F628 F629 F630 V622 Pg547_17 O626 Ph547_21 Ph547_22 Ph547_23
set_option maxRecDepth 65536 in
set_option maxHeartbeats 40000000 in
theorem own_pt_own_rm0_776 (l : Launch) (Z : State) (a0 : Array Value) (hw : ∀ d ∈ tables_1, d.before a0 Z = true) (ws : List Jvm.Cond) (x0 : Int32) (x1 : Int32) (x2 : Int32) (x3 : Int64) (aV : Addr) (kV : ClassId) (a1 : Addr) (a2 : Addr) (a3 : Addr) (aE : Addr) (w1 : Addr) (w2 : Addr) (w3 : Addr) (v1 : Addr) (v2 : Addr) (v3 : Addr) (q1 : ClassId) (q2 : ClassId) (q3 : ClassId) (cs : Int32) (fm : Value) (h0 : Heap) (n0 : Nat) (Z0 : n0 ≤ h0.size) (hPm : own_P_own_rm0 Z a0 x0 x1 x2 x3 aV kV a1 a2 a3 aE w1 w2 w3 v1 v2 v3 q1 q2 q3 cs fm h0 n0)
    {p : Program} {e : Env} {s : State} {m : MethodId} {below : List Frame} {meth : Method} {c : Code} {s₁ : State} (Bd : BodyLoose p l x (head1 (Jvm.Cond.code x code maxLocals ret :: ws) room_1) code maxLocals ret e s m #[(.int x0), (.int x1), (.int x2), (.long x3)] below meth c s₁) (hml0 : c.maxLocals = maxLocals) (hh : s.heap = h0) 
    (b1 : Addr) (a674 : Addr) (b674 : Addr) (k674 : ClassId) (k1 : ClassId)
    (Tpt : State) (lpt : List Loc) (vmpt : Vm) (hZ : Z.Warmed39 vmpt) (hown : vmpt.findClass "com/example/polgen/polgen/model/MultiplicityNamedPinLaw" = some m.cls) (hpt : Heap)
    (Xpt : Stand p l e room_1 (s.setVm vmpt) m #[(.int x0), (.int x1), (.int x2), (.long x3)] below meth c Tpt lpt 3 29) (Ept : Tpt.heap = hpt) (Npt : Fr n0 lpt) (Zpt : n0 ≤ hpt.size) (kpt : Nat) (hSpt : s.Since vmpt kpt) (hkpt : kpt ≤ hpt.size) (Rpt : CHr Z own_EL s.vm h0 vmpt hpt)
    (Pf776_0 : Safe Z own_EL vmpt hpt b1)
    (Pf776_1 : Exa Z hpt a674 "java/lang/String")
    (Pf776_2 : Fld Z hpt a674 "java/lang/String" "coder" "B" (.int (0 : Int32)))
    (Pf776_3 : Fld Z hpt a674 "java/lang/String" "value" "[B" (.ref b674))
    (Pf776_4 : Arv Z hpt b674 k674 .byte (4 : Int32) [(.int (109 : Int32)), (.int (97 : Int32)), (.int (110 : Int32)), (.int (121 : Int32))] (.int (0 : Int32)))
    (Pf776_5 : Arv Z hpt b1 k1 .char (9 : Int32) [(.int (109 : Int32)), (.int (97 : Int32)), (.int (110 : Int32)), (.int (121 : Int32)), (.int (0 : Int32)), (.int (0 : Int32)), (.int (0 : Int32)), (.int (0 : Int32)), (.int (0 : Int32))] (.int (0 : Int32)))
    (Pg776_17 : n0 ≤ b1)
    (Old776 : Old Z n0 hpt)
    (Ph776_21 : ¬ ((x0 &&& (3 : Int32)) = (3 : Int32)))
    (Ph776_22 : ¬ ((x0 &&& (3 : Int32)) = (0 : Int32)))
    (Ph776_23 : ¬ ((x0 &&& (3 : Int32)) = (1 : Int32)))
    : Goes p.tables e below (Tpt.setTop (mkF m 299 #[.val (.int x0), .val (.int x1), .val (.int x2), .val (.long x3), .second, .val (.int (x0 &&& (3 : Int32))), .val (.int ((x0.toUInt32 >>> ((2 : Int32) &&& 31).toUInt32).toInt32)), .val (.int ((x2 &&& (255 : Int32)).toUInt32.toUInt16.toUInt32.toInt32)), .val (.ref b1), .unset, .val (.int (0 : Int32)), .val (.ref a674), .val (.int (4 : Int32)), .unset] [(.ref b1)])) (own_RW below s (own_Q_own_rm0 Z x0 x1 x2 x3 aV kV a1 a2 a3 aE w1 w2 w3 v1 v2 v3 q1 q2 q3 cs fm h0 n0) 17 147) := by
  obtain ⟨O0, hCH0, S1, S2, S3, E1, E2, E3, SV, VV, EV, SE, EE, FE, Fw1, Ew1, Cw1, Vw1, Aw1, Fw2, Ew2, Cw2, Vw2, Aw2, Fw3, Ew3, Cw3, Vw3, Aw3, SC, hcs, SF, hfm⟩ := id hPm
  have hx := Bd.exec
  have hby := Bd.bytes
  have hml : c.maxLocals = 14 := hml0
  have hnm := (name_of_methodNamed Bd.named Bd.method).1
  have own_wS' : ∀ a ∈ Bundle.stringAtoms, a.before a0 Z = true := own_wS hw
  have hEL := own_EW hw
  refine gx (XS.bipush Xpt.here hx rfl (hb hby at_299)) ?_
  refine gx (XS.aload Xpt.here hx rfl (hb hby at_301) rfl rfl) ?_
  refine gx (XS.bipush Xpt.here hx rfl (hb hby at_303)) ?_
  obtain ⟨_, _, ⟨T777, L777, k777, n777⟩, -, X777, ⟨Lc777, hQ777, l777, y777, z777⟩, st777⟩ := Jvm.LawKit.callS Xpt hx (y := own_n7) hown (mvT hZ (own_hw hw 22 rfl)) (mvT hZ (own_hw hw 23 rfl)) (mvT hZ (own_hw hw 24 rfl)) (mvT hZ (own_hw hw 25 rfl)) (by decide) (backOf (W := 2) (own_rm3 l Z a0 hw [] a674 (8 : Int32) b674 k674 (4 : Int32) [(.int (109 : Int32)), (.int (97 : Int32)), (.int (110 : Int32)), (.int (121 : Int32))] (0 : Int32) cs fm hpt n0 Zpt Pf776_1 Pf776_2 Pf776_3 Pf776_4 (SC.ext Old776.2) hcs (SF.ext Old776.2) hfm (by decide) (fun q => absurd q (by decide))) hZ (own_hw hw 25 rfl) (own_hw hw 24 rfl) (by decide) (by decide)) (g := (mkF m 305 #[.val (.int x0), .val (.int x1), .val (.int x2), .val (.long x3), .second, .val (.int (x0 &&& (3 : Int32))), .val (.int ((x0.toUInt32 >>> ((2 : Int32) &&& 31).toUInt32).toInt32)), .val (.int ((x2 &&& (255 : Int32)).toUInt32.toUInt16.toUInt32.toInt32)), .val (.ref b1), .unset, .val (.int (0 : Int32)), .val (.ref a674), .val (.int (4 : Int32)), .unset] [(.int (8 : Int32)), (.ref a674), (.int (8 : Int32)), (.ref b1)])) rfl (by rw [hml]; rfl) (argsL := [(.ref a674), (.int (8 : Int32))]) (rest := [(.int (8 : Int32)), (.ref b1)]) (lenOf own_pd_pLjavallanglStringsIqC rfl) rfl (own_W rfl rfl) (hb hby at_305) (fun _ _ => ⟨rfl, Ept, (by decide : 3 + 0 ≤ _), (by decide : 29 + 0 ≤ _)⟩)
  dsimp only [Pt.U, Pt.locs, Pt.cells, Pt.slots] at X777 l777 y777 z777 st777 hQ777
  subst l777 y777 z777
  obtain ⟨hv777, Nq777, hp777_0⟩ := hQ777
  have N777 := Fr.app Npt Nq777
  rw [show own_atc (8 : Int32) (4 : Int32) (0 : Int32) = (0 : Int32) from by decide] at hv777
  subst hv777
  refine Goes.to st777 ?_
  obtain ⟨cl778, Ar778, q778, S778, N778, H778, G778⟩ := id Pf776_5
  have hin778 : ¬ ((8 : Int32) < 0 ∨ cl778.slots.size ≤ ((8 : Int32)).toNatClampNeg) := inb_of S778 ⟨by decide, by decide⟩
  obtain ⟨T779, h779, X779, e779, W779, st779⟩ := stC X777 hx hZ hp777_0 Ar778 (j := (8 : Int32)) hin778 (g := (mkF m 308 #[.val (.int x0), .val (.int x1), .val (.int x2), .val (.long x3), .second, .val (.int (x0 &&& (3 : Int32))), .val (.int ((x0.toUInt32 >>> ((2 : Int32) &&& 31).toUInt32).toInt32)), .val (.int ((x2 &&& (255 : Int32)).toUInt32.toUInt16.toUInt32.toInt32)), .val (.ref b1), .unset, .val (.int (0 : Int32)), .val (.ref a674), .val (.int (4 : Int32)), .unset] [(.int (0 : Int32)), (.int (8 : Int32)), (.ref b1)])) rfl rfl (hb hby at_308)
  subst e779
  have Sf780 := Safe.wr W779 Pf776_0 Rpt.1 Pf776_0
  have R781 := Rpt.trans (CHr.wr W779 Pf776_0 Rpt.1)
  have hk782 := Nat.le_trans hkpt (Nat.le_of_eq W779.size.symm)
  have O783 := Old776.wr W779 Pg776_17
  have N779 := Fr.snoc X779 N777 Pg776_17
  have Z779 : n0 ≤ T779.heap.size := Nat.le_trans Zpt (Nat.le_of_eq W779.size.symm)
  have V779 : Arv Z T779.heap b1 k1 .char (9 : Int32) [(.int (109 : Int32)), (.int (97 : Int32)), (.int (110 : Int32)), (.int (121 : Int32)), (.int (0 : Int32)), (.int (0 : Int32)), (.int (0 : Int32)), (.int (0 : Int32)), (.int (0 : Int32))] (.int (0 : Int32)) := Arv.set Ar778 q778 S778 N778 H778 G778 (fits_nar_char _) W779 8 rfl (Nat.le_of_ble_eq_true rfl)
  refine Goes.to st779 ?_
  refine gx (XS.iload X779.here hx rfl (hb hby at_309) rfl) ?_
  refine gx (XS.iconst X779.here hx rfl (hb hby at_311)) ?_
  refine gx (XS.iand X779.here hx rfl (hb hby at_312) rfl) ?_
  refine gx (XS.istore X779.here hx rfl (hb hby at_313) rfl (l' := #[.val (.int x0), .val (.int x1), .val (.int x2), .val (.long x3), .second, .val (.int (x0 &&& (3 : Int32))), .val (.int ((x0.toUInt32 >>> ((2 : Int32) &&& 31).toUInt32).toInt32)), .val (.int ((x2 &&& (255 : Int32)).toUInt32.toUInt16.toUInt32.toInt32)), .val (.ref b1), .unset, .val (.int (0 : Int32)), .val (.ref a674), .val (.int (4 : Int32)), .val (.int (((x0.toUInt32 >>> ((2 : Int32) &&& 31).toUInt32).toInt32) &&& (3 : Int32)))]) rfl) ?_
  show Goes p.tables e below (T779.setTop (mkF m 315 #[.val (.int x0), .val (.int x1), .val (.int x2), .val (.long x3), .second, .val (.int (x0 &&& (3 : Int32))), .val (.int ((x0.toUInt32 >>> ((2 : Int32) &&& 31).toUInt32).toInt32)), .val (.int ((x2 &&& (255 : Int32)).toUInt32.toUInt16.toUInt32.toInt32)), .val (.ref b1), .unset, .val (.int (0 : Int32)), .val (.ref a674), .val (.int (4 : Int32)), .val (.int (((x0.toUInt32 >>> ((2 : Int32) &&& 31).toUInt32).toInt32) &&& (3 : Int32)))] [])) _
  refine gx (XS.iload X779.here hx rfl (hb hby at_315) rfl) ?_
  by_cases hc789 : (((x0.toUInt32 >>> ((2 : Int32) &&& 31).toUInt32).toInt32) &&& (3 : Int32)) = (0 : Int32)
  · refine gx (XS.ifNo X779.here hx rfl (hb hby at_317) rfl ((if0 _ _).trans (teq hc789).2)) ?_
    refine gx (XS.iload X779.here hx rfl (hb hby at_320) rfl) ?_
    refine gx (XS.istore X779.here hx rfl (hb hby at_322) rfl (l' := #[.val (.int x0), .val (.int x1), .val (.int x2), .val (.long x3), .second, .val (.int (x0 &&& (3 : Int32))), .val (.int ((x0.toUInt32 >>> ((2 : Int32) &&& 31).toUInt32).toInt32)), .val (.int ((x2 &&& (255 : Int32)).toUInt32.toUInt16.toUInt32.toInt32)), .val (.ref b1), .val (.int (4 : Int32)), .val (.int (0 : Int32)), .val (.ref a674), .val (.int (4 : Int32)), .val (.int (((x0.toUInt32 >>> ((2 : Int32) &&& 31).toUInt32).toInt32) &&& (3 : Int32)))]) rfl) ?_
    refine gx (XS.goto X779.here hx rfl (pc0 := 324) (pc' := 380) rfl (hb hby at_324) (by decide) (by decide)) ?_
    show Goes p.tables e below (T779.setTop (mkF m 380 #[.val (.int x0), .val (.int x1), .val (.int x2), .val (.long x3), .second, .val (.int (x0 &&& (3 : Int32))), .val (.int ((x0.toUInt32 >>> ((2 : Int32) &&& 31).toUInt32).toInt32)), .val (.int ((x2 &&& (255 : Int32)).toUInt32.toUInt16.toUInt32.toInt32)), .val (.ref b1), .val (.int (4 : Int32)), .val (.int (0 : Int32)), .val (.ref a674), .val (.int (4 : Int32)), .val (.int (((x0.toUInt32 >>> ((2 : Int32) &&& 31).toUInt32).toInt32) &&& (3 : Int32)))] [])) _
    refine gx (XS.iload X779.here hx rfl (hb hby at_380) rfl) ?_
    refine gx (XS.ifYes X779.here hx rfl (pc0 := 382) (pc' := 389) rfl (hb hby at_382) rfl ((if0 _ _).trans (teq (by decide : (0 : Int32) = (0 : Int32))).1) (by decide) (by decide)) ?_
    exact own_pt_own_rm0_369 l Z a0 hw ws x0 x1 x2 x3 aV kV a1 a2 a3 aE w1 w2 w3 v1 v2 v3 q1 q2 q3 cs fm h0 n0 Z0 hPm Bd hml0 hh  b1 k1 a674 ([(109 : Int32), (97 : Int32), (110 : Int32), (121 : Int32), (0 : Int32), (0 : Int32), (0 : Int32), (0 : Int32), (0 : Int32)] : List Int32) (4 : Int32) (.val (.int (x0 &&& (3 : Int32)))) (.val (.int ((x0.toUInt32 >>> ((2 : Int32) &&& 31).toUInt32).toInt32))) (.val (.int ((x2 &&& (255 : Int32)).toUInt32.toUInt16.toUInt32.toInt32))) (4 : Int32) (((x0.toUInt32 >>> ((2 : Int32) &&& 31).toUInt32).toInt32) &&& (3 : Int32)) T779 _ vmpt hZ hown T779.heap (own_wk X779 (by decide) (by decide)) rfl N779 Z779  _ hSpt hk782 R781 V779 O783 (own_aS (by unfold P8; decide) (own_aS (by unfold P8; decide) (own_aS (by unfold P8; decide) (own_aS (by unfold P8; decide) (own_aS (by unfold P8; decide) (own_aS (by unfold P8; decide) (own_aS (by unfold P8; decide) (own_aS (by unfold P8; decide) (own_aS (by unfold P8; decide) own_a0)))))))))
  · refine gx (XS.ifYes X779.here hx rfl (pc0 := 317) (pc' := 327) rfl (hb hby at_317) rfl ((if0 _ _).trans (feq hc789).2) (by decide) (by decide)) ?_
    refine gx (XS.iload X779.here hx rfl (hb hby at_327) rfl) ?_
    refine gx (XS.iconst X779.here hx rfl (hb hby at_329)) ?_
    by_cases hc791 : (((x0.toUInt32 >>> ((2 : Int32) &&& 31).toUInt32).toInt32) &&& (3 : Int32)) = (1 : Int32)
    · refine gx (XS.icmpNo X779.here hx rfl (hb hby at_330) rfl (teq hc791).2) ?_
      show Goes p.tables e below (T779.setTop (mkF m 333 #[.val (.int x0), .val (.int x1), .val (.int x2), .val (.long x3), .second, .val (.int (x0 &&& (3 : Int32))), .val (.int ((x0.toUInt32 >>> ((2 : Int32) &&& 31).toUInt32).toInt32)), .val (.int ((x2 &&& (255 : Int32)).toUInt32.toUInt16.toUInt32.toInt32)), .val (.ref b1), .unset, .val (.int (0 : Int32)), .val (.ref a674), .val (.int (4 : Int32)), .val (.int (((x0.toUInt32 >>> ((2 : Int32) &&& 31).toUInt32).toInt32) &&& (3 : Int32)))] [])) _
      refine gx (XS.aload X779.here hx rfl (hb hby at_333) rfl rfl) ?_
      refine gx (XS.iloadN X779.here hx rfl (hb hby at_335) rfl) ?_
      refine gx (X779.ldcInt hx hown (mvT hZ (own_hw hw 131 rfl)) (g := (mkF m 336 #[.val (.int x0), .val (.int x1), .val (.int x2), .val (.long x3), .second, .val (.int (x0 &&& (3 : Int32))), .val (.int ((x0.toUInt32 >>> ((2 : Int32) &&& 31).toUInt32).toInt32)), .val (.int ((x2 &&& (255 : Int32)).toUInt32.toUInt16.toUInt32.toInt32)), .val (.ref b1), .unset, .val (.int (0 : Int32)), .val (.ref a674), .val (.int (4 : Int32)), .val (.int (((x0.toUInt32 >>> ((2 : Int32) &&& 31).toUInt32).toInt32) &&& (3 : Int32)))] [(.int x1), (.ref b1)])) rfl (hb hby at_336) _) ?_
      refine gx (XS.iand X779.here hx rfl (hb hby at_338) rfl) ?_
      refine gx (XS.iload X779.here hx rfl (hb hby at_339) rfl) ?_
      refine gx (Jvm.RoadKit.iremM X779 hx rfl (hb hby at_341) rfl (by decide)) ?_
      refine gx (XS.iload X779.here hx rfl (hb hby at_342) rfl) ?_
      show Goes p.tables e below (T779.setTop (mkF m 344 #[.val (.int x0), .val (.int x1), .val (.int x2), .val (.long x3), .second, .val (.int (x0 &&& (3 : Int32))), .val (.int ((x0.toUInt32 >>> ((2 : Int32) &&& 31).toUInt32).toInt32)), .val (.int ((x2 &&& (255 : Int32)).toUInt32.toUInt16.toUInt32.toInt32)), .val (.ref b1), .unset, .val (.int (0 : Int32)), .val (.ref a674), .val (.int (4 : Int32)), .val (.int (((x0.toUInt32 >>> ((2 : Int32) &&& 31).toUInt32).toInt32) &&& (3 : Int32)))] [(.int ((x2 &&& (255 : Int32)).toUInt32.toUInt16.toUInt32.toInt32)), (.int ((x1 &&& (2147483647 : Int32)) % (4 : Int32))), (.ref b1)])) _
      obtain ⟨cl792, Ar792, q792, S792, N792, H792, G792⟩ := id V779
      have hin792 : ¬ (((x1 &&& (2147483647 : Int32)) % (4 : Int32)) < 0 ∨ cl792.slots.size ≤ (((x1 &&& (2147483647 : Int32)) % (4 : Int32))).toNatClampNeg) := by
        have k1 := rng32 x1
        have k2 : (x1 &&& (2147483647 : Int32)).toInt = x1.toInt % 2147483648 := c_mask x1 (2147483647 : Int32) 31 (by decide) (by decide)
        have k3 := c_irem (x1 &&& (2147483647 : Int32)) (4 : Int32) 4 rfl
        have k4 := rng32 ((x1 &&& (2147483647 : Int32)) % (4 : Int32))
        have k5 : (9 : Int32).toInt = 9 := rfl
        have k6 : (0 : Int32).toInt = 0 := rfl
        refine inb_of S792 ⟨fun hq => ?_, Int32.lt_iff_toInt_lt.mpr ?_⟩
        · have hq' := Int32.lt_iff_toInt_lt.mp hq
          omega
        · omega
      have hlt792 : (((x1 &&& (2147483647 : Int32)) % (4 : Int32))).toNatClampNeg < 9 := Nat.lt_of_lt_of_eq (Nat.lt_of_not_le fun y => hin792 (Or.inr y)) (by rw [S792]; rfl)
      obtain ⟨T793, h793, X793, e793, W793, st793⟩ := stC X779 hx hZ rfl Ar792 (j := ((x1 &&& (2147483647 : Int32)) % (4 : Int32))) hin792 (g := (mkF m 344 #[.val (.int x0), .val (.int x1), .val (.int x2), .val (.long x3), .second, .val (.int (x0 &&& (3 : Int32))), .val (.int ((x0.toUInt32 >>> ((2 : Int32) &&& 31).toUInt32).toInt32)), .val (.int ((x2 &&& (255 : Int32)).toUInt32.toUInt16.toUInt32.toInt32)), .val (.ref b1), .unset, .val (.int (0 : Int32)), .val (.ref a674), .val (.int (4 : Int32)), .val (.int (((x0.toUInt32 >>> ((2 : Int32) &&& 31).toUInt32).toInt32) &&& (3 : Int32)))] [(.int ((x2 &&& (255 : Int32)).toUInt32.toUInt16.toUInt32.toInt32)), (.int ((x1 &&& (2147483647 : Int32)) % (4 : Int32))), (.ref b1)])) rfl rfl (hb hby at_344)
      subst e793
      have R795 := R781.trans (CHr.wr W793 Sf780 R781.1)
      have hk796 := Nat.le_trans hk782 (Nat.le_of_eq W793.size.symm)
      have O797 := O783.wr W793 Pg776_17
      have N793 := Fr.snoc X793 N779 Pg776_17
      have Z793 : n0 ≤ T793.heap.size := Nat.le_trans Z779 (Nat.le_of_eq W793.size.symm)
      have V793 : Arv Z T793.heap b1 k1 .char (9 : Int32) ((([(109 : Int32), (97 : Int32), (110 : Int32), (121 : Int32), (0 : Int32), (0 : Int32), (0 : Int32), (0 : Int32), (0 : Int32)] : List Int32).set (((x1 &&& (2147483647 : Int32)) % (4 : Int32))).toNatClampNeg (nar .char ((x2 &&& (255 : Int32)).toUInt32.toUInt16.toUInt32.toInt32))).map Value.int) (.int (0 : Int32)) := by
        rw [List.map_set]
        exact Arv.set Ar792 q792 S792 N792 H792 G792 (fits_nar_char _) W793 _ rfl hlt792
      refine Goes.to st793 ?_
      refine gx (XS.iload X793.here hx rfl (hb hby at_345) rfl) ?_
      refine gx (XS.istore X793.here hx rfl (hb hby at_347) rfl (l' := #[.val (.int x0), .val (.int x1), .val (.int x2), .val (.long x3), .second, .val (.int (x0 &&& (3 : Int32))), .val (.int ((x0.toUInt32 >>> ((2 : Int32) &&& 31).toUInt32).toInt32)), .val (.int ((x2 &&& (255 : Int32)).toUInt32.toUInt16.toUInt32.toInt32)), .val (.ref b1), .val (.int (4 : Int32)), .val (.int (0 : Int32)), .val (.ref a674), .val (.int (4 : Int32)), .val (.int (((x0.toUInt32 >>> ((2 : Int32) &&& 31).toUInt32).toInt32) &&& (3 : Int32)))]) rfl) ?_
      refine gx (XS.goto X793.here hx rfl (pc0 := 349) (pc' := 380) rfl (hb hby at_349) (by decide) (by decide)) ?_
      refine gx (XS.iload X793.here hx rfl (hb hby at_380) rfl) ?_
      show Goes p.tables e below (T793.setTop (mkF m 382 #[.val (.int x0), .val (.int x1), .val (.int x2), .val (.long x3), .second, .val (.int (x0 &&& (3 : Int32))), .val (.int ((x0.toUInt32 >>> ((2 : Int32) &&& 31).toUInt32).toInt32)), .val (.int ((x2 &&& (255 : Int32)).toUInt32.toUInt16.toUInt32.toInt32)), .val (.ref b1), .val (.int (4 : Int32)), .val (.int (0 : Int32)), .val (.ref a674), .val (.int (4 : Int32)), .val (.int (((x0.toUInt32 >>> ((2 : Int32) &&& 31).toUInt32).toInt32) &&& (3 : Int32)))] [(.int (0 : Int32))])) _
      refine gx (XS.ifYes X793.here hx rfl (pc0 := 382) (pc' := 389) rfl (hb hby at_382) rfl ((if0 _ _).trans (teq (by decide : (0 : Int32) = (0 : Int32))).1) (by decide) (by decide)) ?_
      exact own_pt_own_rm0_369 l Z a0 hw ws x0 x1 x2 x3 aV kV a1 a2 a3 aE w1 w2 w3 v1 v2 v3 q1 q2 q3 cs fm h0 n0 Z0 hPm Bd hml0 hh  b1 k1 a674 (([(109 : Int32), (97 : Int32), (110 : Int32), (121 : Int32), (0 : Int32), (0 : Int32), (0 : Int32), (0 : Int32), (0 : Int32)] : List Int32).set (((x1 &&& (2147483647 : Int32)) % (4 : Int32))).toNatClampNeg (nar .char ((x2 &&& (255 : Int32)).toUInt32.toUInt16.toUInt32.toInt32))) (4 : Int32) (.val (.int (x0 &&& (3 : Int32)))) (.val (.int ((x0.toUInt32 >>> ((2 : Int32) &&& 31).toUInt32).toInt32))) (.val (.int ((x2 &&& (255 : Int32)).toUInt32.toUInt16.toUInt32.toInt32))) (4 : Int32) (((x0.toUInt32 >>> ((2 : Int32) &&& 31).toUInt32).toInt32) &&& (3 : Int32)) T793 _ vmpt hZ hown T793.heap (own_wk X793 (by decide) (by decide)) rfl N793 Z793  _ hSpt hk796 R795 V793 O797 (own_set8 (own_aS (by unfold P8; decide) (own_aS (by unfold P8; decide) (own_aS (by unfold P8; decide) (own_aS (by unfold P8; decide) (own_aS (by unfold P8; decide) (own_aS (by unfold P8; decide) (own_aS (by unfold P8; decide) (own_aS (by unfold P8; decide) (own_aS (by unfold P8; decide) own_a0))))))))) (own_p8nar (own_p8i2c (own_p8and _))))
    · refine gx (XS.icmpYes X779.here hx rfl (pc0 := 330) (pc' := 352) rfl (hb hby at_330) rfl (feq hc791).2 (by decide) (by decide)) ?_
      show Goes p.tables e below (T779.setTop (mkF m 352 #[.val (.int x0), .val (.int x1), .val (.int x2), .val (.long x3), .second, .val (.int (x0 &&& (3 : Int32))), .val (.int ((x0.toUInt32 >>> ((2 : Int32) &&& 31).toUInt32).toInt32)), .val (.int ((x2 &&& (255 : Int32)).toUInt32.toUInt16.toUInt32.toInt32)), .val (.ref b1), .unset, .val (.int (0 : Int32)), .val (.ref a674), .val (.int (4 : Int32)), .val (.int (((x0.toUInt32 >>> ((2 : Int32) &&& 31).toUInt32).toInt32) &&& (3 : Int32)))] [])) _
      refine gx (XS.iload X779.here hx rfl (hb hby at_352) rfl) ?_
      refine gx (XS.iconst X779.here hx rfl (hb hby at_354)) ?_
      by_cases hc804 : (((x0.toUInt32 >>> ((2 : Int32) &&& 31).toUInt32).toInt32) &&& (3 : Int32)) = (2 : Int32)
      · refine gx (XS.icmpNo X779.here hx rfl (hb hby at_355) rfl (teq hc804).2) ?_
        refine gx (XS.aload X779.here hx rfl (hb hby at_358) rfl rfl) ?_
        refine gx (XS.iload X779.here hx rfl (hb hby at_360) rfl) ?_
        show Goes p.tables e below (T779.setTop (mkF m 362 #[.val (.int x0), .val (.int x1), .val (.int x2), .val (.long x3), .second, .val (.int (x0 &&& (3 : Int32))), .val (.int ((x0.toUInt32 >>> ((2 : Int32) &&& 31).toUInt32).toInt32)), .val (.int ((x2 &&& (255 : Int32)).toUInt32.toUInt16.toUInt32.toInt32)), .val (.ref b1), .unset, .val (.int (0 : Int32)), .val (.ref a674), .val (.int (4 : Int32)), .val (.int (((x0.toUInt32 >>> ((2 : Int32) &&& 31).toUInt32).toInt32) &&& (3 : Int32)))] [(.int (4 : Int32)), (.ref b1)])) _
        refine gx (XS.iload X779.here hx rfl (hb hby at_362) rfl) ?_
        obtain ⟨cl805, Ar805, q805, S805, N805, H805, G805⟩ := id V779
        have hin805 : ¬ ((4 : Int32) < 0 ∨ cl805.slots.size ≤ ((4 : Int32)).toNatClampNeg) := inb_of S805 ⟨by decide, by decide⟩
        obtain ⟨T806, h806, X806, e806, W806, st806⟩ := stC X779 hx hZ rfl Ar805 (j := (4 : Int32)) hin805 (g := (mkF m 364 #[.val (.int x0), .val (.int x1), .val (.int x2), .val (.long x3), .second, .val (.int (x0 &&& (3 : Int32))), .val (.int ((x0.toUInt32 >>> ((2 : Int32) &&& 31).toUInt32).toInt32)), .val (.int ((x2 &&& (255 : Int32)).toUInt32.toUInt16.toUInt32.toInt32)), .val (.ref b1), .unset, .val (.int (0 : Int32)), .val (.ref a674), .val (.int (4 : Int32)), .val (.int (((x0.toUInt32 >>> ((2 : Int32) &&& 31).toUInt32).toInt32) &&& (3 : Int32)))] [(.int ((x2 &&& (255 : Int32)).toUInt32.toUInt16.toUInt32.toInt32)), (.int (4 : Int32)), (.ref b1)])) rfl rfl (hb hby at_364)
        subst e806
        have R808 := R781.trans (CHr.wr W806 Sf780 R781.1)
        have hk809 := Nat.le_trans hk782 (Nat.le_of_eq W806.size.symm)
        have O810 := O783.wr W806 Pg776_17
        have N806 := Fr.snoc X806 N779 Pg776_17
        have Z806 : n0 ≤ T806.heap.size := Nat.le_trans Z779 (Nat.le_of_eq W806.size.symm)
        have V806 : Arv Z T806.heap b1 k1 .char (9 : Int32) [(.int (109 : Int32)), (.int (97 : Int32)), (.int (110 : Int32)), (.int (121 : Int32)), (.int (nar .char ((x2 &&& (255 : Int32)).toUInt32.toUInt16.toUInt32.toInt32))), (.int (0 : Int32)), (.int (0 : Int32)), (.int (0 : Int32)), (.int (0 : Int32))] (.int (0 : Int32)) := Arv.set Ar805 q805 S805 N805 H805 G805 (fits_nar_char _) W806 4 rfl (Nat.le_of_ble_eq_true rfl)
        refine Goes.to st806 ?_
        refine gx (XS.iload X806.here hx rfl (hb hby at_365) rfl) ?_
        refine gx (XS.iconst X806.here hx rfl (hb hby at_367)) ?_
        refine gx (XS.iadd X806.here hx rfl (hb hby at_368) rfl) ?_
        refine gx (XS.istore X806.here hx rfl (hb hby at_369) rfl (l' := #[.val (.int x0), .val (.int x1), .val (.int x2), .val (.long x3), .second, .val (.int (x0 &&& (3 : Int32))), .val (.int ((x0.toUInt32 >>> ((2 : Int32) &&& 31).toUInt32).toInt32)), .val (.int ((x2 &&& (255 : Int32)).toUInt32.toUInt16.toUInt32.toInt32)), .val (.ref b1), .val (.int (5 : Int32)), .val (.int (0 : Int32)), .val (.ref a674), .val (.int (4 : Int32)), .val (.int (((x0.toUInt32 >>> ((2 : Int32) &&& 31).toUInt32).toInt32) &&& (3 : Int32)))]) rfl) ?_
        show Goes p.tables e below (T806.setTop (mkF m 371 #[.val (.int x0), .val (.int x1), .val (.int x2), .val (.long x3), .second, .val (.int (x0 &&& (3 : Int32))), .val (.int ((x0.toUInt32 >>> ((2 : Int32) &&& 31).toUInt32).toInt32)), .val (.int ((x2 &&& (255 : Int32)).toUInt32.toUInt16.toUInt32.toInt32)), .val (.ref b1), .val (.int (5 : Int32)), .val (.int (0 : Int32)), .val (.ref a674), .val (.int (4 : Int32)), .val (.int (((x0.toUInt32 >>> ((2 : Int32) &&& 31).toUInt32).toInt32) &&& (3 : Int32)))] [])) _
        refine gx (XS.goto X806.here hx rfl (pc0 := 371) (pc' := 380) rfl (hb hby at_371) (by decide) (by decide)) ?_
        refine gx (XS.iload X806.here hx rfl (hb hby at_380) rfl) ?_
        refine gx (XS.ifYes X806.here hx rfl (pc0 := 382) (pc' := 389) rfl (hb hby at_382) rfl ((if0 _ _).trans (teq (by decide : (0 : Int32) = (0 : Int32))).1) (by decide) (by decide)) ?_
        exact own_pt_own_rm0_369 l Z a0 hw ws x0 x1 x2 x3 aV kV a1 a2 a3 aE w1 w2 w3 v1 v2 v3 q1 q2 q3 cs fm h0 n0 Z0 hPm Bd hml0 hh  b1 k1 a674 ([(109 : Int32), (97 : Int32), (110 : Int32), (121 : Int32), (nar .char ((x2 &&& (255 : Int32)).toUInt32.toUInt16.toUInt32.toInt32)), (0 : Int32), (0 : Int32), (0 : Int32), (0 : Int32)] : List Int32) (5 : Int32) (.val (.int (x0 &&& (3 : Int32)))) (.val (.int ((x0.toUInt32 >>> ((2 : Int32) &&& 31).toUInt32).toInt32))) (.val (.int ((x2 &&& (255 : Int32)).toUInt32.toUInt16.toUInt32.toInt32))) (4 : Int32) (((x0.toUInt32 >>> ((2 : Int32) &&& 31).toUInt32).toInt32) &&& (3 : Int32)) T806 _ vmpt hZ hown T806.heap (own_wk X806 (by decide) (by decide)) rfl N806 Z806  _ hSpt hk809 R808 V806 O810 (own_aS (by unfold P8; decide) (own_aS (by unfold P8; decide) (own_aS (by unfold P8; decide) (own_aS (by unfold P8; decide) (own_aS (own_p8nar (own_p8i2c (own_p8and _))) (own_aS (by unfold P8; decide) (own_aS (by unfold P8; decide) (own_aS (by unfold P8; decide) (own_aS (by unfold P8; decide) own_a0)))))))))
      · refine gx (XS.icmpYes X779.here hx rfl (pc0 := 355) (pc' := 374) rfl (hb hby at_355) rfl (feq hc804).2 (by decide) (by decide)) ?_
        refine gx (XS.iload X779.here hx rfl (hb hby at_374) rfl) ?_
        refine gx (XS.iconst X779.here hx rfl (hb hby at_376)) ?_
        show Goes p.tables e below (T779.setTop (mkF m 377 #[.val (.int x0), .val (.int x1), .val (.int x2), .val (.long x3), .second, .val (.int (x0 &&& (3 : Int32))), .val (.int ((x0.toUInt32 >>> ((2 : Int32) &&& 31).toUInt32).toInt32)), .val (.int ((x2 &&& (255 : Int32)).toUInt32.toUInt16.toUInt32.toInt32)), .val (.ref b1), .unset, .val (.int (0 : Int32)), .val (.ref a674), .val (.int (4 : Int32)), .val (.int (((x0.toUInt32 >>> ((2 : Int32) &&& 31).toUInt32).toInt32) &&& (3 : Int32)))] [(.int (1 : Int32)), (.int (4 : Int32))])) _
        refine gx (XS.isub X779.here hx rfl (hb hby at_377) rfl) ?_
        refine gx (XS.istore X779.here hx rfl (hb hby at_378) rfl (l' := #[.val (.int x0), .val (.int x1), .val (.int x2), .val (.long x3), .second, .val (.int (x0 &&& (3 : Int32))), .val (.int ((x0.toUInt32 >>> ((2 : Int32) &&& 31).toUInt32).toInt32)), .val (.int ((x2 &&& (255 : Int32)).toUInt32.toUInt16.toUInt32.toInt32)), .val (.ref b1), .val (.int (3 : Int32)), .val (.int (0 : Int32)), .val (.ref a674), .val (.int (4 : Int32)), .val (.int (((x0.toUInt32 >>> ((2 : Int32) &&& 31).toUInt32).toInt32) &&& (3 : Int32)))]) rfl) ?_
        refine gx (XS.iload X779.here hx rfl (hb hby at_380) rfl) ?_
        refine gx (XS.ifYes X779.here hx rfl (pc0 := 382) (pc' := 389) rfl (hb hby at_382) rfl ((if0 _ _).trans (teq (by decide : (0 : Int32) = (0 : Int32))).1) (by decide) (by decide)) ?_
        exact own_pt_own_rm0_369 l Z a0 hw ws x0 x1 x2 x3 aV kV a1 a2 a3 aE w1 w2 w3 v1 v2 v3 q1 q2 q3 cs fm h0 n0 Z0 hPm Bd hml0 hh  b1 k1 a674 ([(109 : Int32), (97 : Int32), (110 : Int32), (121 : Int32), (0 : Int32), (0 : Int32), (0 : Int32), (0 : Int32), (0 : Int32)] : List Int32) (3 : Int32) (.val (.int (x0 &&& (3 : Int32)))) (.val (.int ((x0.toUInt32 >>> ((2 : Int32) &&& 31).toUInt32).toInt32))) (.val (.int ((x2 &&& (255 : Int32)).toUInt32.toUInt16.toUInt32.toInt32))) (4 : Int32) (((x0.toUInt32 >>> ((2 : Int32) &&& 31).toUInt32).toInt32) &&& (3 : Int32)) T779 _ vmpt hZ hown T779.heap (own_wk X779 (by decide) (by decide)) rfl N779 Z779  _ hSpt hk782 R781 V779 O783 (own_aS (by unfold P8; decide) (own_aS (by unfold P8; decide) (own_aS (by unfold P8; decide) (own_aS (by unfold P8; decide) (own_aS (by unfold P8; decide) (own_aS (by unfold P8; decide) (own_aS (by unfold P8; decide) (own_aS (by unfold P8; decide) (own_aS (by unfold P8; decide) own_a0)))))))))
set_option maxRecDepth 65536 in
set_option maxHeartbeats 40000000 in
theorem own_pt_own_rm0_691 (l : Launch) (Z : State) (a0 : Array Value) (hw : ∀ d ∈ tables_1, d.before a0 Z = true) (ws : List Jvm.Cond) (x0 : Int32) (x1 : Int32) (x2 : Int32) (x3 : Int64) (aV : Addr) (kV : ClassId) (a1 : Addr) (a2 : Addr) (a3 : Addr) (aE : Addr) (w1 : Addr) (w2 : Addr) (w3 : Addr) (v1 : Addr) (v2 : Addr) (v3 : Addr) (q1 : ClassId) (q2 : ClassId) (q3 : ClassId) (cs : Int32) (fm : Value) (h0 : Heap) (n0 : Nat) (Z0 : n0 ≤ h0.size) (hPm : own_P_own_rm0 Z a0 x0 x1 x2 x3 aV kV a1 a2 a3 aE w1 w2 w3 v1 v2 v3 q1 q2 q3 cs fm h0 n0)
    {p : Program} {e : Env} {s : State} {m : MethodId} {below : List Frame} {meth : Method} {c : Code} {s₁ : State} (Bd : BodyLoose p l x (head1 (Jvm.Cond.code x code maxLocals ret :: ws) room_1) code maxLocals ret e s m #[(.int x0), (.int x1), (.int x2), (.long x3)] below meth c s₁) (hml0 : c.maxLocals = maxLocals) (hh : s.heap = h0) 
    (b1 : Addr) (a674 : Addr) (b674 : Addr) (k674 : ClassId) (k1 : ClassId)
    (Tpt : State) (lpt : List Loc) (vmpt : Vm) (hZ : Z.Warmed39 vmpt) (hown : vmpt.findClass "com/example/polgen/polgen/model/MultiplicityNamedPinLaw" = some m.cls) (hpt : Heap)
    (Xpt : Stand p l e room_1 (s.setVm vmpt) m #[(.int x0), (.int x1), (.int x2), (.long x3)] below meth c Tpt lpt 3 29) (Ept : Tpt.heap = hpt) (Npt : Fr n0 lpt) (Zpt : n0 ≤ hpt.size) (kpt : Nat) (hSpt : s.Since vmpt kpt) (hkpt : kpt ≤ hpt.size) (Rpt : CHr Z own_EL s.vm h0 vmpt hpt)
    (Pf691_0 : Safe Z own_EL vmpt hpt b1)
    (Pf691_1 : Exa Z hpt a674 "java/lang/String")
    (Pf691_2 : Fld Z hpt a674 "java/lang/String" "coder" "B" (.int (0 : Int32)))
    (Pf691_3 : Fld Z hpt a674 "java/lang/String" "value" "[B" (.ref b674))
    (Pf691_4 : Arv Z hpt b674 k674 .byte (4 : Int32) [(.int (109 : Int32)), (.int (97 : Int32)), (.int (110 : Int32)), (.int (121 : Int32))] (.int (0 : Int32)))
    (Pf691_5 : Arv Z hpt b1 k1 .char (9 : Int32) [(.int (109 : Int32)), (.int (0 : Int32)), (.int (0 : Int32)), (.int (0 : Int32)), (.int (0 : Int32)), (.int (0 : Int32)), (.int (0 : Int32)), (.int (0 : Int32)), (.int (0 : Int32))] (.int (0 : Int32)))
    (Pg691_17 : n0 ≤ b1)
    (Pn691_18 : b1 ≠ a674)
    (Pn691_19 : b1 ≠ b674)
    (Old691 : Old Z n0 hpt)
    (Ph691_21 : ¬ ((x0 &&& (3 : Int32)) = (3 : Int32)))
    (Ph691_22 : ¬ ((x0 &&& (3 : Int32)) = (0 : Int32)))
    (Ph691_23 : ¬ ((x0 &&& (3 : Int32)) = (1 : Int32)))
    : Goes p.tables e below (Tpt.setTop (mkF m 228 #[.val (.int x0), .val (.int x1), .val (.int x2), .val (.long x3), .second, .val (.int (x0 &&& (3 : Int32))), .val (.int ((x0.toUInt32 >>> ((2 : Int32) &&& 31).toUInt32).toInt32)), .val (.int ((x2 &&& (255 : Int32)).toUInt32.toUInt16.toUInt32.toInt32)), .val (.ref b1), .unset, .val (.int (0 : Int32)), .val (.ref a674), .val (.int (4 : Int32)), .unset] [(.ref a674), (.int (1 : Int32)), (.ref b1)])) (own_RW below s (own_Q_own_rm0 Z x0 x1 x2 x3 aV kV a1 a2 a3 aE w1 w2 w3 v1 v2 v3 q1 q2 q3 cs fm h0 n0) 17 147) := by
  obtain ⟨O0, hCH0, S1, S2, S3, E1, E2, E3, SV, VV, EV, SE, EE, FE, Fw1, Ew1, Cw1, Vw1, Aw1, Fw2, Ew2, Cw2, Vw2, Aw2, Fw3, Ew3, Cw3, Vw3, Aw3, SC, hcs, SF, hfm⟩ := id hPm
  have hx := Bd.exec
  have hby := Bd.bytes
  have hml : c.maxLocals = 14 := hml0
  have hnm := (name_of_methodNamed Bd.named Bd.method).1
  have own_wS' : ∀ a ∈ Bundle.stringAtoms, a.before a0 Z = true := own_wS hw
  have hEL := own_EW hw
  refine gx (XS.iconst Xpt.here hx rfl (hb hby at_228)) ?_
  obtain ⟨_, _, ⟨T692, L692, k692, n692⟩, -, X692, ⟨Lc692, hQ692, l692, y692, z692⟩, st692⟩ := Jvm.LawKit.callS Xpt hx (y := own_n7) hown (mvT hZ (own_hw hw 22 rfl)) (mvT hZ (own_hw hw 23 rfl)) (mvT hZ (own_hw hw 24 rfl)) (mvT hZ (own_hw hw 25 rfl)) (by decide) (backOf (W := 2) (own_rm3 l Z a0 hw [] a674 (1 : Int32) b674 k674 (4 : Int32) [(.int (109 : Int32)), (.int (97 : Int32)), (.int (110 : Int32)), (.int (121 : Int32))] (97 : Int32) cs fm hpt n0 Zpt Pf691_1 Pf691_2 Pf691_3 Pf691_4 (SC.ext Old691.2) hcs (SF.ext Old691.2) hfm (by decide) (fun _ => rfl)) hZ (own_hw hw 25 rfl) (own_hw hw 24 rfl) (by decide) (by decide)) (g := (mkF m 229 #[.val (.int x0), .val (.int x1), .val (.int x2), .val (.long x3), .second, .val (.int (x0 &&& (3 : Int32))), .val (.int ((x0.toUInt32 >>> ((2 : Int32) &&& 31).toUInt32).toInt32)), .val (.int ((x2 &&& (255 : Int32)).toUInt32.toUInt16.toUInt32.toInt32)), .val (.ref b1), .unset, .val (.int (0 : Int32)), .val (.ref a674), .val (.int (4 : Int32)), .unset] [(.int (1 : Int32)), (.ref a674), (.int (1 : Int32)), (.ref b1)])) rfl (by rw [hml]; rfl) (argsL := [(.ref a674), (.int (1 : Int32))]) (rest := [(.int (1 : Int32)), (.ref b1)]) (lenOf own_pd_pLjavallanglStringsIqC rfl) rfl (own_W rfl rfl) (hb hby at_229) (fun _ _ => ⟨rfl, Ept, (by decide : 3 + 0 ≤ _), (by decide : 29 + 0 ≤ _)⟩)
  dsimp only [Pt.U, Pt.locs, Pt.cells, Pt.slots] at X692 l692 y692 z692 st692 hQ692
  subst l692 y692 z692
  obtain ⟨hv692, Nq692, hp692_0⟩ := hQ692
  have N692 := Fr.app Npt Nq692
  rw [show own_atc (1 : Int32) (4 : Int32) (97 : Int32) = (97 : Int32) from by decide] at hv692
  subst hv692
  refine Goes.to st692 ?_
  obtain ⟨cl693, Ar693, q693, S693, N693, H693, G693⟩ := id Pf691_5
  have hin693 : ¬ ((1 : Int32) < 0 ∨ cl693.slots.size ≤ ((1 : Int32)).toNatClampNeg) := inb_of S693 ⟨by decide, by decide⟩
  obtain ⟨T694, h694, X694, e694, W694, st694⟩ := stC X692 hx hZ hp692_0 Ar693 (j := (1 : Int32)) hin693 (g := (mkF m 232 #[.val (.int x0), .val (.int x1), .val (.int x2), .val (.long x3), .second, .val (.int (x0 &&& (3 : Int32))), .val (.int ((x0.toUInt32 >>> ((2 : Int32) &&& 31).toUInt32).toInt32)), .val (.int ((x2 &&& (255 : Int32)).toUInt32.toUInt16.toUInt32.toInt32)), .val (.ref b1), .unset, .val (.int (0 : Int32)), .val (.ref a674), .val (.int (4 : Int32)), .unset] [(.int (97 : Int32)), (.int (1 : Int32)), (.ref b1)])) rfl rfl (hb hby at_232)
  subst e694
  have Sf695 := Safe.wr W694 Pf691_0 Rpt.1 Pf691_0
  have R696 := Rpt.trans (CHr.wr W694 Pf691_0 Rpt.1)
  have hk697 := Nat.le_trans hkpt (Nat.le_of_eq W694.size.symm)
  have O698 := Old691.wr W694 Pg691_17
  have F699 := Pf691_1.wr W694
  have F700 := Pf691_2.other W694 (Or.inl (Ne.symm Pn691_18))
  have F701 := Pf691_3.other W694 (Or.inl (Ne.symm Pn691_18))
  have F702 := Pf691_4.other W694 (Ne.symm Pn691_19)
  have N694 := Fr.snoc X694 N692 Pg691_17
  have Z694 : n0 ≤ T694.heap.size := Nat.le_trans Zpt (Nat.le_of_eq W694.size.symm)
  have V694 : Arv Z T694.heap b1 k1 .char (9 : Int32) [(.int (109 : Int32)), (.int (97 : Int32)), (.int (0 : Int32)), (.int (0 : Int32)), (.int (0 : Int32)), (.int (0 : Int32)), (.int (0 : Int32)), (.int (0 : Int32)), (.int (0 : Int32))] (.int (0 : Int32)) := Arv.set Ar693 q693 S693 N693 H693 G693 (fits_nar_char _) W694 1 rfl (Nat.le_of_ble_eq_true rfl)
  refine Goes.to st694 ?_
  refine gx (XS.aload X694.here hx rfl (hb hby at_233) rfl rfl) ?_
  refine gx (XS.iconst X694.here hx rfl (hb hby at_235)) ?_
  refine gx (XS.aload X694.here hx rfl (hb hby at_236) rfl rfl) ?_
  refine gx (XS.iconst X694.here hx rfl (hb hby at_238)) ?_
  obtain ⟨_, _, ⟨T704, L704, k704, n704⟩, -, X704, ⟨Lc704, hQ704, l704, y704, z704⟩, st704⟩ := Jvm.LawKit.callS X694 hx (y := own_n7) hown (mvT hZ (own_hw hw 22 rfl)) (mvT hZ (own_hw hw 23 rfl)) (mvT hZ (own_hw hw 24 rfl)) (mvT hZ (own_hw hw 25 rfl)) (by decide) (backOf (W := 2) (own_rm3 l Z a0 hw [] a674 (2 : Int32) b674 k674 (4 : Int32) [(.int (109 : Int32)), (.int (97 : Int32)), (.int (110 : Int32)), (.int (121 : Int32))] (110 : Int32) cs fm T694.heap n0 Z694 F699 F700 F701 F702 (SC.ext O698.2) hcs (SF.ext O698.2) hfm (by decide) (fun _ => rfl)) hZ (own_hw hw 25 rfl) (own_hw hw 24 rfl) (by decide) (by decide)) (g := (mkF m 239 #[.val (.int x0), .val (.int x1), .val (.int x2), .val (.long x3), .second, .val (.int (x0 &&& (3 : Int32))), .val (.int ((x0.toUInt32 >>> ((2 : Int32) &&& 31).toUInt32).toInt32)), .val (.int ((x2 &&& (255 : Int32)).toUInt32.toUInt16.toUInt32.toInt32)), .val (.ref b1), .unset, .val (.int (0 : Int32)), .val (.ref a674), .val (.int (4 : Int32)), .unset] [(.int (2 : Int32)), (.ref a674), (.int (2 : Int32)), (.ref b1)])) rfl (by rw [hml]; rfl) (argsL := [(.ref a674), (.int (2 : Int32))]) (rest := [(.int (2 : Int32)), (.ref b1)]) (lenOf own_pd_pLjavallanglStringsIqC rfl) rfl (own_W rfl rfl) (hb hby at_239) (fun _ _ => ⟨rfl, rfl, (by decide : 3 + 0 ≤ _), (by decide : 29 + 0 ≤ _)⟩)
  dsimp only [Pt.U, Pt.locs, Pt.cells, Pt.slots] at X704 l704 y704 z704 st704 hQ704
  subst l704 y704 z704
  obtain ⟨hv704, Nq704, hp704_0⟩ := hQ704
  have N704 := Fr.app N694 Nq704
  rw [show own_atc (2 : Int32) (4 : Int32) (110 : Int32) = (110 : Int32) from by decide] at hv704
  subst hv704
  refine Goes.to st704 ?_
  obtain ⟨cl705, Ar705, q705, S705, N705, H705, G705⟩ := id V694
  have hin705 : ¬ ((2 : Int32) < 0 ∨ cl705.slots.size ≤ ((2 : Int32)).toNatClampNeg) := inb_of S705 ⟨by decide, by decide⟩
  obtain ⟨T706, h706, X706, e706, W706, st706⟩ := stC X704 hx hZ hp704_0 Ar705 (j := (2 : Int32)) hin705 (g := (mkF m 242 #[.val (.int x0), .val (.int x1), .val (.int x2), .val (.long x3), .second, .val (.int (x0 &&& (3 : Int32))), .val (.int ((x0.toUInt32 >>> ((2 : Int32) &&& 31).toUInt32).toInt32)), .val (.int ((x2 &&& (255 : Int32)).toUInt32.toUInt16.toUInt32.toInt32)), .val (.ref b1), .unset, .val (.int (0 : Int32)), .val (.ref a674), .val (.int (4 : Int32)), .unset] [(.int (110 : Int32)), (.int (2 : Int32)), (.ref b1)])) rfl rfl (hb hby at_242)
  subst e706
  have Sf707 := Safe.wr W706 Sf695 R696.1 Sf695
  have R708 := R696.trans (CHr.wr W706 Sf695 R696.1)
  have hk709 := Nat.le_trans hk697 (Nat.le_of_eq W706.size.symm)
  have O710 := O698.wr W706 Pg691_17
  have F711 := F699.wr W706
  have F712 := F700.other W706 (Or.inl (Ne.symm Pn691_18))
  have F713 := F701.other W706 (Or.inl (Ne.symm Pn691_18))
  have F714 := F702.other W706 (Ne.symm Pn691_19)
  have N706 := Fr.snoc X706 N704 Pg691_17
  have Z706 : n0 ≤ T706.heap.size := Nat.le_trans Z694 (Nat.le_of_eq W706.size.symm)
  have V706 : Arv Z T706.heap b1 k1 .char (9 : Int32) [(.int (109 : Int32)), (.int (97 : Int32)), (.int (110 : Int32)), (.int (0 : Int32)), (.int (0 : Int32)), (.int (0 : Int32)), (.int (0 : Int32)), (.int (0 : Int32)), (.int (0 : Int32))] (.int (0 : Int32)) := Arv.set Ar705 q705 S705 N705 H705 G705 (fits_nar_char _) W706 2 rfl (Nat.le_of_ble_eq_true rfl)
  refine Goes.to st706 ?_
  refine gx (XS.aload X706.here hx rfl (hb hby at_243) rfl rfl) ?_
  refine gx (XS.iconst X706.here hx rfl (hb hby at_245)) ?_
  refine gx (XS.aload X706.here hx rfl (hb hby at_246) rfl rfl) ?_
  refine gx (XS.iconst X706.here hx rfl (hb hby at_248)) ?_
  obtain ⟨_, _, ⟨T716, L716, k716, n716⟩, -, X716, ⟨Lc716, hQ716, l716, y716, z716⟩, st716⟩ := Jvm.LawKit.callS X706 hx (y := own_n7) hown (mvT hZ (own_hw hw 22 rfl)) (mvT hZ (own_hw hw 23 rfl)) (mvT hZ (own_hw hw 24 rfl)) (mvT hZ (own_hw hw 25 rfl)) (by decide) (backOf (W := 2) (own_rm3 l Z a0 hw [] a674 (3 : Int32) b674 k674 (4 : Int32) [(.int (109 : Int32)), (.int (97 : Int32)), (.int (110 : Int32)), (.int (121 : Int32))] (121 : Int32) cs fm T706.heap n0 Z706 F711 F712 F713 F714 (SC.ext O710.2) hcs (SF.ext O710.2) hfm (by decide) (fun _ => rfl)) hZ (own_hw hw 25 rfl) (own_hw hw 24 rfl) (by decide) (by decide)) (g := (mkF m 249 #[.val (.int x0), .val (.int x1), .val (.int x2), .val (.long x3), .second, .val (.int (x0 &&& (3 : Int32))), .val (.int ((x0.toUInt32 >>> ((2 : Int32) &&& 31).toUInt32).toInt32)), .val (.int ((x2 &&& (255 : Int32)).toUInt32.toUInt16.toUInt32.toInt32)), .val (.ref b1), .unset, .val (.int (0 : Int32)), .val (.ref a674), .val (.int (4 : Int32)), .unset] [(.int (3 : Int32)), (.ref a674), (.int (3 : Int32)), (.ref b1)])) rfl (by rw [hml]; rfl) (argsL := [(.ref a674), (.int (3 : Int32))]) (rest := [(.int (3 : Int32)), (.ref b1)]) (lenOf own_pd_pLjavallanglStringsIqC rfl) rfl (own_W rfl rfl) (hb hby at_249) (fun _ _ => ⟨rfl, rfl, (by decide : 3 + 0 ≤ _), (by decide : 29 + 0 ≤ _)⟩)
  dsimp only [Pt.U, Pt.locs, Pt.cells, Pt.slots] at X716 l716 y716 z716 st716 hQ716
  subst l716 y716 z716
  obtain ⟨hv716, Nq716, hp716_0⟩ := hQ716
  have N716 := Fr.app N706 Nq716
  rw [show own_atc (3 : Int32) (4 : Int32) (121 : Int32) = (121 : Int32) from by decide] at hv716
  subst hv716
  refine Goes.to st716 ?_
  obtain ⟨cl717, Ar717, q717, S717, N717, H717, G717⟩ := id V706
  have hin717 : ¬ ((3 : Int32) < 0 ∨ cl717.slots.size ≤ ((3 : Int32)).toNatClampNeg) := inb_of S717 ⟨by decide, by decide⟩
  obtain ⟨T718, h718, X718, e718, W718, st718⟩ := stC X716 hx hZ hp716_0 Ar717 (j := (3 : Int32)) hin717 (g := (mkF m 252 #[.val (.int x0), .val (.int x1), .val (.int x2), .val (.long x3), .second, .val (.int (x0 &&& (3 : Int32))), .val (.int ((x0.toUInt32 >>> ((2 : Int32) &&& 31).toUInt32).toInt32)), .val (.int ((x2 &&& (255 : Int32)).toUInt32.toUInt16.toUInt32.toInt32)), .val (.ref b1), .unset, .val (.int (0 : Int32)), .val (.ref a674), .val (.int (4 : Int32)), .unset] [(.int (121 : Int32)), (.int (3 : Int32)), (.ref b1)])) rfl rfl (hb hby at_252)
  subst e718
  have Sf719 := Safe.wr W718 Sf707 R708.1 Sf707
  have R720 := R708.trans (CHr.wr W718 Sf707 R708.1)
  have hk721 := Nat.le_trans hk709 (Nat.le_of_eq W718.size.symm)
  have O722 := O710.wr W718 Pg691_17
  have F723 := F711.wr W718
  have F724 := F712.other W718 (Or.inl (Ne.symm Pn691_18))
  have F725 := F713.other W718 (Or.inl (Ne.symm Pn691_18))
  have F726 := F714.other W718 (Ne.symm Pn691_19)
  have N718 := Fr.snoc X718 N716 Pg691_17
  have Z718 : n0 ≤ T718.heap.size := Nat.le_trans Z706 (Nat.le_of_eq W718.size.symm)
  have V718 : Arv Z T718.heap b1 k1 .char (9 : Int32) [(.int (109 : Int32)), (.int (97 : Int32)), (.int (110 : Int32)), (.int (121 : Int32)), (.int (0 : Int32)), (.int (0 : Int32)), (.int (0 : Int32)), (.int (0 : Int32)), (.int (0 : Int32))] (.int (0 : Int32)) := Arv.set Ar717 q717 S717 N717 H717 G717 (fits_nar_char _) W718 3 rfl (Nat.le_of_ble_eq_true rfl)
  refine Goes.to st718 ?_
  refine gx (XS.aload X718.here hx rfl (hb hby at_253) rfl rfl) ?_
  refine gx (XS.iconst X718.here hx rfl (hb hby at_255)) ?_
  refine gx (XS.aload X718.here hx rfl (hb hby at_256) rfl rfl) ?_
  refine gx (XS.iconst X718.here hx rfl (hb hby at_258)) ?_
  obtain ⟨_, _, ⟨T728, L728, k728, n728⟩, -, X728, ⟨Lc728, hQ728, l728, y728, z728⟩, st728⟩ := Jvm.LawKit.callS X718 hx (y := own_n7) hown (mvT hZ (own_hw hw 22 rfl)) (mvT hZ (own_hw hw 23 rfl)) (mvT hZ (own_hw hw 24 rfl)) (mvT hZ (own_hw hw 25 rfl)) (by decide) (backOf (W := 2) (own_rm3 l Z a0 hw [] a674 (4 : Int32) b674 k674 (4 : Int32) [(.int (109 : Int32)), (.int (97 : Int32)), (.int (110 : Int32)), (.int (121 : Int32))] (0 : Int32) cs fm T718.heap n0 Z718 F723 F724 F725 F726 (SC.ext O722.2) hcs (SF.ext O722.2) hfm (by decide) (fun q => absurd q (by decide))) hZ (own_hw hw 25 rfl) (own_hw hw 24 rfl) (by decide) (by decide)) (g := (mkF m 259 #[.val (.int x0), .val (.int x1), .val (.int x2), .val (.long x3), .second, .val (.int (x0 &&& (3 : Int32))), .val (.int ((x0.toUInt32 >>> ((2 : Int32) &&& 31).toUInt32).toInt32)), .val (.int ((x2 &&& (255 : Int32)).toUInt32.toUInt16.toUInt32.toInt32)), .val (.ref b1), .unset, .val (.int (0 : Int32)), .val (.ref a674), .val (.int (4 : Int32)), .unset] [(.int (4 : Int32)), (.ref a674), (.int (4 : Int32)), (.ref b1)])) rfl (by rw [hml]; rfl) (argsL := [(.ref a674), (.int (4 : Int32))]) (rest := [(.int (4 : Int32)), (.ref b1)]) (lenOf own_pd_pLjavallanglStringsIqC rfl) rfl (own_W rfl rfl) (hb hby at_259) (fun _ _ => ⟨rfl, rfl, (by decide : 3 + 0 ≤ _), (by decide : 29 + 0 ≤ _)⟩)
  dsimp only [Pt.U, Pt.locs, Pt.cells, Pt.slots] at X728 l728 y728 z728 st728 hQ728
  subst l728 y728 z728
  obtain ⟨hv728, Nq728, hp728_0⟩ := hQ728
  have N728 := Fr.app N718 Nq728
  rw [show own_atc (4 : Int32) (4 : Int32) (0 : Int32) = (0 : Int32) from by decide] at hv728
  subst hv728
  refine Goes.to st728 ?_
  obtain ⟨cl729, Ar729, q729, S729, N729, H729, G729⟩ := id V718
  have hin729 : ¬ ((4 : Int32) < 0 ∨ cl729.slots.size ≤ ((4 : Int32)).toNatClampNeg) := inb_of S729 ⟨by decide, by decide⟩
  obtain ⟨T730, h730, X730, e730, W730, st730⟩ := stC X728 hx hZ hp728_0 Ar729 (j := (4 : Int32)) hin729 (g := (mkF m 262 #[.val (.int x0), .val (.int x1), .val (.int x2), .val (.long x3), .second, .val (.int (x0 &&& (3 : Int32))), .val (.int ((x0.toUInt32 >>> ((2 : Int32) &&& 31).toUInt32).toInt32)), .val (.int ((x2 &&& (255 : Int32)).toUInt32.toUInt16.toUInt32.toInt32)), .val (.ref b1), .unset, .val (.int (0 : Int32)), .val (.ref a674), .val (.int (4 : Int32)), .unset] [(.int (0 : Int32)), (.int (4 : Int32)), (.ref b1)])) rfl rfl (hb hby at_262)
  subst e730
  have Sf731 := Safe.wr W730 Sf719 R720.1 Sf719
  have R732 := R720.trans (CHr.wr W730 Sf719 R720.1)
  have hk733 := Nat.le_trans hk721 (Nat.le_of_eq W730.size.symm)
  have O734 := O722.wr W730 Pg691_17
  have F735 := F723.wr W730
  have F736 := F724.other W730 (Or.inl (Ne.symm Pn691_18))
  have F737 := F725.other W730 (Or.inl (Ne.symm Pn691_18))
  have F738 := F726.other W730 (Ne.symm Pn691_19)
  have N730 := Fr.snoc X730 N728 Pg691_17
  have Z730 : n0 ≤ T730.heap.size := Nat.le_trans Z718 (Nat.le_of_eq W730.size.symm)
  have V730 : Arv Z T730.heap b1 k1 .char (9 : Int32) [(.int (109 : Int32)), (.int (97 : Int32)), (.int (110 : Int32)), (.int (121 : Int32)), (.int (0 : Int32)), (.int (0 : Int32)), (.int (0 : Int32)), (.int (0 : Int32)), (.int (0 : Int32))] (.int (0 : Int32)) := Arv.set Ar729 q729 S729 N729 H729 G729 (fits_nar_char _) W730 4 rfl (Nat.le_of_ble_eq_true rfl)
  refine Goes.to st730 ?_
  refine gx (XS.aload X730.here hx rfl (hb hby at_263) rfl rfl) ?_
  refine gx (XS.iconst X730.here hx rfl (hb hby at_265)) ?_
  refine gx (XS.aload X730.here hx rfl (hb hby at_266) rfl rfl) ?_
  refine gx (XS.iconst X730.here hx rfl (hb hby at_268)) ?_
  obtain ⟨_, _, ⟨T740, L740, k740, n740⟩, -, X740, ⟨Lc740, hQ740, l740, y740, z740⟩, st740⟩ := Jvm.LawKit.callS X730 hx (y := own_n7) hown (mvT hZ (own_hw hw 22 rfl)) (mvT hZ (own_hw hw 23 rfl)) (mvT hZ (own_hw hw 24 rfl)) (mvT hZ (own_hw hw 25 rfl)) (by decide) (backOf (W := 2) (own_rm3 l Z a0 hw [] a674 (5 : Int32) b674 k674 (4 : Int32) [(.int (109 : Int32)), (.int (97 : Int32)), (.int (110 : Int32)), (.int (121 : Int32))] (0 : Int32) cs fm T730.heap n0 Z730 F735 F736 F737 F738 (SC.ext O734.2) hcs (SF.ext O734.2) hfm (by decide) (fun q => absurd q (by decide))) hZ (own_hw hw 25 rfl) (own_hw hw 24 rfl) (by decide) (by decide)) (g := (mkF m 269 #[.val (.int x0), .val (.int x1), .val (.int x2), .val (.long x3), .second, .val (.int (x0 &&& (3 : Int32))), .val (.int ((x0.toUInt32 >>> ((2 : Int32) &&& 31).toUInt32).toInt32)), .val (.int ((x2 &&& (255 : Int32)).toUInt32.toUInt16.toUInt32.toInt32)), .val (.ref b1), .unset, .val (.int (0 : Int32)), .val (.ref a674), .val (.int (4 : Int32)), .unset] [(.int (5 : Int32)), (.ref a674), (.int (5 : Int32)), (.ref b1)])) rfl (by rw [hml]; rfl) (argsL := [(.ref a674), (.int (5 : Int32))]) (rest := [(.int (5 : Int32)), (.ref b1)]) (lenOf own_pd_pLjavallanglStringsIqC rfl) rfl (own_W rfl rfl) (hb hby at_269) (fun _ _ => ⟨rfl, rfl, (by decide : 3 + 0 ≤ _), (by decide : 29 + 0 ≤ _)⟩)
  dsimp only [Pt.U, Pt.locs, Pt.cells, Pt.slots] at X740 l740 y740 z740 st740 hQ740
  subst l740 y740 z740
  obtain ⟨hv740, Nq740, hp740_0⟩ := hQ740
  have N740 := Fr.app N730 Nq740
  rw [show own_atc (5 : Int32) (4 : Int32) (0 : Int32) = (0 : Int32) from by decide] at hv740
  subst hv740
  refine Goes.to st740 ?_
  obtain ⟨cl741, Ar741, q741, S741, N741, H741, G741⟩ := id V730
  have hin741 : ¬ ((5 : Int32) < 0 ∨ cl741.slots.size ≤ ((5 : Int32)).toNatClampNeg) := inb_of S741 ⟨by decide, by decide⟩
  obtain ⟨T742, h742, X742, e742, W742, st742⟩ := stC X740 hx hZ hp740_0 Ar741 (j := (5 : Int32)) hin741 (g := (mkF m 272 #[.val (.int x0), .val (.int x1), .val (.int x2), .val (.long x3), .second, .val (.int (x0 &&& (3 : Int32))), .val (.int ((x0.toUInt32 >>> ((2 : Int32) &&& 31).toUInt32).toInt32)), .val (.int ((x2 &&& (255 : Int32)).toUInt32.toUInt16.toUInt32.toInt32)), .val (.ref b1), .unset, .val (.int (0 : Int32)), .val (.ref a674), .val (.int (4 : Int32)), .unset] [(.int (0 : Int32)), (.int (5 : Int32)), (.ref b1)])) rfl rfl (hb hby at_272)
  subst e742
  have Sf743 := Safe.wr W742 Sf731 R732.1 Sf731
  have R744 := R732.trans (CHr.wr W742 Sf731 R732.1)
  have hk745 := Nat.le_trans hk733 (Nat.le_of_eq W742.size.symm)
  have O746 := O734.wr W742 Pg691_17
  have F747 := F735.wr W742
  have F748 := F736.other W742 (Or.inl (Ne.symm Pn691_18))
  have F749 := F737.other W742 (Or.inl (Ne.symm Pn691_18))
  have F750 := F738.other W742 (Ne.symm Pn691_19)
  have N742 := Fr.snoc X742 N740 Pg691_17
  have Z742 : n0 ≤ T742.heap.size := Nat.le_trans Z730 (Nat.le_of_eq W742.size.symm)
  have V742 : Arv Z T742.heap b1 k1 .char (9 : Int32) [(.int (109 : Int32)), (.int (97 : Int32)), (.int (110 : Int32)), (.int (121 : Int32)), (.int (0 : Int32)), (.int (0 : Int32)), (.int (0 : Int32)), (.int (0 : Int32)), (.int (0 : Int32))] (.int (0 : Int32)) := Arv.set Ar741 q741 S741 N741 H741 G741 (fits_nar_char _) W742 5 rfl (Nat.le_of_ble_eq_true rfl)
  refine Goes.to st742 ?_
  refine gx (XS.aload X742.here hx rfl (hb hby at_273) rfl rfl) ?_
  refine gx (XS.bipush X742.here hx rfl (hb hby at_275)) ?_
  refine gx (XS.aload X742.here hx rfl (hb hby at_277) rfl rfl) ?_
  refine gx (XS.bipush X742.here hx rfl (hb hby at_279)) ?_
  obtain ⟨_, _, ⟨T752, L752, k752, n752⟩, -, X752, ⟨Lc752, hQ752, l752, y752, z752⟩, st752⟩ := Jvm.LawKit.callS X742 hx (y := own_n7) hown (mvT hZ (own_hw hw 22 rfl)) (mvT hZ (own_hw hw 23 rfl)) (mvT hZ (own_hw hw 24 rfl)) (mvT hZ (own_hw hw 25 rfl)) (by decide) (backOf (W := 2) (own_rm3 l Z a0 hw [] a674 (6 : Int32) b674 k674 (4 : Int32) [(.int (109 : Int32)), (.int (97 : Int32)), (.int (110 : Int32)), (.int (121 : Int32))] (0 : Int32) cs fm T742.heap n0 Z742 F747 F748 F749 F750 (SC.ext O746.2) hcs (SF.ext O746.2) hfm (by decide) (fun q => absurd q (by decide))) hZ (own_hw hw 25 rfl) (own_hw hw 24 rfl) (by decide) (by decide)) (g := (mkF m 281 #[.val (.int x0), .val (.int x1), .val (.int x2), .val (.long x3), .second, .val (.int (x0 &&& (3 : Int32))), .val (.int ((x0.toUInt32 >>> ((2 : Int32) &&& 31).toUInt32).toInt32)), .val (.int ((x2 &&& (255 : Int32)).toUInt32.toUInt16.toUInt32.toInt32)), .val (.ref b1), .unset, .val (.int (0 : Int32)), .val (.ref a674), .val (.int (4 : Int32)), .unset] [(.int (6 : Int32)), (.ref a674), (.int (6 : Int32)), (.ref b1)])) rfl (by rw [hml]; rfl) (argsL := [(.ref a674), (.int (6 : Int32))]) (rest := [(.int (6 : Int32)), (.ref b1)]) (lenOf own_pd_pLjavallanglStringsIqC rfl) rfl (own_W rfl rfl) (hb hby at_281) (fun _ _ => ⟨rfl, rfl, (by decide : 3 + 0 ≤ _), (by decide : 29 + 0 ≤ _)⟩)
  dsimp only [Pt.U, Pt.locs, Pt.cells, Pt.slots] at X752 l752 y752 z752 st752 hQ752
  subst l752 y752 z752
  obtain ⟨hv752, Nq752, hp752_0⟩ := hQ752
  have N752 := Fr.app N742 Nq752
  rw [show own_atc (6 : Int32) (4 : Int32) (0 : Int32) = (0 : Int32) from by decide] at hv752
  subst hv752
  refine Goes.to st752 ?_
  obtain ⟨cl753, Ar753, q753, S753, N753, H753, G753⟩ := id V742
  have hin753 : ¬ ((6 : Int32) < 0 ∨ cl753.slots.size ≤ ((6 : Int32)).toNatClampNeg) := inb_of S753 ⟨by decide, by decide⟩
  obtain ⟨T754, h754, X754, e754, W754, st754⟩ := stC X752 hx hZ hp752_0 Ar753 (j := (6 : Int32)) hin753 (g := (mkF m 284 #[.val (.int x0), .val (.int x1), .val (.int x2), .val (.long x3), .second, .val (.int (x0 &&& (3 : Int32))), .val (.int ((x0.toUInt32 >>> ((2 : Int32) &&& 31).toUInt32).toInt32)), .val (.int ((x2 &&& (255 : Int32)).toUInt32.toUInt16.toUInt32.toInt32)), .val (.ref b1), .unset, .val (.int (0 : Int32)), .val (.ref a674), .val (.int (4 : Int32)), .unset] [(.int (0 : Int32)), (.int (6 : Int32)), (.ref b1)])) rfl rfl (hb hby at_284)
  subst e754
  have Sf755 := Safe.wr W754 Sf743 R744.1 Sf743
  have R756 := R744.trans (CHr.wr W754 Sf743 R744.1)
  have hk757 := Nat.le_trans hk745 (Nat.le_of_eq W754.size.symm)
  have O758 := O746.wr W754 Pg691_17
  have F759 := F747.wr W754
  have F760 := F748.other W754 (Or.inl (Ne.symm Pn691_18))
  have F761 := F749.other W754 (Or.inl (Ne.symm Pn691_18))
  have F762 := F750.other W754 (Ne.symm Pn691_19)
  have N754 := Fr.snoc X754 N752 Pg691_17
  have Z754 : n0 ≤ T754.heap.size := Nat.le_trans Z742 (Nat.le_of_eq W754.size.symm)
  have V754 : Arv Z T754.heap b1 k1 .char (9 : Int32) [(.int (109 : Int32)), (.int (97 : Int32)), (.int (110 : Int32)), (.int (121 : Int32)), (.int (0 : Int32)), (.int (0 : Int32)), (.int (0 : Int32)), (.int (0 : Int32)), (.int (0 : Int32))] (.int (0 : Int32)) := Arv.set Ar753 q753 S753 N753 H753 G753 (fits_nar_char _) W754 6 rfl (Nat.le_of_ble_eq_true rfl)
  refine Goes.to st754 ?_
  refine gx (XS.aload X754.here hx rfl (hb hby at_285) rfl rfl) ?_
  refine gx (XS.bipush X754.here hx rfl (hb hby at_287)) ?_
  refine gx (XS.aload X754.here hx rfl (hb hby at_289) rfl rfl) ?_
  refine gx (XS.bipush X754.here hx rfl (hb hby at_291)) ?_
  obtain ⟨_, _, ⟨T764, L764, k764, n764⟩, -, X764, ⟨Lc764, hQ764, l764, y764, z764⟩, st764⟩ := Jvm.LawKit.callS X754 hx (y := own_n7) hown (mvT hZ (own_hw hw 22 rfl)) (mvT hZ (own_hw hw 23 rfl)) (mvT hZ (own_hw hw 24 rfl)) (mvT hZ (own_hw hw 25 rfl)) (by decide) (backOf (W := 2) (own_rm3 l Z a0 hw [] a674 (7 : Int32) b674 k674 (4 : Int32) [(.int (109 : Int32)), (.int (97 : Int32)), (.int (110 : Int32)), (.int (121 : Int32))] (0 : Int32) cs fm T754.heap n0 Z754 F759 F760 F761 F762 (SC.ext O758.2) hcs (SF.ext O758.2) hfm (by decide) (fun q => absurd q (by decide))) hZ (own_hw hw 25 rfl) (own_hw hw 24 rfl) (by decide) (by decide)) (g := (mkF m 293 #[.val (.int x0), .val (.int x1), .val (.int x2), .val (.long x3), .second, .val (.int (x0 &&& (3 : Int32))), .val (.int ((x0.toUInt32 >>> ((2 : Int32) &&& 31).toUInt32).toInt32)), .val (.int ((x2 &&& (255 : Int32)).toUInt32.toUInt16.toUInt32.toInt32)), .val (.ref b1), .unset, .val (.int (0 : Int32)), .val (.ref a674), .val (.int (4 : Int32)), .unset] [(.int (7 : Int32)), (.ref a674), (.int (7 : Int32)), (.ref b1)])) rfl (by rw [hml]; rfl) (argsL := [(.ref a674), (.int (7 : Int32))]) (rest := [(.int (7 : Int32)), (.ref b1)]) (lenOf own_pd_pLjavallanglStringsIqC rfl) rfl (own_W rfl rfl) (hb hby at_293) (fun _ _ => ⟨rfl, rfl, (by decide : 3 + 0 ≤ _), (by decide : 29 + 0 ≤ _)⟩)
  dsimp only [Pt.U, Pt.locs, Pt.cells, Pt.slots] at X764 l764 y764 z764 st764 hQ764
  subst l764 y764 z764
  obtain ⟨hv764, Nq764, hp764_0⟩ := hQ764
  have N764 := Fr.app N754 Nq764
  rw [show own_atc (7 : Int32) (4 : Int32) (0 : Int32) = (0 : Int32) from by decide] at hv764
  subst hv764
  refine Goes.to st764 ?_
  obtain ⟨cl765, Ar765, q765, S765, N765, H765, G765⟩ := id V754
  have hin765 : ¬ ((7 : Int32) < 0 ∨ cl765.slots.size ≤ ((7 : Int32)).toNatClampNeg) := inb_of S765 ⟨by decide, by decide⟩
  obtain ⟨T766, h766, X766, e766, W766, st766⟩ := stC X764 hx hZ hp764_0 Ar765 (j := (7 : Int32)) hin765 (g := (mkF m 296 #[.val (.int x0), .val (.int x1), .val (.int x2), .val (.long x3), .second, .val (.int (x0 &&& (3 : Int32))), .val (.int ((x0.toUInt32 >>> ((2 : Int32) &&& 31).toUInt32).toInt32)), .val (.int ((x2 &&& (255 : Int32)).toUInt32.toUInt16.toUInt32.toInt32)), .val (.ref b1), .unset, .val (.int (0 : Int32)), .val (.ref a674), .val (.int (4 : Int32)), .unset] [(.int (0 : Int32)), (.int (7 : Int32)), (.ref b1)])) rfl rfl (hb hby at_296)
  subst e766
  have Sf767 := Safe.wr W766 Sf755 R756.1 Sf755
  have R768 := R756.trans (CHr.wr W766 Sf755 R756.1)
  have hk769 := Nat.le_trans hk757 (Nat.le_of_eq W766.size.symm)
  have O770 := O758.wr W766 Pg691_17
  have F771 := F759.wr W766
  have F772 := F760.other W766 (Or.inl (Ne.symm Pn691_18))
  have F773 := F761.other W766 (Or.inl (Ne.symm Pn691_18))
  have F774 := F762.other W766 (Ne.symm Pn691_19)
  have N766 := Fr.snoc X766 N764 Pg691_17
  have Z766 : n0 ≤ T766.heap.size := Nat.le_trans Z754 (Nat.le_of_eq W766.size.symm)
  have V766 : Arv Z T766.heap b1 k1 .char (9 : Int32) [(.int (109 : Int32)), (.int (97 : Int32)), (.int (110 : Int32)), (.int (121 : Int32)), (.int (0 : Int32)), (.int (0 : Int32)), (.int (0 : Int32)), (.int (0 : Int32)), (.int (0 : Int32))] (.int (0 : Int32)) := Arv.set Ar765 q765 S765 N765 H765 G765 (fits_nar_char _) W766 7 rfl (Nat.le_of_ble_eq_true rfl)
  refine Goes.to st766 ?_
  refine gx (XS.aload X766.here hx rfl (hb hby at_297) rfl rfl) ?_
  exact own_pt_own_rm0_776 l Z a0 hw ws x0 x1 x2 x3 aV kV a1 a2 a3 aE w1 w2 w3 v1 v2 v3 q1 q2 q3 cs fm h0 n0 Z0 hPm Bd hml0 hh  b1 a674 b674 k674 k1 T766 _ vmpt hZ hown T766.heap X766 rfl N766 Z766  _ hSpt hk769 R768 Sf767 F771 F772 F773 F774 V766 Pg691_17 O770 Ph691_21 Ph691_22 Ph691_23
set_option maxRecDepth 65536 in
set_option maxHeartbeats 40000000 in
theorem own_rm0 (l : Launch) (Z : State) (a0 : Array Value) (hw : ∀ d ∈ tables_1, d.before a0 Z = true) (ws : List Jvm.Cond) (x0 : Int32) (x1 : Int32) (x2 : Int32) (x3 : Int64) (aV : Addr) (kV : ClassId) (a1 : Addr) (a2 : Addr) (a3 : Addr) (aE : Addr) (w1 : Addr) (w2 : Addr) (w3 : Addr) (v1 : Addr) (v2 : Addr) (v3 : Addr) (q1 : ClassId) (q2 : ClassId) (q3 : ClassId) (cs : Int32) (fm : Value) (h0 : Heap) (n0 : Nat) (Z0 : n0 ≤ h0.size) (O0 : Old Z n0 h0) (hCH0 : CHv Z own_EL Z.vm Z.heap) (S1 : Sta Z Z.heap "com/example/polgen/polgen/model/Multiplicity" "ONE" "Lcom/example/polgen/polgen/model/Multiplicity;" (.ref a1)) (S2 : Sta Z Z.heap "com/example/polgen/polgen/model/Multiplicity" "OPTIONAL" "Lcom/example/polgen/polgen/model/Multiplicity;" (.ref a2)) (S3 : Sta Z Z.heap "com/example/polgen/polgen/model/Multiplicity" "MANY" "Lcom/example/polgen/polgen/model/Multiplicity;" (.ref a3)) (E1 : Exa Z Z.heap a1 "com/example/polgen/polgen/model/Multiplicity") (E2 : Exa Z Z.heap a2 "com/example/polgen/polgen/model/Multiplicity") (E3 : Exa Z Z.heap a3 "com/example/polgen/polgen/model/Multiplicity") (SV : Sta Z Z.heap "com/example/polgen/polgen/model/Multiplicity" "$VALUES" "[Lcom/example/polgen/polgen/model/Multiplicity;" (.ref aV)) (VV : Arv Z Z.heap aV kV (.object "com/example/polgen/polgen/model/Multiplicity") (3 : Int32) [(.ref a1), (.ref a2), (.ref a3)] .null) (EV : Exa Z Z.heap aV "[Lcom/example/polgen/polgen/model/Multiplicity;") (SE : Sta Z Z.heap "java/util/Optional" "EMPTY" "Ljava/util/Optional;" (.ref aE)) (EE : Exa Z Z.heap aE "java/util/Optional") (FE : Fld Z Z.heap aE "java/util/Optional" "value" "Ljava/lang/Object;" .null) (Fw1 : Fld Z Z.heap a1 "com/example/polgen/polgen/model/Multiplicity" "word" "Ljava/lang/String;" (.ref w1)) (Ew1 : Exa Z Z.heap w1 "java/lang/String") (Cw1 : Fld Z Z.heap w1 "java/lang/String" "coder" "B" (.int (0 : Int32))) (Vw1 : Fld Z Z.heap w1 "java/lang/String" "value" "[B" (.ref v1)) (Aw1 : Arv Z Z.heap v1 q1 .byte (3 : Int32) [(.int (111 : Int32)), (.int (110 : Int32)), (.int (101 : Int32))] (.int (0 : Int32))) (Fw2 : Fld Z Z.heap a2 "com/example/polgen/polgen/model/Multiplicity" "word" "Ljava/lang/String;" (.ref w2)) (Ew2 : Exa Z Z.heap w2 "java/lang/String") (Cw2 : Fld Z Z.heap w2 "java/lang/String" "coder" "B" (.int (0 : Int32))) (Vw2 : Fld Z Z.heap w2 "java/lang/String" "value" "[B" (.ref v2)) (Aw2 : Arv Z Z.heap v2 q2 .byte (8 : Int32) [(.int (111 : Int32)), (.int (112 : Int32)), (.int (116 : Int32)), (.int (105 : Int32)), (.int (111 : Int32)), (.int (110 : Int32)), (.int (97 : Int32)), (.int (108 : Int32))] (.int (0 : Int32))) (Fw3 : Fld Z Z.heap a3 "com/example/polgen/polgen/model/Multiplicity" "word" "Ljava/lang/String;" (.ref w3)) (Ew3 : Exa Z Z.heap w3 "java/lang/String") (Cw3 : Fld Z Z.heap w3 "java/lang/String" "coder" "B" (.int (0 : Int32))) (Vw3 : Fld Z Z.heap w3 "java/lang/String" "value" "[B" (.ref v3)) (Aw3 : Arv Z Z.heap v3 q3 .byte (4 : Int32) [(.int (109 : Int32)), (.int (97 : Int32)), (.int (110 : Int32)), (.int (121 : Int32))] (.int (0 : Int32))) (SC : Sta Z Z.heap "java/lang/String" "COMPACT_STRINGS" "Z" (.int cs)) (hcs : ¬ (cs = (0 : Int32))) (SF : Sta Z Z.heap "jdk/internal/util/Preconditions" "SIOOBE_FORMATTER" "Ljava/util/function/BiFunction;" fm) (hfm : fm.isRef = true) :
    MetFree l x (head1 (Jvm.Cond.code x code maxLocals ret :: ws) room_1) (fun a U => a = #[(.int x0), (.int x1), (.int x2), (.long x3)] ∧ U = Z ∧ U.heap = h0) (fun _ _ _ _ _ => True) (fun _ U o U' => ∃ v L, o = .returned v ∧ own_Q_own_rm0 Z x0 x1 x2 x3 aV kV a1 a2 a3 aE w1 w2 w3 v1 v2 v3 q1 q2 q3 cs fm h0 n0 v U'.heap L ∧ ReturnedEndW U o U' L 17 147) := by
  refine MetFree.of_bodySF (plainFor_of_name own_pn_0) hisR ?_
  intro p e s m args below meth c s₁ Bd hml0 hP hK
  obtain ⟨rfl, hU, hh⟩ := hP
  have hx := Bd.exec
  have hby := Bd.bytes
  have hml : c.maxLocals = 14 := hml0
  have hown : s.vm.findClass "com/example/polgen/polgen/model/MultiplicityNamedPinLaw" = some m.cls := findClass_of_methodNamed Bd.named
  have hnm := (name_of_methodNamed Bd.named Bd.method).1
  have X0 : Stand p l e room_1 (s.setVm s.vm) m #[(.int x0), (.int x1), (.int x2), (.long x3)] below meth c s₁ [] 0 0 := Stand.of_body Bd
  have e0 : s₁.heap = h0 := by rw [← hh, Bd.state]; rfl
  have N0 := Fr.nil n0
  have hZ : Z.Warmed39 s.vm := by rw [hU]; exact State.Warmed39.refl Z
  have hCH : CHv Z own_EL s.vm h0 := by rw [← hh, hU]; exact hCH0
  have hS0 : s.Since s.vm h0.size := (State.WarmedH.refl s).since _
  have own_wS' : ∀ a ∈ Bundle.stringAtoms, a.before a0 Z = true := own_wS hw
  have hEL := own_EW hw
  have R0 := CHr.refl hCH
  have hPm : own_P_own_rm0 Z a0 x0 x1 x2 x3 aV kV a1 a2 a3 aE w1 w2 w3 v1 v2 v3 q1 q2 q3 cs fm h0 n0 := ⟨O0, hCH0, S1, S2, S3, E1, E2, E3, SV, VV, EV, SE, EE, FE, Fw1, Ew1, Cw1, Vw1, Aw1, Fw2, Ew2, Cw2, Vw2, Aw2, Fw3, Ew3, Cw3, Vw3, Aw3, SC, hcs, SF, hfm⟩
  show Goes p.tables e below _ (own_RW below s (own_Q_own_rm0 Z x0 x1 x2 x3 aV kV a1 a2 a3 aE w1 w2 w3 v1 v2 v3 q1 q2 q3 cs fm h0 n0) 17 147)
  refine Goes.to (fun t k => castTop (own_ef_own_rm0 m x0 x1 x2 x3) k) ?_
  refine gx (XS.iloadN X0.here hx rfl (hb hby at_0) rfl) ?_
  refine gx (XS.iconst X0.here hx rfl (hb hby at_1)) ?_
  refine gx (XS.iand X0.here hx rfl (hb hby at_2) rfl) ?_
  refine gx (XS.istore X0.here hx rfl (hb hby at_3) rfl (l' := #[.val (.int x0), .val (.int x1), .val (.int x2), .val (.long x3), .second, .val (.int (x0 &&& (3 : Int32))), .unset, .unset, .unset, .unset, .unset, .unset, .unset, .unset]) rfl) ?_
  refine gx (XS.iloadN X0.here hx rfl (hb hby at_5) rfl) ?_
  show Goes p.tables e below (s₁.setTop (mkF m 6 #[.val (.int x0), .val (.int x1), .val (.int x2), .val (.long x3), .second, .val (.int (x0 &&& (3 : Int32))), .unset, .unset, .unset, .unset, .unset, .unset, .unset, .unset] [(.int x0)])) _
  refine gx (XS.iconst X0.here hx rfl (hb hby at_6)) ?_
  refine gx (XS.iushr X0.here hx rfl (hb hby at_7) rfl) ?_
  refine gx (XS.istore X0.here hx rfl (hb hby at_8) rfl (l' := #[.val (.int x0), .val (.int x1), .val (.int x2), .val (.long x3), .second, .val (.int (x0 &&& (3 : Int32))), .val (.int ((x0.toUInt32 >>> ((2 : Int32) &&& 31).toUInt32).toInt32)), .unset, .unset, .unset, .unset, .unset, .unset, .unset]) rfl) ?_
  refine gx (XS.iloadN X0.here hx rfl (hb hby at_10) rfl) ?_
  refine gx (XS.sipush X0.here hx rfl (hb hby at_11)) ?_
  show Goes p.tables e below (s₁.setTop (mkF m 14 #[.val (.int x0), .val (.int x1), .val (.int x2), .val (.long x3), .second, .val (.int (x0 &&& (3 : Int32))), .val (.int ((x0.toUInt32 >>> ((2 : Int32) &&& 31).toUInt32).toInt32)), .unset, .unset, .unset, .unset, .unset, .unset, .unset] [(.int (255 : Int32)), (.int x2)])) _
  refine gx (XS.iand X0.here hx rfl (hb hby at_14) rfl) ?_
  refine gx (XS.i2c X0.here hx rfl (hb hby at_15) rfl) ?_
  refine gx (XS.istore X0.here hx rfl (hb hby at_16) rfl (l' := #[.val (.int x0), .val (.int x1), .val (.int x2), .val (.long x3), .second, .val (.int (x0 &&& (3 : Int32))), .val (.int ((x0.toUInt32 >>> ((2 : Int32) &&& 31).toUInt32).toInt32)), .val (.int ((x2 &&& (255 : Int32)).toUInt32.toUInt16.toUInt32.toInt32)), .unset, .unset, .unset, .unset, .unset, .unset]) rfl) ?_
  refine gx (XS.bipush X0.here hx rfl (hb hby at_18)) ?_
  obtain ⟨T1, h1, k1, X1, e1, E1, A1, st1⟩ := newP X0 hx hZ (own_hw hw 0 rfl) e0 (g := (mkF m 20 #[.val (.int x0), .val (.int x1), .val (.int x2), .val (.long x3), .second, .val (.int (x0 &&& (3 : Int32))), .val (.int ((x0.toUInt32 >>> ((2 : Int32) &&& 31).toUInt32).toInt32)), .val (.int ((x2 &&& (255 : Int32)).toUInt32.toUInt16.toUInt32.toInt32)), .unset, .unset, .unset, .unset, .unset, .unset] [(.int (9 : Int32))])) rfl (hb hby at_20) rfl (by decide) (cap := 9) (by decide) (by decide) (by decide) (by decide)
  obtain ⟨b1, g1⟩ : ∃ z, z = h0.size := ⟨_, rfl⟩
  rw [← g1] at A1 st1
  subst e1
  have Sn1 : Safe Z own_EL s.vm T1.heap b1 := Safe.ext E1 R0.1 (Safe.new (Nat.le_of_eq g1.symm))
  have R2 := R0.trans (CHr.ext E1 R0.1)
  have hk3 := Nat.le_trans (Nat.le_refl _) E1.1
  have O4 := O0.ext E1
  have g_b1 : n0 ≤ b1 := Nat.le_trans Z0 (Nat.le_of_eq g1.symm)
  have Z1 : n0 ≤ T1.heap.size := Nat.le_trans Z0 E1.1
  have V1 : Arv Z T1.heap b1 k1 .char (9 : Int32) [(.int (0 : Int32)), (.int (0 : Int32)), (.int (0 : Int32)), (.int (0 : Int32)), (.int (0 : Int32)), (.int (0 : Int32)), (.int (0 : Int32)), (.int (0 : Int32)), (.int (0 : Int32))] (.int (0 : Int32)) := (Arv.new A1 (by decide)).pad (pad_rep [] (.int (0 : Int32)) 9)
  refine Goes.to st1 ?_
  refine gx (XS.astore X1.here hx rfl (hb hby at_22) rfl rfl (l' := #[.val (.int x0), .val (.int x1), .val (.int x2), .val (.long x3), .second, .val (.int (x0 &&& (3 : Int32))), .val (.int ((x0.toUInt32 >>> ((2 : Int32) &&& 31).toUInt32).toInt32)), .val (.int ((x2 &&& (255 : Int32)).toUInt32.toUInt16.toUInt32.toInt32)), .val (.ref b1), .unset, .unset, .unset, .unset, .unset]) rfl) ?_
  refine gx (XS.iconst X1.here hx rfl (hb hby at_24)) ?_
  refine gx (XS.istore X1.here hx rfl (hb hby at_25) rfl (l' := #[.val (.int x0), .val (.int x1), .val (.int x2), .val (.long x3), .second, .val (.int (x0 &&& (3 : Int32))), .val (.int ((x0.toUInt32 >>> ((2 : Int32) &&& 31).toUInt32).toInt32)), .val (.int ((x2 &&& (255 : Int32)).toUInt32.toUInt16.toUInt32.toInt32)), .val (.ref b1), .unset, .val (.int (0 : Int32)), .unset, .unset, .unset]) rfl) ?_
  refine gx (XS.iload X1.here hx rfl (hb hby at_27) rfl) ?_
  show Goes p.tables e below (T1.setTop (mkF m 29 #[.val (.int x0), .val (.int x1), .val (.int x2), .val (.long x3), .second, .val (.int (x0 &&& (3 : Int32))), .val (.int ((x0.toUInt32 >>> ((2 : Int32) &&& 31).toUInt32).toInt32)), .val (.int ((x2 &&& (255 : Int32)).toUInt32.toUInt16.toUInt32.toInt32)), .val (.ref b1), .unset, .val (.int (0 : Int32)), .unset, .unset, .unset] [(.int (x0 &&& (3 : Int32)))])) _
  refine gx (XS.iconst X1.here hx rfl (hb hby at_29)) ?_
  by_cases hc5 : (x0 &&& (3 : Int32)) = (3 : Int32)
  · refine gx (XS.icmpNo X1.here hx rfl (hb hby at_30) rfl (teq hc5).2) ?_
    refine gx (XS.aload X1.here hx rfl (hb hby at_33) rfl rfl) ?_
    refine gx (XS.iconst X1.here hx rfl (hb hby at_35)) ?_
    refine gx (XS.lloadN X1.here hx rfl (hb hby at_36) rfl) ?_
    refine gx (X1.ldc2Long hx hown (mvT hZ (own_hw hw 139 rfl)) (g := (mkF m 37 #[.val (.int x0), .val (.int x1), .val (.int x2), .val (.long x3), .second, .val (.int (x0 &&& (3 : Int32))), .val (.int ((x0.toUInt32 >>> ((2 : Int32) &&& 31).toUInt32).toInt32)), .val (.int ((x2 &&& (255 : Int32)).toUInt32.toUInt16.toUInt32.toInt32)), .val (.ref b1), .unset, .val (.int (0 : Int32)), .unset, .unset, .unset] [(.long x3), (.int (0 : Int32)), (.ref b1)])) rfl (hb hby at_37) _) ?_
    refine gx (XS.land X1.here hx rfl (hb hby at_40) rfl) ?_
    refine gx (XS.l2i X1.here hx rfl (hb hby at_41) rfl) ?_
    refine gx (XS.i2c X1.here hx rfl (hb hby at_42) rfl) ?_
    obtain ⟨cl6, Ar6, q6, S6, N6, H6, G6⟩ := id V1
    have hin6 : ¬ ((0 : Int32) < 0 ∨ cl6.slots.size ≤ ((0 : Int32)).toNatClampNeg) := inb_of S6 ⟨by decide, by decide⟩
    obtain ⟨T7, h7, X7, e7, W7, st7⟩ := stC X1 hx hZ rfl Ar6 (j := (0 : Int32)) hin6 (g := (mkF m 43 #[.val (.int x0), .val (.int x1), .val (.int x2), .val (.long x3), .second, .val (.int (x0 &&& (3 : Int32))), .val (.int ((x0.toUInt32 >>> ((2 : Int32) &&& 31).toUInt32).toInt32)), .val (.int ((x2 &&& (255 : Int32)).toUInt32.toUInt16.toUInt32.toInt32)), .val (.ref b1), .unset, .val (.int (0 : Int32)), .unset, .unset, .unset] [(.int (((x3 &&& (255 : Int64)).toInt32).toUInt32.toUInt16.toUInt32.toInt32)), (.int (0 : Int32)), (.ref b1)])) rfl rfl (hb hby at_43)
    subst e7
    have Sf8 := Safe.wr W7 Sn1 R2.1 Sn1
    have R9 := R2.trans (CHr.wr W7 Sn1 R2.1)
    have hk10 := Nat.le_trans hk3 (Nat.le_of_eq W7.size.symm)
    have O11 := O4.wr W7 g_b1
    have N7 := Fr.snoc X7 N0 g_b1
    have Z7 : n0 ≤ T7.heap.size := Nat.le_trans Z1 (Nat.le_of_eq W7.size.symm)
    have V7 : Arv Z T7.heap b1 k1 .char (9 : Int32) [(.int (nar .char (((x3 &&& (255 : Int64)).toInt32).toUInt32.toUInt16.toUInt32.toInt32))), (.int (0 : Int32)), (.int (0 : Int32)), (.int (0 : Int32)), (.int (0 : Int32)), (.int (0 : Int32)), (.int (0 : Int32)), (.int (0 : Int32)), (.int (0 : Int32))] (.int (0 : Int32)) := Arv.set Ar6 q6 S6 N6 H6 G6 (fits_nar_char _) W7 0 rfl (Nat.le_of_ble_eq_true rfl)
    refine Goes.to st7 ?_
    refine gx (XS.aload X7.here hx rfl (hb hby at_44) rfl rfl) ?_
    refine gx (XS.iconst X7.here hx rfl (hb hby at_46)) ?_
    refine gx (XS.lloadN X7.here hx rfl (hb hby at_47) rfl) ?_
    refine gx (XS.bipush X7.here hx rfl (hb hby at_48)) ?_
    show Goes p.tables e below (T7.setTop (mkF m 50 #[.val (.int x0), .val (.int x1), .val (.int x2), .val (.long x3), .second, .val (.int (x0 &&& (3 : Int32))), .val (.int ((x0.toUInt32 >>> ((2 : Int32) &&& 31).toUInt32).toInt32)), .val (.int ((x2 &&& (255 : Int32)).toUInt32.toUInt16.toUInt32.toInt32)), .val (.ref b1), .unset, .val (.int (0 : Int32)), .unset, .unset, .unset] [(.int (8 : Int32)), (.long x3), (.int (1 : Int32)), (.ref b1)])) _
    refine gx (XS.lushr X7.here hx rfl (hb hby at_50) rfl) ?_
    refine gx (X7.ldc2Long hx hown (mvT hZ (own_hw hw 139 rfl)) (g := (mkF m 51 #[.val (.int x0), .val (.int x1), .val (.int x2), .val (.long x3), .second, .val (.int (x0 &&& (3 : Int32))), .val (.int ((x0.toUInt32 >>> ((2 : Int32) &&& 31).toUInt32).toInt32)), .val (.int ((x2 &&& (255 : Int32)).toUInt32.toUInt16.toUInt32.toInt32)), .val (.ref b1), .unset, .val (.int (0 : Int32)), .unset, .unset, .unset] [(.long ((x3.toUInt64 >>> ((8 : Int32) &&& 0x3f).toInt64.toUInt64).toInt64)), (.int (1 : Int32)), (.ref b1)])) rfl (hb hby at_51) _) ?_
    refine gx (XS.land X7.here hx rfl (hb hby at_54) rfl) ?_
    refine gx (XS.l2i X7.here hx rfl (hb hby at_55) rfl) ?_
    refine gx (XS.i2c X7.here hx rfl (hb hby at_56) rfl) ?_
    obtain ⟨cl13, Ar13, q13, S13, N13, H13, G13⟩ := id V7
    have hin13 : ¬ ((1 : Int32) < 0 ∨ cl13.slots.size ≤ ((1 : Int32)).toNatClampNeg) := inb_of S13 ⟨by decide, by decide⟩
    obtain ⟨T14, h14, X14, e14, W14, st14⟩ := stC X7 hx hZ rfl Ar13 (j := (1 : Int32)) hin13 (g := (mkF m 57 #[.val (.int x0), .val (.int x1), .val (.int x2), .val (.long x3), .second, .val (.int (x0 &&& (3 : Int32))), .val (.int ((x0.toUInt32 >>> ((2 : Int32) &&& 31).toUInt32).toInt32)), .val (.int ((x2 &&& (255 : Int32)).toUInt32.toUInt16.toUInt32.toInt32)), .val (.ref b1), .unset, .val (.int (0 : Int32)), .unset, .unset, .unset] [(.int (((((x3.toUInt64 >>> ((8 : Int32) &&& 0x3f).toInt64.toUInt64).toInt64) &&& (255 : Int64)).toInt32).toUInt32.toUInt16.toUInt32.toInt32)), (.int (1 : Int32)), (.ref b1)])) rfl rfl (hb hby at_57)
    subst e14
    have Sf15 := Safe.wr W14 Sf8 R9.1 Sf8
    have R16 := R9.trans (CHr.wr W14 Sf8 R9.1)
    have hk17 := Nat.le_trans hk10 (Nat.le_of_eq W14.size.symm)
    have O18 := O11.wr W14 g_b1
    have N14 := Fr.snoc X14 N7 g_b1
    have Z14 : n0 ≤ T14.heap.size := Nat.le_trans Z7 (Nat.le_of_eq W14.size.symm)
    have V14 : Arv Z T14.heap b1 k1 .char (9 : Int32) [(.int (nar .char (((x3 &&& (255 : Int64)).toInt32).toUInt32.toUInt16.toUInt32.toInt32))), (.int (nar .char (((((x3.toUInt64 >>> ((8 : Int32) &&& 0x3f).toInt64.toUInt64).toInt64) &&& (255 : Int64)).toInt32).toUInt32.toUInt16.toUInt32.toInt32))), (.int (0 : Int32)), (.int (0 : Int32)), (.int (0 : Int32)), (.int (0 : Int32)), (.int (0 : Int32)), (.int (0 : Int32)), (.int (0 : Int32))] (.int (0 : Int32)) := Arv.set Ar13 q13 S13 N13 H13 G13 (fits_nar_char _) W14 1 rfl (Nat.le_of_ble_eq_true rfl)
    refine Goes.to st14 ?_
    refine gx (XS.aload X14.here hx rfl (hb hby at_58) rfl rfl) ?_
    exact own_pt_own_rm0_20 l Z a0 hw ws x0 x1 x2 x3 aV kV a1 a2 a3 aE w1 w2 w3 v1 v2 v3 q1 q2 q3 cs fm h0 n0 Z0 hPm Bd hml0 hh  b1 k1 T14 _ s.vm hZ hown T14.heap X14 rfl N14 Z14  _ hS0 hk17 R16 Sf15 V14 g_b1 O18 hc5
  · refine gx (XS.icmpYes X1.here hx rfl (pc0 := 30) (pc' := 181) rfl (hb hby at_30) rfl (feq hc5).2 (by decide) (by decide)) ?_
    refine gx (XS.iload X1.here hx rfl (hb hby at_181) rfl) ?_
    by_cases hc252 : (x0 &&& (3 : Int32)) = (0 : Int32)
    · refine gx (XS.ifNo X1.here hx rfl (hb hby at_183) rfl ((if0 _ _).trans (teq hc252).2)) ?_
      obtain ⟨a253, T253, h253, kk253, b253, k253, X253, e253, E253, hS253, hk253, hZ253, hown253, A253, C253, V253, W253, la253, lb253, Rr253, Lt253, Ns253, st253⟩ := ldcCH (s := s) X1 hx hZ hown (own_hw hw 1 rfl) own_wS' rfl hS0 hk3 hEL (by decide) R2.1 (vs := [(.int (111 : Int32)), (.int (110 : Int32)), (.int (101 : Int32))]) (z := (3 : Int32)) (own_txt _ _ (by decide) rfl) (by decide) rfl (g := (mkF m 186 #[.val (.int x0), .val (.int x1), .val (.int x2), .val (.long x3), .second, .val (.int (x0 &&& (3 : Int32))), .val (.int ((x0.toUInt32 >>> ((2 : Int32) &&& 31).toUInt32).toInt32)), .val (.int ((x2 &&& (255 : Int32)).toUInt32.toUInt16.toUInt32.toInt32)), .val (.ref b1), .unset, .val (.int (0 : Int32)), .unset, .unset, .unset] [])) rfl (hb hby at_186) (n := 12) (by decide) (by decide) (by decide) (by decide)
      subst e253
      have Sf254 := Rr253.safe V1.lt Sn1
      have O255 := O4.ext E253
      have F256 := V1.ext E253
      have R253 := R2.trans Rr253
      have hZ := hZ253
      have hown := hown253
      have Z253 : n0 ≤ T253.heap.size := Nat.le_trans Z1 E253.1
      refine Goes.to st253 ?_
      refine gx (XS.goto X253.here hx rfl (pc0 := 188) (pc' := 204) rfl (hb hby at_188) (by decide) (by decide)) ?_
      refine gx (XS.astore X253.here hx rfl (hb hby at_204) rfl rfl (l' := #[.val (.int x0), .val (.int x1), .val (.int x2), .val (.long x3), .second, .val (.int (x0 &&& (3 : Int32))), .val (.int ((x0.toUInt32 >>> ((2 : Int32) &&& 31).toUInt32).toInt32)), .val (.int ((x2 &&& (255 : Int32)).toUInt32.toUInt16.toUInt32.toInt32)), .val (.ref b1), .unset, .val (.int (0 : Int32)), .val (.ref a253), .unset, .unset]) rfl) ?_
      refine gx (XS.aload X253.here hx rfl (hb hby at_206) rfl rfl) ?_
      obtain ⟨cq257, kq257, q257a, q257b, q257c⟩ := isOf hZ rfl A253
      obtain ⟨_, _, ⟨T257, L257, k257, n257⟩, -, X257, ⟨Lc257, hQ257, l257, y257, z257⟩, st257⟩ := X253.virtualBack hx (y := own_n1) (z := own_n1) hown (mvT hZ (own_hw hw 9 rfl)) (mvT hZ (own_hw hw 10 rfl)) (notFace_of_selects (args := #[]) (mvT hZ (own_hw hw 12 rfl))) (mvT hZ (own_hw hw 12 rfl)) (mvT hZ (own_hw hw 11 rfl)) (by decide) (backOf (W := 0) (own_rm1 l Z a0 hw [] a253 b253 k253 (3 : Int32) [(.int (111 : Int32)), (.int (110 : Int32)), (.int (101 : Int32))] cs T253.heap n0 Z253 A253 C253 V253 W253 (SC.ext O255.2) hcs) hZ (own_hw hw 13 rfl) (own_hw hw 2 rfl) (by decide) (by decide)) q257a q257c (g := (mkF m 208 #[.val (.int x0), .val (.int x1), .val (.int x2), .val (.long x3), .second, .val (.int (x0 &&& (3 : Int32))), .val (.int ((x0.toUInt32 >>> ((2 : Int32) &&& 31).toUInt32).toInt32)), .val (.int ((x2 &&& (255 : Int32)).toUInt32.toUInt16.toUInt32.toInt32)), .val (.ref b1), .unset, .val (.int (0 : Int32)), .val (.ref a253), .unset, .unset] [(.ref a253)])) rfl (by rw [hml]; rfl) (Steps.refl _) (argsL := []) (rest := []) (lenOf own_pd_pqI rfl) rfl (own_W rfl rfl) (hb hby at_208) (fun _ _ => ⟨rfl, rfl, (by decide : 3 + 0 ≤ _), (by decide : 25 + 0 ≤ _)⟩)
      dsimp only [Pt.U, Pt.locs, Pt.cells, Pt.slots] at X257 l257 y257 z257 st257 hQ257
      subst l257 y257 z257
      obtain ⟨hv257, Nq257, hp257_0⟩ := hQ257
      have N257 := Fr.app N0 Nq257
      subst hv257
      refine Goes.tr st257 ?_
      refine gx (XS.istore X257.here hx rfl (hb hby at_211) rfl (l' := #[.val (.int x0), .val (.int x1), .val (.int x2), .val (.long x3), .second, .val (.int (x0 &&& (3 : Int32))), .val (.int ((x0.toUInt32 >>> ((2 : Int32) &&& 31).toUInt32).toInt32)), .val (.int ((x2 &&& (255 : Int32)).toUInt32.toUInt16.toUInt32.toInt32)), .val (.ref b1), .unset, .val (.int (0 : Int32)), .val (.ref a253), .val (.int (3 : Int32)), .unset]) rfl) ?_
      refine gx (XS.aload X257.here hx rfl (hb hby at_213) rfl rfl) ?_
      refine gx (XS.iconst X257.here hx rfl (hb hby at_215)) ?_
      refine gx (XS.aload X257.here hx rfl (hb hby at_216) rfl rfl) ?_
      show Goes p.tables e below (T257.setTop (mkF m 218 #[.val (.int x0), .val (.int x1), .val (.int x2), .val (.long x3), .second, .val (.int (x0 &&& (3 : Int32))), .val (.int ((x0.toUInt32 >>> ((2 : Int32) &&& 31).toUInt32).toInt32)), .val (.int ((x2 &&& (255 : Int32)).toUInt32.toUInt16.toUInt32.toInt32)), .val (.ref b1), .unset, .val (.int (0 : Int32)), .val (.ref a253), .val (.int (3 : Int32)), .unset] [(.ref a253), (.int (0 : Int32)), (.ref b1)])) _
      refine gx (XS.iconst X257.here hx rfl (hb hby at_218)) ?_
      obtain ⟨_, _, ⟨T258, L258, k258, n258⟩, -, X258, ⟨Lc258, hQ258, l258, y258, z258⟩, st258⟩ := Jvm.LawKit.callS X257 hx (y := own_n7) hown (mvT hZ (own_hw hw 22 rfl)) (mvT hZ (own_hw hw 23 rfl)) (mvT hZ (own_hw hw 24 rfl)) (mvT hZ (own_hw hw 25 rfl)) (by decide) (backOf (W := 2) (own_rm3 l Z a0 hw [] a253 (0 : Int32) b253 k253 (3 : Int32) [(.int (111 : Int32)), (.int (110 : Int32)), (.int (101 : Int32))] (111 : Int32) cs fm T253.heap n0 Z253 A253 C253 V253 W253 (SC.ext O255.2) hcs (SF.ext O255.2) hfm (by decide) (fun _ => rfl)) hZ (own_hw hw 25 rfl) (own_hw hw 24 rfl) (by decide) (by decide)) (g := (mkF m 219 #[.val (.int x0), .val (.int x1), .val (.int x2), .val (.long x3), .second, .val (.int (x0 &&& (3 : Int32))), .val (.int ((x0.toUInt32 >>> ((2 : Int32) &&& 31).toUInt32).toInt32)), .val (.int ((x2 &&& (255 : Int32)).toUInt32.toUInt16.toUInt32.toInt32)), .val (.ref b1), .unset, .val (.int (0 : Int32)), .val (.ref a253), .val (.int (3 : Int32)), .unset] [(.int (0 : Int32)), (.ref a253), (.int (0 : Int32)), (.ref b1)])) rfl (by rw [hml]; rfl) (argsL := [(.ref a253), (.int (0 : Int32))]) (rest := [(.int (0 : Int32)), (.ref b1)]) (lenOf own_pd_pLjavallanglStringsIqC rfl) rfl (own_W rfl rfl) (hb hby at_219) (fun _ _ => ⟨rfl, hp257_0, (by decide : 3 + 0 ≤ _), (by decide : 25 + 0 ≤ _)⟩)
      dsimp only [Pt.U, Pt.locs, Pt.cells, Pt.slots] at X258 l258 y258 z258 st258 hQ258
      subst l258 y258 z258
      obtain ⟨hv258, Nq258, hp258_0⟩ := hQ258
      have N258 := Fr.app N257 Nq258
      rw [show own_atc (0 : Int32) (3 : Int32) (111 : Int32) = (111 : Int32) from by decide] at hv258
      subst hv258
      refine Goes.to st258 ?_
      obtain ⟨cl259, Ar259, q259, S259, N259, H259, G259⟩ := id F256
      have hin259 : ¬ ((0 : Int32) < 0 ∨ cl259.slots.size ≤ ((0 : Int32)).toNatClampNeg) := inb_of S259 ⟨by decide, by decide⟩
      obtain ⟨T260, h260, X260, e260, W260, st260⟩ := stC X258 hx hZ hp258_0 Ar259 (j := (0 : Int32)) hin259 (g := (mkF m 222 #[.val (.int x0), .val (.int x1), .val (.int x2), .val (.long x3), .second, .val (.int (x0 &&& (3 : Int32))), .val (.int ((x0.toUInt32 >>> ((2 : Int32) &&& 31).toUInt32).toInt32)), .val (.int ((x2 &&& (255 : Int32)).toUInt32.toUInt16.toUInt32.toInt32)), .val (.ref b1), .unset, .val (.int (0 : Int32)), .val (.ref a253), .val (.int (3 : Int32)), .unset] [(.int (111 : Int32)), (.int (0 : Int32)), (.ref b1)])) rfl rfl (hb hby at_222)
      subst e260
      have Sf261 := Safe.wr W260 Sf254 R253.1 Sf254
      have R262 := R253.trans (CHr.wr W260 Sf254 R253.1)
      have hk263 := Nat.le_trans hk253 (Nat.le_of_eq W260.size.symm)
      have O264 := O255.wr W260 g_b1
      have F266 := A253.wr W260
      have F267 := C253.other W260 (Or.inl (Ne.symm (Ns253 b1 Sf254).1))
      have F268 := V253.other W260 (Or.inl (Ne.symm (Ns253 b1 Sf254).1))
      have F269 := W253.other W260 (Ne.symm (Ns253 b1 Sf254).2)
      have N260 := Fr.snoc X260 N258 g_b1
      have Z260 : n0 ≤ T260.heap.size := Nat.le_trans Z253 (Nat.le_of_eq W260.size.symm)
      have V260 : Arv Z T260.heap b1 k1 .char (9 : Int32) [(.int (111 : Int32)), (.int (0 : Int32)), (.int (0 : Int32)), (.int (0 : Int32)), (.int (0 : Int32)), (.int (0 : Int32)), (.int (0 : Int32)), (.int (0 : Int32)), (.int (0 : Int32))] (.int (0 : Int32)) := Arv.set Ar259 q259 S259 N259 H259 G259 (fits_nar_char _) W260 0 rfl (Nat.le_of_ble_eq_true rfl)
      refine Goes.to st260 ?_
      refine gx (XS.aload X260.here hx rfl (hb hby at_223) rfl rfl) ?_
      refine gx (XS.iconst X260.here hx rfl (hb hby at_225)) ?_
      refine gx (XS.aload X260.here hx rfl (hb hby at_226) rfl rfl) ?_
      refine gx (XS.iconst X260.here hx rfl (hb hby at_228)) ?_
      obtain ⟨_, _, ⟨T270, L270, k270, n270⟩, -, X270, ⟨Lc270, hQ270, l270, y270, z270⟩, st270⟩ := Jvm.LawKit.callS X260 hx (y := own_n7) hown (mvT hZ (own_hw hw 22 rfl)) (mvT hZ (own_hw hw 23 rfl)) (mvT hZ (own_hw hw 24 rfl)) (mvT hZ (own_hw hw 25 rfl)) (by decide) (backOf (W := 2) (own_rm3 l Z a0 hw [] a253 (1 : Int32) b253 k253 (3 : Int32) [(.int (111 : Int32)), (.int (110 : Int32)), (.int (101 : Int32))] (110 : Int32) cs fm T260.heap n0 Z260 F266 F267 F268 F269 (SC.ext O264.2) hcs (SF.ext O264.2) hfm (by decide) (fun _ => rfl)) hZ (own_hw hw 25 rfl) (own_hw hw 24 rfl) (by decide) (by decide)) (g := (mkF m 229 #[.val (.int x0), .val (.int x1), .val (.int x2), .val (.long x3), .second, .val (.int (x0 &&& (3 : Int32))), .val (.int ((x0.toUInt32 >>> ((2 : Int32) &&& 31).toUInt32).toInt32)), .val (.int ((x2 &&& (255 : Int32)).toUInt32.toUInt16.toUInt32.toInt32)), .val (.ref b1), .unset, .val (.int (0 : Int32)), .val (.ref a253), .val (.int (3 : Int32)), .unset] [(.int (1 : Int32)), (.ref a253), (.int (1 : Int32)), (.ref b1)])) rfl (by rw [hml]; rfl) (argsL := [(.ref a253), (.int (1 : Int32))]) (rest := [(.int (1 : Int32)), (.ref b1)]) (lenOf own_pd_pLjavallanglStringsIqC rfl) rfl (own_W rfl rfl) (hb hby at_229) (fun _ _ => ⟨rfl, rfl, (by decide : 3 + 0 ≤ _), (by decide : 25 + 0 ≤ _)⟩)
      dsimp only [Pt.U, Pt.locs, Pt.cells, Pt.slots] at X270 l270 y270 z270 st270 hQ270
      subst l270 y270 z270
      obtain ⟨hv270, Nq270, hp270_0⟩ := hQ270
      have N270 := Fr.app N260 Nq270
      rw [show own_atc (1 : Int32) (3 : Int32) (110 : Int32) = (110 : Int32) from by decide] at hv270
      subst hv270
      refine Goes.to st270 ?_
      exact own_pt_own_rm0_271 l Z a0 hw ws x0 x1 x2 x3 aV kV a1 a2 a3 aE w1 w2 w3 v1 v2 v3 q1 q2 q3 cs fm h0 n0 Z0 hPm Bd hml0 hh  b1 a253 b253 k253 k1 T270 _ T253.vm hZ hown T260.heap X270 hp270_0 N270 Z260  _ hS253 hk263 R262 Sf261 F266 F267 F268 F269 V260 g_b1 (Ns253 b1 Sf254).1 (Ns253 b1 Sf254).2 O264 hc5 hc252
    · refine gx (XS.ifYes X1.here hx rfl (pc0 := 183) (pc' := 191) rfl (hb hby at_183) rfl ((if0 _ _).trans (feq hc252).2) (by decide) (by decide)) ?_
      refine gx (XS.iload X1.here hx rfl (hb hby at_191) rfl) ?_
      show Goes p.tables e below (T1.setTop (mkF m 193 #[.val (.int x0), .val (.int x1), .val (.int x2), .val (.long x3), .second, .val (.int (x0 &&& (3 : Int32))), .val (.int ((x0.toUInt32 >>> ((2 : Int32) &&& 31).toUInt32).toInt32)), .val (.int ((x2 &&& (255 : Int32)).toUInt32.toUInt16.toUInt32.toInt32)), .val (.ref b1), .unset, .val (.int (0 : Int32)), .unset, .unset, .unset] [(.int (x0 &&& (3 : Int32)))])) _
      refine gx (XS.iconst X1.here hx rfl (hb hby at_193)) ?_
      by_cases hc529 : (x0 &&& (3 : Int32)) = (1 : Int32)
      · refine gx (XS.icmpNo X1.here hx rfl (hb hby at_194) rfl (teq hc529).2) ?_
        obtain ⟨a530, T530, h530, kk530, b530, k530, X530, e530, E530, hS530, hk530, hZ530, hown530, A530, C530, V530, W530, la530, lb530, Rr530, Lt530, Ns530, st530⟩ := ldcCH (s := s) X1 hx hZ hown (own_hw hw 132 rfl) own_wS' rfl hS0 hk3 hEL (by decide) R2.1 (vs := [(.int (111 : Int32)), (.int (112 : Int32)), (.int (116 : Int32)), (.int (105 : Int32)), (.int (111 : Int32)), (.int (110 : Int32)), (.int (97 : Int32)), (.int (108 : Int32))]) (z := (8 : Int32)) (own_txt _ _ (by decide) rfl) (by decide) rfl (g := (mkF m 197 #[.val (.int x0), .val (.int x1), .val (.int x2), .val (.long x3), .second, .val (.int (x0 &&& (3 : Int32))), .val (.int ((x0.toUInt32 >>> ((2 : Int32) &&& 31).toUInt32).toInt32)), .val (.int ((x2 &&& (255 : Int32)).toUInt32.toUInt16.toUInt32.toInt32)), .val (.ref b1), .unset, .val (.int (0 : Int32)), .unset, .unset, .unset] [])) rfl (hb hby at_197) (n := 32) (by decide) (by decide) (by decide) (by decide)
        subst e530
        have Sf531 := Rr530.safe V1.lt Sn1
        have O532 := O4.ext E530
        have F533 := V1.ext E530
        have R530 := R2.trans Rr530
        have hZ := hZ530
        have hown := hown530
        have Z530 : n0 ≤ T530.heap.size := Nat.le_trans Z1 E530.1
        refine Goes.to st530 ?_
        refine gx (XS.goto X530.here hx rfl (pc0 := 199) (pc' := 204) rfl (hb hby at_199) (by decide) (by decide)) ?_
        refine gx (XS.astore X530.here hx rfl (hb hby at_204) rfl rfl (l' := #[.val (.int x0), .val (.int x1), .val (.int x2), .val (.long x3), .second, .val (.int (x0 &&& (3 : Int32))), .val (.int ((x0.toUInt32 >>> ((2 : Int32) &&& 31).toUInt32).toInt32)), .val (.int ((x2 &&& (255 : Int32)).toUInt32.toUInt16.toUInt32.toInt32)), .val (.ref b1), .unset, .val (.int (0 : Int32)), .val (.ref a530), .unset, .unset]) rfl) ?_
        refine gx (XS.aload X530.here hx rfl (hb hby at_206) rfl rfl) ?_
        obtain ⟨cq534, kq534, q534a, q534b, q534c⟩ := isOf hZ rfl A530
        obtain ⟨_, _, ⟨T534, L534, k534, n534⟩, -, X534, ⟨Lc534, hQ534, l534, y534, z534⟩, st534⟩ := X530.virtualBack hx (y := own_n1) (z := own_n1) hown (mvT hZ (own_hw hw 9 rfl)) (mvT hZ (own_hw hw 10 rfl)) (notFace_of_selects (args := #[]) (mvT hZ (own_hw hw 12 rfl))) (mvT hZ (own_hw hw 12 rfl)) (mvT hZ (own_hw hw 11 rfl)) (by decide) (backOf (W := 0) (own_rm1 l Z a0 hw [] a530 b530 k530 (8 : Int32) [(.int (111 : Int32)), (.int (112 : Int32)), (.int (116 : Int32)), (.int (105 : Int32)), (.int (111 : Int32)), (.int (110 : Int32)), (.int (97 : Int32)), (.int (108 : Int32))] cs T530.heap n0 Z530 A530 C530 V530 W530 (SC.ext O532.2) hcs) hZ (own_hw hw 13 rfl) (own_hw hw 2 rfl) (by decide) (by decide)) q534a q534c (g := (mkF m 208 #[.val (.int x0), .val (.int x1), .val (.int x2), .val (.long x3), .second, .val (.int (x0 &&& (3 : Int32))), .val (.int ((x0.toUInt32 >>> ((2 : Int32) &&& 31).toUInt32).toInt32)), .val (.int ((x2 &&& (255 : Int32)).toUInt32.toUInt16.toUInt32.toInt32)), .val (.ref b1), .unset, .val (.int (0 : Int32)), .val (.ref a530), .unset, .unset] [(.ref a530)])) rfl (by rw [hml]; rfl) (Steps.refl _) (argsL := []) (rest := []) (lenOf own_pd_pqI rfl) rfl (own_W rfl rfl) (hb hby at_208) (fun _ _ => ⟨rfl, rfl, (by decide : 3 + 0 ≤ _), (by decide : 45 + 0 ≤ _)⟩)
        dsimp only [Pt.U, Pt.locs, Pt.cells, Pt.slots] at X534 l534 y534 z534 st534 hQ534
        subst l534 y534 z534
        obtain ⟨hv534, Nq534, hp534_0⟩ := hQ534
        have N534 := Fr.app N0 Nq534
        subst hv534
        refine Goes.tr st534 ?_
        refine gx (XS.istore X534.here hx rfl (hb hby at_211) rfl (l' := #[.val (.int x0), .val (.int x1), .val (.int x2), .val (.long x3), .second, .val (.int (x0 &&& (3 : Int32))), .val (.int ((x0.toUInt32 >>> ((2 : Int32) &&& 31).toUInt32).toInt32)), .val (.int ((x2 &&& (255 : Int32)).toUInt32.toUInt16.toUInt32.toInt32)), .val (.ref b1), .unset, .val (.int (0 : Int32)), .val (.ref a530), .val (.int (8 : Int32)), .unset]) rfl) ?_
        refine gx (XS.aload X534.here hx rfl (hb hby at_213) rfl rfl) ?_
        refine gx (XS.iconst X534.here hx rfl (hb hby at_215)) ?_
        refine gx (XS.aload X534.here hx rfl (hb hby at_216) rfl rfl) ?_
        show Goes p.tables e below (T534.setTop (mkF m 218 #[.val (.int x0), .val (.int x1), .val (.int x2), .val (.long x3), .second, .val (.int (x0 &&& (3 : Int32))), .val (.int ((x0.toUInt32 >>> ((2 : Int32) &&& 31).toUInt32).toInt32)), .val (.int ((x2 &&& (255 : Int32)).toUInt32.toUInt16.toUInt32.toInt32)), .val (.ref b1), .unset, .val (.int (0 : Int32)), .val (.ref a530), .val (.int (8 : Int32)), .unset] [(.ref a530), (.int (0 : Int32)), (.ref b1)])) _
        refine gx (XS.iconst X534.here hx rfl (hb hby at_218)) ?_
        obtain ⟨_, _, ⟨T535, L535, k535, n535⟩, -, X535, ⟨Lc535, hQ535, l535, y535, z535⟩, st535⟩ := Jvm.LawKit.callS X534 hx (y := own_n7) hown (mvT hZ (own_hw hw 22 rfl)) (mvT hZ (own_hw hw 23 rfl)) (mvT hZ (own_hw hw 24 rfl)) (mvT hZ (own_hw hw 25 rfl)) (by decide) (backOf (W := 2) (own_rm3 l Z a0 hw [] a530 (0 : Int32) b530 k530 (8 : Int32) [(.int (111 : Int32)), (.int (112 : Int32)), (.int (116 : Int32)), (.int (105 : Int32)), (.int (111 : Int32)), (.int (110 : Int32)), (.int (97 : Int32)), (.int (108 : Int32))] (111 : Int32) cs fm T530.heap n0 Z530 A530 C530 V530 W530 (SC.ext O532.2) hcs (SF.ext O532.2) hfm (by decide) (fun _ => rfl)) hZ (own_hw hw 25 rfl) (own_hw hw 24 rfl) (by decide) (by decide)) (g := (mkF m 219 #[.val (.int x0), .val (.int x1), .val (.int x2), .val (.long x3), .second, .val (.int (x0 &&& (3 : Int32))), .val (.int ((x0.toUInt32 >>> ((2 : Int32) &&& 31).toUInt32).toInt32)), .val (.int ((x2 &&& (255 : Int32)).toUInt32.toUInt16.toUInt32.toInt32)), .val (.ref b1), .unset, .val (.int (0 : Int32)), .val (.ref a530), .val (.int (8 : Int32)), .unset] [(.int (0 : Int32)), (.ref a530), (.int (0 : Int32)), (.ref b1)])) rfl (by rw [hml]; rfl) (argsL := [(.ref a530), (.int (0 : Int32))]) (rest := [(.int (0 : Int32)), (.ref b1)]) (lenOf own_pd_pLjavallanglStringsIqC rfl) rfl (own_W rfl rfl) (hb hby at_219) (fun _ _ => ⟨rfl, hp534_0, (by decide : 3 + 0 ≤ _), (by decide : 45 + 0 ≤ _)⟩)
        dsimp only [Pt.U, Pt.locs, Pt.cells, Pt.slots] at X535 l535 y535 z535 st535 hQ535
        subst l535 y535 z535
        obtain ⟨hv535, Nq535, hp535_0⟩ := hQ535
        have N535 := Fr.app N534 Nq535
        rw [show own_atc (0 : Int32) (8 : Int32) (111 : Int32) = (111 : Int32) from by decide] at hv535
        subst hv535
        refine Goes.to st535 ?_
        obtain ⟨cl536, Ar536, q536, S536, N536, H536, G536⟩ := id F533
        have hin536 : ¬ ((0 : Int32) < 0 ∨ cl536.slots.size ≤ ((0 : Int32)).toNatClampNeg) := inb_of S536 ⟨by decide, by decide⟩
        obtain ⟨T537, h537, X537, e537, W537, st537⟩ := stC X535 hx hZ hp535_0 Ar536 (j := (0 : Int32)) hin536 (g := (mkF m 222 #[.val (.int x0), .val (.int x1), .val (.int x2), .val (.long x3), .second, .val (.int (x0 &&& (3 : Int32))), .val (.int ((x0.toUInt32 >>> ((2 : Int32) &&& 31).toUInt32).toInt32)), .val (.int ((x2 &&& (255 : Int32)).toUInt32.toUInt16.toUInt32.toInt32)), .val (.ref b1), .unset, .val (.int (0 : Int32)), .val (.ref a530), .val (.int (8 : Int32)), .unset] [(.int (111 : Int32)), (.int (0 : Int32)), (.ref b1)])) rfl rfl (hb hby at_222)
        subst e537
        have Sf538 := Safe.wr W537 Sf531 R530.1 Sf531
        have R539 := R530.trans (CHr.wr W537 Sf531 R530.1)
        have hk540 := Nat.le_trans hk530 (Nat.le_of_eq W537.size.symm)
        have O541 := O532.wr W537 g_b1
        have F543 := A530.wr W537
        have F544 := C530.other W537 (Or.inl (Ne.symm (Ns530 b1 Sf531).1))
        have F545 := V530.other W537 (Or.inl (Ne.symm (Ns530 b1 Sf531).1))
        have F546 := W530.other W537 (Ne.symm (Ns530 b1 Sf531).2)
        have N537 := Fr.snoc X537 N535 g_b1
        have Z537 : n0 ≤ T537.heap.size := Nat.le_trans Z530 (Nat.le_of_eq W537.size.symm)
        have V537 : Arv Z T537.heap b1 k1 .char (9 : Int32) [(.int (111 : Int32)), (.int (0 : Int32)), (.int (0 : Int32)), (.int (0 : Int32)), (.int (0 : Int32)), (.int (0 : Int32)), (.int (0 : Int32)), (.int (0 : Int32)), (.int (0 : Int32))] (.int (0 : Int32)) := Arv.set Ar536 q536 S536 N536 H536 G536 (fits_nar_char _) W537 0 rfl (Nat.le_of_ble_eq_true rfl)
        refine Goes.to st537 ?_
        refine gx (XS.aload X537.here hx rfl (hb hby at_223) rfl rfl) ?_
        refine gx (XS.iconst X537.here hx rfl (hb hby at_225)) ?_
        exact own_pt_own_rm0_547 l Z a0 hw ws x0 x1 x2 x3 aV kV a1 a2 a3 aE w1 w2 w3 v1 v2 v3 q1 q2 q3 cs fm h0 n0 Z0 hPm Bd hml0 hh  b1 a530 b530 k530 k1 T537 _ T530.vm hZ hown T537.heap X537 rfl N537 Z537  _ hS530 hk540 R539 Sf538 F543 F544 F545 F546 V537 g_b1 (Ns530 b1 Sf531).1 (Ns530 b1 Sf531).2 O541 hc5 hc252 hc529
      · refine gx (XS.icmpYes X1.here hx rfl (pc0 := 194) (pc' := 202) rfl (hb hby at_194) rfl (feq hc529).2 (by decide) (by decide)) ?_
        obtain ⟨a674, T674, h674, kk674, b674, k674, X674, e674, E674, hS674, hk674, hZ674, hown674, A674, C674, V674, W674, la674, lb674, Rr674, Lt674, Ns674, st674⟩ := ldcCH (s := s) X1 hx hZ hown (own_hw hw 133 rfl) own_wS' rfl hS0 hk3 hEL (by decide) R2.1 (vs := [(.int (109 : Int32)), (.int (97 : Int32)), (.int (110 : Int32)), (.int (121 : Int32))]) (z := (4 : Int32)) (own_txt _ _ (by decide) rfl) (by decide) rfl (g := (mkF m 202 #[.val (.int x0), .val (.int x1), .val (.int x2), .val (.long x3), .second, .val (.int (x0 &&& (3 : Int32))), .val (.int ((x0.toUInt32 >>> ((2 : Int32) &&& 31).toUInt32).toInt32)), .val (.int ((x2 &&& (255 : Int32)).toUInt32.toUInt16.toUInt32.toInt32)), .val (.ref b1), .unset, .val (.int (0 : Int32)), .unset, .unset, .unset] [])) rfl (hb hby at_202) (n := 16) (by decide) (by decide) (by decide) (by decide)
        subst e674
        have Sf675 := Rr674.safe V1.lt Sn1
        have O676 := O4.ext E674
        have F677 := V1.ext E674
        have R674 := R2.trans Rr674
        have hZ := hZ674
        have hown := hown674
        have Z674 : n0 ≤ T674.heap.size := Nat.le_trans Z1 E674.1
        refine Goes.to st674 ?_
        refine gx (XS.astore X674.here hx rfl (hb hby at_204) rfl rfl (l' := #[.val (.int x0), .val (.int x1), .val (.int x2), .val (.long x3), .second, .val (.int (x0 &&& (3 : Int32))), .val (.int ((x0.toUInt32 >>> ((2 : Int32) &&& 31).toUInt32).toInt32)), .val (.int ((x2 &&& (255 : Int32)).toUInt32.toUInt16.toUInt32.toInt32)), .val (.ref b1), .unset, .val (.int (0 : Int32)), .val (.ref a674), .unset, .unset]) rfl) ?_
        refine gx (XS.aload X674.here hx rfl (hb hby at_206) rfl rfl) ?_
        obtain ⟨cq678, kq678, q678a, q678b, q678c⟩ := isOf hZ rfl A674
        obtain ⟨_, _, ⟨T678, L678, k678, n678⟩, -, X678, ⟨Lc678, hQ678, l678, y678, z678⟩, st678⟩ := X674.virtualBack hx (y := own_n1) (z := own_n1) hown (mvT hZ (own_hw hw 9 rfl)) (mvT hZ (own_hw hw 10 rfl)) (notFace_of_selects (args := #[]) (mvT hZ (own_hw hw 12 rfl))) (mvT hZ (own_hw hw 12 rfl)) (mvT hZ (own_hw hw 11 rfl)) (by decide) (backOf (W := 0) (own_rm1 l Z a0 hw [] a674 b674 k674 (4 : Int32) [(.int (109 : Int32)), (.int (97 : Int32)), (.int (110 : Int32)), (.int (121 : Int32))] cs T674.heap n0 Z674 A674 C674 V674 W674 (SC.ext O676.2) hcs) hZ (own_hw hw 13 rfl) (own_hw hw 2 rfl) (by decide) (by decide)) q678a q678c (g := (mkF m 208 #[.val (.int x0), .val (.int x1), .val (.int x2), .val (.long x3), .second, .val (.int (x0 &&& (3 : Int32))), .val (.int ((x0.toUInt32 >>> ((2 : Int32) &&& 31).toUInt32).toInt32)), .val (.int ((x2 &&& (255 : Int32)).toUInt32.toUInt16.toUInt32.toInt32)), .val (.ref b1), .unset, .val (.int (0 : Int32)), .val (.ref a674), .unset, .unset] [(.ref a674)])) rfl (by rw [hml]; rfl) (Steps.refl _) (argsL := []) (rest := []) (lenOf own_pd_pqI rfl) rfl (own_W rfl rfl) (hb hby at_208) (fun _ _ => ⟨rfl, rfl, (by decide : 3 + 0 ≤ _), (by decide : 29 + 0 ≤ _)⟩)
        dsimp only [Pt.U, Pt.locs, Pt.cells, Pt.slots] at X678 l678 y678 z678 st678 hQ678
        subst l678 y678 z678
        obtain ⟨hv678, Nq678, hp678_0⟩ := hQ678
        have N678 := Fr.app N0 Nq678
        subst hv678
        refine Goes.tr st678 ?_
        refine gx (XS.istore X678.here hx rfl (hb hby at_211) rfl (l' := #[.val (.int x0), .val (.int x1), .val (.int x2), .val (.long x3), .second, .val (.int (x0 &&& (3 : Int32))), .val (.int ((x0.toUInt32 >>> ((2 : Int32) &&& 31).toUInt32).toInt32)), .val (.int ((x2 &&& (255 : Int32)).toUInt32.toUInt16.toUInt32.toInt32)), .val (.ref b1), .unset, .val (.int (0 : Int32)), .val (.ref a674), .val (.int (4 : Int32)), .unset]) rfl) ?_
        refine gx (XS.aload X678.here hx rfl (hb hby at_213) rfl rfl) ?_
        refine gx (XS.iconst X678.here hx rfl (hb hby at_215)) ?_
        refine gx (XS.aload X678.here hx rfl (hb hby at_216) rfl rfl) ?_
        show Goes p.tables e below (T678.setTop (mkF m 218 #[.val (.int x0), .val (.int x1), .val (.int x2), .val (.long x3), .second, .val (.int (x0 &&& (3 : Int32))), .val (.int ((x0.toUInt32 >>> ((2 : Int32) &&& 31).toUInt32).toInt32)), .val (.int ((x2 &&& (255 : Int32)).toUInt32.toUInt16.toUInt32.toInt32)), .val (.ref b1), .unset, .val (.int (0 : Int32)), .val (.ref a674), .val (.int (4 : Int32)), .unset] [(.ref a674), (.int (0 : Int32)), (.ref b1)])) _
        refine gx (XS.iconst X678.here hx rfl (hb hby at_218)) ?_
        obtain ⟨_, _, ⟨T679, L679, k679, n679⟩, -, X679, ⟨Lc679, hQ679, l679, y679, z679⟩, st679⟩ := Jvm.LawKit.callS X678 hx (y := own_n7) hown (mvT hZ (own_hw hw 22 rfl)) (mvT hZ (own_hw hw 23 rfl)) (mvT hZ (own_hw hw 24 rfl)) (mvT hZ (own_hw hw 25 rfl)) (by decide) (backOf (W := 2) (own_rm3 l Z a0 hw [] a674 (0 : Int32) b674 k674 (4 : Int32) [(.int (109 : Int32)), (.int (97 : Int32)), (.int (110 : Int32)), (.int (121 : Int32))] (109 : Int32) cs fm T674.heap n0 Z674 A674 C674 V674 W674 (SC.ext O676.2) hcs (SF.ext O676.2) hfm (by decide) (fun _ => rfl)) hZ (own_hw hw 25 rfl) (own_hw hw 24 rfl) (by decide) (by decide)) (g := (mkF m 219 #[.val (.int x0), .val (.int x1), .val (.int x2), .val (.long x3), .second, .val (.int (x0 &&& (3 : Int32))), .val (.int ((x0.toUInt32 >>> ((2 : Int32) &&& 31).toUInt32).toInt32)), .val (.int ((x2 &&& (255 : Int32)).toUInt32.toUInt16.toUInt32.toInt32)), .val (.ref b1), .unset, .val (.int (0 : Int32)), .val (.ref a674), .val (.int (4 : Int32)), .unset] [(.int (0 : Int32)), (.ref a674), (.int (0 : Int32)), (.ref b1)])) rfl (by rw [hml]; rfl) (argsL := [(.ref a674), (.int (0 : Int32))]) (rest := [(.int (0 : Int32)), (.ref b1)]) (lenOf own_pd_pLjavallanglStringsIqC rfl) rfl (own_W rfl rfl) (hb hby at_219) (fun _ _ => ⟨rfl, hp678_0, (by decide : 3 + 0 ≤ _), (by decide : 29 + 0 ≤ _)⟩)
        dsimp only [Pt.U, Pt.locs, Pt.cells, Pt.slots] at X679 l679 y679 z679 st679 hQ679
        subst l679 y679 z679
        obtain ⟨hv679, Nq679, hp679_0⟩ := hQ679
        have N679 := Fr.app N678 Nq679
        rw [show own_atc (0 : Int32) (4 : Int32) (109 : Int32) = (109 : Int32) from by decide] at hv679
        subst hv679
        refine Goes.to st679 ?_
        obtain ⟨cl680, Ar680, q680, S680, N680, H680, G680⟩ := id F677
        have hin680 : ¬ ((0 : Int32) < 0 ∨ cl680.slots.size ≤ ((0 : Int32)).toNatClampNeg) := inb_of S680 ⟨by decide, by decide⟩
        obtain ⟨T681, h681, X681, e681, W681, st681⟩ := stC X679 hx hZ hp679_0 Ar680 (j := (0 : Int32)) hin680 (g := (mkF m 222 #[.val (.int x0), .val (.int x1), .val (.int x2), .val (.long x3), .second, .val (.int (x0 &&& (3 : Int32))), .val (.int ((x0.toUInt32 >>> ((2 : Int32) &&& 31).toUInt32).toInt32)), .val (.int ((x2 &&& (255 : Int32)).toUInt32.toUInt16.toUInt32.toInt32)), .val (.ref b1), .unset, .val (.int (0 : Int32)), .val (.ref a674), .val (.int (4 : Int32)), .unset] [(.int (109 : Int32)), (.int (0 : Int32)), (.ref b1)])) rfl rfl (hb hby at_222)
        subst e681
        have Sf682 := Safe.wr W681 Sf675 R674.1 Sf675
        have R683 := R674.trans (CHr.wr W681 Sf675 R674.1)
        have hk684 := Nat.le_trans hk674 (Nat.le_of_eq W681.size.symm)
        have O685 := O676.wr W681 g_b1
        have F687 := A674.wr W681
        have F688 := C674.other W681 (Or.inl (Ne.symm (Ns674 b1 Sf675).1))
        have F689 := V674.other W681 (Or.inl (Ne.symm (Ns674 b1 Sf675).1))
        have F690 := W674.other W681 (Ne.symm (Ns674 b1 Sf675).2)
        have N681 := Fr.snoc X681 N679 g_b1
        have Z681 : n0 ≤ T681.heap.size := Nat.le_trans Z674 (Nat.le_of_eq W681.size.symm)
        have V681 : Arv Z T681.heap b1 k1 .char (9 : Int32) [(.int (109 : Int32)), (.int (0 : Int32)), (.int (0 : Int32)), (.int (0 : Int32)), (.int (0 : Int32)), (.int (0 : Int32)), (.int (0 : Int32)), (.int (0 : Int32)), (.int (0 : Int32))] (.int (0 : Int32)) := Arv.set Ar680 q680 S680 N680 H680 G680 (fits_nar_char _) W681 0 rfl (Nat.le_of_ble_eq_true rfl)
        refine Goes.to st681 ?_
        refine gx (XS.aload X681.here hx rfl (hb hby at_223) rfl rfl) ?_
        refine gx (XS.iconst X681.here hx rfl (hb hby at_225)) ?_
        refine gx (XS.aload X681.here hx rfl (hb hby at_226) rfl rfl) ?_
        exact own_pt_own_rm0_691 l Z a0 hw ws x0 x1 x2 x3 aV kV a1 a2 a3 aE w1 w2 w3 v1 v2 v3 q1 q2 q3 cs fm h0 n0 Z0 hPm Bd hml0 hh  b1 a674 b674 k674 k1 T681 _ T674.vm hZ hown T681.heap X681 rfl N681 Z681  _ hS674 hk684 R683 Sf682 F687 F688 F689 F690 V681 g_b1 (Ns674 b1 Sf675).1 (Ns674 b1 Sf675).2 O685 hc5 hc252 hc529


theorem own_eqv {args : Array Value} {first s : State} {o : Option Outcome} {idx : List Nat} {t : Term} {k : Int32} (h : (Jvm.Cond.eq t (.int k)).value args first o s idx = some true) : t.eval args first o idx s = some (.int k) := by
  obtain ⟨x, y, h1, h2, k1, k2⟩ := cmp_v (Or.inl h)
  cases (Option.some.inj (h2.symm.trans (Term.int_eval k)))
  obtain ⟨z, rfl⟩ := k2
  have e : z = k := by
    have q := h
    simp [Jvm.Cond.value, h1, h2] at q
    exact q
  rw [h1, e]

theorem own_len {args : Array Value} {s : State} {t : Term} {a : Addr} {c : Cell} {k : Int32} (ev : t.eval args s none [] s = some (.ref a)) (ha : s.arrayAt? a = some c) (h : (Jvm.Term.length t).eval args s none [] s = some (.int k)) : c.slots.size < 2 ^ 31 ∧ c.slots.size.toInt32 = k := by
  have q : c.slots.size < 2 ^ 31 := by
    by_cases q : c.slots.size < 2 ^ 31
    · exact q
    · simp [Jvm.Term.eval, ev, ha, q] at h
  exact ⟨q, Value.int.inj (Option.some.inj ((len_f ev ha q).symm.trans h))⟩
theorem own_eqr {args : Array Value} {first s : State} {o : Option Outcome} {idx : List Nat} {t u : Term} {a : Addr} (h : (Jvm.Cond.eq t u).value args first o s idx = some true) (hu : u.eval args first o idx s = some (.ref a)) : t.eval args first o idx s = some (.ref a) := by
  cases ht : t.eval args first o idx s with
  | none => simp [Jvm.Cond.value, ht] at h
  | some x => cases x <;> simp [Jvm.Cond.value, ht, hu] at h ⊢ <;> first | exact h | exact h.symm

set_option maxRecDepth 65536 in
set_option maxHeartbeats 40000000 in
theorem comes_1 {Post : Tables → Env → Array Value → State → Outcome → State → Prop} (hpost : ∀ tb e args s v u, (limb_1_1.after args s (.returned v) u = true ∧ limb_1_2.after args s (.returned v) u = true ∧ True) → ReturnedEndW s (.returned v) u (Jvm.fieldLocs frame_1_writes args s ++ Jvm.arrayLocs frame_1_arrays args s ++ Jvm.staticLocs frame_1_statics s) 32 4288 → Post tb e args s (.returned v) u) :
    ArmFor flags0 classFile x code maxLocals ret World_1 tables_1 room_1 Calls_1 rest_1 Pre_1 Post := by
  intro l hfl _ _ p e ha hc hk s m args below hf hA hF happ hP
  obtain ⟨hcalls, hrest, hpre⟩ := hP
  obtain ⟨-, -, -, hnamed, -, -, -, hat⟩ := (Spec.applies_iff hf).mp happ
  obtain ⟨hg, hn⟩ := and_e (Cond.before_iff.mp (show (Jvm.Cond.and given_1 narrow_1).before args s = true from hpre))
  obtain ⟨hg0, hgr0⟩ := and_e hg
  obtain ⟨hg1, hgr1⟩ := and_e hgr0
  obtain ⟨hg2, hgr2⟩ := and_e hgr1
  obtain ⟨hg3, hgr3⟩ := and_e hgr2
  obtain ⟨w0, w1, w2, w3, rfl⟩ : ∃ w0 w1 w2 w3 : Value, args = #[w0, w1, w2, w3] := by
    have hs : args.size = 4 := by simpa [Cond.value, given_1] using hg0
    obtain ⟨L⟩ := args
    match L, hs with
    | [w0, w1, w2, w3], _ => exact ⟨w0, w1, w2, w3, rfl⟩
  have hw := fun d (hd : d ∈ tables_1) => atoms_spec (ws := Jvm.Cond.code x code maxLocals ret :: tables_1) hat d (List.mem_cons_of_mem _ hd)
  have hfit : Fit s := fun {y c} hc i hi => by
    obtain ⟨ha, rfl⟩ := Array.getElem?_eq_some_iff.mp hc
    have q := List.all_eq_true.mp ((Array.all_eq_true_iff_forall_mem.mp hF) _ (Array.getElem_mem ha)) i (List.mem_range.mpr hi)
    simpa [Array.getElem?_eq_getElem hi] using q
  obtain ⟨hsets, hown0⟩ := atoms_of _ (rest_1_c_eq ▸ (show rest_1_c.before _ s = true from hrest))
  have hr0 := Cond.before_iff.mp hown0
  obtain ⟨i0, ei0⟩ := is_v hg1
  obtain rfl : w0 = (.int i0) := Option.some.inj ei0
  obtain ⟨i1, ei1⟩ := is_v hg2
  obtain rfl : w1 = (.int i1) := Option.some.inj ei1
  obtain ⟨i2, ei2⟩ := is_v hg3
  obtain rfl : w2 = (.int i2) := Option.some.inj ei2
  obtain ⟨i3, ei3⟩ := isL_v hgr3
  obtain rfl : w3 = (.long i3) := Option.some.inj ei3
  obtain ⟨hn0, hnr0⟩ := and_e hn
  obtain ⟨hn1, hnr1⟩ := and_e hnr0
  obtain ⟨hn2, hnr2⟩ := and_e hnr1
  obtain ⟨hn3, hnr3⟩ := and_e hnr2
  obtain ⟨hn4, hnr4⟩ := and_e hnr3
  obtain ⟨hn5, hnr5⟩ := and_e hnr4
  obtain ⟨hn6, hnr6⟩ := and_e hnr5
  obtain ⟨hn7, hnr7⟩ := and_e hnr6
  obtain ⟨hn8, hnr8⟩ := and_e hnr7
  obtain ⟨hn9, hnr9⟩ := and_e hnr8
  obtain ⟨hn10, hnr10⟩ := and_e hnr9
  obtain ⟨hn11, hnr11⟩ := and_e hnr10
  obtain ⟨hn12, hnr12⟩ := and_e hnr11
  obtain ⟨hn13, hnr13⟩ := and_e hnr12
  obtain ⟨hn14, hnr14⟩ := and_e hnr13
  obtain ⟨hn15, hnr15⟩ := and_e hnr14
  obtain ⟨hn16, hnr16⟩ := and_e hnr15
  obtain ⟨hn17, hnr17⟩ := and_e hnr16
  obtain ⟨hn18, hnr18⟩ := and_e hnr17
  obtain ⟨hn19, hnr19⟩ := and_e hnr18
  obtain ⟨hn20, hnr20⟩ := and_e hnr19
  obtain ⟨hn21, hnr21⟩ := and_e hnr20
  obtain ⟨hn22, hnr22⟩ := and_e hnr21
  obtain ⟨hn23, hnr23⟩ := and_e hnr22
  obtain ⟨hn24, hnr24⟩ := and_e hnr23
  obtain ⟨hn25, hnr25⟩ := and_e hnr24
  obtain ⟨hn26, hnr26⟩ := and_e hnr25
  obtain ⟨hn27, hnr27⟩ := and_e hnr26
  obtain ⟨hn28, hnr28⟩ := and_e hnr27
  obtain ⟨hn29, hnr29⟩ := and_e hnr28
  obtain ⟨hn30, hnr30⟩ := and_e hnr29
  obtain ⟨hn31, hnr31⟩ := and_e hnr30
  obtain ⟨hn32, hnr32⟩ := and_e hnr31
  obtain ⟨hn33, hnr33⟩ := and_e hnr32
  obtain ⟨hn34, hnr34⟩ := and_e hnr33
  obtain ⟨a1, ev1⟩ := exa_v hn0
  have S1 : Sta s s.heap "com/example/polgen/polgen/model/Multiplicity" "ONE" "Lcom/example/polgen/polgen/model/Multiplicity;" (.ref a1) := Sta.start ev1 (Or.inr ⟨(own_hw hw 82 rfl), (own_hw hw 83 rfl)⟩)
  have E1 : Exa s s.heap a1 "com/example/polgen/polgen/model/Multiplicity" := Exa.start ev1 hn0
  obtain ⟨a2, ev2⟩ := exa_v hn5
  have S2 : Sta s s.heap "com/example/polgen/polgen/model/Multiplicity" "OPTIONAL" "Lcom/example/polgen/polgen/model/Multiplicity;" (.ref a2) := Sta.start ev2 (Or.inr ⟨(own_hw hw 82 rfl), (own_hw hw 99 rfl)⟩)
  have E2 : Exa s s.heap a2 "com/example/polgen/polgen/model/Multiplicity" := Exa.start ev2 hn5
  obtain ⟨a3, ev3⟩ := exa_v hn7
  have S3 : Sta s s.heap "com/example/polgen/polgen/model/Multiplicity" "MANY" "Lcom/example/polgen/polgen/model/Multiplicity;" (.ref a3) := Sta.start ev3 (Or.inr ⟨(own_hw hw 82 rfl), (own_hw hw 100 rfl)⟩)
  have E3 : Exa s s.heap a3 "com/example/polgen/polgen/model/Multiplicity" := Exa.start ev3 hn7
  obtain ⟨aV, evV⟩ := arr_v hn1
  obtain ⟨clV, AV⟩ := Arr.start evV hn1
  have haV := AV.fin (Vm.Alike.refl _)
  have SV : Sta s s.heap "com/example/polgen/polgen/model/Multiplicity" "$VALUES" "[Lcom/example/polgen/polgen/model/Multiplicity;" (.ref aV) := Sta.start evV (Or.inr ⟨(own_hw hw 82 rfl), (own_hw hw 91 rfl)⟩)
  have EV : Exa s s.heap aV "[Lcom/example/polgen/polgen/model/Multiplicity;" := Exa.start evV hn2
  obtain ⟨lV1, lV2⟩ := own_len evV haV (own_eqv hn3)
  have mV0 : clV.slots[0]? = some (.ref a1) := (elem_f evV (Term.int_eval (0 : Int32)) haV (by decide)).symm.trans (own_eqr hn4 ev1)
  have mV1 : clV.slots[1]? = some (.ref a2) := (elem_f evV (Term.int_eval (1 : Int32)) haV (by decide)).symm.trans (own_eqr hn6 ev2)
  have mV2 : clV.slots[2]? = some (.ref a3) := (elem_f evV (Term.int_eval (2 : Int32)) haV (by decide)).symm.trans (own_eqr hn8 ev3)
  have VV : Arv s s.heap aV clV.cls (.object "com/example/polgen/polgen/model/Multiplicity") (3 : Int32) [(.ref a1), (.ref a2), (.ref a3)] .null := Arv.start hfit AV lV1 lV2 (by decide) rfl ⟨mV0, mV1, mV2, trivial⟩
  obtain ⟨w1, ew1⟩ := exa_v hn9
  have Fw1 : Fld s s.heap a1 "com/example/polgen/polgen/model/Multiplicity" "word" "Ljava/lang/String;" (.ref w1) := Fld.start ((fld_at ev1).symm.trans ew1)
  have Ew1 : Exa s s.heap w1 "java/lang/String" := Exa.start ew1 hn9
  have Cw1 : Fld s s.heap w1 "java/lang/String" "coder" "B" (.int (0 : Int32)) := Fld.start ((fld_at ew1).symm.trans (own_eqv hn10))
  obtain ⟨v1, evv1⟩ := arr_v hn11
  have Vw1 : Fld s s.heap w1 "java/lang/String" "value" "[B" (.ref v1) := Fld.start ((fld_at ew1).symm.trans evv1)
  obtain ⟨clw1, Ab1⟩ := Arr.start evv1 hn11
  have haw1 := Ab1.fin (Vm.Alike.refl _)
  obtain ⟨lw1, lx1⟩ := own_len evv1 haw1 (own_eqv hn12)
  have mw1_0 : clw1.slots[0]? = some (.int (111 : Int32)) := (elem_f evv1 (Term.int_eval (0 : Int32)) haw1 (by decide)).symm.trans (own_eqv hn13)
  have mw1_1 : clw1.slots[1]? = some (.int (110 : Int32)) := (elem_f evv1 (Term.int_eval (1 : Int32)) haw1 (by decide)).symm.trans (own_eqv hn14)
  have mw1_2 : clw1.slots[2]? = some (.int (101 : Int32)) := (elem_f evv1 (Term.int_eval (2 : Int32)) haw1 (by decide)).symm.trans (own_eqv hn15)
  have Aw1 : Arv s s.heap v1 clw1.cls .byte (3 : Int32) [(.int (111 : Int32)), (.int (110 : Int32)), (.int (101 : Int32))] (.int (0 : Int32)) := Arv.start hfit Ab1 lw1 lx1 (by decide) rfl ⟨mw1_0, mw1_1, mw1_2, trivial⟩
  obtain ⟨w2, ew2⟩ := exa_v hn16
  have Fw2 : Fld s s.heap a2 "com/example/polgen/polgen/model/Multiplicity" "word" "Ljava/lang/String;" (.ref w2) := Fld.start ((fld_at ev2).symm.trans ew2)
  have Ew2 : Exa s s.heap w2 "java/lang/String" := Exa.start ew2 hn16
  have Cw2 : Fld s s.heap w2 "java/lang/String" "coder" "B" (.int (0 : Int32)) := Fld.start ((fld_at ew2).symm.trans (own_eqv hn17))
  obtain ⟨v2, evv2⟩ := arr_v hn18
  have Vw2 : Fld s s.heap w2 "java/lang/String" "value" "[B" (.ref v2) := Fld.start ((fld_at ew2).symm.trans evv2)
  obtain ⟨clw2, Ab2⟩ := Arr.start evv2 hn18
  have haw2 := Ab2.fin (Vm.Alike.refl _)
  obtain ⟨lw2, lx2⟩ := own_len evv2 haw2 (own_eqv hn19)
  have mw2_0 : clw2.slots[0]? = some (.int (111 : Int32)) := (elem_f evv2 (Term.int_eval (0 : Int32)) haw2 (by decide)).symm.trans (own_eqv hn28)
  have mw2_1 : clw2.slots[1]? = some (.int (112 : Int32)) := (elem_f evv2 (Term.int_eval (1 : Int32)) haw2 (by decide)).symm.trans (own_eqv hn29)
  have mw2_2 : clw2.slots[2]? = some (.int (116 : Int32)) := (elem_f evv2 (Term.int_eval (2 : Int32)) haw2 (by decide)).symm.trans (own_eqv hn30)
  have mw2_3 : clw2.slots[3]? = some (.int (105 : Int32)) := (elem_f evv2 (Term.int_eval (3 : Int32)) haw2 (by decide)).symm.trans (own_eqv hn31)
  have mw2_4 : clw2.slots[4]? = some (.int (111 : Int32)) := (elem_f evv2 (Term.int_eval (4 : Int32)) haw2 (by decide)).symm.trans (own_eqv hn32)
  have mw2_5 : clw2.slots[5]? = some (.int (110 : Int32)) := (elem_f evv2 (Term.int_eval (5 : Int32)) haw2 (by decide)).symm.trans (own_eqv hn33)
  have mw2_6 : clw2.slots[6]? = some (.int (97 : Int32)) := (elem_f evv2 (Term.int_eval (6 : Int32)) haw2 (by decide)).symm.trans (own_eqv hn34)
  have mw2_7 : clw2.slots[7]? = some (.int (108 : Int32)) := (elem_f evv2 (Term.int_eval (7 : Int32)) haw2 (by decide)).symm.trans (own_eqv hnr34)
  have Aw2 : Arv s s.heap v2 clw2.cls .byte (8 : Int32) [(.int (111 : Int32)), (.int (112 : Int32)), (.int (116 : Int32)), (.int (105 : Int32)), (.int (111 : Int32)), (.int (110 : Int32)), (.int (97 : Int32)), (.int (108 : Int32))] (.int (0 : Int32)) := Arv.start hfit Ab2 lw2 lx2 (by decide) rfl ⟨mw2_0, mw2_1, mw2_2, mw2_3, mw2_4, mw2_5, mw2_6, mw2_7, trivial⟩
  obtain ⟨w3, ew3⟩ := exa_v hn20
  have Fw3 : Fld s s.heap a3 "com/example/polgen/polgen/model/Multiplicity" "word" "Ljava/lang/String;" (.ref w3) := Fld.start ((fld_at ev3).symm.trans ew3)
  have Ew3 : Exa s s.heap w3 "java/lang/String" := Exa.start ew3 hn20
  have Cw3 : Fld s s.heap w3 "java/lang/String" "coder" "B" (.int (0 : Int32)) := Fld.start ((fld_at ew3).symm.trans (own_eqv hn21))
  obtain ⟨v3, evv3⟩ := arr_v hn22
  have Vw3 : Fld s s.heap w3 "java/lang/String" "value" "[B" (.ref v3) := Fld.start ((fld_at ew3).symm.trans evv3)
  obtain ⟨clw3, Ab3⟩ := Arr.start evv3 hn22
  have haw3 := Ab3.fin (Vm.Alike.refl _)
  obtain ⟨lw3, lx3⟩ := own_len evv3 haw3 (own_eqv hn23)
  have mw3_0 : clw3.slots[0]? = some (.int (109 : Int32)) := (elem_f evv3 (Term.int_eval (0 : Int32)) haw3 (by decide)).symm.trans (own_eqv hn24)
  have mw3_1 : clw3.slots[1]? = some (.int (97 : Int32)) := (elem_f evv3 (Term.int_eval (1 : Int32)) haw3 (by decide)).symm.trans (own_eqv hn25)
  have mw3_2 : clw3.slots[2]? = some (.int (110 : Int32)) := (elem_f evv3 (Term.int_eval (2 : Int32)) haw3 (by decide)).symm.trans (own_eqv hn26)
  have mw3_3 : clw3.slots[3]? = some (.int (121 : Int32)) := (elem_f evv3 (Term.int_eval (3 : Int32)) haw3 (by decide)).symm.trans (own_eqv hn27)
  have Aw3 : Arv s s.heap v3 clw3.cls .byte (4 : Int32) [(.int (109 : Int32)), (.int (97 : Int32)), (.int (110 : Int32)), (.int (121 : Int32))] (.int (0 : Int32)) := Arv.start hfit Ab3 lw3 lx3 (by decide) rfl ⟨mw3_0, mw3_1, mw3_2, mw3_3, trivial⟩
  have hexE := Cond.before_iff.mp (hsets _ (List.mem_of_getElem? (i := 11) rfl))
  obtain ⟨aE, evE⟩ := exa_v hexE
  have SE : Sta s s.heap "java/util/Optional" "EMPTY" "Ljava/util/Optional;" (.ref aE) := Sta.start evE (Or.inl (hsets _ (List.mem_of_getElem? (i := 10) rfl)))
  have EE : Exa s s.heap aE "java/util/Optional" := Exa.start evE hexE
  have FE : Fld s s.heap aE "java/util/Optional" "value" "Ljava/lang/Object;" .null := Fld.start ((fld_at evE).symm.trans (null_v (Cond.before_iff.mp (hsets _ (List.mem_of_getElem? (i := 12) rfl)))))
  obtain ⟨cs, ecs⟩ := is_v (Cond.before_iff.mp (hsets _ (List.mem_of_getElem? (i := 1) rfl)))
  have SC : Sta s s.heap "java/lang/String" "COMPACT_STRINGS" "Z" (.int cs) := Sta.start ecs (Or.inl (hsets _ (List.mem_of_getElem? (i := 0) rfl)))
  have hcw : Jvm.Lit.compactW.before _ s = true := (hsets _ (List.mem_of_getElem? (i := 2) rfl))
  have hcs : ¬ (cs = (0 : Int32)) := gotF (Cond.eq_ints ecs (Term.int_eval 0)) (by simpa using not_v (Cond.before_iff.mp hcw))
  obtain ⟨fm, efm, hfm⟩ := isR_v (Cond.before_iff.mp (hsets _ (List.mem_of_getElem? (i := 8) rfl)))
  have SF : Sta s s.heap "jdk/internal/util/Preconditions" "SIOOBE_FORMATTER" "Ljava/util/function/BiFunction;" fm := Sta.start efm (Or.inl (hsets _ (List.mem_of_getElem? (i := 7) rfl)))
  have hCH0 : CHv s own_EL s.vm s.heap := CHv.start (own_EW hw) (fun p hp => hcalls.1 p hp) hcw (own_hw hw 4 rfl) (own_hw hw 3 rfl)
  obtain ⟨n, o, h1, h2, h3, _, L, rfl, ⟨rfl, N⟩, hq⟩ := own_rm0 l s _ hw tables_1 i0 i1 i2 i3 aV clV.cls a1 a2 a3 aE w1 w2 w3 v1 v2 v3 clw1.cls clw2.cls clw3.cls cs fm s.heap s.heap.size (Nat.le_refl _) (Old.start s) hCH0 S1 S2 S3 E1 E2 E3 SV VV EV SE EE FE Fw1 Ew1 Cw1 Vw1 Aw1 Fw2 Ew2 Cw2 Vw2 Aw2 Fw3 Ew3 Cw3 Vw3 Aw3 SC hcs SF hfm p e ha hc hk s m _ below hf ((Spec.applies_iff_loose hf).mp happ).1 ⟨rfl, rfl, rfl⟩ trivial
  refine ⟨n, _, h1, h2, h3, hpost _ _ _ _ _ _ ⟨Cond.after_iff.mpr rfl, Cond.after_iff.mpr (eq_i res_at (Term.int_eval (1)) rfl), trivial⟩ ⟨hq.1, hq.2.1, hq.2.2.1, (hq.2.2.2.sift fun y hy => Or.inr (N y hy)).mono (by decide) (by decide)⟩⟩
theorem main_1_1 : Claimed_1_1 := comes_1 fun _ _ _ _ _ _ h hF => ⟨h.1, hF⟩
theorem main_1_2 : Claimed_1_2 := comes_1 fun _ _ _ _ _ _ h hF => ⟨h.2.1, hF⟩
end Jvm.Pilot.@@N@@
namespace Jvm.Pilot.@@N@@
open Jvm Jvm.ClassFile Sem Op Lib Jvm.Free Jvm.Stand Jvm.Pilot.@@N@@.Jvm.D
/-! MADE BY PROGRAM (witnessworld.py) out of the Statement's table words and the real class files: 24 classes; the members and pool entries that the words name. The judged class is class 1, her method 1. -/
namespace start1
open Jvm.ClassFile
def u (s : String) : CpInfo := .utf8 (stringToUtf16 s)
/-- a pool by its gaps: so many unusable entries, then the entry; so many at the end -/
def gap : Nat → List CpInfo → List CpInfo
  | 0, r => r
  | n + 1, r => .unusable :: gap n r
def poolList (es : List (Nat × CpInfo)) (last : Nat) : List CpInfo := es.foldr (fun e r => gap e.1 (e.2 :: r)) (gap last [])
def pool (es : List (Nat × CpInfo)) (last : Nat) : Array CpInfo := ⟨poolList es last⟩
def fileOf (pool : Array CpInfo) (this : Nat) (attrs : Array Attribute := #[]) (ms : Array MethodInfo := #[]) (fl : Nat := 33) (sup : Nat := 0) (ifs : Array Nat := #[]) (fds : Array FieldInfo := #[]) : ClassFile where
  minorVersion := 0
  majorVersion := 65
  constantPool := pool
  accessFlags := fl
  thisClass := this
  superClass := sup
  interfaces := ifs
  fields := fds
  methods := ms
  attributes := attrs
def plain (name : String) (sup : Option ClassId) : Class where
  name := name
  kind := .ordinary
  loader := none
  accessFlags := 33
  super := sup
  interfaces := #[]
  cf := none
  fields := #[]
  methods := #[]
  instanceTypes := #[]
  staticTypes := #[]
  resolved := #[]
  callSites := []
  init := .initialized
  statics := none
  mirror := none

def pool0 : Array CpInfo := pool [(5, u "<init>"), (0, u "()V"), (1, .class_ 10), (1, u "java/lang/Object"), (85, u "clone"), (0, u "()Ljava/lang/Object;")] 26

def k0c0 : Code := { maxStack := 0, maxLocals := 1, code := object_method_1_code, exceptionTable := #[], attributes := #[] }
def k0m0 : Method := { name := "<init>", desc := "()V", sig := { parameters := [], returnType := none }, accessFlags := 1, code := some k0c0 }
def k0m1 : Method := { name := "clone", desc := "()Ljava/lang/Object;", sig := { parameters := [], returnType := some (.object "java/lang/Object") }, accessFlags := 260, code := none }
/-- java/lang/Object -/
def k0 : Class := { plain "java/lang/Object" none with
  accessFlags := 33
  interfaces := #[]
  cf := some (fileOf pool0 8 #[] #[{ accessFlags := 1, nameIndex := 5, descriptorIndex := 6, attributes := #[] }, { accessFlags := 260, nameIndex := 96, descriptorIndex := 97, attributes := #[] }] 33 0 #[] #[])
  fields := #[]
  methods := #[k0m0, k0m1]
  instanceTypes := #[]
  staticTypes := #[]
  resolved := Array.replicate 124 none
  statics := none }

def pool1 : Array CpInfo := pool [(2, .class_ 4), (1, u "java/lang/Object"), (0, u "<init>"), (0, u "()V"), (0, .long 255), (1, .string 10), (0, u "one"), (0, .string 12), (0, u "optional"), (0, .string 14), (0, u "many"), (0, .methodref 16 17), (0, .class_ 18), (0, .nameAndType 19 20), (0, u "java/lang/String"), (0, u "length"), (0, u "()I"), (0, .methodref 22 23), (0, .class_ 24), (0, .nameAndType 25 26), (0, u "com/example/polgen/polgen/model/MultiplicityNamedPinLaw"), (0, u "at"), (0, u "(Ljava/lang/String;I)C"), (0, .integer 2147483647), (0, .methodref 22 29), (0, .nameAndType 30 31), (0, u "make"), (0, u "([CI)Ljava/lang/String;"), (0, .methodref 16 33), (0, .nameAndType 34 35), (0, u "equals"), (0, u "(Ljava/lang/Object;)Z"), (0, .fieldref 37 38), (0, .class_ 39), (0, .nameAndType 40 41), (0, u "com/example/polgen/polgen/model/Multiplicity"), (0, u "ONE"), (0, u "Lcom/example/polgen/polgen/model/Multiplicity;"), (0, .fieldref 37 43), (0, .nameAndType 44 41), (0, u "OPTIONAL"), (0, .fieldref 37 46), (0, .nameAndType 47 41), (0, u "MANY"), (0, .methodref 37 49), (0, .nameAndType 50 51), (0, u "named"), (0, u "(Ljava/lang/String;)Ljava/util/Optional;"), (0, .methodref 53 54), (0, .class_ 55), (0, .nameAndType 56 57), (0, u "java/util/Optional"), (0, u "orElse"), (0, u "(Ljava/lang/Object;)Ljava/lang/Object;"), (0, .methodref 16 59), (0, .nameAndType 60 61), (0, u "charAt"), (0, u "(I)C"), (0, .methodref 16 63), (0, .nameAndType 5 64), (0, u "([C)V"), (2, u "law"), (0, u "(IIIJ)Z")] 5

def k1m0 : Method := { name := "<init>", desc := "()V", sig := { parameters := [], returnType := none }, accessFlags := 1, code := none }
def k1c1 : Code := { maxStack := 6, maxLocals := 14, code := code, exceptionTable := #[], attributes := #[] }
def k1m1 : Method := { name := "law", desc := "(IIIJ)Z", sig := { parameters := [.int, .int, .int, .long], returnType := some .boolean }, accessFlags := 9, code := some k1c1 }
def k1c2 : Code := { maxStack := 2, maxLocals := 2, code := method_3_code, exceptionTable := #[], attributes := #[] }
def k1m2 : Method := { name := "at", desc := "(Ljava/lang/String;I)C", sig := { parameters := [(.object "java/lang/String"), .int], returnType := some .char }, accessFlags := 10, code := some k1c2 }
def k1c3 : Code := { maxStack := 7, maxLocals := 2, code := method_4_code, exceptionTable := #[], attributes := #[] }
def k1m3 : Method := { name := "make", desc := "([CI)Ljava/lang/String;", sig := { parameters := [(.array .char), .int], returnType := some (.object "java/lang/String") }, accessFlags := 10, code := some k1c3 }
/-- com/example/polgen/polgen/model/MultiplicityNamedPinLaw -/
def k1 : Class := { plain "com/example/polgen/polgen/model/MultiplicityNamedPinLaw" (some 0) with
  accessFlags := 49
  interfaces := #[]
  cf := some (fileOf pool1 22 #[] #[{ accessFlags := 1, nameIndex := 5, descriptorIndex := 6, attributes := #[] }, { accessFlags := 9, nameIndex := 67, descriptorIndex := 68, attributes := #[] }, { accessFlags := 10, nameIndex := 25, descriptorIndex := 26, attributes := #[] }, { accessFlags := 10, nameIndex := 30, descriptorIndex := 31, attributes := #[] }] 49 2 #[] #[])
  fields := #[]
  methods := #[k1m0, k1m1, k1m2, k1m3]
  instanceTypes := #[]
  staticTypes := #[]
  resolved := Array.replicate 74 none
  statics := none }

def pool2 : Array CpInfo := pool [(1, .class_ 2), (0, u "java/io/Serializable"), (0, .class_ 4), (0, u "java/lang/Object")] 2

/-- java/io/Serializable -/
def k2 : Class := { plain "java/io/Serializable" (some 0) with
  accessFlags := 1537
  interfaces := #[]
  cf := some (fileOf pool2 1 #[] #[] 1537 3 #[] #[])
  fields := #[]
  methods := #[]
  instanceTypes := #[]
  staticTypes := #[]
  resolved := Array.replicate 7 none
  statics := none }

def pool3 : Array CpInfo := pool [(1, .class_ 2), (0, u "java/lang/Comparable"), (0, .class_ 4), (0, u "java/lang/Object")] 7

/-- java/lang/Comparable -/
def k3 : Class := { plain "java/lang/Comparable" (some 0) with
  accessFlags := 1537
  interfaces := #[]
  cf := some (fileOf pool3 1 #[] #[] 1537 3 #[] #[])
  fields := #[]
  methods := #[]
  instanceTypes := #[]
  staticTypes := #[]
  resolved := Array.replicate 12 none
  statics := none }

def pool4 : Array CpInfo := pool [(2, .class_ 4), (1, u "java/lang/CharSequence"), (42, .class_ 48), (0, u "java/lang/CharSequence$1CodePointIterator"), (10, .class_ 60), (0, u "java/lang/CharSequence$1CharIterator"), (5, .class_ 67), (0, u "java/lang/Object")] 63

/-- java/lang/CharSequence -/
def k4 : Class := { plain "java/lang/CharSequence" (some 0) with
  accessFlags := 1537
  interfaces := #[]
  cf := some (fileOf pool4 2 #[.nestMembers #[47, 59]] #[] 1537 66 #[] #[])
  fields := #[]
  methods := #[]
  instanceTypes := #[]
  staticTypes := #[]
  resolved := Array.replicate 131 none
  statics := none }

def pool5 : Array CpInfo := pool [(1, .class_ 2), (0, u "java/lang/constant/Constable"), (0, .class_ 4), (0, u "java/lang/Object")] 6

/-- java/lang/constant/Constable -/
def k5 : Class := { plain "java/lang/constant/Constable" (some 0) with
  accessFlags := 1537
  interfaces := #[]
  cf := some (fileOf pool5 1 #[] #[] 1537 3 #[] #[])
  fields := #[]
  methods := #[]
  instanceTypes := #[]
  staticTypes := #[]
  resolved := Array.replicate 11 none
  statics := none }

def pool6 : Array CpInfo := pool [(1, .class_ 2), (0, u "java/lang/constant/ConstantDesc"), (0, .class_ 4), (0, u "java/lang/Object")] 32

/-- java/lang/constant/ConstantDesc -/
def k6 : Class := { plain "java/lang/constant/ConstantDesc" (some 0) with
  accessFlags := 1537
  interfaces := #[]
  cf := some (fileOf pool6 1 #[] #[] 1537 3 #[] #[])
  fields := #[]
  methods := #[]
  instanceTypes := #[]
  staticTypes := #[]
  resolved := Array.replicate 37 none
  statics := none }

def pool7 : Array CpInfo := pool [(1, .methodref 2 3), (0, .class_ 4), (0, .nameAndType 5 6), (0, u "java/lang/Object"), (0, u "<init>"), (0, u "()V"), (0, .string 8), (0, u ""), (0, .fieldref 10 11), (0, .class_ 12), (0, .nameAndType 13 14), (0, u "java/lang/String"), (0, u "value"), (0, u "[B"), (0, .fieldref 10 16), (0, .nameAndType 17 18), (0, u "coder"), (0, u "B"), (2, u "hash"), (0, u "I"), (2, u "hashIsZero"), (0, u "Z"), (0, .methodref 10 28), (0, .nameAndType 5 29), (0, u "([CIILjava/lang/Void;)V"), (8, .fieldref 10 39), (0, .nameAndType 40 26), (0, u "COMPACT_STRINGS"), (1, .class_ 44), (1, u "java/lang/StringUTF16"), (0, u "compress"), (1, .methodref 42 48), (0, .nameAndType 49 50), (0, u "coderFromArrayLen"), (0, u "([BI)B"), (56, .class_ 109), (1, u "java/lang/StringLatin1"), (32, u "()Z"), (34, .methodref 42 178), (0, .nameAndType 45 179), (0, u "([CII)[B"), (154, u "()I"), (0, .methodref 10 336), (0, .nameAndType 17 337), (0, u "()B"), (25, u "([BI)C"), (27, u "(II)V"), (35, u "(I)C"), (64, .methodref 10 493), (0, .nameAndType 494 142), (0, u "isLatin1"), (0, .methodref 107 496), (0, .nameAndType 497 363), (0, u "charAt"), (3, u "checkIndex"), (5, u "length"), (33, .methodref 107 542), (0, .nameAndType 543 544), (0, u "equals"), (0, u "([B[B)Z"), (28, u "(Ljava/lang/Object;)Z"), (1, .class_ 576), (0, u "java/lang/CharSequence"), (22, u "CASE_INSENSITIVE_ORDER"), (0, u "Ljava/util/Comparator;"), (409, u "([C)V"), (42, .fieldref 1054 1055), (0, .class_ 1056), (0, .nameAndType 1057 1058), (0, u "jdk/internal/util/Preconditions"), (0, u "SIOOBE_FORMATTER"), (0, u "Ljava/util/function/BiFunction;"), (0, .methodref 1054 1060), (0, .nameAndType 501 1061), (0, u "(IILjava/util/function/BiFunction;)I"), (39, u "serialPersistentFields"), (0, u "[Ljava/io/ObjectStreamField;"), (0, .class_ 1104), (0, u "java/lang/String$CaseInsensitiveComparator"), (1, .class_ 1107), (0, u "java/io/Serializable"), (0, .class_ 1109), (0, u "java/lang/Comparable"), (0, .class_ 1111), (0, u "java/lang/constant/Constable"), (0, .class_ 1113), (0, u "java/lang/constant/ConstantDesc"), (2, u "serialVersionUID"), (0, u "J"), (3, u "REPL"), (0, u "C"), (2, u "LATIN1"), (1, u "UTF16")] 323

def k7m0 : Method := { name := "<init>", desc := "()V", sig := { parameters := [], returnType := none }, accessFlags := 1, code := none }
def k7c1 : Code := { maxStack := 5, maxLocals := 2, code := jdk_42_method_3_code, exceptionTable := #[], attributes := #[] }
def k7m1 : Method := { name := "<init>", desc := "([C)V", sig := { parameters := [(.array .char)], returnType := none }, accessFlags := 1, code := some k7c1 }
def k7c2 : Code := { maxStack := 2, maxLocals := 1, code := jdk_42_method_54_code, exceptionTable := #[], attributes := #[] }
def k7m2 : Method := { name := "length", desc := "()I", sig := { parameters := [], returnType := some .int }, accessFlags := 1, code := some k7c2 }
def k7c3 : Code := { maxStack := 2, maxLocals := 2, code := jdk_42_method_56_code, exceptionTable := #[], attributes := #[] }
def k7m3 : Method := { name := "charAt", desc := "(I)C", sig := { parameters := [.int], returnType := some .char }, accessFlags := 1, code := some k7c3 }
def k7c4 : Code := { maxStack := 2, maxLocals := 3, code := jdk_42_method_66_code, exceptionTable := #[], attributes := #[] }
def k7m4 : Method := { name := "equals", desc := "(Ljava/lang/Object;)Z", sig := { parameters := [(.object "java/lang/Object")], returnType := some .boolean }, accessFlags := 1, code := some k7c4 }
def k7c5 : Code := { maxStack := 4, maxLocals := 6, code := jdk_42_method_149_code, exceptionTable := #[], attributes := #[] }
def k7m5 : Method := { name := "<init>", desc := "([CIILjava/lang/Void;)V", sig := { parameters := [(.array .char), .int, .int, (.object "java/lang/Void")], returnType := none }, accessFlags := 2, code := some k7c5 }
def k7c6 : Code := { maxStack := 1, maxLocals := 1, code := jdk_42_method_152_code, exceptionTable := #[], attributes := #[] }
def k7m6 : Method := { name := "coder", desc := "()B", sig := { parameters := [], returnType := some .byte }, accessFlags := 0, code := some k7c6 }
def k7c7 : Code := { maxStack := 1, maxLocals := 1, code := jdk_42_method_154_code, exceptionTable := #[], attributes := #[] }
def k7m7 : Method := { name := "isLatin1", desc := "()Z", sig := { parameters := [], returnType := some .boolean }, accessFlags := 0, code := some k7c7 }
def k7c8 : Code := { maxStack := 3, maxLocals := 2, code := jdk_42_method_155_code, exceptionTable := #[], attributes := #[] }
def k7m8 : Method := { name := "checkIndex", desc := "(II)V", sig := { parameters := [.int, .int], returnType := none }, accessFlags := 8, code := some k7c8 }
/-- java/lang/String -/
def k7 : Class := { plain "java/lang/String" (some 0) with
  accessFlags := 49
  interfaces := #[2, 3, 4, 5, 6]
  cf := some (fileOf pool7 10 #[.nestMembers #[1103]] #[{ accessFlags := 1, nameIndex := 5, descriptorIndex := 6, attributes := #[] }, { accessFlags := 1, nameIndex := 5, descriptorIndex := 1010, attributes := #[] }, { accessFlags := 1, nameIndex := 507, descriptorIndex := 334, attributes := #[] }, { accessFlags := 1, nameIndex := 497, descriptorIndex := 427, attributes := #[] }, { accessFlags := 1, nameIndex := 543, descriptorIndex := 573, attributes := #[] }, { accessFlags := 2, nameIndex := 5, descriptorIndex := 29, attributes := #[] }, { accessFlags := 0, nameIndex := 17, descriptorIndex := 337, attributes := #[] }, { accessFlags := 0, nameIndex := 494, descriptorIndex := 142, attributes := #[] }, { accessFlags := 8, nameIndex := 501, descriptorIndex := 391, attributes := #[] }] 49 2 #[1106, 1108, 575, 1110, 1112] #[{ accessFlags := 18, nameIndex := 13, descriptorIndex := 14, attributes := #[] }, { accessFlags := 18, nameIndex := 17, descriptorIndex := 18, attributes := #[] }, { accessFlags := 2, nameIndex := 21, descriptorIndex := 22, attributes := #[] }, { accessFlags := 2, nameIndex := 25, descriptorIndex := 26, attributes := #[] }, { accessFlags := 26, nameIndex := 1116, descriptorIndex := 1117, attributes := #[] }, { accessFlags := 24, nameIndex := 40, descriptorIndex := 26, attributes := #[] }, { accessFlags := 26, nameIndex := 1101, descriptorIndex := 1102, attributes := #[] }, { accessFlags := 26, nameIndex := 1121, descriptorIndex := 1122, attributes := #[] }, { accessFlags := 25, nameIndex := 599, descriptorIndex := 600, attributes := #[] }, { accessFlags := 24, nameIndex := 1125, descriptorIndex := 18, attributes := #[] }, { accessFlags := 24, nameIndex := 1127, descriptorIndex := 18, attributes := #[] }])
  fields := #[{ name := "value", type := (.array .byte), accessFlags := 18, slot := 0, constantValue := 0 }, { name := "coder", type := .byte, accessFlags := 18, slot := 1, constantValue := 0 }, { name := "hash", type := .int, accessFlags := 2, slot := 2, constantValue := 0 }, { name := "hashIsZero", type := .boolean, accessFlags := 2, slot := 3, constantValue := 0 }, { name := "serialVersionUID", type := .long, accessFlags := 26, slot := 0, constantValue := 0 }, { name := "COMPACT_STRINGS", type := .boolean, accessFlags := 24, slot := 1, constantValue := 0 }, { name := "serialPersistentFields", type := (.array (.object "java/io/ObjectStreamField")), accessFlags := 26, slot := 2, constantValue := 0 }, { name := "REPL", type := .char, accessFlags := 26, slot := 3, constantValue := 0 }, { name := "CASE_INSENSITIVE_ORDER", type := (.object "java/util/Comparator"), accessFlags := 25, slot := 4, constantValue := 0 }, { name := "LATIN1", type := .byte, accessFlags := 24, slot := 5, constantValue := 0 }, { name := "UTF16", type := .byte, accessFlags := 24, slot := 6, constantValue := 0 }]
  methods := #[k7m0, k7m1, k7m2, k7m3, k7m4, k7m5, k7m6, k7m7, k7m8]
  instanceTypes := #[(.array .byte), .byte, .int, .boolean]
  staticTypes := #[.long, .boolean, (.array (.object "java/io/ObjectStreamField")), .char, (.object "java/util/Comparator"), .byte, .byte]
  resolved := Array.replicate 1451 none
  statics := some 0 }

def pool8 : Array CpInfo := pool [(1, .class_ 2), (0, u "java/lang/String"), (1, .class_ 6), (1, u "java/lang/Object"), (0, u "<init>"), (0, u "()V"), (0, .methodref 1 10), (0, .nameAndType 11 12), (0, u "checkIndex"), (0, u "(II)V"), (1, .class_ 16), (1, u "java/lang/StringLatin1"), (36, u "([BI)C"), (67, u "$assertionsDisabled"), (0, u "Z"), (98, .class_ 223), (1, u "java/lang/StringLatin1$LinesSpliterator"), (28, u "charAt"), (28, u "equals"), (0, u "([B[B)Z"), (107, .class_ 391), (0, u "java/lang/StringLatin1$CharsSpliterator")] 3

def k8m0 : Method := { name := "<init>", desc := "()V", sig := { parameters := [], returnType := none }, accessFlags := 0, code := none }
def k8c1 : Code := { maxStack := 2, maxLocals := 2, code := jdk_43_method_2_code, exceptionTable := #[], attributes := #[] }
def k8m1 : Method := { name := "charAt", desc := "([BI)C", sig := { parameters := [(.array .byte), .int], returnType := some .char }, accessFlags := 9, code := some k8c1 }
def k8c2 : Code := { maxStack := 3, maxLocals := 3, code := jdk_43_method_13_code, exceptionTable := #[], attributes := #[] }
def k8m2 : Method := { name := "equals", desc := "([B[B)Z", sig := { parameters := [(.array .byte), (.array .byte)], returnType := some .boolean }, accessFlags := 9, code := some k8c2 }
/-- java/lang/StringLatin1 -/
def k8 : Class := { plain "java/lang/StringLatin1" (some 0) with
  accessFlags := 48
  interfaces := #[]
  cf := some (fileOf pool8 14 #[.nestMembers #[390, 221]] #[{ accessFlags := 0, nameIndex := 7, descriptorIndex := 8, attributes := #[] }, { accessFlags := 9, nameIndex := 252, descriptorIndex := 53, attributes := #[] }, { accessFlags := 9, nameIndex := 281, descriptorIndex := 282, attributes := #[] }] 48 4 #[] #[{ accessFlags := 4120, nameIndex := 121, descriptorIndex := 122, attributes := #[] }])
  fields := #[{ name := "$assertionsDisabled", type := .boolean, accessFlags := 4120, slot := 0, constantValue := 0 }]
  methods := #[k8m0, k8m1, k8m2]
  instanceTypes := #[]
  staticTypes := #[.boolean]
  resolved := Array.replicate 395 none
  statics := none }

def pool9 : Array CpInfo := pool [(2, .class_ 4), (1, u "java/lang/Object"), (0, u "<init>"), (0, u "()V"), (17, .class_ 26), (1, u "jdk/internal/util/Preconditions"), (6, u "checkIndex"), (21, .class_ 56), (0, u "jdk/internal/util/Preconditions$4"), (57, .class_ 115), (0, u "jdk/internal/util/Preconditions$1"), (7, u "SIOOBE_FORMATTER"), (0, u "Ljava/util/function/BiFunction;"), (0, .class_ 126), (0, u "jdk/internal/util/Preconditions$2"), (3, u "AIOOBE_FORMATTER"), (0, .class_ 132), (0, u "jdk/internal/util/Preconditions$3"), (3, u "IOOBE_FORMATTER"), (41, u "(IILjava/util/function/BiFunction;)I")] 15

def k9m0 : Method := { name := "<init>", desc := "()V", sig := { parameters := [], returnType := none }, accessFlags := 1, code := none }
def k9c1 : Code := { maxStack := 3, maxLocals := 3, code := jdk_41_method_11_code, exceptionTable := #[], attributes := #[] }
def k9m1 : Method := { name := "checkIndex", desc := "(IILjava/util/function/BiFunction;)I", sig := { parameters := [.int, .int, (.object "java/util/function/BiFunction")], returnType := some .int }, accessFlags := 9, code := some k9c1 }
/-- jdk/internal/util/Preconditions -/
def k9 : Class := { plain "jdk/internal/util/Preconditions" (some 0) with
  accessFlags := 33
  interfaces := #[]
  cf := some (fileOf pool9 24 #[.nestMembers #[55, 131, 125, 114]] #[{ accessFlags := 1, nameIndex := 5, descriptorIndex := 6, attributes := #[] }, { accessFlags := 9, nameIndex := 33, descriptorIndex := 178, attributes := #[] }] 33 2 #[] #[{ accessFlags := 25, nameIndex := 123, descriptorIndex := 124, attributes := #[] }, { accessFlags := 25, nameIndex := 130, descriptorIndex := 124, attributes := #[] }, { accessFlags := 25, nameIndex := 136, descriptorIndex := 124, attributes := #[] }])
  fields := #[{ name := "SIOOBE_FORMATTER", type := (.object "java/util/function/BiFunction"), accessFlags := 25, slot := 0, constantValue := 0 }, { name := "AIOOBE_FORMATTER", type := (.object "java/util/function/BiFunction"), accessFlags := 25, slot := 1, constantValue := 0 }, { name := "IOOBE_FORMATTER", type := (.object "java/util/function/BiFunction"), accessFlags := 25, slot := 2, constantValue := 0 }]
  methods := #[k9m0, k9m1]
  instanceTypes := #[]
  staticTypes := #[(.object "java/util/function/BiFunction"), (.object "java/util/function/BiFunction"), (.object "java/util/function/BiFunction")]
  resolved := Array.replicate 194 none
  statics := some 1 }

def pool10 : Array CpInfo := pool [(6, .class_ 8), (1, u "java/lang/Object"), (0, u "<init>"), (0, u "()V"), (1, .class_ 14), (1, u "java/lang/StringUTF16"), (31, u "$assertionsDisabled"), (0, u "Z"), (13, u "HI_BYTE_SHIFT"), (0, u "I"), (2, u "LO_BYTE_SHIFT"), (49, .methodref 12 116), (0, .nameAndType 117 118), (0, u "compress"), (0, u "([CI[BII)I"), (3, u "([CII)[B"), (138, u "coderFromArrayLen"), (0, u "([BI)B"), (106, .class_ 371), (1, u "java/lang/StringUTF16$LinesSpliterator"), (58, u "MAX_LENGTH"), (196, .class_ 628), (0, u "java/lang/StringUTF16$CodePointsSpliterator"), (0, .class_ 630), (0, u "java/lang/StringUTF16$CharsSpliterator")] 4

def k10m0 : Method := { name := "<init>", desc := "()V", sig := { parameters := [], returnType := none }, accessFlags := 0, code := none }
def k10c1 : Code := { maxStack := 2, maxLocals := 2, code := jdk_52_method_15_code, exceptionTable := #[], attributes := #[] }
def k10m1 : Method := { name := "coderFromArrayLen", desc := "([BI)B", sig := { parameters := [(.array .byte), .int], returnType := some .byte }, accessFlags := 8, code := some k10c1 }
def k10c2 : Code := { maxStack := 5, maxLocals := 6, code := jdk_52_method_16_code, exceptionTable := #[], attributes := #[] }
def k10m2 : Method := { name := "compress", desc := "([CII)[B", sig := { parameters := [(.array .char), .int, .int], returnType := some (.array .byte) }, accessFlags := 9, code := some k10c2 }
def k10c3 : Code := { maxStack := 3, maxLocals := 7, code := jdk_52_method_21_code, exceptionTable := #[], attributes := #[] }
def k10m3 : Method := { name := "compress", desc := "([CI[BII)I", sig := { parameters := [(.array .char), .int, (.array .byte), .int, .int], returnType := some .int }, accessFlags := 9, code := some k10c3 }
/-- java/lang/StringUTF16 -/
def k10 : Class := { plain "java/lang/StringUTF16" (some 0) with
  accessFlags := 48
  interfaces := #[]
  cf := some (fileOf pool10 12 #[.nestMembers #[627, 629, 369]] #[{ accessFlags := 0, nameIndex := 9, descriptorIndex := 10, attributes := #[] }, { accessFlags := 8, nameIndex := 261, descriptorIndex := 262, attributes := #[] }, { accessFlags := 9, nameIndex := 117, descriptorIndex := 122, attributes := #[] }, { accessFlags := 9, nameIndex := 117, descriptorIndex := 118, attributes := #[] }] 48 6 #[] #[{ accessFlags := 26, nameIndex := 61, descriptorIndex := 62, attributes := #[] }, { accessFlags := 26, nameIndex := 65, descriptorIndex := 62, attributes := #[] }, { accessFlags := 24, nameIndex := 430, descriptorIndex := 62, attributes := #[] }, { accessFlags := 4120, nameIndex := 46, descriptorIndex := 47, attributes := #[] }])
  fields := #[{ name := "HI_BYTE_SHIFT", type := .int, accessFlags := 26, slot := 0, constantValue := 0 }, { name := "LO_BYTE_SHIFT", type := .int, accessFlags := 26, slot := 1, constantValue := 0 }, { name := "MAX_LENGTH", type := .int, accessFlags := 24, slot := 2, constantValue := 0 }, { name := "$assertionsDisabled", type := .boolean, accessFlags := 4120, slot := 3, constantValue := 0 }]
  methods := #[k10m0, k10m1, k10m2, k10m3]
  instanceTypes := #[]
  staticTypes := #[.int, .int, .int, .boolean]
  resolved := Array.replicate 635 none
  statics := none }

def pool11 : Array CpInfo := pool [(2, .class_ 4), (1, u "java/lang/Enum"), (0, u "name"), (0, u "Ljava/lang/String;"), (2, u "ordinal"), (0, u "I"), (1, .class_ 14), (1, u "java/lang/Object"), (4, u "hash"), (86, .class_ 108), (1, u "java/lang/Enum$EnumDesc"), (2, .class_ 112), (0, u "java/lang/constant/Constable"), (0, .class_ 114), (0, u "java/lang/Comparable"), (0, .class_ 116), (0, u "java/io/Serializable")] 87

/-- java/lang/Enum -/
def k11 : Class := { plain "java/lang/Enum" (some 0) with
  accessFlags := 1057
  interfaces := #[5, 3, 2]
  cf := some (fileOf pool11 2 #[.nestMembers #[106]] #[] 1057 12 #[111, 113, 115] #[{ accessFlags := 18, nameIndex := 5, descriptorIndex := 6, attributes := #[] }, { accessFlags := 18, nameIndex := 9, descriptorIndex := 10, attributes := #[] }, { accessFlags := 2, nameIndex := 19, descriptorIndex := 10, attributes := #[] }])
  fields := #[{ name := "name", type := (.object "java/lang/String"), accessFlags := 18, slot := 0, constantValue := 0 }, { name := "ordinal", type := .int, accessFlags := 18, slot := 1, constantValue := 0 }, { name := "hash", type := .int, accessFlags := 2, slot := 2, constantValue := 0 }]
  methods := #[]
  instanceTypes := #[(.object "java/lang/String"), .int, .int]
  staticTypes := #[]
  resolved := Array.replicate 204 none
  statics := none }

def pool12 : Array CpInfo := pool [(1, .class_ 2), (0, u "com/example/polgen/polgen/model/Multiplicity"), (2, u "ONE"), (0, u "Lcom/example/polgen/polgen/model/Multiplicity;"), (2, u "OPTIONAL"), (2, u "MANY"), (0, .fieldref 1 14), (0, .nameAndType 15 16), (0, u "$VALUES"), (0, u "[Lcom/example/polgen/polgen/model/Multiplicity;"), (0, .methodref 18 19), (0, .class_ 16), (0, .nameAndType 20 21), (0, u "clone"), (0, u "()Ljava/lang/Object;"), (1, .class_ 25), (1, u "java/lang/Enum"), (6, .fieldref 1 33), (0, .nameAndType 34 35), (0, u "word"), (0, u "Ljava/lang/String;"), (0, .methodref 1 37), (0, .nameAndType 38 39), (0, u "values"), (0, u "()[Lcom/example/polgen/polgen/model/Multiplicity;"), (0, .methodref 41 42), (0, .class_ 43), (0, .nameAndType 44 45), (0, u "java/lang/String"), (0, u "equals"), (0, u "(Ljava/lang/Object;)Z"), (0, .methodref 47 48), (0, .class_ 49), (0, .nameAndType 50 51), (0, u "java/util/Optional"), (0, u "of"), (0, u "(Ljava/lang/Object;)Ljava/util/Optional;"), (0, .methodref 47 53), (0, .nameAndType 54 55), (0, u "empty"), (0, u "()Ljava/util/Optional;"), (21, u "named"), (0, u "(Ljava/lang/String;)Ljava/util/Optional;")] 9

def k12c0 : Code := { maxStack := 1, maxLocals := 0, code := prog_21_method_1_code, exceptionTable := #[], attributes := #[] }
def k12m0 : Method := { name := "values", desc := "()[Lcom/example/polgen/polgen/model/Multiplicity;", sig := { parameters := [], returnType := some (.array (.object "com/example/polgen/polgen/model/Multiplicity")) }, accessFlags := 9, code := some k12c0 }
def k12c1 : Code := { maxStack := 2, maxLocals := 5, code := prog_21_method_4_code, exceptionTable := #[], attributes := #[] }
def k12m1 : Method := { name := "named", desc := "(Ljava/lang/String;)Ljava/util/Optional;", sig := { parameters := [(.object "java/lang/String")], returnType := some (.object "java/util/Optional") }, accessFlags := 9, code := some k12c1 }
/-- com/example/polgen/polgen/model/Multiplicity -/
def k12 : Class := { plain "com/example/polgen/polgen/model/Multiplicity" (some 11) with
  accessFlags := 16433
  interfaces := #[]
  cf := some (fileOf pool12 1 #[] #[{ accessFlags := 9, nameIndex := 38, descriptorIndex := 39, attributes := #[] }, { accessFlags := 9, nameIndex := 77, descriptorIndex := 78, attributes := #[] }] 16433 23 #[] #[{ accessFlags := 16409, nameIndex := 5, descriptorIndex := 6, attributes := #[] }, { accessFlags := 16409, nameIndex := 9, descriptorIndex := 6, attributes := #[] }, { accessFlags := 16409, nameIndex := 12, descriptorIndex := 6, attributes := #[] }, { accessFlags := 18, nameIndex := 34, descriptorIndex := 35, attributes := #[] }, { accessFlags := 4122, nameIndex := 15, descriptorIndex := 16, attributes := #[] }])
  fields := #[{ name := "ONE", type := (.object "com/example/polgen/polgen/model/Multiplicity"), accessFlags := 16409, slot := 0, constantValue := 0 }, { name := "OPTIONAL", type := (.object "com/example/polgen/polgen/model/Multiplicity"), accessFlags := 16409, slot := 1, constantValue := 0 }, { name := "MANY", type := (.object "com/example/polgen/polgen/model/Multiplicity"), accessFlags := 16409, slot := 2, constantValue := 0 }, { name := "word", type := (.object "java/lang/String"), accessFlags := 18, slot := 3, constantValue := 0 }, { name := "$VALUES", type := (.array (.object "com/example/polgen/polgen/model/Multiplicity")), accessFlags := 4122, slot := 3, constantValue := 0 }]
  methods := #[k12m0, k12m1]
  instanceTypes := #[(.object "java/lang/String"), .int, .int, (.object "java/lang/String")]
  staticTypes := #[(.object "com/example/polgen/polgen/model/Multiplicity"), (.object "com/example/polgen/polgen/model/Multiplicity"), (.object "com/example/polgen/polgen/model/Multiplicity"), (.array (.object "com/example/polgen/polgen/model/Multiplicity"))]
  resolved := Array.replicate 88 none
  statics := some 2 }

def pool13 : Array CpInfo := pool [(1, .class_ 2), (0, u "java/lang/Cloneable"), (0, .class_ 4), (0, u "java/lang/Object")] 2

/-- java/lang/Cloneable -/
def k13 : Class := { plain "java/lang/Cloneable" (some 0) with
  accessFlags := 1537
  interfaces := #[]
  cf := some (fileOf pool13 1 #[] #[] 1537 3 #[] #[])
  fields := #[]
  methods := #[]
  instanceTypes := #[]
  staticTypes := #[]
  resolved := Array.replicate 7 none
  statics := none }

def pool14 : Array CpInfo := pool [(1, .fieldref 2 3), (0, .class_ 4), (0, .nameAndType 5 6), (0, u "java/util/Optional"), (0, u "EMPTY"), (0, u "Ljava/util/Optional;"), (0, .methodref 8 9), (0, .class_ 10), (0, .nameAndType 11 12), (0, u "java/lang/Object"), (0, u "<init>"), (0, u "()V"), (0, .fieldref 2 14), (0, .nameAndType 15 16), (0, u "value"), (0, u "Ljava/lang/Object;"), (0, .methodref 18 19), (0, .class_ 20), (0, .nameAndType 21 22), (0, u "java/util/Objects"), (0, u "requireNonNull"), (0, u "(Ljava/lang/Object;)Ljava/lang/Object;"), (0, .methodref 2 24), (0, .nameAndType 11 25), (0, u "(Ljava/lang/Object;)V"), (29, u "empty"), (0, u "()Ljava/util/Optional;"), (8, u "(Ljava/lang/Object;)Ljava/util/Optional;"), (16, u "of"), (82, u "orElse")] 21

def k14c0 : Code := { maxStack := 1, maxLocals := 1, code := jdk_32_method_1_code, exceptionTable := #[], attributes := #[] }
def k14m0 : Method := { name := "empty", desc := "()Ljava/util/Optional;", sig := { parameters := [], returnType := some (.object "java/util/Optional") }, accessFlags := 9, code := some k14c0 }
def k14c1 : Code := { maxStack := 2, maxLocals := 2, code := jdk_32_method_2_code, exceptionTable := #[], attributes := #[] }
def k14m1 : Method := { name := "<init>", desc := "(Ljava/lang/Object;)V", sig := { parameters := [(.object "java/lang/Object")], returnType := none }, accessFlags := 2, code := some k14c1 }
def k14c2 : Code := { maxStack := 3, maxLocals := 1, code := jdk_32_method_3_code, exceptionTable := #[], attributes := #[] }
def k14m2 : Method := { name := "of", desc := "(Ljava/lang/Object;)Ljava/util/Optional;", sig := { parameters := [(.object "java/lang/Object")], returnType := some (.object "java/util/Optional") }, accessFlags := 9, code := some k14c2 }
def k14c3 : Code := { maxStack := 1, maxLocals := 2, code := jdk_32_method_15_code, exceptionTable := #[], attributes := #[] }
def k14m3 : Method := { name := "orElse", desc := "(Ljava/lang/Object;)Ljava/lang/Object;", sig := { parameters := [(.object "java/lang/Object")], returnType := some (.object "java/lang/Object") }, accessFlags := 1, code := some k14c3 }
/-- java/util/Optional -/
def k14 : Class := { plain "java/util/Optional" (some 0) with
  accessFlags := 49
  interfaces := #[]
  cf := some (fileOf pool14 2 #[] #[{ accessFlags := 9, nameIndex := 55, descriptorIndex := 56, attributes := #[] }, { accessFlags := 2, nameIndex := 11, descriptorIndex := 25, attributes := #[] }, { accessFlags := 9, nameIndex := 82, descriptorIndex := 65, attributes := #[] }, { accessFlags := 1, nameIndex := 165, descriptorIndex := 22, attributes := #[] }] 49 8 #[] #[{ accessFlags := 26, nameIndex := 5, descriptorIndex := 6, attributes := #[] }, { accessFlags := 18, nameIndex := 15, descriptorIndex := 16, attributes := #[] }])
  fields := #[{ name := "EMPTY", type := (.object "java/util/Optional"), accessFlags := 26, slot := 0, constantValue := 0 }, { name := "value", type := (.object "java/lang/Object"), accessFlags := 18, slot := 0, constantValue := 0 }]
  methods := #[k14m0, k14m1, k14m2, k14m3]
  instanceTypes := #[(.object "java/lang/Object")]
  staticTypes := #[(.object "java/util/Optional")]
  resolved := Array.replicate 187 none
  statics := some 3 }

def pool15 : Array CpInfo := pool [(2, .class_ 4), (1, u "java/lang/Object"), (0, u "<init>"), (0, u "()V"), (35, .class_ 44), (1, u "java/util/Objects"), (0, u "requireNonNull"), (0, u "(Ljava/lang/Object;)Ljava/lang/Object;")] 137

def k15m0 : Method := { name := "<init>", desc := "()V", sig := { parameters := [], returnType := none }, accessFlags := 2, code := none }
def k15c1 : Code := { maxStack := 2, maxLocals := 1, code := jdk_31_method_10_code, exceptionTable := #[], attributes := #[] }
def k15m1 : Method := { name := "requireNonNull", desc := "(Ljava/lang/Object;)Ljava/lang/Object;", sig := { parameters := [(.object "java/lang/Object")], returnType := some (.object "java/lang/Object") }, accessFlags := 9, code := some k15c1 }
/-- java/util/Objects -/
def k15 : Class := { plain "java/util/Objects" (some 0) with
  accessFlags := 49
  interfaces := #[]
  cf := some (fileOf pool15 42 #[] #[{ accessFlags := 2, nameIndex := 5, descriptorIndex := 6, attributes := #[] }, { accessFlags := 9, nameIndex := 45, descriptorIndex := 46, attributes := #[] }] 49 2 #[] #[])
  fields := #[]
  methods := #[k15m0, k15m1]
  instanceTypes := #[]
  staticTypes := #[]
  resolved := Array.replicate 184 none
  statics := none }

def pool16 : Array CpInfo := pool [(9, u "<init>"), (6, .class_ 18), (1, u "java/lang/Object"), (0, u "()V"), (1, .class_ 23), (1, u "jdk/internal/util/ArraysSupport"), (0, u "LOG2_ARRAY_LONG_INDEX_SCALE"), (0, u "I"), (2, u "U"), (0, u "Ljdk/internal/misc/Unsafe;"), (8, u "BIG_ENDIAN"), (0, u "Z"), (8, u "LOG2_BYTE_BIT_SIZE"), (4, u "LOG2_ARRAY_INT_INDEX_SCALE"), (54, u "JLA"), (0, u "Ljdk/internal/access/JavaLangAccess;"), (11, u "LOG2_ARRAY_BOOLEAN_INDEX_SCALE"), (9, u "LOG2_ARRAY_BYTE_INDEX_SCALE"), (5, u "LOG2_ARRAY_CHAR_INDEX_SCALE"), (5, u "LOG2_ARRAY_SHORT_INDEX_SCALE"), (18, u "LOG2_ARRAY_FLOAT_INDEX_SCALE"), (24, u "LOG2_ARRAY_DOUBLE_INDEX_SCALE"), (89, u "T_BOOLEAN"), (2, u "T_CHAR"), (1, u "T_FLOAT"), (1, u "T_DOUBLE"), (1, u "T_BYTE"), (1, u "T_SHORT"), (1, u "T_INT"), (1, u "T_LONG"), (1, u "SOFT_MAX_ARRAY_LENGTH")] 83

def k16m0 : Method := { name := "<init>", desc := "()V", sig := { parameters := [], returnType := none }, accessFlags := 2, code := none }
/-- jdk/internal/util/ArraysSupport -/
def k16 : Class := { plain "jdk/internal/util/ArraysSupport" (some 0) with
  accessFlags := 33
  interfaces := #[]
  cf := some (fileOf pool16 21 #[] #[{ accessFlags := 2, nameIndex := 9, descriptorIndex := 19, attributes := #[] }] 33 16 #[] #[{ accessFlags := 24, nameIndex := 28, descriptorIndex := 29, attributes := #[] }, { accessFlags := 26, nameIndex := 38, descriptorIndex := 39, attributes := #[] }, { accessFlags := 25, nameIndex := 121, descriptorIndex := 25, attributes := #[] }, { accessFlags := 25, nameIndex := 131, descriptorIndex := 25, attributes := #[] }, { accessFlags := 25, nameIndex := 137, descriptorIndex := 25, attributes := #[] }, { accessFlags := 25, nameIndex := 143, descriptorIndex := 25, attributes := #[] }, { accessFlags := 25, nameIndex := 53, descriptorIndex := 25, attributes := #[] }, { accessFlags := 25, nameIndex := 24, descriptorIndex := 25, attributes := #[] }, { accessFlags := 25, nameIndex := 162, descriptorIndex := 25, attributes := #[] }, { accessFlags := 25, nameIndex := 187, descriptorIndex := 25, attributes := #[] }, { accessFlags := 26, nameIndex := 48, descriptorIndex := 25, attributes := #[] }, { accessFlags := 25, nameIndex := 277, descriptorIndex := 25, attributes := #[] }, { accessFlags := 25, nameIndex := 280, descriptorIndex := 25, attributes := #[] }, { accessFlags := 25, nameIndex := 282, descriptorIndex := 25, attributes := #[] }, { accessFlags := 25, nameIndex := 284, descriptorIndex := 25, attributes := #[] }, { accessFlags := 25, nameIndex := 286, descriptorIndex := 25, attributes := #[] }, { accessFlags := 25, nameIndex := 288, descriptorIndex := 25, attributes := #[] }, { accessFlags := 25, nameIndex := 290, descriptorIndex := 25, attributes := #[] }, { accessFlags := 25, nameIndex := 292, descriptorIndex := 25, attributes := #[] }, { accessFlags := 26, nameIndex := 108, descriptorIndex := 109, attributes := #[] }, { accessFlags := 25, nameIndex := 294, descriptorIndex := 25, attributes := #[] }])
  fields := #[{ name := "U", type := (.object "jdk/internal/misc/Unsafe"), accessFlags := 24, slot := 0, constantValue := 0 }, { name := "BIG_ENDIAN", type := .boolean, accessFlags := 26, slot := 1, constantValue := 0 }, { name := "LOG2_ARRAY_BOOLEAN_INDEX_SCALE", type := .int, accessFlags := 25, slot := 2, constantValue := 0 }, { name := "LOG2_ARRAY_BYTE_INDEX_SCALE", type := .int, accessFlags := 25, slot := 3, constantValue := 0 }, { name := "LOG2_ARRAY_CHAR_INDEX_SCALE", type := .int, accessFlags := 25, slot := 4, constantValue := 0 }, { name := "LOG2_ARRAY_SHORT_INDEX_SCALE", type := .int, accessFlags := 25, slot := 5, constantValue := 0 }, { name := "LOG2_ARRAY_INT_INDEX_SCALE", type := .int, accessFlags := 25, slot := 6, constantValue := 0 }, { name := "LOG2_ARRAY_LONG_INDEX_SCALE", type := .int, accessFlags := 25, slot := 7, constantValue := 0 }, { name := "LOG2_ARRAY_FLOAT_INDEX_SCALE", type := .int, accessFlags := 25, slot := 8, constantValue := 0 }, { name := "LOG2_ARRAY_DOUBLE_INDEX_SCALE", type := .int, accessFlags := 25, slot := 9, constantValue := 0 }, { name := "LOG2_BYTE_BIT_SIZE", type := .int, accessFlags := 26, slot := 10, constantValue := 0 }, { name := "T_BOOLEAN", type := .int, accessFlags := 25, slot := 11, constantValue := 0 }, { name := "T_CHAR", type := .int, accessFlags := 25, slot := 12, constantValue := 0 }, { name := "T_FLOAT", type := .int, accessFlags := 25, slot := 13, constantValue := 0 }, { name := "T_DOUBLE", type := .int, accessFlags := 25, slot := 14, constantValue := 0 }, { name := "T_BYTE", type := .int, accessFlags := 25, slot := 15, constantValue := 0 }, { name := "T_SHORT", type := .int, accessFlags := 25, slot := 16, constantValue := 0 }, { name := "T_INT", type := .int, accessFlags := 25, slot := 17, constantValue := 0 }, { name := "T_LONG", type := .int, accessFlags := 25, slot := 18, constantValue := 0 }, { name := "JLA", type := (.object "jdk/internal/access/JavaLangAccess"), accessFlags := 26, slot := 19, constantValue := 0 }, { name := "SOFT_MAX_ARRAY_LENGTH", type := .int, accessFlags := 25, slot := 20, constantValue := 0 }]
  methods := #[k16m0]
  instanceTypes := #[]
  staticTypes := #[(.object "jdk/internal/misc/Unsafe"), .boolean, .int, .int, .int, .int, .int, .int, .int, .int, .int, .int, .int, .int, .int, .int, .int, .int, .int, (.object "jdk/internal/access/JavaLangAccess"), .int]
  resolved := Array.replicate 378 none
  statics := none }

/-- the primitive byte -/
def k17 : Class := { plain "byte" none with kind := .primitive 'B', accessFlags := 0x411 }
/-- [B -/
def k18 : Class := { plain "[B" (some 0) with kind := .array 17 .byte, interfaces := #[13, 2], accessFlags := 1041 }

/-- the primitive char -/
def k19 : Class := { plain "char" none with kind := .primitive 'C', accessFlags := 0x411 }
/-- [C -/
def k20 : Class := { plain "[C" (some 0) with kind := .array 19 .char, interfaces := #[13, 2], accessFlags := 1041 }

/-- the primitive int -/
def k21 : Class := { plain "int" none with kind := .primitive 'I', accessFlags := 0x411 }
/-- [I -/
def k22 : Class := { plain "[I" (some 0) with kind := .array 21 .int, interfaces := #[13, 2], accessFlags := 1041 }

/-- [Lcom/example/polgen/polgen/model/Multiplicity; -/
def k23 : Class := { plain "[Lcom/example/polgen/polgen/model/Multiplicity;" (some 0) with kind := .array 12 (.object "com/example/polgen/polgen/model/Multiplicity"), interfaces := #[13, 2], accessFlags := 1041 }

def heap : Heap := #[{ cls := 7, slots := #[.long 0, .int 1, .null, .int 0, .null, .int 0, .int 0], vm := .statics 7 },
  { cls := 9, slots := #[.null, .null, .null], vm := .statics 9 },
  { cls := 12, slots := #[.ref 5, .ref 6, .ref 7, .ref 4], vm := .statics 12 },
  { cls := 14, slots := #[.ref 14], vm := .statics 14 },
  { cls := 23, slots := #[.ref 5, .ref 6, .ref 7], vm := .none },
  { cls := 12, slots := #[.null, .int 0, .int 0, .ref 8], vm := .none },
  { cls := 12, slots := #[.null, .int 1, .int 0, .ref 9], vm := .none },
  { cls := 12, slots := #[.null, .int 2, .int 0, .ref 10], vm := .none },
  { cls := 7, slots := #[.ref 11, .int 0, .int 0, .int 0], vm := .none },
  { cls := 7, slots := #[.ref 12, .int 0, .int 0, .int 0], vm := .none },
  { cls := 7, slots := #[.ref 13, .int 0, .int 0, .int 0], vm := .none },
  { cls := 18, slots := #[.int 111, .int 110, .int 101], vm := .none },
  { cls := 18, slots := #[.int 111, .int 112, .int 116, .int 105, .int 111, .int 110, .int 97, .int 108], vm := .none },
  { cls := 18, slots := #[.int 109, .int 97, .int 110, .int 121], vm := .none },
  { cls := 14, slots := #[.null], vm := .none }]
def classes : Array Class := #[k0, k1, k2, k3, k4, k5, k6, k7, k8, k9, k10, k11, k12, k13, k14, k15, k16, k17, k18, k19, k20, k21, k22, k23]
def interned : List (Array UInt16 × Addr) := []
def slotsUsed : Nat := 58
def theMethod : MethodId := ⟨1, 1⟩
def args0 : Array Value := #[.int 3, .int 5, .int 7, .long 9]
def aboutOver (below : List Frame) : State where
  vm := { classes := classes, interned := interned.toArray }
  heap := heap
  slotsUsed := slotsUsed
  threads := #[{ frames := .invoking theMethod args0 :: below }]
def below0 : List Frame := [.native { method := ⟨0, 0⟩, args := #[] }]
def about1 : State := aboutOver below0
def p0 : Program := .bare "" "" ""
def e0 : Env := launch0.env 0 0 0
theorem w_frames : about1.frames = Frame.invoking theMethod args0 :: below0 := rfl
set_option maxRecDepth 65536 in
theorem w_args : argsFit about1.vm theMethod args0 = true := by decide +kernel
set_option maxRecDepth 65536 in
theorem w_heap : heapFits about1 = true := by decide +kernel
set_option maxRecDepth 65536 in
theorem w_runnable : about1.curStatus? = some .runnable := by decide +kernel
set_option maxRecDepth 65536 in
theorem w_alone : about1.alone = true := by decide +kernel
set_option maxRecDepth 65536 in
theorem w_named : about1.methodNamed? x = some theMethod := by decide +kernel
set_option maxRecDepth 65536 in
theorem w_hears : about1.hears theMethod below0 = true := by decide +kernel
set_option maxRecDepth 65536 in
theorem w_ripe : about1.ripe theMethod args0 below0 = true := by decide +kernel
theorem w_running : about1.status = .running := rfl
set_option maxRecDepth 65536 in
theorem w_room : about1.hasRoom e0.platform room_1 = true :=
  launch0.hasRoom_least _ room_1 (by decide +kernel) (by decide +kernel) (by decide +kernel) (by decide +kernel) (by decide +kernel) (by decide +kernel)
theorem allAtoms_all (ts : List Jvm.Cond) (a : Array Jvm.Value) (st : Jvm.State) : (allAtoms ts).before a st = ts.all (fun c => c.before a st) := by
  induction ts with
  | nil => rfl
  | cons c t ih =>
    show (Jvm.Cond.and c (allAtoms t)).before a st = _
    rw [Jvm.Cond.before_and, ih, List.all_cons]
def words1 : List Jvm.Cond := Jvm.Cond.code x code maxLocals ret :: tables_1
/-- a 'code' word, met by the world's own term for the bytes: nothing is compared byte by byte -/
theorem code_word {y : MethodName} {bytes : ByteArray} {mx : Nat} {rt : Option FieldType} {a : Array Value} {s : State} {m : MethodId} {meth : Method} {c : Code} (h1 : s.methodNamed? y = some m) (h2 : s.vm.method? m = some meth) (h3 : meth.code = some c) (h4 : c.code = bytes)
    (h5 : (c.maxLocals == mx && c.exceptionTable.isEmpty && decide (c.maxStack ≤ mostOperands) && decide (meth.sig.returnType = rt) && !meth.locks && decide (parseMethodDescriptor y.desc = some meth.sig)) = true) : (Jvm.Cond.code y bytes mx rt).before a s = true := by
  simp only [Bool.and_eq_true, beq_iff_eq, Bool.not_eq_true', decide_eq_true_eq] at h5
  obtain ⟨⟨⟨⟨⟨g1, g2⟩, g3⟩, g4⟩, g5⟩, g6⟩ := h5
  simp [Cond.before, Cond.holds, Cond.value, h1, h2, h3, h4, g1, g2, g3, g4, g5, g6]
def isCode : Jvm.Cond → Bool
  | .code _ _ _ _ => true
  | _ => false
theorem all_split {L : List Jvm.Cond} {P : Jvm.Cond → Bool} (h1 : L.all (fun c => isCode c || P c) = true) (h2 : ∀ c ∈ L.filter isCode, P c = true) : L.all P = true := by
  refine List.all_eq_true.mpr fun c hc => ?_
  have h := List.all_eq_true.mp h1 c hc
  rcases Bool.eq_false_or_eq_true (isCode c) with hi | hi
  · exact h2 c (List.mem_filter.mpr ⟨hc, hi⟩)
  · simpa [hi] using h
set_option maxRecDepth 65536 in
theorem w_c0 : (Jvm.Cond.code x code maxLocals ret).before args0 about1 = true := code_word (m := ⟨1, 1⟩) (meth := k1m1) (c := k1c1) (by decide +kernel) rfl rfl rfl (by decide +kernel)
set_option maxRecDepth 65536 in
theorem w_c1 : (Jvm.Cond.code ({ cls := "java/lang/String", name := "length", desc := "()I" } : Jvm.MethodName) jdk_42_method_54_code (1 : Nat) (Option.some Jvm.ClassFile.FieldType.int)).before args0 about1 = true := code_word (m := ⟨7, 2⟩) (meth := k7m2) (c := k7c2) (by decide +kernel) rfl rfl rfl (by decide +kernel)
set_option maxRecDepth 65536 in
theorem w_c2 : (Jvm.Cond.code ({ cls := "java/lang/String", name := "coder", desc := "()B" } : Jvm.MethodName) jdk_42_method_152_code (1 : Nat) (Option.some Jvm.ClassFile.FieldType.byte)).before args0 about1 = true := code_word (m := ⟨7, 6⟩) (meth := k7m6) (c := k7c6) (by decide +kernel) rfl rfl rfl (by decide +kernel)
set_option maxRecDepth 65536 in
theorem w_c3 : (Jvm.Cond.code ({ cls := "com/example/polgen/polgen/model/MultiplicityNamedPinLaw", name := "at", desc := "(Ljava/lang/String;I)C" } : Jvm.MethodName) method_3_code (2 : Nat) (Option.some Jvm.ClassFile.FieldType.char)).before args0 about1 = true := code_word (m := ⟨1, 2⟩) (meth := k1m2) (c := k1c2) (by decide +kernel) rfl rfl rfl (by decide +kernel)
set_option maxRecDepth 65536 in
theorem w_c4 : (Jvm.Cond.code ({ cls := "java/lang/String", name := "charAt", desc := "(I)C" } : Jvm.MethodName) jdk_42_method_56_code (2 : Nat) (Option.some Jvm.ClassFile.FieldType.char)).before args0 about1 = true := code_word (m := ⟨7, 3⟩) (meth := k7m3) (c := k7c3) (by decide +kernel) rfl rfl rfl (by decide +kernel)
set_option maxRecDepth 65536 in
theorem w_c5 : (Jvm.Cond.code ({ cls := "java/lang/String", name := "isLatin1", desc := "()Z" } : Jvm.MethodName) jdk_42_method_154_code (1 : Nat) (Option.some Jvm.ClassFile.FieldType.boolean)).before args0 about1 = true := code_word (m := ⟨7, 7⟩) (meth := k7m7) (c := k7c7) (by decide +kernel) rfl rfl rfl (by decide +kernel)
set_option maxRecDepth 65536 in
theorem w_c6 : (Jvm.Cond.code ({ cls := "java/lang/StringLatin1", name := "charAt", desc := "([BI)C" } : Jvm.MethodName) jdk_43_method_2_code (2 : Nat) (Option.some Jvm.ClassFile.FieldType.char)).before args0 about1 = true := code_word (m := ⟨8, 1⟩) (meth := k8m1) (c := k8c1) (by decide +kernel) rfl rfl rfl (by decide +kernel)
set_option maxRecDepth 65536 in
theorem w_c7 : (Jvm.Cond.code ({ cls := "java/lang/String", name := "checkIndex", desc := "(II)V" } : Jvm.MethodName) jdk_42_method_155_code (2 : Nat) (Option.none : Option Jvm.ClassFile.FieldType)).before args0 about1 = true := code_word (m := ⟨7, 8⟩) (meth := k7m8) (c := k7c8) (by decide +kernel) rfl rfl rfl (by decide +kernel)
set_option maxRecDepth 65536 in
theorem w_c8 : (Jvm.Cond.code ({ cls := "jdk/internal/util/Preconditions", name := "checkIndex", desc := "(IILjava/util/function/BiFunction;)I" } : Jvm.MethodName) jdk_41_method_11_code (3 : Nat) (Option.some Jvm.ClassFile.FieldType.int)).before args0 about1 = true := code_word (m := ⟨9, 1⟩) (meth := k9m1) (c := k9c1) (by decide +kernel) rfl rfl rfl (by decide +kernel)
set_option maxRecDepth 65536 in
theorem w_c9 : (Jvm.Cond.code ({ cls := "com/example/polgen/polgen/model/MultiplicityNamedPinLaw", name := "make", desc := "([CI)Ljava/lang/String;" } : Jvm.MethodName) method_4_code (2 : Nat) (Option.some (Jvm.ClassFile.FieldType.object "java/lang/String"))).before args0 about1 = true := code_word (m := ⟨1, 3⟩) (meth := k1m3) (c := k1c3) (by decide +kernel) rfl rfl rfl (by decide +kernel)
set_option maxRecDepth 65536 in
theorem w_c10 : (Jvm.Cond.code ({ cls := "java/lang/String", name := "<init>", desc := "([C)V" } : Jvm.MethodName) jdk_42_method_3_code (2 : Nat) (Option.none : Option Jvm.ClassFile.FieldType)).before args0 about1 = true := code_word (m := ⟨7, 1⟩) (meth := k7m1) (c := k7c1) (by decide +kernel) rfl rfl rfl (by decide +kernel)
set_option maxRecDepth 65536 in
theorem w_c11 : (Jvm.Cond.code ({ cls := "java/lang/String", name := "<init>", desc := "([CIILjava/lang/Void;)V" } : Jvm.MethodName) jdk_42_method_149_code (6 : Nat) (Option.none : Option Jvm.ClassFile.FieldType)).before args0 about1 = true := code_word (m := ⟨7, 5⟩) (meth := k7m5) (c := k7c5) (by decide +kernel) rfl rfl rfl (by decide +kernel)
set_option maxRecDepth 65536 in
theorem w_c12 : (Jvm.Cond.code ({ cls := "java/lang/Object", name := "<init>", desc := "()V" } : Jvm.MethodName) object_method_1_code (1 : Nat) (Option.none : Option Jvm.ClassFile.FieldType)).before args0 about1 = true := code_word (m := ⟨0, 0⟩) (meth := k0m0) (c := k0c0) (by decide +kernel) rfl rfl rfl (by decide +kernel)
set_option maxRecDepth 65536 in
theorem w_c13 : (Jvm.Cond.code ({ cls := "java/lang/StringUTF16", name := "compress", desc := "([CII)[B" } : Jvm.MethodName) jdk_52_method_16_code (6 : Nat) (Option.some (Jvm.ClassFile.FieldType.array Jvm.ClassFile.FieldType.byte))).before args0 about1 = true := code_word (m := ⟨10, 2⟩) (meth := k10m2) (c := k10c2) (by decide +kernel) rfl rfl rfl (by decide +kernel)
set_option maxRecDepth 65536 in
theorem w_c14 : (Jvm.Cond.code ({ cls := "java/lang/StringUTF16", name := "compress", desc := "([CI[BII)I" } : Jvm.MethodName) jdk_52_method_21_code (7 : Nat) (Option.some Jvm.ClassFile.FieldType.int)).before args0 about1 = true := code_word (m := ⟨10, 3⟩) (meth := k10m3) (c := k10c3) (by decide +kernel) rfl rfl rfl (by decide +kernel)
set_option maxRecDepth 65536 in
theorem w_c15 : (Jvm.Cond.code ({ cls := "java/lang/StringUTF16", name := "coderFromArrayLen", desc := "([BI)B" } : Jvm.MethodName) jdk_52_method_15_code (2 : Nat) (Option.some Jvm.ClassFile.FieldType.byte)).before args0 about1 = true := code_word (m := ⟨10, 1⟩) (meth := k10m1) (c := k10c1) (by decide +kernel) rfl rfl rfl (by decide +kernel)
set_option maxRecDepth 65536 in
theorem w_c16 : (Jvm.Cond.code ({ cls := "java/lang/String", name := "equals", desc := "(Ljava/lang/Object;)Z" } : Jvm.MethodName) jdk_42_method_66_code (3 : Nat) (Option.some Jvm.ClassFile.FieldType.boolean)).before args0 about1 = true := code_word (m := ⟨7, 4⟩) (meth := k7m4) (c := k7c4) (by decide +kernel) rfl rfl rfl (by decide +kernel)
set_option maxRecDepth 65536 in
theorem w_c17 : (Jvm.Cond.code ({ cls := "java/lang/StringLatin1", name := "equals", desc := "([B[B)Z" } : Jvm.MethodName) jdk_43_method_13_code (3 : Nat) (Option.some Jvm.ClassFile.FieldType.boolean)).before args0 about1 = true := code_word (m := ⟨8, 2⟩) (meth := k8m2) (c := k8c2) (by decide +kernel) rfl rfl rfl (by decide +kernel)
set_option maxRecDepth 65536 in
theorem w_c18 : (Jvm.Cond.code ({ cls := "com/example/polgen/polgen/model/Multiplicity", name := "named", desc := "(Ljava/lang/String;)Ljava/util/Optional;" } : Jvm.MethodName) prog_21_method_4_code (5 : Nat) (Option.some (Jvm.ClassFile.FieldType.object "java/util/Optional"))).before args0 about1 = true := code_word (m := ⟨12, 1⟩) (meth := k12m1) (c := k12c1) (by decide +kernel) rfl rfl rfl (by decide +kernel)
set_option maxRecDepth 65536 in
theorem w_c19 : (Jvm.Cond.code ({ cls := "com/example/polgen/polgen/model/Multiplicity", name := "values", desc := "()[Lcom/example/polgen/polgen/model/Multiplicity;" } : Jvm.MethodName) prog_21_method_1_code (0 : Nat) (Option.some (Jvm.ClassFile.FieldType.array (Jvm.ClassFile.FieldType.object "com/example/polgen/polgen/model/Multiplicity")))).before args0 about1 = true := code_word (m := ⟨12, 0⟩) (meth := k12m0) (c := k12c0) (by decide +kernel) rfl rfl rfl (by decide +kernel)
set_option maxRecDepth 65536 in
theorem w_c20 : (Jvm.Cond.code ({ cls := "java/util/Optional", name := "of", desc := "(Ljava/lang/Object;)Ljava/util/Optional;" } : Jvm.MethodName) jdk_32_method_3_code (1 : Nat) (Option.some (Jvm.ClassFile.FieldType.object "java/util/Optional"))).before args0 about1 = true := code_word (m := ⟨14, 2⟩) (meth := k14m2) (c := k14c2) (by decide +kernel) rfl rfl rfl (by decide +kernel)
set_option maxRecDepth 65536 in
theorem w_c21 : (Jvm.Cond.code ({ cls := "java/util/Objects", name := "requireNonNull", desc := "(Ljava/lang/Object;)Ljava/lang/Object;" } : Jvm.MethodName) jdk_31_method_10_code (1 : Nat) (Option.some (Jvm.ClassFile.FieldType.object "java/lang/Object"))).before args0 about1 = true := code_word (m := ⟨15, 1⟩) (meth := k15m1) (c := k15c1) (by decide +kernel) rfl rfl rfl (by decide +kernel)
set_option maxRecDepth 65536 in
theorem w_c22 : (Jvm.Cond.code ({ cls := "java/util/Optional", name := "<init>", desc := "(Ljava/lang/Object;)V" } : Jvm.MethodName) jdk_32_method_2_code (2 : Nat) (Option.none : Option Jvm.ClassFile.FieldType)).before args0 about1 = true := code_word (m := ⟨14, 1⟩) (meth := k14m1) (c := k14c1) (by decide +kernel) rfl rfl rfl (by decide +kernel)
set_option maxRecDepth 65536 in
theorem w_c23 : (Jvm.Cond.code ({ cls := "java/util/Optional", name := "orElse", desc := "(Ljava/lang/Object;)Ljava/lang/Object;" } : Jvm.MethodName) jdk_32_method_15_code (2 : Nat) (Option.some (Jvm.ClassFile.FieldType.object "java/lang/Object"))).before args0 about1 = true := code_word (m := ⟨14, 3⟩) (meth := k14m3) (c := k14c3) (by decide +kernel) rfl rfl rfl (by decide +kernel)
set_option maxRecDepth 65536 in
theorem w_c24 : (Jvm.Cond.code ({ cls := "java/util/Optional", name := "empty", desc := "()Ljava/util/Optional;" } : Jvm.MethodName) jdk_32_method_1_code (1 : Nat) (Option.some (Jvm.ClassFile.FieldType.object "java/util/Optional"))).before args0 about1 = true := code_word (m := ⟨14, 0⟩) (meth := k14m0) (c := k14c0) (by decide +kernel) rfl rfl rfl (by decide +kernel)
def codes1 : List Jvm.Cond := [Jvm.Cond.code x code maxLocals ret, Jvm.Cond.code ({ cls := "java/lang/String", name := "length", desc := "()I" } : Jvm.MethodName) jdk_42_method_54_code (1 : Nat) (Option.some Jvm.ClassFile.FieldType.int), Jvm.Cond.code ({ cls := "java/lang/String", name := "coder", desc := "()B" } : Jvm.MethodName) jdk_42_method_152_code (1 : Nat) (Option.some Jvm.ClassFile.FieldType.byte), Jvm.Cond.code ({ cls := "com/example/polgen/polgen/model/MultiplicityNamedPinLaw", name := "at", desc := "(Ljava/lang/String;I)C" } : Jvm.MethodName) method_3_code (2 : Nat) (Option.some Jvm.ClassFile.FieldType.char), Jvm.Cond.code ({ cls := "java/lang/String", name := "charAt", desc := "(I)C" } : Jvm.MethodName) jdk_42_method_56_code (2 : Nat) (Option.some Jvm.ClassFile.FieldType.char), Jvm.Cond.code ({ cls := "java/lang/String", name := "isLatin1", desc := "()Z" } : Jvm.MethodName) jdk_42_method_154_code (1 : Nat) (Option.some Jvm.ClassFile.FieldType.boolean), Jvm.Cond.code ({ cls := "java/lang/StringLatin1", name := "charAt", desc := "([BI)C" } : Jvm.MethodName) jdk_43_method_2_code (2 : Nat) (Option.some Jvm.ClassFile.FieldType.char), Jvm.Cond.code ({ cls := "java/lang/String", name := "checkIndex", desc := "(II)V" } : Jvm.MethodName) jdk_42_method_155_code (2 : Nat) (Option.none : Option Jvm.ClassFile.FieldType), Jvm.Cond.code ({ cls := "jdk/internal/util/Preconditions", name := "checkIndex", desc := "(IILjava/util/function/BiFunction;)I" } : Jvm.MethodName) jdk_41_method_11_code (3 : Nat) (Option.some Jvm.ClassFile.FieldType.int), Jvm.Cond.code ({ cls := "com/example/polgen/polgen/model/MultiplicityNamedPinLaw", name := "make", desc := "([CI)Ljava/lang/String;" } : Jvm.MethodName) method_4_code (2 : Nat) (Option.some (Jvm.ClassFile.FieldType.object "java/lang/String")), Jvm.Cond.code ({ cls := "java/lang/String", name := "<init>", desc := "([C)V" } : Jvm.MethodName) jdk_42_method_3_code (2 : Nat) (Option.none : Option Jvm.ClassFile.FieldType), Jvm.Cond.code ({ cls := "java/lang/String", name := "<init>", desc := "([CIILjava/lang/Void;)V" } : Jvm.MethodName) jdk_42_method_149_code (6 : Nat) (Option.none : Option Jvm.ClassFile.FieldType), Jvm.Cond.code ({ cls := "java/lang/Object", name := "<init>", desc := "()V" } : Jvm.MethodName) object_method_1_code (1 : Nat) (Option.none : Option Jvm.ClassFile.FieldType), Jvm.Cond.code ({ cls := "java/lang/StringUTF16", name := "compress", desc := "([CII)[B" } : Jvm.MethodName) jdk_52_method_16_code (6 : Nat) (Option.some (Jvm.ClassFile.FieldType.array Jvm.ClassFile.FieldType.byte)), Jvm.Cond.code ({ cls := "java/lang/StringUTF16", name := "compress", desc := "([CI[BII)I" } : Jvm.MethodName) jdk_52_method_21_code (7 : Nat) (Option.some Jvm.ClassFile.FieldType.int), Jvm.Cond.code ({ cls := "java/lang/StringUTF16", name := "coderFromArrayLen", desc := "([BI)B" } : Jvm.MethodName) jdk_52_method_15_code (2 : Nat) (Option.some Jvm.ClassFile.FieldType.byte), Jvm.Cond.code ({ cls := "java/lang/String", name := "equals", desc := "(Ljava/lang/Object;)Z" } : Jvm.MethodName) jdk_42_method_66_code (3 : Nat) (Option.some Jvm.ClassFile.FieldType.boolean), Jvm.Cond.code ({ cls := "java/lang/StringLatin1", name := "equals", desc := "([B[B)Z" } : Jvm.MethodName) jdk_43_method_13_code (3 : Nat) (Option.some Jvm.ClassFile.FieldType.boolean), Jvm.Cond.code ({ cls := "com/example/polgen/polgen/model/Multiplicity", name := "named", desc := "(Ljava/lang/String;)Ljava/util/Optional;" } : Jvm.MethodName) prog_21_method_4_code (5 : Nat) (Option.some (Jvm.ClassFile.FieldType.object "java/util/Optional")), Jvm.Cond.code ({ cls := "com/example/polgen/polgen/model/Multiplicity", name := "values", desc := "()[Lcom/example/polgen/polgen/model/Multiplicity;" } : Jvm.MethodName) prog_21_method_1_code (0 : Nat) (Option.some (Jvm.ClassFile.FieldType.array (Jvm.ClassFile.FieldType.object "com/example/polgen/polgen/model/Multiplicity"))), Jvm.Cond.code ({ cls := "java/util/Optional", name := "of", desc := "(Ljava/lang/Object;)Ljava/util/Optional;" } : Jvm.MethodName) jdk_32_method_3_code (1 : Nat) (Option.some (Jvm.ClassFile.FieldType.object "java/util/Optional")), Jvm.Cond.code ({ cls := "java/util/Objects", name := "requireNonNull", desc := "(Ljava/lang/Object;)Ljava/lang/Object;" } : Jvm.MethodName) jdk_31_method_10_code (1 : Nat) (Option.some (Jvm.ClassFile.FieldType.object "java/lang/Object")), Jvm.Cond.code ({ cls := "java/util/Optional", name := "<init>", desc := "(Ljava/lang/Object;)V" } : Jvm.MethodName) jdk_32_method_2_code (2 : Nat) (Option.none : Option Jvm.ClassFile.FieldType), Jvm.Cond.code ({ cls := "java/util/Optional", name := "orElse", desc := "(Ljava/lang/Object;)Ljava/lang/Object;" } : Jvm.MethodName) jdk_32_method_15_code (2 : Nat) (Option.some (Jvm.ClassFile.FieldType.object "java/lang/Object")), Jvm.Cond.code ({ cls := "java/util/Optional", name := "empty", desc := "()Ljava/util/Optional;" } : Jvm.MethodName) jdk_32_method_1_code (1 : Nat) (Option.some (Jvm.ClassFile.FieldType.object "java/util/Optional"))]
set_option maxRecDepth 65536 in
theorem codes_eq : words1.filter isCode = codes1 := rfl
theorem w_codes : ∀ c ∈ words1.filter isCode, c.before args0 about1 = true := by
  rw [codes_eq]
  intro c hc
  simp only [codes1, List.mem_cons, List.not_mem_nil, or_false] at hc
  rcases hc with rfl | rfl | rfl | rfl | rfl | rfl | rfl | rfl | rfl | rfl | rfl | rfl | rfl | rfl | rfl | rfl | rfl | rfl | rfl | rfl | rfl | rfl | rfl | rfl | rfl
  · exact w_c0
  · exact w_c1
  · exact w_c2
  · exact w_c3
  · exact w_c4
  · exact w_c5
  · exact w_c6
  · exact w_c7
  · exact w_c8
  · exact w_c9
  · exact w_c10
  · exact w_c11
  · exact w_c12
  · exact w_c13
  · exact w_c14
  · exact w_c15
  · exact w_c16
  · exact w_c17
  · exact w_c18
  · exact w_c19
  · exact w_c20
  · exact w_c21
  · exact w_c22
  · exact w_c23
  · exact w_c24
set_option maxRecDepth 65536 in
theorem w_t1 : (words1.take 24).all (fun c => isCode c || c.before args0 about1) = true := by decide +kernel
set_option maxRecDepth 65536 in
theorem w_t2 : ((words1.drop 24).take 24).all (fun c => isCode c || c.before args0 about1) = true := by decide +kernel
set_option maxRecDepth 65536 in
theorem w_t3 : (((words1.drop 24).drop 24).take 24).all (fun c => isCode c || c.before args0 about1) = true := by decide +kernel
set_option maxRecDepth 65536 in
theorem w_t4 : ((((words1.drop 24).drop 24).drop 24).take 24).all (fun c => isCode c || c.before args0 about1) = true := by decide +kernel
set_option maxRecDepth 65536 in
theorem w_t5 : (((((words1.drop 24).drop 24).drop 24).drop 24).take 24).all (fun c => isCode c || c.before args0 about1) = true := by decide +kernel
set_option maxRecDepth 65536 in
theorem w_t6 : (((((words1.drop 24).drop 24).drop 24).drop 24).drop 24).all (fun c => isCode c || c.before args0 about1) = true := by decide +kernel
theorem w_tables : (allAtoms (Jvm.Cond.code x code maxLocals ret :: tables_1)).before args0 about1 = true := by
  rw [allAtoms_all]
  show words1.all (fun c => c.before args0 about1) = true
  refine all_split ?_ w_codes
  rw [← List.take_append_drop 24 words1, List.all_append, w_t1, ← List.take_append_drop 24 (words1.drop 24), List.all_append, w_t2, ← List.take_append_drop 24 ((words1.drop 24).drop 24), List.all_append, w_t3, ← List.take_append_drop 24 (((words1.drop 24).drop 24).drop 24), List.all_append, w_t4, ← List.take_append_drop 24 ((((words1.drop 24).drop 24).drop 24).drop 24), List.all_append, w_t5, w_t6]
  rfl
set_option maxRecDepth 65536 in
theorem w_rest : rest_1_c.before args0 about1 = true := by decide +kernel
set_option maxRecDepth 65536 in
theorem w_case : (Jvm.Cond.and given_1 narrow_1).before args0 about1 = true := by decide +kernel
set_option maxRecDepth 65536 in
theorem w_consts : constsHeld consts_1 about1 := Jvm.Lit.constsHeldB_iff.mp (by decide +kernel)
theorem w_applies : (headSpec (Jvm.Cond.code x code maxLocals ret :: tables_1) room_1).applies x e0.platform about1 = true :=
  (Spec.applies_iff w_frames).mpr ⟨w_running, w_runnable, w_alone, w_named, w_hears, w_ripe, w_room, w_tables⟩
theorem atStart : AtStart classFile x code maxLocals ret World_1 tables_1 room_1 Calls_1 rest_1 Pre_1 launch0 p0 e0 about1 theMethod args0 below0 :=
  ⟨lists_1, trivial, launch0.admits_env _ _ _, launch0.least_env, fairChoices_fair.cas, fairChoices_fair.clock, w_frames, w_args, w_heap, w_applies, ⟨w_consts, trivial⟩, w_rest, w_case⟩
end start1
theorem witness_1 : WitnessClaimed_1 := ⟨start1.p0, start1.e0, start1.about1, start1.theMethod, start1.args0, start1.below0, start1.atStart⟩
end Jvm.Pilot.@@N@@
