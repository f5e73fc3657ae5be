import JvmDerived
import JvmDerived.Pilot.@@N@@Statement
import JvmDerived.Pilot.@@N@@Code
set_option linter.unusedVariables false
set_option linter.unusedSimpArgs false
namespace Jvm.RoadKit
open Sem ClassFile Op Lib Jvm.Stand Jvm.Free Jvm.LawKit
section New
variable {p : Program} {l : Launch} {e : Env} {R : Room} {s : State} {m : MethodId} {args : Array Value} {below : List Frame} {meth : Method} {c : Code} {T : State} {locs : List Loc} {cells slots : Nat}
theorem retI (X : Stand p l e R s m args below meth c T locs cells slots) (hx : p.tables.exec = Jvm.exec) {pc : Nat} {Ls : Array Slot} {z : Int32} {rest : List Value} (hret : meth.sig.returnType = some .int) (hd : decode c.code pc = .ok (.ireturn, 1)) {fs : List Frame}
    (hl : ∀ (f : JFrame) (acts : List Action), f.method = m → f.locked = none → f.entered = [] → (doReturn e (T.setTop f) acts (some (.int z))).1 = T.setFrames fs) : Steps p.tables e below (T.setTop (mkF m pc Ls (.int z :: rest))) (T.setFrames fs) :=
  retOut X hx hret rfl (Or.inl ⟨rfl, Or.inl rfl, _, rfl⟩) hd hl
theorem fitsRef {C : String} {v : Value} (h : v.isRef = true) : fits (.object C) v = true := by
  rcases ref_cases h with rfl | ⟨_, rfl⟩ <;> rfl
end New
end Jvm.RoadKit

/- laws to paste: Road.backV, Road.eqW, Road.codOf (cut by pick.py; bodies as the Statement names them) -/
namespace Jvm.Pilot.@@N@@
namespace StrChars
open Jvm Sem ClassFile Op Lib Jvm.Stand Jvm.Free.XT Jvm.Free.ALB Jvm.Free.JM Jvm.Free
open Jvm.Lib.Cold (StaticIs)
/-- a char array whose places are chars -/
def Ch (a : Addr) (A : Cell) (U : State) : Prop := Arr .char a A U ∧ Typed .char A
theorem Ch.mv {a : Addr} {A : Cell} {U U' : State} (h : Ch a A U) (hal : U.vm.Alike U'.vm) (hh : U'.heap = U.heap) : Ch a A U' := ⟨h.1.mv hal hh, h.2⟩
theorem Ch.keep {a : Addr} {A : Cell} {U U' : State} (h : Ch a A U) (hal : U.vm.Alike U'.vm) (hk : U'.heap[a]? = some A) : Ch a A U' := ⟨h.1.keep hal hk, h.2⟩
/-- what place i of a char[]'s cell holds -/
def cv (A : Cell) (i : Nat) : Int32 := match A.slots[i]? with | some (.int x) => x | _ => 0
theorem Ch.get {a : Addr} {A : Cell} {U : State} (h : Ch a A U) {i : Nat} (hi : i < A.slots.size) : A.slots[i]? = some (.int (cv A i)) := by
  have e := Array.getElem?_eq_getElem hi
  have f := h.2 i _ e
  unfold cv; rw [e]
  generalize A.slots[i] = v at f
  cases v <;> simp [fits] at f ⊢
/-- the byte that i2b leaves of a char -/
def lo8 (x : Int32) : Int32 := x.toInt8.toInt32
theorem fits_lo8 (y : Int32) : fits .byte (.int (lo8 y)) = true := by
  have h1 := y.toInt8.le_toInt
  have h2 := y.toInt8.toInt_lt
  simp only [lo8, fits, Bool.and_eq_true, decide_eq_true_eq, Int32.le_iff_toInt_le, Int8.toInt_toInt32, show (-128 : Int32).toInt = -128 from by decide, show (127 : Int32).toInt = 127 from by decide]
  omega
/-- A' is A but that each place j of lo .. hi - 1 holds f j -/
def Laid (A A' : Cell) (lo hi : Nat) (f : Nat → Value) : Prop := A'.cls = A.cls ∧ A'.vm = A.vm ∧ A'.slots.size = A.slots.size ∧ ∀ i, A'.slots[i]? = if lo ≤ i ∧ i < hi then some (f i) else A.slots[i]?
theorem Laid.zero (A : Cell) (lo : Nat) (f : Nat → Value) : Laid A A lo (lo + 0) f := ⟨rfl, rfl, rfl, fun i => by rw [if_neg (by omega)]⟩
theorem Laid.step {A Ak : Cell} {lo k : Nat} {f : Nat → Value} {v : Value} (h : Laid A Ak lo k f) (hlo : lo ≤ k) (hk : k < Ak.slots.size) (hv : v = f k) : Laid A (Ak.setSlot k v) lo (k + 1) f := by
  refine ⟨h.1, h.2.1, by simpa [Cell.setSlot] using h.2.2.1, fun i => ?_⟩
  by_cases e : k = i
  · subst e; rw [Cell.slots_setSlot_self v hk, if_pos (by omega), hv]
  · rw [Cell.slots_setSlot_ne v e, h.2.2.2 i]
    by_cases q : lo ≤ i ∧ i < k
    · rw [if_pos q, if_pos (by omega)]
    · rw [if_neg q, if_neg (by omega)]
def U16 : String := "java/lang/StringUTF16"
namespace Cmp5
def yN : MethodName := ⟨"java/lang/StringUTF16", "compress", "([CI[BII)I"⟩
abbrev yB : ByteArray := jdk_52_method_21_code
theorem d0 : decode yB 0 = .ok (.iconst 0, 1) := by decide +kernel
theorem d1 : decode yB 1 = .ok (.istore 5, 2) := by decide +kernel
theorem d3 : decode yB 3 = .ok (.iload 5, 2) := by decide +kernel
theorem d5 : decode yB 5 = .ok (.iload 4, 2) := by decide +kernel
theorem d7 : decode yB 7 = .ok (.if_icmp (.ge) 37, 3) := by decide +kernel
theorem d10 : decode yB 10 = .ok (.aload_n 0, 1) := by decide +kernel
theorem d11 : decode yB 11 = .ok (.iload_n 1, 1) := by decide +kernel
theorem d12 : decode yB 12 = .ok (.caload, 1) := by decide +kernel
theorem d13 : decode yB 13 = .ok (.istore 6, 2) := by decide +kernel
theorem d15 : decode yB 15 = .ok (.iload 6, 2) := by decide +kernel
theorem d17 : decode yB 17 = .ok (.sipush 255, 3) := by decide +kernel
theorem d20 : decode yB 20 = .ok (.if_icmp (.le) 6, 3) := by decide +kernel
theorem d26 : decode yB 26 = .ok (.aload_n 2, 1) := by decide +kernel
theorem d27 : decode yB 27 = .ok (.iload_n 3, 1) := by decide +kernel
theorem d28 : decode yB 28 = .ok (.iload 6, 2) := by decide +kernel
theorem d30 : decode yB 30 = .ok (.i2b, 1) := by decide +kernel
theorem d31 : decode yB 31 = .ok (.bastore, 1) := by decide +kernel
theorem d32 : decode yB 32 = .ok (.iinc 1 1, 3) := by decide +kernel
theorem d35 : decode yB 35 = .ok (.iinc 3 1, 3) := by decide +kernel
theorem d38 : decode yB 38 = .ok (.iinc 5 1, 3) := by decide +kernel
theorem d41 : decode yB 41 = .ok (.goto (-38), 3) := by decide +kernel
theorem d44 : decode yB 44 = .ok (.iload 4, 2) := by decide +kernel
theorem d46 : decode yB 46 = .ok (.ireturn, 1) := by decide +kernel
def site : List Cond := []
def tab : Cond := tabOf yN yB 7 (some .int) site
def P (b : Addr) (A : Cell) (d : Addr) (B : Cell) (o q len : Nat) (args : Array Value) (s : State) : Prop := args = #[.ref b, .int (Int32.ofNat o), .ref d, .int (Int32.ofNat q), .int (Int32.ofNat len)] ∧ Ch b A s ∧ Arr .byte d B s ∧ b ≠ d ∧ o + len ≤ A.slots.size ∧ q + len ≤ B.slots.size ∧ ∀ i, i < len → ¬ 255 < cv A (o + i)
def E (b : Addr) (A : Cell) (d : Addr) (B : Cell) (o q len : Nat) (r : Option Value) (s u : State) : Prop := r = some (.int (Int32.ofNat len)) ∧ ∃ B', Put d B' s u ∧ Laid B B' q (q + len) (fun j => Value.int (lo8 (cv A (o + (j - q)))))
/-- no char of the range above 255: len; the places written hold each char's low byte -/
theorem law (l : Launch) (b : Addr) (A : Cell) (d : Addr) (B : Cell) (o q len : Nat) : Law l yN 5 5 0 0 yB 7 (some .int) site (P b A d B o q len) (E b A d B o q len) (copyLocs d q len) 0 0 := by
  refine Law.of_walk (plainFor_of_name (by decide +kernel)) (by decide +kernel) (by decide +kernel) (by decide) (fun _ _ h => by rw [h.1]; rfl) (fun _ U U' hal hh h => ⟨h.1, h.2.1.mv hal hh, h.2.2.1.mv hal hh, h.2.2.2⟩) (fun r U U' V V' h1 hal h2 h => ⟨h.1, h.2.elim fun B' q => ⟨B', q.1.mv h1 h2, q.2⟩⟩) ?_
  intro p e s m args below meth c s₁ X0 hexec hbytes hml hret hlk hnm hown hh0 W hP
  obtain ⟨rfl, hA, hB, hne, l1, l2, hp⟩ := hP
  have c1 : Steps p.tables e below (s₁.setTop (entryFrame m #[.ref b, .int (Int32.ofNat o), .ref d, .int (Int32.ofNat q), .int (Int32.ofNat len)] 7)) (s₁.setTop (mkF m 0 #[.val (.ref b), .val (.int (Int32.ofNat o)), .val (.ref d), .val (.int (Int32.ofNat q)), .val (.int (Int32.ofNat len)), .unset, .unset] [])) := entry rfl
  have hA0 := hA.1.mv X0.warmed.alike hh0
  have hB0 := hB.mv X0.warmed.alike hh0
  have a31 := hA.1.2.2.2
  have c2 : Steps p.tables e below (s₁.setTop (entryFrame m #[.ref b, .int (Int32.ofNat o), .ref d, .int (Int32.ofNat q), .int (Int32.ofNat len)] 7)) (s₁.setTop (mkF m 3 #[.val (.ref b), .val (.int (Int32.ofNat o)), .val (.ref d), .val (.int (Int32.ofNat q)), .val (.int (Int32.ofNat len)), .val (.int 0), .unset] [])) := c1.trans (by
    refine iconstV X0.here hexec rfl 0 (hb hbytes d0) (by decide) ?_
    refine XS.istore X0.here hexec rfl (hb hbytes d1) rfl rfl ?_
    exact Steps.refl _)
  have loop : ∀ (r i : Nat), i + r = len → ∀ (z : Slot), (z = .unset ∨ ∃ w, z = .val w ∧ w.category = 1) → ∀ (Tl : State) (Bk : Cell), Stand p l e { frames := 0, locals := 0, cells := 0, slots := 0 } s m #[.ref b, .int (Int32.ofNat o), .ref d, .int (Int32.ofNat q), .int (Int32.ofNat len)] below meth c Tl ([] ++ copyLocs d q i) 0 0 → Put d Bk s₁ Tl → Laid B Bk q (q + i) (fun j => Value.int (lo8 (cv A (o + (j - q))))) →
      Steps p.tables e below (s₁.setTop (entryFrame m #[.ref b, .int (Int32.ofNat o), .ref d, .int (Int32.ofNat q), .int (Int32.ofNat len)] 7)) (Tl.setTop (mkF m 3 #[.val (.ref b), .val (.int (Int32.ofNat (o + i))), .val (.ref d), .val (.int (Int32.ofNat (q + i))), .val (.int (Int32.ofNat len)), .val (.int (Int32.ofNat i)), z] [])) → ∃ (T' : State) (B' : Cell) (z' : Slot), Stand p l e { frames := 0, locals := 0, cells := 0, slots := 0 } s m #[.ref b, .int (Int32.ofNat o), .ref d, .int (Int32.ofNat q), .int (Int32.ofNat len)] below meth c T' ([] ++ copyLocs d q len) 0 0 ∧ Put d B' s₁ T' ∧ Laid B B' q (q + len) (fun j => Value.int (lo8 (cv A (o + (j - q))))) ∧
      Steps p.tables e below (s₁.setTop (entryFrame m #[.ref b, .int (Int32.ofNat o), .ref d, .int (Int32.ofNat q), .int (Int32.ofNat len)] 7)) (T'.setTop (mkF m 3 #[.val (.ref b), .val (.int (Int32.ofNat (o + len))), .val (.ref d), .val (.int (Int32.ofNat (q + len))), .val (.int (Int32.ofNat len)), .val (.int (Int32.ofNat len)), z'] [])) := by
    intro r
    induction r with
    | zero =>
      intro i hi z hz Tl Bk Xl pl fl cl
      have hil : i = len := by omega
      rw [hil] at Xl fl cl
      exact ⟨Tl, Bk, z, Xl, pl, fl, cl⟩
    | succ r ih =>
      intro i hi z hz Tl Bk Xl pl fl cl
      have all := X0.warmed.alike.symm.trans Xl.warmed.alike
      have hAl := hA0.keep all (pl.other hne hA0.1)
      have hBk := hB0.like all pl.1 fl.1 fl.2.1 fl.2.2.1
      have hlt : q + i < Bk.slots.size := by rw [fl.2.2.1]; omega
      have c3 : Steps p.tables e below (s₁.setTop (entryFrame m #[.ref b, .int (Int32.ofNat o), .ref d, .int (Int32.ofNat q), .int (Int32.ofNat len)] 7)) (Tl.setTop (mkF m 12 #[.val (.ref b), .val (.int (Int32.ofNat (o + i))), .val (.ref d), .val (.int (Int32.ofNat (q + i))), .val (.int (Int32.ofNat len)), .val (.int (Int32.ofNat i)), z] [.int (Int32.ofNat (o + i)), .ref b])) := cl.trans (by
        refine XS.iload Xl.here hexec rfl (hb hbytes d3) rfl ?_
        refine XS.iload Xl.here hexec rfl (hb hbytes d5) rfl ?_
        refine XS.icmpNo Xl.here hexec rfl (hb hbytes d7) rfl (ii_ge_f (lt32 (by omega) (by omega))) ?_
        refine XS.aloadN Xl.here hexec rfl (hb hbytes d10) rfl rfl ?_
        refine XS.iloadN Xl.here hexec rfl (hb hbytes d11) rfl ?_
        exact Steps.refl _)
      have c4 : Steps p.tables e below (s₁.setTop (entryFrame m #[.ref b, .int (Int32.ofNat o), .ref d, .int (Int32.ofNat q), .int (Int32.ofNat len)] 7)) (Tl.setTop (mkF m 13 #[.val (.ref b), .val (.int (Int32.ofNat (o + i))), .val (.ref d), .val (.int (Int32.ofNat (q + i))), .val (.int (Int32.ofNat len)), .val (.int (Int32.ofNat i)), z] [.int (cv A (o + i))])) := c3.trans (by
        refine Xl.aget hexec hAl rfl (hA.get (i := o + i) (by omega)) rfl rfl (hb hbytes d12) ?_
        exact Steps.refl _)
      have c5 : Steps p.tables e below (s₁.setTop (entryFrame m #[.ref b, .int (Int32.ofNat o), .ref d, .int (Int32.ofNat q), .int (Int32.ofNat len)] 7)) (Tl.setTop (mkF m 15 #[.val (.ref b), .val (.int (Int32.ofNat (o + i))), .val (.ref d), .val (.int (Int32.ofNat (q + i))), .val (.int (Int32.ofNat len)), .val (.int (Int32.ofNat i)), .val (.int (cv A (o + i)))] [])) := c4.trans (by
        refine XS.istoreS Xl.here hexec rfl (hb hbytes d13) rfl rfl hz ?_
        exact Steps.refl _)
      have c6 : Steps p.tables e below (s₁.setTop (entryFrame m #[.ref b, .int (Int32.ofNat o), .ref d, .int (Int32.ofNat q), .int (Int32.ofNat len)] 7)) (Tl.setTop (mkF m 31 #[.val (.ref b), .val (.int (Int32.ofNat (o + i))), .val (.ref d), .val (.int (Int32.ofNat (q + i))), .val (.int (Int32.ofNat len)), .val (.int (Int32.ofNat i)), .val (.int (cv A (o + i)))] [.int (lo8 (cv A (o + i))), .int (Int32.ofNat (q + i)), .ref d])) := c5.trans (by
        refine XS.iload Xl.here hexec rfl (hb hbytes d15) rfl ?_
        refine sipushV Xl.here hexec rfl 255 (hb hbytes d17) (by decide) ?_
        refine XS.icmpYes Xl.here hexec rfl (pc0 := 20) rfl (hb hbytes d20) rfl (ii_le_t (hp i (by omega))) (by decide) rfl ?_
        refine XS.aloadN Xl.here hexec rfl (hb hbytes d26) rfl rfl ?_
        refine XS.iloadN Xl.here hexec rfl (hb hbytes d27) rfl ?_
        refine XS.iload Xl.here hexec rfl (hb hbytes d28) rfl ?_
        refine i2b Xl.here hexec rfl (hb hbytes d30) rfl ?_
        exact Steps.refl _)
      obtain ⟨T7, X7, p7, st7⟩ := Xl.aput hexec hBk rfl hlt rfl (fits_lo8 (cv A (o + i))) (g := (mkF m 31 #[.val (.ref b), .val (.int (Int32.ofNat (o + i))), .val (.ref d), .val (.int (Int32.ofNat (q + i))), .val (.int (Int32.ofNat len)), .val (.int (Int32.ofNat i)), .val (.int (cv A (o + i)))] [.int (lo8 (cv A (o + i))), .int (Int32.ofNat (q + i)), .ref d])) rfl (rest := []) rfl (hb hbytes d31)
      have c8 : Steps p.tables e below (s₁.setTop (entryFrame m #[.ref b, .int (Int32.ofNat o), .ref d, .int (Int32.ofNat q), .int (Int32.ofNat len)] 7)) (T7.setTop (mkF m 32 #[.val (.ref b), .val (.int (Int32.ofNat (o + i))), .val (.ref d), .val (.int (Int32.ofNat (q + i))), .val (.int (Int32.ofNat len)), .val (.int (Int32.ofNat i)), .val (.int (cv A (o + i)))] [])) := c6.trans (st7 _ (Steps.refl _))
      have c9 : Steps p.tables e below (s₁.setTop (entryFrame m #[.ref b, .int (Int32.ofNat o), .ref d, .int (Int32.ofNat q), .int (Int32.ofNat len)] 7)) (T7.setTop (mkF m 3 #[.val (.ref b), .val (.int (Int32.ofNat (o + i) + 1)), .val (.ref d), .val (.int (Int32.ofNat (q + i) + 1)), .val (.int (Int32.ofNat len)), .val (.int (Int32.ofNat i + 1)), .val (.int (cv A (o + i)))] [])) := c8.trans (by
        refine iincV X7.here hexec rfl 1 (hb hbytes d32) (by decide) rfl rfl ?_
        refine iincV X7.here hexec rfl 1 (hb hbytes d35) (by decide) rfl rfl ?_
        refine iincV X7.here hexec rfl 1 (hb hbytes d38) (by decide) rfl rfl ?_
        refine XS.goto X7.here hexec rfl (pc0 := 41) rfl (hb hbytes d41) (by decide) rfl ?_
        exact Steps.refl _)
      have c10 : Steps p.tables e below (s₁.setTop (entryFrame m #[.ref b, .int (Int32.ofNat o), .ref d, .int (Int32.ofNat q), .int (Int32.ofNat len)] 7)) (T7.setTop (mkF m 3 #[.val (.ref b), .val (.int (Int32.ofNat (o + (i + 1)))), .val (.ref d), .val (.int (Int32.ofNat (q + (i + 1)))), .val (.int (Int32.ofNat len)), .val (.int (Int32.ofNat (i + 1))), .val (.int (cv A (o + i)))] [])) := by
        have := c9
        rw [succ32, succ32, succ32] at this
        exact this
      exact ih (i + 1) (by omega) _ (Or.inr ⟨_, rfl, rfl⟩) T7 _ (by rw [copyLocs_step, ← List.append_assoc]; exact X7) (pl.trans p7) (fl.step (by omega) hlt (by simp)) c10
  obtain ⟨T9, B9, z9, X9, p9, f9, g9⟩ := loop len 0 (by omega) .unset (Or.inl rfl) s₁ B (by simpa [copyLocs] using X0) ⟨hB0.1, fun _ _ => rfl, rfl⟩ (Laid.zero _ _ _) c2
  have c11 : Steps p.tables e below (s₁.setTop (entryFrame m #[.ref b, .int (Int32.ofNat o), .ref d, .int (Int32.ofNat q), .int (Int32.ofNat len)] 7)) (T9.setTop (mkF m 46 #[.val (.ref b), .val (.int (Int32.ofNat (o + len))), .val (.ref d), .val (.int (Int32.ofNat (q + len))), .val (.int (Int32.ofNat len)), .val (.int (Int32.ofNat len)), z9] [.int (Int32.ofNat len)])) := g9.trans (by
    refine XS.iload X9.here hexec rfl (hb hbytes d3) rfl ?_
    refine XS.iload X9.here hexec rfl (hb hbytes d5) rfl ?_
    refine XS.icmpYes X9.here hexec rfl (pc0 := 7) rfl (hb hbytes d7) rfl (ii_ge_t (nlt32 (by omega) (Nat.le_refl _))) (by decide) rfl ?_
    refine XS.iload X9.here hexec rfl (hb hbytes d44) rfl ?_
    exact Steps.refl _)
  exact ⟨T9, some (.int (Int32.ofNat len)), _, _, _, X9, by simp, rfl, rfl, (fun h => by cases h), ⟨rfl, B9, p9.from hh0, f9⟩, fun fs hl => c11.trans (X9.ireturnOut hexec hret rfl (Or.inl rfl) (hb hbytes d46) hl)⟩
end Cmp5
namespace Cmp3
def yN : MethodName := ⟨"java/lang/StringUTF16", "compress", "([CII)[B"⟩
abbrev yB : ByteArray := jdk_52_method_16_code
theorem d0 : decode yB 0 = .ok (.iload_n 2, 1) := by decide +kernel
theorem d1 : decode yB 1 = .ok (.newarray .byte, 2) := by decide +kernel
theorem d3 : decode yB 3 = .ok (.astore_n 3, 1) := by decide +kernel
theorem d4 : decode yB 4 = .ok (.aload_n 0, 1) := by decide +kernel
theorem d5 : decode yB 5 = .ok (.iload_n 1, 1) := by decide +kernel
theorem d6 : decode yB 6 = .ok (.aload_n 3, 1) := by decide +kernel
theorem d7 : decode yB 7 = .ok (.iconst 0, 1) := by decide +kernel
theorem d8 : decode yB 8 = .ok (.iload_n 2, 1) := by decide +kernel
theorem d9 : decode yB 9 = .ok (.invokestatic 115, 3) := by decide +kernel
theorem d12 : decode yB 12 = .ok (.istore 4, 2) := by decide +kernel
theorem d14 : decode yB 14 = .ok (.iload 4, 2) := by decide +kernel
theorem d16 : decode yB 16 = .ok (.iload_n 2, 1) := by decide +kernel
theorem d17 : decode yB 17 = .ok (.if_icmp (.eq) 40, 3) := by decide +kernel
theorem d57 : decode yB 57 = .ok (.aload_n 3, 1) := by decide +kernel
theorem d58 : decode yB 58 = .ok (.areturn, 1) := by decide +kernel
def site : List Cond := [.arrayClass .byte, Cmp5.tab] ++ staticW U16 115 Cmp5.yN
def tab : Cond := tabOf yN yB 6 (some (.array .byte)) site
def P (b : Addr) (A : Cell) (o len : Nat) (args : Array Value) (s : State) : Prop := args = #[.ref b, .int (Int32.ofNat o), .int (Int32.ofNat len)] ∧ Ch b A s ∧ o + len ≤ A.slots.size ∧ len ≤ 536870912 ∧ ∀ i, i < len → ¬ 255 < cv A (o + i)
def E (b : Addr) (A : Cell) (o len : Nat) (r : Option Value) (s u : State) : Prop := NewArr .byte "[B" len (fun j => .int (lo8 (cv A (o + j)))) r s u ∧ u.heap.size = s.heap.size + 1
/-- no char of the range above 255: a new byte[] of their low bytes -/
theorem law (l : Launch) (b : Addr) (A : Cell) (o len : Nat) : Law l yN 3 3 1 18 yB 6 (some (.array .byte)) site (P b A o len) (E b A o len) [] 1 len := by
  refine Law.of_walk (plainFor_of_name (by decide +kernel)) (by decide +kernel) (by decide +kernel) (by decide) (fun _ _ h => by rw [h.1]; rfl) (fun _ U U' hal hh h => ⟨h.1, h.2.1.mv hal hh, h.2.2⟩) (fun r U U' V V' h1 hal h2 h => ⟨NewArr.mv r U U' V V' h1 hal h2 h.1, by rw [h1, h2]; exact h.2⟩) ?_
  intro p e s m args below meth c s₁ X0 hexec hbytes hml hret hlk hnm hown hh0 W hP
  obtain ⟨rfl, hA, l1, l2, hp⟩ := hP
  have a31 := hA.1.2.2.2
  have c1 : Steps p.tables e below (s₁.setTop (entryFrame m #[.ref b, .int (Int32.ofNat o), .int (Int32.ofNat len)] 6)) (s₁.setTop (mkF m 0 #[.val (.ref b), .val (.int (Int32.ofNat o)), .val (.int (Int32.ofNat len)), .unset, .unset, .unset] [])) := entry rfl
  have c2 : Steps p.tables e below (s₁.setTop (entryFrame m #[.ref b, .int (Int32.ofNat o), .int (Int32.ofNat len)] 6)) (s₁.setTop (mkF m 1 #[.val (.ref b), .val (.int (Int32.ofNat o)), .val (.int (Int32.ofNat len)), .unset, .unset, .unset] [.int (Int32.ofNat len)])) := c1.trans (by
    refine XS.iloadN X0.here hexec rfl (hb hbytes d0) rfl ?_
    exact Steps.refl _)
  obtain ⟨T3, B3, X3, ba3, bs3, bv3, bh3, bf3, st3⟩ := X0.anew hexec (atype := .byte) (wk W (.arrayClass .byte)) rfl (by show len * 1 ≤ _; omega) (by omega) (g := (mkF m 1 #[.val (.ref b), .val (.int (Int32.ofNat o)), .val (.int (Int32.ofNat len)), .unset, .unset, .unset] [.int (Int32.ofNat len)])) rfl (hb hbytes d1) (rest := []) rfl (Nat.le_refl _) (by show 0 + len ≤ len; omega)
  rw [hh0] at ba3 st3
  have kp3 : XT.Kept s T3 := (XT.Kept.of_eq hh0).push bh3
  have hA3 := hA.keep X3.warmed.alike (kp3 _ _ hA.1.1)
  have hne : b ≠ s.heap.size := hA.1.ne
  have c4 : Steps p.tables e below (s₁.setTop (entryFrame m #[.ref b, .int (Int32.ofNat o), .int (Int32.ofNat len)] 6)) (T3.setTop (mkF m 3 #[.val (.ref b), .val (.int (Int32.ofNat o)), .val (.int (Int32.ofNat len)), .unset, .unset, .unset] [.ref s.heap.size])) := c2.trans (st3 _ (Steps.refl _))
  have c5 : Steps p.tables e below (s₁.setTop (entryFrame m #[.ref b, .int (Int32.ofNat o), .int (Int32.ofNat len)] 6)) (T3.setTop (mkF m 9 #[.val (.ref b), .val (.int (Int32.ofNat o)), .val (.int (Int32.ofNat len)), .val (.ref s.heap.size), .unset, .unset] [.int (Int32.ofNat len), .int 0, .ref s.heap.size, .int (Int32.ofNat o), .ref b])) := c4.trans (by
    refine XS.astoreN X3.here hexec rfl (hb hbytes d3) rfl rfl rfl ?_
    refine XS.aloadN X3.here hexec rfl (hb hbytes d4) rfl rfl ?_
    refine XS.iloadN X3.here hexec rfl (hb hbytes d5) rfl ?_
    refine XS.aloadN X3.here hexec rfl (hb hbytes d6) rfl rfl ?_
    refine iconstV X3.here hexec rfl 0 (hb hbytes d7) (by decide) ?_
    refine XS.iloadN X3.here hexec rfl (hb hbytes d8) rfl ?_
    exact Steps.refl _)
  obtain ⟨v6, T6, X6, E6, g6⟩ := X3.callS hexec (Cmp5.law l b A s.heap.size B3 o 0 len) hown (wks W (staticW U16 115 Cmp5.yN)) (wk W Cmp5.tab) (W := 0) (Nat.le_of_ble_eq_true rfl) (Nat.le_of_ble_eq_true rfl) (Nat.le_refl _) (by show 0 + len + 0 ≤ len; omega) (g := (mkF m 9 #[.val (.ref b), .val (.int (Int32.ofNat o)), .val (.int (Int32.ofNat len)), .val (.ref s.heap.size), .unset, .unset] [.int (Int32.ofNat len), .int (Int32.ofNat 0), .ref s.heap.size, .int (Int32.ofNat o), .ref b])) rfl (by rw [hml]; rfl) c5 (argsL := [.ref b, .int (Int32.ofNat o), .ref s.heap.size, .int (Int32.ofNat 0), .int (Int32.ofNat len)]) (rest := []) rfl rfl (by show 2 * 0 + 0 ≤ _; decide) (hb hbytes d9) (⟨rfl, hA3, ba3, hne, l1, by rw [bs3]; simp, hp⟩)
  obtain ⟨rfl, B6, p6, f6⟩ := E6
  have c7 : Steps p.tables e below (s₁.setTop (entryFrame m #[.ref b, .int (Int32.ofNat o), .int (Int32.ofNat len)] 6)) (T6.setTop (mkF m 12 #[.val (.ref b), .val (.int (Int32.ofNat o)), .val (.int (Int32.ofNat len)), .val (.ref s.heap.size), .unset, .unset] [.int (Int32.ofNat len)])) := g6
  have c8 : Steps p.tables e below (s₁.setTop (entryFrame m #[.ref b, .int (Int32.ofNat o), .int (Int32.ofNat len)] 6)) (T6.setTop (mkF m 58 #[.val (.ref b), .val (.int (Int32.ofNat o)), .val (.int (Int32.ofNat len)), .val (.ref s.heap.size), .val (.int (Int32.ofNat len)), .unset] [.ref s.heap.size])) := c7.trans (by
    refine XS.istore X6.here hexec rfl (hb hbytes d12) rfl rfl ?_
    refine XS.iload X6.here hexec rfl (hb hbytes d14) rfl ?_
    refine XS.iloadN X6.here hexec rfl (hb hbytes d16) rfl ?_
    refine XS.icmpYes X6.here hexec rfl (pc0 := 17) rfl (hb hbytes d17) rfl (ii_eq_t rfl) (by decide) rfl ?_
    refine XS.aloadN X6.here hexec rfl (hb hbytes d57) rfl rfl ?_
    exact Steps.refl _)
  have X8 := X6.wide (L' := []) (cells' := 1) (slots' := len) (fun x hx hlt => by
    simp only [List.nil_append, copyLocs, List.mem_map, List.mem_range] at hx
    obtain ⟨i, -, rfl⟩ := hx
    exact absurd hlt (Nat.lt_irrefl _)) (Nat.le_refl _) (by omega)
  exact ⟨T6, some (.ref s.heap.size), _, _, _, X8, rfl, rfl, rfl, (fun h => by cases h), ⟨⟨rfl, B6, ba3.like (X3.warmed.alike.symm.trans X6.warmed.alike) p6.1 f6.1 f6.2.1 f6.2.2.1, f6.2.1.trans bv3, by rw [X6.warmed.alike.findClass, f6.1]; exact bf3, by rw [f6.2.2.1, bs3]; simp, fun j hj => by rw [f6.2.2.2 j, if_pos (by omega)]; rfl, kp3.put p6 (Nat.le_refl _)⟩, by rw [p6.2.2, bh3, hh0]; simp⟩, fun fs hl => c8.trans (X8.areturnOut hexec rfl hret rfl (hb hbytes d58) hl)⟩
end Cmp3
namespace CodL
def yN : MethodName := ⟨"java/lang/StringUTF16", "coderFromArrayLen", "([BI)B"⟩
abbrev yB : ByteArray := jdk_52_method_15_code
theorem d0 : decode yB 0 = .ok (.iload_n 1, 1) := by decide +kernel
theorem d1 : decode yB 1 = .ok (.aload_n 0, 1) := by decide +kernel
theorem d2 : decode yB 2 = .ok (.arraylength, 1) := by decide +kernel
theorem d3 : decode yB 3 = .ok (.isub, 1) := by decide +kernel
theorem d4 : decode yB 4 = .ok (.bipush 31, 2) := by decide +kernel
theorem d6 : decode yB 6 = .ok (.iushr, 1) := by decide +kernel
theorem d7 : decode yB 7 = .ok (.i2b, 1) := by decide +kernel
theorem d8 : decode yB 8 = .ok (.ireturn, 1) := by decide +kernel
def site : List Cond := []
def tab : Cond := tabOf yN yB 2 (some .byte) site
def P (d : Addr) (B : Cell) (args : Array Value) (s : State) : Prop := args = #[.ref d, .int (Int32.ofNat B.slots.size)] ∧ Arr .byte d B s
def E (r : Option Value) (s u : State) : Prop := XT.PureE (some (.int 0)) r s u
/-- an array as long as the number of chars: LATIN1 -/
theorem law (l : Launch) (d : Addr) (B : Cell) : Law l yN 2 2 0 0 yB 2 (some .byte) site (P d B) E [] 0 0 := by
  refine Law.of_walk (plainFor_of_name (by decide +kernel)) (by decide +kernel) (by decide +kernel) (by decide) (fun _ _ h => by rw [h.1]; rfl) (fun _ U U' hal hh h => ⟨h.1, h.2.mv hal hh⟩) (fun r U U' V V' h1 hal h2 h => XT.PureE.mv r U U' V V' h1 hal h2 h) ?_
  intro p e s m args below meth c s₁ X0 hexec hbytes hml hret hlk hnm hown hh0 W hP
  obtain ⟨rfl, hB⟩ := hP
  have hB0 := hB.mv X0.warmed.alike hh0
  have c1 : Steps p.tables e below (s₁.setTop (entryFrame m #[.ref d, .int (Int32.ofNat B.slots.size)] 2)) (s₁.setTop (mkF m 0 #[.val (.ref d), .val (.int (Int32.ofNat B.slots.size))] [])) := entry rfl
  have c2 : Steps p.tables e below (s₁.setTop (entryFrame m #[.ref d, .int (Int32.ofNat B.slots.size)] 2)) (s₁.setTop (mkF m 2 #[.val (.ref d), .val (.int (Int32.ofNat B.slots.size))] [.ref d, .int (Int32.ofNat B.slots.size)])) := c1.trans (by
    refine XS.iloadN X0.here hexec rfl (hb hbytes d0) rfl ?_
    refine XS.aloadN X0.here hexec rfl (hb hbytes d1) rfl rfl ?_
    exact Steps.refl _)
  have c3 : Steps p.tables e below (s₁.setTop (entryFrame m #[.ref d, .int (Int32.ofNat B.slots.size)] 2)) (s₁.setTop (mkF m 8 #[.val (.ref d), .val (.int (Int32.ofNat B.slots.size))] [.int (lo8 (ushr (Int32.ofNat B.slots.size - Int32.ofNat B.slots.size) 31))])) := c2.trans (by
    refine X0.alen hexec hB0 rfl rfl (hb hbytes d2) ?_
    refine XS.isub X0.here hexec rfl (hb hbytes d3) rfl ?_
    refine bipushV X0.here hexec rfl 31 (hb hbytes d4) (by decide) ?_
    refine iushr X0.here hexec rfl (hb hbytes d6) rfl ?_
    refine i2b X0.here hexec rfl (hb hbytes d7) rfl ?_
    exact Steps.refl _)
  have e0 : lo8 (ushr (Int32.ofNat B.slots.size - Int32.ofNat B.slots.size) 31) = 0 := by rw [Int32.sub_self]; decide
  rw [e0] at c3
  exact ⟨s₁, some (.int 0), _, _, _, X0, rfl, rfl, rfl, (fun h => by cases h), ⟨rfl, hh0⟩, fun fs hl => c3.trans (X0.ireturnOut hexec hret rfl (Or.inr (Or.inr (Or.inl rfl))) (hb hbytes d8) hl)⟩
end CodL
/-- the String at a is Latin-1 over a new byte[] (the heap's one new cell): the low bytes of the len chars of A from o on; every cell but a is kept -/
def Got (a : Addr) (D : Cell) (fV fC : Field) (A : Cell) (o len : Nat) (r : Option Value) (s u : State) : Prop := r = none ∧ ∃ D' V : Cell, Blank "java/lang/String" a D' u ∧ Same D D' [fV.slot, fC.slot] ∧ D'.slots[fV.slot]? = some (.ref s.heap.size) ∧ D'.slots[fC.slot]? = some (.int 0) ∧ Arr .byte s.heap.size V u ∧ V.vm = .none ∧ u.vm.findClass "[B" = some V.cls ∧ V.slots.size = len ∧ (∀ j, j < len → V.slots[j]? = some (.int (lo8 (cv A (o + j))))) ∧ (∀ (y : Addr) (c : Cell), y ≠ a → s.heap[y]? = some c → u.heap[y]? = some c) ∧ u.heap.size = s.heap.size + 1
theorem Got.mv {a : Addr} {D A : Cell} {fV fC : Field} {o len : Nat} : ∀ r (U U' V V' : State), U'.heap = U.heap → V.vm.Alike V'.vm → V'.heap = V.heap → Got a D fV fC A o len r U V → Got a D fV fC A o len r U' V' :=
  fun r U U' V V' h1 hal h2 ⟨e0, D', X, a1, a2, a3, a4, a5, a6, a7, a8, a9, a10, a11⟩ => ⟨e0, D', X, a1.mv hal h2, a2, by rw [h1]; exact a3, a4, by rw [h1]; exact a5.mv hal h2, a6, by rw [hal.findClass]; exact a7, a8, a9, by rw [h1, h2]; exact a10, by rw [h1, h2]; exact a11⟩
namespace New4
def yN : MethodName := ⟨"java/lang/String", "<init>", "([CIILjava/lang/Void;)V"⟩
abbrev yB : ByteArray := jdk_42_method_149_code
theorem d0 : decode yB 0 = .ok (.aload_n 0, 1) := by decide +kernel
theorem d1 : decode yB 1 = .ok (.invokespecial 1, 3) := by decide +kernel
theorem d4 : decode yB 4 = .ok (.iload_n 3, 1) := by decide +kernel
theorem d5 : decode yB 5 = .ok (.ifCond (.ne) 22, 3) := by decide +kernel
theorem d27 : decode yB 27 = .ok (.getstatic 38, 3) := by decide +kernel
theorem d30 : decode yB 30 = .ok (.ifCond (.eq) 28, 3) := by decide +kernel
theorem d33 : decode yB 33 = .ok (.aload_n 1, 1) := by decide +kernel
theorem d34 : decode yB 34 = .ok (.iload_n 2, 1) := by decide +kernel
theorem d35 : decode yB 35 = .ok (.iload_n 3, 1) := by decide +kernel
theorem d36 : decode yB 36 = .ok (.invokestatic 177, 3) := by decide +kernel
theorem d39 : decode yB 39 = .ok (.astore 5, 2) := by decide +kernel
theorem d41 : decode yB 41 = .ok (.aload_n 0, 1) := by decide +kernel
theorem d42 : decode yB 42 = .ok (.aload 5, 2) := by decide +kernel
theorem d44 : decode yB 44 = .ok (.iload_n 3, 1) := by decide +kernel
theorem d45 : decode yB 45 = .ok (.invokestatic 47, 3) := by decide +kernel
theorem d48 : decode yB 48 = .ok (.putfield 15, 3) := by decide +kernel
theorem d51 : decode yB 51 = .ok (.aload_n 0, 1) := by decide +kernel
theorem d52 : decode yB 52 = .ok (.aload 5, 2) := by decide +kernel
theorem d54 : decode yB 54 = .ok (.putfield 9, 3) := by decide +kernel
theorem d57 : decode yB 57 = .ok (.return_, 1) := by decide +kernel
def site : List Cond := [.fieldLink "java/lang/String" 38 "java/lang/String" "COMPACT_STRINGS" "Z", Cmp3.tab, CodL.tab, .laysFinal "java/lang/String" "java/lang/String" "value" "[B", .fieldLink "java/lang/String" 9 "java/lang/String" "value" "[B", .laysFinal "java/lang/String" "java/lang/String" "coder" "B", .fieldLink "java/lang/String" 15 "java/lang/String" "coder" "B"] ++ objW "java/lang/String" 1 ++ staticW "java/lang/String" 177 Cmp3.yN ++ staticW "java/lang/String" 47 CodL.yN
def tab : Cond := tabOf yN yB 6 none site
def P (a : Addr) (D : Cell) (fV fC : Field) (b : Addr) (A : Cell) (z : Int32) (o len : Nat) (args : Array Value) (s : State) : Prop := args = #[.ref a, .ref b, .int (Int32.ofNat o), .int (Int32.ofNat len), .null] ∧ Blank "java/lang/String" a D s ∧ Found "java/lang/String" "value" "[B" fV s ∧ Found "java/lang/String" "coder" "B" fC s ∧ Ch b A s ∧ StaticIs s "java/lang/String" "COMPACT_STRINGS" "Z" (.int z) ∧ ¬ z = 0 ∧ 0 < len ∧ o + len ≤ A.slots.size ∧ len ≤ 536870912 ∧ ∀ i, i < len → ¬ 255 < cv A (o + i)
def E (a : Addr) (D : Cell) (fV fC : Field) (A : Cell) (o len : Nat) (r : Option Value) (s u : State) : Prop := Got a D fV fC A o len r s u
/-- len > 0, no char of the range above 255: a Latin-1 String of their low bytes -/
theorem law (l : Launch) (a : Addr) (D : Cell) (fV fC : Field) (b : Addr) (A : Cell) (z : Int32) (o len : Nat) : Law l yN 5 4 2 35 yB 6 none site (P a D fV fC b A z o len) (E a D fV fC A o len) [⟨a, fC.slot⟩, ⟨a, fV.slot⟩] 1 len := by
  refine Law.of_walk (plainFor_of_name (by decide +kernel)) (by decide +kernel) (by decide +kernel) (by decide) (fun _ _ h => by rw [h.1]; rfl) (fun _ U U' hal hh h => ⟨h.1, h.2.1.mv hal hh, h.2.2.1.al hal, h.2.2.2.1.al hal, h.2.2.2.2.1.mv hal hh, h.2.2.2.2.2.1.there hal hh, h.2.2.2.2.2.2⟩) (fun r U U' V V' h1 hal h2 h => Got.mv r U U' V V' h1 hal h2 h) ?_
  intro p e s m args below meth c s₁ X0 hexec hbytes hml hret hlk hnm hown hh0 W hP
  obtain ⟨rfl, hB, f1, f2, hA, s1, hz, l0, l1, l2, hp⟩ := hP
  have a31 := hA.1.2.2.2
  have c1 : Steps p.tables e below (s₁.setTop (entryFrame m #[.ref a, .ref b, .int (Int32.ofNat o), .int (Int32.ofNat len), .null] 6)) (s₁.setTop (mkF m 0 #[.val (.ref a), .val (.ref b), .val (.int (Int32.ofNat o)), .val (.int (Int32.ofNat len)), .val .null, .unset] [])) := entry rfl
  have c2 : Steps p.tables e below (s₁.setTop (entryFrame m #[.ref a, .ref b, .int (Int32.ofNat o), .int (Int32.ofNat len), .null] 6)) (s₁.setTop (mkF m 1 #[.val (.ref a), .val (.ref b), .val (.int (Int32.ofNat o)), .val (.int (Int32.ofNat len)), .val .null, .unset] [.ref a])) := c1.trans (by
    refine XS.aloadN X0.here hexec rfl (hb hbytes d0) rfl rfl ?_
    exact Steps.refl _)
  obtain ⟨T3, X3, q3, st3⟩ := X0.oinit hexec hown (wks W (objW "java/lang/String" 1)) (g := (mkF m 1 #[.val (.ref a), .val (.ref b), .val (.int (Int32.ofNat o)), .val (.int (Int32.ofNat len)), .val .null, .unset] [.ref a])) rfl (by rw [hml]; rfl) (rest := []) rfl (hb hbytes d1) (W := 0) (by show 2 * 0 + 0 ≤ _; decide) (Nat.le_of_ble_eq_true rfl) (Nat.le_of_ble_eq_true rfl)
  have hh3 := q3.trans hh0
  have c4 : Steps p.tables e below (s₁.setTop (entryFrame m #[.ref a, .ref b, .int (Int32.ofNat o), .int (Int32.ofNat len), .null] 6)) (T3.setTop (mkF m 27 #[.val (.ref a), .val (.ref b), .val (.int (Int32.ofNat o)), .val (.int (Int32.ofNat len)), .val .null, .unset] [])) := (c2.trans (st3 _ (Steps.refl _))).trans (by
    refine XS.iloadN X3.here hexec rfl (hb hbytes d4) rfl ?_
    refine XS.ifYes X3.here hexec rfl (pc0 := 5) rfl (hb hbytes d5) rfl (i0_ne_t (nz32 (by omega) l0)) (by decide) rfl ?_
    exact Steps.refl _)
  obtain ⟨T5, X5, q5, st5⟩ := X3.sget hexec hown (wk W (.fieldLink "java/lang/String" 38 "java/lang/String" "COMPACT_STRINGS" "Z")) s1 (fun _ _ h => by rw [hh3]; exact h) (g := (mkF m 27 #[.val (.ref a), .val (.ref b), .val (.int (Int32.ofNat o)), .val (.int (Int32.ofNat len)), .val .null, .unset] [])) rfl (hb hbytes d27)
  have hh5 := q5.trans hh3
  have c6 : Steps p.tables e below (s₁.setTop (entryFrame m #[.ref a, .ref b, .int (Int32.ofNat o), .int (Int32.ofNat len), .null] 6)) (T5.setTop (mkF m 30 #[.val (.ref a), .val (.ref b), .val (.int (Int32.ofNat o)), .val (.int (Int32.ofNat len)), .val .null, .unset] [.int z])) := c4.trans (st5 _ (Steps.refl _))
  have c7 : Steps p.tables e below (s₁.setTop (entryFrame m #[.ref a, .ref b, .int (Int32.ofNat o), .int (Int32.ofNat len), .null] 6)) (T5.setTop (mkF m 36 #[.val (.ref a), .val (.ref b), .val (.int (Int32.ofNat o)), .val (.int (Int32.ofNat len)), .val .null, .unset] [.int (Int32.ofNat len), .int (Int32.ofNat o), .ref b])) := c6.trans (by
    refine XS.ifNo X5.here hexec rfl (hb hbytes d30) rfl (i0_eq_f hz) ?_
    refine XS.aloadN X5.here hexec rfl (hb hbytes d33) rfl rfl ?_
    refine XS.iloadN X5.here hexec rfl (hb hbytes d34) rfl ?_
    refine XS.iloadN X5.here hexec rfl (hb hbytes d35) rfl ?_
    exact Steps.refl _)
  obtain ⟨v8, T8, X8, E8, g8⟩ := X5.callS hexec (Cmp3.law l b A o len) hown (wks W (staticW "java/lang/String" 177 Cmp3.yN)) (wk W Cmp3.tab) (W := 0) (Nat.le_of_ble_eq_true rfl) (Nat.le_of_ble_eq_true rfl) (Nat.le_refl _) (by show 0 + len ≤ len; omega) (g := (mkF m 36 #[.val (.ref a), .val (.ref b), .val (.int (Int32.ofNat o)), .val (.int (Int32.ofNat len)), .val .null, .unset] [.int (Int32.ofNat len), .int (Int32.ofNat o), .ref b])) rfl (by rw [hml]; rfl) c7 (argsL := [.ref b, .int (Int32.ofNat o), .int (Int32.ofNat len)]) (rest := []) rfl rfl (by show 2 * 0 + 0 ≤ _; decide) (hb hbytes d36) (⟨rfl, hA.mv X5.warmed.alike hh5, l1, l2, hp⟩)
  obtain ⟨e8, z8⟩ := E8
  obtain ⟨rfl, N, n1, n2, n3, n4, n5, n6⟩ := NewArr.mv _ T5 s _ _ hh5.symm (Vm.Alike.refl _) rfl e8
  rw [hh5] at z8
  have hB1 := hB.keep X8.warmed.alike (n6 _ _ hB.1)
  have hne : s.heap.size ≠ a := (Nat.ne_of_lt (Array.getElem?_eq_some_iff.mp hB.1).1).symm
  have c9 : Steps p.tables e below (s₁.setTop (entryFrame m #[.ref a, .ref b, .int (Int32.ofNat o), .int (Int32.ofNat len), .null] 6)) (T8.setTop (mkF m 39 #[.val (.ref a), .val (.ref b), .val (.int (Int32.ofNat o)), .val (.int (Int32.ofNat len)), .val .null, .unset] [.ref s.heap.size])) := g8
  have c10 : Steps p.tables e below (s₁.setTop (entryFrame m #[.ref a, .ref b, .int (Int32.ofNat o), .int (Int32.ofNat len), .null] 6)) (T8.setTop (mkF m 45 #[.val (.ref a), .val (.ref b), .val (.int (Int32.ofNat o)), .val (.int (Int32.ofNat len)), .val .null, .val (.ref s.heap.size)] [.int (Int32.ofNat N.slots.size), .ref s.heap.size, .ref a])) := by
    have hc : Steps p.tables e below (s₁.setTop (entryFrame m #[.ref a, .ref b, .int (Int32.ofNat o), .int (Int32.ofNat len), .null] 6)) (T8.setTop (mkF m 45 #[.val (.ref a), .val (.ref b), .val (.int (Int32.ofNat o)), .val (.int (Int32.ofNat len)), .val .null, .val (.ref s.heap.size)] [.int (Int32.ofNat len), .ref s.heap.size, .ref a])) := c9.trans (by
      refine XS.astore X8.here hexec rfl (hb hbytes d39) rfl rfl rfl ?_
      refine XS.aloadN X8.here hexec rfl (hb hbytes d41) rfl rfl ?_
      refine XS.aload X8.here hexec rfl (hb hbytes d42) rfl rfl ?_
      refine XS.iloadN X8.here hexec rfl (hb hbytes d44) rfl ?_
      exact Steps.refl _)
    rw [n4]; exact hc
  obtain ⟨v11, T11, X11, E11, g11⟩ := X8.callS hexec (CodL.law l s.heap.size N) hown (wks W (staticW "java/lang/String" 47 CodL.yN)) (wk W CodL.tab) (W := 1) (Nat.le_of_ble_eq_true rfl) (Nat.le_of_ble_eq_true rfl) (Nat.le_refl _) (by show 0 + len + 0 ≤ len; omega) (g := (mkF m 45 #[.val (.ref a), .val (.ref b), .val (.int (Int32.ofNat o)), .val (.int (Int32.ofNat len)), .val .null, .val (.ref s.heap.size)] [.int (Int32.ofNat N.slots.size), .ref s.heap.size, .ref a])) rfl (by rw [hml]; rfl) c10 (argsL := [.ref s.heap.size, .int (Int32.ofNat N.slots.size)]) (rest := [.ref a]) rfl rfl (by show 2 * 0 + (1 + 0) ≤ _; decide) (hb hbytes d45) (⟨rfl, n1⟩)
  obtain ⟨rfl, q11⟩ := E11
  have hB11 := hB1.mv (X8.warmed.alike.symm.trans X11.warmed.alike) q11
  have c12 : Steps p.tables e below (s₁.setTop (entryFrame m #[.ref a, .ref b, .int (Int32.ofNat o), .int (Int32.ofNat len), .null] 6)) (T11.setTop (mkF m 48 #[.val (.ref a), .val (.ref b), .val (.int (Int32.ofNat o)), .val (.int (Int32.ofNat len)), .val .null, .val (.ref s.heap.size)] [.int 0, .ref a])) := g11
  obtain ⟨T13, X13, p13, bl13, sl13, st13⟩ := X11.finit hexec hown (wk W (.fieldLink "java/lang/String" 15 "java/lang/String" "coder" "B")) (Or.inr ⟨_, (wk W (.laysFinal "java/lang/String" "java/lang/String" "coder" "B"))⟩) (Or.inl ⟨rfl, hnm⟩) f2 (Or.inl rfl) hB11 (t := .byte) (by decide +kernel) rfl (g := (mkF m 48 #[.val (.ref a), .val (.ref b), .val (.int (Int32.ofNat o)), .val (.int (Int32.ofNat len)), .val .null, .val (.ref s.heap.size)] [.int 0, .ref a])) rfl (rest := []) rfl (hb hbytes d48)
  have c14 : Steps p.tables e below (s₁.setTop (entryFrame m #[.ref a, .ref b, .int (Int32.ofNat o), .int (Int32.ofNat len), .null] 6)) (T13.setTop (mkF m 54 #[.val (.ref a), .val (.ref b), .val (.int (Int32.ofNat o)), .val (.int (Int32.ofNat len)), .val .null, .val (.ref s.heap.size)] [.ref s.heap.size, .ref a])) := (c12.trans (st13 _ (Steps.refl _))).trans (by
    refine XS.aloadN X13.here hexec rfl (hb hbytes d51) rfl rfl ?_
    refine XS.aload X13.here hexec rfl (hb hbytes d52) rfl rfl ?_
    exact Steps.refl _)
  obtain ⟨T15, X15, p15, bl15, sl15, st15⟩ := X13.finit hexec hown (wk W (.fieldLink "java/lang/String" 9 "java/lang/String" "value" "[B")) (Or.inr ⟨_, (wk W (.laysFinal "java/lang/String" "java/lang/String" "value" "[B"))⟩) (Or.inl ⟨rfl, hnm⟩) f1 (Or.inl rfl) bl13 (t := (.array .byte)) (by decide +kernel) rfl (g := (mkF m 54 #[.val (.ref a), .val (.ref b), .val (.int (Int32.ofNat o)), .val (.int (Int32.ofNat len)), .val .null, .val (.ref s.heap.size)] [.ref s.heap.size, .ref a])) rfl (rest := []) rfl (hb hbytes d54)
  have c16 : Steps p.tables e below (s₁.setTop (entryFrame m #[.ref a, .ref b, .int (Int32.ofNat o), .int (Int32.ofNat len), .null] 6)) (T15.setTop (mkF m 57 #[.val (.ref a), .val (.ref b), .val (.int (Int32.ofNat o)), .val (.int (Int32.ofNat len)), .val .null, .val (.ref s.heap.size)] [])) := c14.trans (st15 _ (Steps.refl _))
  have ap := apart (Or.inr ⟨_, (wk W (.laysFinal "java/lang/String" "java/lang/String" "value" "[B"))⟩) (Or.inr ⟨_, (wk W (.laysFinal "java/lang/String" "java/lang/String" "coder" "B"))⟩) f1 f2 (t₁ := .array .byte) (t₂ := .byte) (by decide +kernel) (by decide +kernel) (by decide)
  have al := X8.warmed.alike.symm.trans X15.warmed.alike
  have n7 : T11.heap[s.heap.size]? = some N := by rw [q11]; exact n1.1
  exact ⟨T15, none, _, _, _, X15, by simp, rfl, by omega, (fun _ => rfl), ⟨rfl, _, N, bl15, ((Same.refl D _).set _ (by simp)).set _ (by simp), sl15, (Cell.slots_setSlot_ne _ ap).trans sl13, n1.keep al (p15.other hne (p13.other hne n7)), n2, by rw [al.findClass]; exact n3, n4, n5, fun y c h1 h2 => p15.other h1 (p13.other h1 (by rw [q11]; exact n6 y c h2)), by rw [p15.2.2, p13.2.2, q11]; exact z8⟩, fun fs hl => c16.trans (X15.returnOut hexec hret (hb hbytes d57) hl)⟩
end New4
namespace New1
def yN : MethodName := ⟨"java/lang/String", "<init>", "([C)V"⟩
abbrev yB : ByteArray := jdk_42_method_3_code
theorem d0 : decode yB 0 = .ok (.aload_n 0, 1) := by decide +kernel
theorem d1 : decode yB 1 = .ok (.aload_n 1, 1) := by decide +kernel
theorem d2 : decode yB 2 = .ok (.iconst 0, 1) := by decide +kernel
theorem d3 : decode yB 3 = .ok (.aload_n 1, 1) := by decide +kernel
theorem d4 : decode yB 4 = .ok (.arraylength, 1) := by decide +kernel
theorem d5 : decode yB 5 = .ok (.aconst_null, 1) := by decide +kernel
theorem d6 : decode yB 6 = .ok (.invokespecial 27, 3) := by decide +kernel
theorem d9 : decode yB 9 = .ok (.return_, 1) := by decide +kernel
def site : List Cond := [New4.tab] ++ initW "java/lang/String" 27 New4.yN
def tab : Cond := tabOf yN yB 2 none site
def P (a : Addr) (D : Cell) (fV fC : Field) (b : Addr) (A : Cell) (z : Int32) (args : Array Value) (s : State) : Prop := args = #[.ref a, .ref b] ∧ Blank "java/lang/String" a D s ∧ Found "java/lang/String" "value" "[B" fV s ∧ Found "java/lang/String" "coder" "B" fC s ∧ Ch b A s ∧ StaticIs s "java/lang/String" "COMPACT_STRINGS" "Z" (.int z) ∧ ¬ z = 0 ∧ 0 < A.slots.size ∧ A.slots.size ≤ 536870912 ∧ ∀ i, i < A.slots.size → ¬ 255 < cv A i
def E (a : Addr) (D : Cell) (fV fC : Field) (A : Cell) (r : Option Value) (s u : State) : Prop := Got a D fV fC A 0 A.slots.size r s u
/-- new String(chars), not empty, no char above 255: a Latin-1 String of their low bytes -/
theorem law (l : Launch) (a : Addr) (D : Cell) (fV fC : Field) (b : Addr) (A : Cell) (z : Int32) : Law l yN 2 1 3 52 yB 2 none site (P a D fV fC b A z) (E a D fV fC A) [⟨a, fC.slot⟩, ⟨a, fV.slot⟩] 1 A.slots.size := by
  refine Law.of_walk (plainFor_of_name (by decide +kernel)) (by decide +kernel) (by decide +kernel) (by decide) (fun _ _ h => by rw [h.1]; rfl) (fun _ U U' hal hh h => ⟨h.1, h.2.1.mv hal hh, h.2.2.1.al hal, h.2.2.2.1.al hal, h.2.2.2.2.1.mv hal hh, h.2.2.2.2.2.1.there hal hh, h.2.2.2.2.2.2⟩) (fun r U U' V V' h1 hal h2 h => Got.mv r U U' V V' h1 hal h2 h) ?_
  intro p e s m args below meth c s₁ X0 hexec hbytes hml hret hlk hnm hown hh0 W hP
  obtain ⟨rfl, hB, f1, f2, hA, s1, hz, l0, l2, hp⟩ := hP
  have c1 : Steps p.tables e below (s₁.setTop (entryFrame m #[.ref a, .ref b] 2)) (s₁.setTop (mkF m 0 #[.val (.ref a), .val (.ref b)] [])) := entry rfl
  have c2 : Steps p.tables e below (s₁.setTop (entryFrame m #[.ref a, .ref b] 2)) (s₁.setTop (mkF m 6 #[.val (.ref a), .val (.ref b)] [.null, .int (Int32.ofNat A.slots.size), .int 0, .ref b, .ref a])) := c1.trans (by
    refine XS.aloadN X0.here hexec rfl (hb hbytes d0) rfl rfl ?_
    refine XS.aloadN X0.here hexec rfl (hb hbytes d1) rfl rfl ?_
    refine iconstV X0.here hexec rfl 0 (hb hbytes d2) (by decide) ?_
    refine XS.aloadN X0.here hexec rfl (hb hbytes d3) rfl rfl ?_
    refine X0.alen hexec (hA.1.mv X0.warmed.alike hh0) rfl rfl (hb hbytes d4) ?_
    refine XS.aconstNull X0.here hexec rfl (hb hbytes d5) ?_
    exact Steps.refl _)
  obtain ⟨v3, T3, X3, E3, g3⟩ := X0.callN hexec (New4.law l a D fV fC b A z 0 A.slots.size) rfl hown (wks W (initW "java/lang/String" 27 New4.yN)) (W New4.tab (by simp only [site, List.mem_cons, List.mem_append, true_or, or_true])) (W := 0) (Nat.le_of_ble_eq_true rfl) (Nat.le_of_ble_eq_true rfl) (Nat.le_refl _) (by show 0 + A.slots.size ≤ A.slots.size; omega) (g := (mkF m 6 #[.val (.ref a), .val (.ref b)] [.null, .int (Int32.ofNat A.slots.size), .int (Int32.ofNat 0), .ref b, .ref a])) rfl (by rw [hml]; rfl) c2 (argsL := [.ref b, .int (Int32.ofNat 0), .int (Int32.ofNat A.slots.size), .null]) (rest := []) rfl rfl (by show 2 * 0 + 0 ≤ _; decide) (hb hbytes d6) (⟨rfl, hB.mv X0.warmed.alike hh0, f1.al X0.warmed.alike, f2.al X0.warmed.alike, hA.mv X0.warmed.alike hh0, s1.there X0.warmed.alike hh0, hz, l0, by omega, l2, fun i hi => by rw [Nat.zero_add]; exact hp i hi⟩)
  have e0 := Got.mv _ s₁ s _ _ hh0.symm (Vm.Alike.refl _) rfl E3
  obtain rfl := e0.1
  have c4 : Steps p.tables e below (s₁.setTop (entryFrame m #[.ref a, .ref b] 2)) (T3.setTop (mkF m 9 #[.val (.ref a), .val (.ref b)] [])) := g3
  exact ⟨T3, none, _, _, _, X3, by simp, rfl, by omega, (fun _ => rfl), e0, fun fs hl => c4.trans (X3.returnOut hexec hret (hb hbytes d9) hl)⟩
theorem pays {l : Launch} {R : Room} {p : Program} {e : Env} {below : List Frame} {s : State} {sargs : Array Value} {len W : Nat} (a : Addr) (D : Cell) (fV fC : Field) (b : Addr) (A : Cell) (z : Int32) (htab : tab.before sargs s = true) (hfr : 4 ≤ R.frames) (hlo : W + 65 ≤ R.locals) :
    Back l R p e below s sargs yN len W (fun A₁ a₁ => A₁.cells + 1 ≤ R.cells ∧ A₁.slots + A.slots.size ≤ R.slots ∧ P a D fV fC b A z a₁ A₁.U) (fun A₁ _ v₁ B₁ => E a D fV fC A v₁ A₁.U B₁.U ∧ B₁.locs = A₁.locs ++ [⟨a, fC.slot⟩, ⟨a, fV.slot⟩] ∧ B₁.cells = A₁.cells + 1 ∧ B₁.slots = A₁.slots + A.slots.size) :=
  (law l a D fV fC b A z).pays htab hfr (by omega)
end New1
/-- the byte, read back as charAt reads it, is the char -/
theorem lo8_mask {x : Int32} (h0 : ¬ x < 0) (h1 : ¬ 255 < x) : lo8 x &&& 255 = x := by
  have t : ∀ k : Fin 256, lo8 (Int32.ofNat k.val) &&& 255 = Int32.ofNat k.val := by decide +kernel
  rw [Int32.lt_iff_toInt_lt] at h0 h1
  have e0 : (0 : Int32).toInt = 0 := rfl
  have e1 : (255 : Int32).toInt = 255 := rfl
  obtain ⟨k, hk⟩ : ∃ k : Nat, x.toInt = k := ⟨x.toInt.toNat, by omega⟩
  have hx : x = Int32.ofNat k := Int32.toInt_inj.mp (by rw [hk, Int32.toInt_ofNat_small (by omega)])
  rw [hx]
  exact t ⟨k, by omega⟩
end StrChars
namespace StrChars.Road
open Jvm Sem ClassFile Op Lib Jvm.Stand Jvm.Free Jvm.Free.XT
open Jvm.Lib.Cold (StaticIs)
abbrev ST : String := "java/lang/String"
/-- every table word that New1's law asks, flat -/
abbrev words : List Jvm.Cond := [.code New1.yN New1.yB 2 none, .initialized ST, .methodLink ST 27 New4.yN, .instanceMethod New4.yN,
  .code New4.yN New4.yB 6 none, .fieldLink ST 38 ST "COMPACT_STRINGS" "Z", .laysFinal ST ST "value" "[B", .fieldLink ST 9 ST "value" "[B", .laysFinal ST ST "coder" "B", .fieldLink ST 15 ST "coder" "B",
  .methodLink ST 1 Lib.objectInit, .instanceMethod Lib.objectInit, .code Lib.objectInit ⟨#[0xb1]⟩ 1 none, .methodLink ST 177 Cmp3.yN, .static Cmp3.yN, .methodLink ST 47 CodL.yN, .static CodL.yN,
  .code Cmp3.yN Cmp3.yB 6 (some (.array .byte)), .initialized U16, .arrayClass .byte, .methodLink U16 115 Cmp5.yN, .static Cmp5.yN, .code Cmp5.yN Cmp5.yB 7 (some .int), .code CodL.yN CodL.yB 2 (some .byte)]
theorem tab_of {a : Array Value} {s : State} (h : ∀ w ∈ words, w.before a s = true) : New1.tab.before a s = true := by
  have h5 : Cmp5.tab.before a s = true := unparts (wk h (.code Cmp5.yN Cmp5.yB 7 (some .int))) (wks h (.initialized Cmp5.yN.cls :: Cmp5.site))
  have hc : CodL.tab.before a s = true := unparts (wk h (.code CodL.yN CodL.yB 2 (some .byte))) (wks h (.initialized CodL.yN.cls :: CodL.site))
  have q5 : ∀ w ∈ Cmp5.tab :: words, w.before a s = true := fun w hw => (List.mem_cons.mp hw).elim (fun e => e ▸ h5) (h w)
  have h3 : Cmp3.tab.before a s = true := unparts (wk q5 (.code Cmp3.yN Cmp3.yB 6 (some (.array .byte)))) (wks q5 (.initialized Cmp3.yN.cls :: Cmp3.site))
  have q3 : ∀ w ∈ Cmp3.tab :: CodL.tab :: words, w.before a s = true := fun w hw => (List.mem_cons.mp hw).elim (fun e => e ▸ h3) fun hw => (List.mem_cons.mp hw).elim (fun e => e ▸ hc) (h w)
  have h4 : New4.tab.before a s = true := unparts (wk q3 (.code New4.yN New4.yB 6 none)) (wks q3 (.initialized New4.yN.cls :: New4.site))
  have q4 : ∀ w ∈ New4.tab :: words, w.before a s = true := fun w hw => (List.mem_cons.mp hw).elim (fun e => e ▸ h4) (h w)
  exact unparts (wk q4 (.code New1.yN New1.yB 2 none)) (wks q4 (.initialized New1.yN.cls :: New1.site))
/-- the words ride from the start Z to the walk's own state -/
theorem moved {Z s : State} {a0 args : Array Value} (hZ : Z.Warmed39 s.vm) (hw : ∀ d ∈ words, d.before a0 Z = true) : ∀ d ∈ words, d.before args s = true := fun d hd => by
  have q := hw d hd
  have t : ∀ d ∈ words, d = .arrayClass .byte ∨ (d.onTables && d.keepsFace) = true := by decide +kernel
  rcases t d hd with rfl | t
  · exact RoadKit.mvA hZ q
  · exact RoadKit.mv hZ q t
/-- WHAT COMES BACK, over the tables of the start Z: h the heap at the call, h' behind it -/
def Q (Z : State) (x : Addr) (A : Cell) (h : Heap) (v : Option Value) (h' : Heap) (L : List Loc) : Prop := v = none ∧ (∀ y ∈ L, y.base = x) ∧ RoadKit.Keep h h' [x] ∧ h'.size = h.size + 1 ∧ RoadKit.Exa Z h' x ST ∧ RoadKit.Fld Z h' x ST "value" "[B" (.ref h.size) ∧ RoadKit.Fld Z h' x ST "coder" "B" (.int 0) ∧
  (∃ V : Cell, RoadKit.Arr Z h' h.size V .byte ∧ V.vm = .none ∧ Z.vm.findClass "[B" = some V.cls ∧ V.slots.size = A.slots.size ∧ ∀ j, j < A.slots.size → V.slots[j]? = some (.int (lo8 (cv A j)))) ∧
  ∀ (O n d : String) (w : Value), RoadKit.Fld Z h x O n d w → RoadKit.slotOf Z O n d ≠ RoadKit.slotOf Z ST "value" "[B" → RoadKit.slotOf Z O n d ≠ RoadKit.slotOf Z ST "coder" "B" → RoadKit.Fld Z h' x O n d w
/-- **new String(chars) AT A CALL, IN THE ROAD'S FORM**: for specialBack behind newO: x the fresh String, b the char[] with the cell A -/
theorem back {p : Program} {l : Launch} {e : Env} {R : Room} {s : State} {args : Array Value} {below : List Frame} {len W : Nat} {Z : State} {a0 : Array Value} {h : Heap} (hZ : Z.Warmed39 s.vm) (hw : ∀ d ∈ words, d.before a0 Z = true) {kI : Nat} (wi : (Jvm.Cond.instantiable ST kI).before a0 Z = true)
    {x b : Addr} {A : Cell} {z : Int32} {v0 c0 : Value} (E : RoadKit.Exa Z h x ST) (V : RoadKit.Fld Z h x ST "value" "[B" v0) (C : RoadKit.Fld Z h x ST "coder" "B" c0) (K : RoadKit.Arr Z h b A .char) (hty : Typed .char A) (S : RoadKit.Sta Z h ST "COMPACT_STRINGS" "Z" (.int z)) (hz : ¬ z = 0)
    (l0 : 0 < A.slots.size) (l2 : A.slots.size ≤ 536870912) (hp : ∀ i, i < A.slots.size → ¬ 255 < cv A i) (hfr : 4 ≤ R.frames) (hlo : W + 65 ≤ R.locals) :
    Back l R p e below s args New1.yN len W (fun P a => a = #[.ref x, .ref b] ∧ P.U.heap = h ∧ P.cells + 1 ≤ R.cells ∧ P.slots + A.slots.size ≤ R.slots)
      (fun P _ v B => ∃ L, Q Z x A h v B.U.heap L ∧ B.locs = P.locs ++ L ∧ B.cells = P.cells + 1 ∧ B.slots = P.slots + A.slots.size) := by
  intro m meth c P g ig mk a X hg hsize hdg hW hn hp'
  obtain ⟨rfl, rfl, r1, r2⟩ := hp'
  have al : Z.vm.Alike P.U.vm := hZ.alike.trans X.warmed.alike
  obtain ⟨D, cfV, kV, iV, fV, hD, gV, stV, knV, obV, asV, slV⟩ := id V
  obtain ⟨D', cfC, kC, iC, fC, hD', gC, stC, -, -, asC, slC⟩ := id C
  cases hD.symm.trans hD'
  obtain ⟨D2, kD, e1, e2, e3, e4, e5⟩ := id E
  cases hD.symm.trans e1
  obtain ⟨c2, k2, i1, i2, i3, -⟩ := Cond.instantiable_spec wi
  cases e2.symm.trans i1
  cases e3.symm.trans i2
  obtain ⟨kU, u1, u2⟩ := al.2.2 _ _ e3
  have hB : Blank ST x D P.U := ⟨hD, ⟨knV, fun q hq => by rw [hq] at obV; cases obV⟩, by rw [al.findClass]; exact e2, kU, u1, by rw [u2]; exact i3, by rw [u2]; exact e5 i3⟩
  have F1 : Found ST "value" "[B" fV P.U := ⟨SBG.found_only al ⟨cfV, kV, iV, gV⟩, stV⟩
  have F2 : Found ST "coder" "B" fC P.U := ⟨SBG.found_only al ⟨cfC, kC, iC, gC⟩, stC⟩
  have hA : Ch b A P.U := ⟨⟨K.1, State.isArrayOf_alike al K.2.1, K.2.2, by omega⟩, hty⟩
  have hS : StaticIs P.U ST "COMPACT_STRINGS" "Z" (.int z) := by
    obtain ⟨cfS, iS, kS, fS, st, cS, t1, t2, t3, t4, t5, t6, t7⟩ := S
    exact StaticIs.there (s := { Z with heap := P.U.heap }) ⟨cfS, iS, kS, fS, st, cS, t1, t2, t3, t4, t5, (fun q => by rw [q] at t6; cases t6), t7⟩ al rfl
  obtain ⟨v, B, X', ⟨⟨hv, E', V', q1, q2, q3, q4, q5, q6, q7, q8, q9, q10, q11⟩, hl, hc, hs⟩, st⟩ := New1.pays x D fV fC b A z (tab_of (moved hZ hw)) hfr hlo m meth c P g ig mk _ X hg hsize hdg hW hn ⟨r1, r2, rfl, hB, F1, F2, hA, hS, hz, l0, l2, hp⟩
  have al' : Z.vm.Alike B.U.vm := hZ.alike.trans X'.warmed.alike
  have hsz : E'.slots.size = D.slots.size := by
    obtain ⟨-, -, -, kB, w1, w2, w3⟩ := q1
    obtain ⟨kB', y1, y2⟩ := al'.2.2 _ _ e3
    rw [q2.2.1] at w1
    cases w1.symm.trans y1
    rw [w3, e5 i3, y2]
  refine ⟨v, B, X', ⟨_, ⟨hv, ?_, ⟨by omega, fun y cy hy hn' => q10 y cy (by simpa using hn') hy, fun y cy hy => ?_⟩, q11, ⟨E', _, q1.1, by rw [q2.2.1]; exact e2, by rw [q2.2.1]; exact e3, by rw [q2.1]; exact obV, fun _ => by rw [hsz]; exact e5 i3⟩,
    ⟨E', cfV, kV, iV, fV, q1.1, gV, stV, by rw [q2.1]; exact knV, by rw [q2.1]; exact obV, by rw [q2.2.1]; exact asV, q3⟩, ⟨E', cfC, kC, iC, fC, q1.1, gC, stC, by rw [q2.1]; exact knV, by rw [q2.1]; exact obV, by rw [q2.2.1]; exact asC, q4⟩,
    ⟨V', ⟨q5.1, State.isArrayOf_alike al'.symm q5.2.1, q5.2.2.1⟩, q6, by rw [← al'.findClass]; exact q7, q8, fun j hj => by have := q9 j hj; rwa [Nat.zero_add] at this⟩, fun O n d w F n1 n2 => ?_⟩, hl, hc, hs⟩, st⟩
  · intro y hy
    simp only [List.mem_cons, List.not_mem_nil, or_false] at hy
    rcases hy with rfl | rfl <;> rfl
  · by_cases q : y = x
    · subst q
      cases hD.symm.trans hy
      exact ⟨E', q1.1, q2.2.1, q2.1, hsz⟩
    · exact ⟨cy, q10 y cy q hy, rfl, rfl, rfl⟩
  · obtain ⟨D3, cf, k, i, f, g1, g2, g3, g4, g5, g6, g7⟩ := F
    cases hD.symm.trans g1
    simp only [RoadKit.slotOf, g2, gV, gC, Option.map_some, Option.getD_some] at n1 n2
    exact ⟨E', cf, k, i, f, q1.1, g2, g3, by rw [q2.1]; exact g4, by rw [q2.1]; exact g5, by rw [q2.2.1]; exact g6, by rw [q2.2.2 f.slot (by simp [n1, n2])]; exact g7⟩
end StrChars.Road
namespace StrChars.Road
open Jvm Sem ClassFile Op Lib Jvm.Stand Jvm.Free Jvm.Free.XT
/-- WHAT COMES BACK, the byte[] as a list of values -/
def QA (Z : State) (x : Addr) (zn : Int32) (cs : List Int32) (h : Heap) (v : Option Value) (h' : Heap) (L : List Loc) : Prop := v = none ∧ (∀ y ∈ L, y.base = x) ∧ RoadKit.Keep h h' [x] ∧ h'.size = h.size + 1 ∧ RoadKit.Exa Z h' x ST ∧ RoadKit.Fld Z h' x ST "value" "[B" (.ref h.size) ∧ RoadKit.Fld Z h' x ST "coder" "B" (.int 0) ∧
  (∃ kb, Z.vm.findClass "[B" = some kb ∧ RoadKit.Arv Z h' h.size kb .byte zn (cs.map fun c => .int (lo8 c)) (.int 0)) ∧
  ∀ (O n d : String) (w : Value), RoadKit.Fld Z h x O n d w → RoadKit.slotOf Z O n d ≠ RoadKit.slotOf Z ST "value" "[B" → RoadKit.slotOf Z O n d ≠ RoadKit.slotOf Z ST "coder" "B" → RoadKit.Fld Z h' x O n d w
/-- **new String(chars) AT A CALL, THE ARRAYS AS LISTS**: the char[] at b holds cs, not empty, no char above 255 -/
theorem backArv {p : Program} {l : Launch} {e : Env} {R : Room} {s : State} {args : Array Value} {below : List Frame} {len W : Nat} {Z : State} {a0 : Array Value} {h : Heap} (hZ : Z.Warmed39 s.vm) (hw : ∀ d ∈ words, d.before a0 Z = true) {kI : Nat} (wi : (Jvm.Cond.instantiable ST kI).before a0 Z = true)
    {x b : Addr} {k : ClassId} {zn z : Int32} {cs : List Int32} {dv v0 c0 : Value} (E : RoadKit.Exa Z h x ST) (V : RoadKit.Fld Z h x ST "value" "[B" v0) (C : RoadKit.Fld Z h x ST "coder" "B" c0) (K : RoadKit.Arv Z h b k .char zn (cs.map Value.int) dv) (S : RoadKit.Sta Z h ST "COMPACT_STRINGS" "Z" (.int z)) (hz : ¬ z = 0)
    (hlen : zn.toNatClampNeg = cs.length) (h0 : 0 < cs.length) (hbig : cs.length ≤ 536870912) (hall : ∀ c ∈ cs, ¬ 255 < c) (hfr : 4 ≤ R.frames) (hlo : W + 65 ≤ R.locals) :
    Back l R p e below s args New1.yN len W (fun P a => a = #[.ref x, .ref b] ∧ P.U.heap = h ∧ P.cells + 1 ≤ R.cells ∧ P.slots + cs.length ≤ R.slots)
      (fun P _ v B => ∃ L, QA Z x zn cs h v B.U.heap L ∧ B.locs = P.locs ++ L ∧ B.cells = P.cells + 1 ∧ B.slots = P.slots + cs.length) := by
  obtain ⟨A, K1, K2, K3, K4, K5, K6⟩ := K
  have e : A.slots.size = cs.length := K3.trans hlen
  have hat : ∀ (i : Nat) (hi : i < cs.length), A.slots[i]? = some (.int cs[i]) := fun i hi => by rw [K5 i (by omega)]; simp [List.getD_eq_getElem?_getD, hi]
  have hcv : ∀ (i : Nat) (hi : i < cs.length), cv A i = cs[i] := fun i hi => by unfold cv; rw [hat i hi]
  have hty : Typed .char A := fun i v hv => by
    have hi : i < A.slots.size := (Array.getElem?_eq_some_iff.mp hv).1
    have q := K5 i hi
    rw [hv] at q
    rw [Option.some.inj q]
    exact K6 i hi
  refine Back.mono (back hZ hw wi E V C K1 hty S hz (by omega) (by omega) (fun i hi => by rw [hcv i (by omega)]; exact hall _ (List.getElem_mem _)) hfr hlo) (fun P a hp => ⟨hp.1, hp.2.1, hp.2.2.1, by rw [e]; exact hp.2.2.2⟩) (fun P a v B hp hq => ?_)
  obtain ⟨L, ⟨q1, q2, q3, q4, q5, q6, q7, ⟨V', v1, v2, v3, v4, v5⟩, q9⟩, hl, hc, hs⟩ := hq
  refine ⟨L, ⟨q1, q2, q3, q4, q5, q6, q7, ⟨V'.cls, v3, V', v1, rfl, by rw [v4, e, hlen], K4, fun i hi => ?_, fun i hi => ?_⟩, q9⟩, hl, hc, by rw [hs, e]⟩
  · have hi' : i < cs.length := by omega
    rw [v5 i (by omega), hcv i hi']; simp [List.getD_eq_getElem?_getD, hi']
  · have hi' : i < cs.length := by omega
    simp only [List.getD_eq_getElem?_getD, List.getElem?_map, List.getElem?_eq_getElem hi', Option.map_some, Option.getD_some]
    exact fits_lo8 _
end StrChars.Road
namespace StrChars.Road
open Jvm Sem ClassFile Op Lib Jvm.Stand Jvm.Free Jvm.Free.XT
/-- WHAT COMES BACK, in the writer's own shape -/
def QV (Z : State) (x : Addr) (N : Int32) (bs : List Int32) (h : Heap) (n0 : Nat) (v : Option Value) (h' : Heap) (L : List Loc) : Prop := v = none ∧ RoadKit.Fr n0 L ∧ RoadKit.Keep h h' [x] ∧ RoadKit.Exa Z h' x ST ∧ RoadKit.Fld Z h' x ST "coder" "B" (.int 0) ∧
  ∃ (t : Addr) (kb : ClassId), n0 ≤ t ∧ h.size ≤ t ∧ ¬ t = x ∧ RoadKit.Fld Z h' x ST "value" "[B" (.ref t) ∧ RoadKit.Arv Z h' t kb .byte N (bs.map Value.int) (.int 0)
/-- **new String(chars) AT A CALL, FOR THE WRITER**: a char[] of n known ints, each 0 to 255 -/
theorem backV {p : Program} {l : Launch} {e : Env} {R : Room} {s : State} {args : Array Value} {below : List Frame} {len W : Nat} {Z : State} {a0 : Array Value} {h : Heap} (hZ : Z.Warmed39 s.vm) (hw : ∀ d ∈ words, d.before a0 Z = true) {kI : Nat} (wi : (Jvm.Cond.instantiable ST kI).before a0 Z = true)
    {x b : Addr} {kC : ClassId} {cs bs : List Int32} {d v0 c0 : Value} {z N : Int32} {n n0 : Nat} (hx0 : n0 ≤ x) (hh0 : n0 ≤ h.size) (E : RoadKit.Exa Z h x ST) (V : RoadKit.Fld Z h x ST "value" "[B" v0) (C : RoadKit.Fld Z h x ST "coder" "B" c0) (K : RoadKit.Arv Z h b kC .char N (cs.map Value.int) d) (S : RoadKit.Sta Z h ST "COMPACT_STRINGS" "Z" (.int z)) (hz : ¬ z = 0)
    (hn : cs.length = n) (hN : N = Int32.ofNat n) (l0 : 0 < n) (l2 : n ≤ 4000) (hp : ∀ c ∈ cs, ¬ c < 0 ∧ ¬ (255 : Int32) < c) (hb : bs = cs.map (fun c => c.toInt8.toInt32)) (hfr : 4 ≤ R.frames) (hlo : W + 65 ≤ R.locals) :
    Back l R p e below s args (⟨"java/lang/String", "<init>", "([C)V"⟩ : MethodName) len W (fun P a => a = #[.ref x, .ref b] ∧ P.U.heap = h ∧ P.cells + 1 ≤ R.cells ∧ P.slots + n ≤ R.slots)
      (fun P _ v B => ∃ L, QV Z x N bs h n0 v B.U.heap L ∧ B.locs = P.locs ++ L ∧ B.cells = P.cells + 1 ∧ B.slots = P.slots + n) := by
  subst hn hN hb
  refine Back.mono (backArv hZ hw wi E V C K S hz (n32 (by omega)) l0 (by omega) (fun c hc => (hp c hc).2) hfr hlo) (fun P a hp => hp) (fun P a v B hp hq => ?_)
  obtain ⟨L, ⟨q1, q2, q3, q4, q5, q6, q7, ⟨kb, v1, v2⟩, q9⟩, hl, hc, hs⟩ := hq
  exact ⟨L, ⟨q1, fun y hy => by rw [q2 y hy]; exact hx0, q3, q5, q7, h.size, kb, hh0, Nat.le_refl _, Nat.ne_of_gt E.lt, q6, by rw [List.map_map]; exact v2⟩, hl, hc, hs⟩
end StrChars.Road
namespace StrChars
open Jvm Sem ClassFile Op Lib Jvm.Stand Jvm.Free.XT Jvm.Free.ALB Jvm.Free.JM Jvm.Free
open Jvm.Lib.Cold (StaticIs)
def hi8 (x : Int32) : Int32 := lo8 (x >>> ((8 : Int32) &&& 31))
/-- what StringUTF16.getChar makes of two bytes -/
def pairCh (u v : Int32) : Int32 := (((u &&& 255) <<< ((0 : Int32) &&& 31)) ||| ((v &&& 255) <<< ((8 : Int32) &&& 31))).toUInt32.toUInt16.toUInt32.toInt32
theorem lo8_and (x : Int32) : (lo8 x &&& 255).toBitVec.toNat = x.toBitVec.toNat % 256 := by
  have h : (lo8 x).toBitVec = (x.toBitVec.signExtend 8).signExtend 32 := by rw [lo8, Int8.toBitVec_toInt32, Int32.toBitVec_toInt8]
  rw [Int32.toBitVec_and, BitVec.toNat_and, h]
  have e : ((x.toBitVec.signExtend 8).signExtend 32).toNat % 256 = x.toBitVec.toNat % 256 := by
    rw [BitVec.toNat_signExtend]
    have hlt := x.toBitVec.isLt
    simp only [BitVec.toNat_setWidth, BitVec.toNat_signExtend]
    split <;> split <;> omega
  rw [← e]
  exact Nat.and_two_pow_sub_one_eq_mod _ 8
theorem pair_says {c : Int32} (h0 : ¬ c < 0) (h1 : ¬ 65535 < c) : pairCh (lo8 c) (hi8 c) = c := by
  rw [Int32.lt_iff_toInt_lt] at h0 h1
  have e0 : (0 : Int32).toInt = 0 := rfl
  have e1 : (65535 : Int32).toInt = 65535 := rfl
  have hc : c.toInt = c.toBitVec.toNat := by
    have := c.toBitVec.isLt
    have e : c.toInt = c.toBitVec.toInt := rfl
    rw [e] at h0 h1
    rw [e]
    rw [BitVec.toInt_eq_toNat_cond] at h0 h1 ⊢
    split at h0 <;> split <;> omega
  have hn : c.toBitVec.toNat < 65536 := by omega
  have a1 := lo8_and c
  have a2 : (hi8 c &&& 255).toBitVec.toNat = c.toBitVec.toNat / 256 := by
    rw [hi8, lo8_and]
    have e : ((8 : Int32) &&& 31) = 8 := by decide
    rw [e, Int32.toBitVec_shiftRight]
    have e2 : ((8 : Int32).toBitVec.smod 32) = 8#32 := by decide
    rw [e2, BitVec.sshiftRight_eq', BitVec.toNat_sshiftRight_of_msb_false (by rw [BitVec.msb_eq_false_iff_two_mul_lt]; omega)]
    show c.toBitVec.toNat >>> 8 % 256 = _
    rw [Nat.shiftRight_eq_div_pow]
    omega
  unfold pairCh
  apply Int32.toBitVec_inj.mp
  apply BitVec.eq_of_toNat_eq
  have f0 : ((0 : Int32) &&& 31) = 0 := by decide
  have f8 : ((8 : Int32) &&& 31) = 8 := by decide
  rw [f0, f8]
  have g : (((lo8 c &&& 255) <<< (0 : Int32)) ||| ((hi8 c &&& 255) <<< (8 : Int32))).toBitVec.toNat = c.toBitVec.toNat := by
    rw [Int32.toBitVec_or, Int32.toBitVec_shiftLeft, Int32.toBitVec_shiftLeft]
    have s0 : ((0 : Int32).toBitVec.smod 32) = 0#32 := by decide
    have s8 : ((8 : Int32).toBitVec.smod 32) = 8#32 := by decide
    rw [s0, s8, BitVec.toNat_or]
    simp only [BitVec.shiftLeft_eq', BitVec.toNat_shiftLeft, a1, a2]
    show (c.toBitVec.toNat % 256) <<< 0 % 2 ^ 32 ||| (c.toBitVec.toNat / 256) <<< 8 % 2 ^ 32 = _
    rw [Nat.shiftLeft_zero, Nat.mod_eq_of_lt (show c.toBitVec.toNat % 256 < 2 ^ 32 by omega), Nat.mod_eq_of_lt (show (c.toBitVec.toNat / 256) <<< 8 < 2 ^ 32 by rw [Nat.shiftLeft_eq]; omega), Nat.or_comm, ← Nat.shiftLeft_add_eq_or_of_lt (by omega), Nat.shiftLeft_eq]
    omega
  show BitVec.toNat (((((lo8 c &&& 255) <<< (0 : Int32)) ||| ((hi8 c &&& 255) <<< (8 : Int32))).toBitVec.setWidth 16).setWidth 32) = _
  rw [BitVec.toNat_setWidth, BitVec.toNat_setWidth, g]
  omega
end StrChars
namespace StrChars
open Jvm Sem ClassFile Op Lib Jvm.Stand Jvm.Free.XT Jvm.Free.ALB Jvm.Free.JM Jvm.Free
open Jvm.Lib.Cold (StaticIs)
/-- the array's cell V codes the n chars f 0 .. f (n - 1) by the coder cd, as the JDK does: coder 1 just where some char is above 255 -/
def Cod (cd : Int32) (n : Nat) (f : Nat → Int32) (V : Cell) : Prop := (cd = 0 ∧ V.slots.size = n ∧ ∀ j, j < n → V.slots[j]? = some (.int (lo8 (f j))) ∧ ¬ 255 < f j) ∨ (cd = 1 ∧ V.slots.size = 2 * n ∧ (∀ j, j < n → V.slots[2 * j]? = some (.int (lo8 (f j))) ∧ V.slots[2 * j + 1]? = some (.int (hi8 (f j)))) ∧ ∃ j, j < n ∧ 255 < f j)
/-- **x is a String of the n chars f 0 .. f (n - 1)**, Latin-1 or UTF-16; its array at t has the cell V -/
def Txt (x t : Addr) (V : Cell) (cd : Int32) (n : Nat) (f : Nat → Int32) (U : State) : Prop := Exact "java/lang/String" x U ∧ Has x "java/lang/String" "value" "[B" (.ref t) U ∧ Has x "java/lang/String" "coder" "B" (.int cd) U ∧ XT.Arr .byte t V U ∧ Cod cd n f V ∧ ∀ j, j < n → ¬ f j < 0 ∧ ¬ 65535 < f j
theorem Txt.mv {x t : Addr} {V : Cell} {cd : Int32} {n : Nat} {f : Nat → Int32} {U U' : State} (h : Txt x t V cd n f U) (hal : U.vm.Alike U'.vm) (hh : U'.heap = U.heap) : Txt x t V cd n f U' := ⟨h.1.mv hal hh, h.2.1.mv hal hh, h.2.2.1.mv hal hh, h.2.2.2.1.mv hal hh, h.2.2.2.2⟩
end StrChars
namespace StrChars.Road
open Jvm Sem ClassFile Op Lib Jvm.Stand Jvm.Free Jvm.Free.XT
open Jvm.Lib.Cold (StaticIs)
theorem consq {a : Array Value} {s : State} {c : Jvm.Cond} {L : List Jvm.Cond} (h0 : c.before a s = true) (h : ∀ w ∈ L, w.before a s = true) : ∀ w ∈ c :: L, w.before a s = true := fun w hw => (List.mem_cons.mp hw).elim (fun e => e ▸ h0) (h w)
/-- the bytes of the chars cs, low before high -/
def wideBytes : List Int32 → List Value
  | [] => []
  | c :: cs => .int (lo8 c) :: .int (hi8 c) :: wideBytes cs
theorem wide_lo (d : Value) : ∀ (cs : List Int32) (j : Nat), j < cs.length → (wideBytes cs).getD (2 * j) d = .int (lo8 (cs.getD j 0))
  | [], j, h => absurd h (Nat.not_lt_zero j)
  | c :: cs, 0, _ => rfl
  | c :: cs, j + 1, h => by
    have q := wide_lo d cs j (by simpa using h)
    rw [show 2 * (j + 1) = 2 * j + 1 + 1 from by omega]
    simpa [wideBytes] using q
theorem wide_hi (d : Value) : ∀ (cs : List Int32) (j : Nat), j < cs.length → (wideBytes cs).getD (2 * j + 1) d = .int (hi8 (cs.getD j 0))
  | [], j, h => absurd h (Nat.not_lt_zero j)
  | c :: cs, 0, _ => rfl
  | c :: cs, j + 1, h => by
    have q := wide_hi d cs j (by simpa using h)
    rw [show 2 * (j + 1) + 1 = 2 * j + 1 + 1 + 1 from by omega]
    simpa [wideBytes] using q
theorem low_at (d : Value) (cs : List Int32) (j : Nat) (h : j < cs.length) : (cs.map fun c => Value.int (lo8 c)).getD j d = .int (lo8 (cs.getD j 0)) := by
  simp [List.getD_eq_getElem?_getD, h]
/-- an array of N2 bytes vs codes the chars cs by the coder cd -/
def CodA (cs : List Int32) (cd N2 : Int32) (vs : List Value) : Prop := (cd = 0 ∧ N2 = Int32.ofNat cs.length ∧ vs = (cs.map fun c => Value.int (lo8 c)) ∧ ∀ c ∈ cs, ¬ 255 < c) ∨ (cd = 1 ∧ N2 = Int32.ofNat (2 * cs.length) ∧ vs = wideBytes cs ∧ ∃ c ∈ cs, 255 < c)
theorem CodA.cod {cs : List Int32} {cd N2 : Int32} {vs : List Value} {V : Cell} (h : CodA cs cd N2 vs) (hn : 2 * cs.length < 2 ^ 31) (hs : V.slots.size = N2.toNatClampNeg) (hv : RoadKit.Has V vs (.int 0)) : Cod cd cs.length (fun j => cs.getD j 0) V := by
  rcases h with ⟨rfl, rfl, rfl, h⟩ | ⟨rfl, rfl, rfl, c, hc, hw⟩
  · rw [n32 (by omega)] at hs
    exact Or.inl ⟨rfl, hs, fun j hj => ⟨by rw [hv j (by omega), low_at _ _ _ hj], by
      have e : cs.getD j 0 = cs[j] := by simp [List.getD_eq_getElem?_getD, hj]
      show ¬ 255 < cs.getD j 0
      rw [e]; exact h _ (List.getElem_mem _)⟩⟩
  · rw [n32 (by omega)] at hs
    obtain ⟨j, hj, rfl⟩ := List.getElem_of_mem hc
    exact Or.inr ⟨rfl, hs, fun j hj => ⟨by rw [hv _ (by omega), wide_lo _ _ _ hj], by rw [hv _ (by omega), wide_hi _ _ _ hj]⟩, j, hj, by
      have e : cs.getD j 0 = cs[j] := by simp [List.getD_eq_getElem?_getD, hj]
      show 255 < cs.getD j 0
      rw [e]; exact hw⟩
/-- an object of exactly java/lang/String, its two fields found: as the laws ask it -/
theorem strObj {Z U : State} {a0 : Array Value} {kI : Nat} (wi : (Jvm.Cond.instantiable ST kI).before a0 Z = true) (al : Z.vm.Alike U.vm) {x : Addr} {v0 c0 : Value} (E : RoadKit.Exa Z U.heap x ST) (V : RoadKit.Fld Z U.heap x ST "value" "[B" v0) (C : RoadKit.Fld Z U.heap x ST "coder" "B" c0) :
    ∃ (D : Cell) (fV fC : Field), Blank ST x D U ∧ Found ST "value" "[B" fV U ∧ Found ST "coder" "B" fC U ∧ D.slots[fV.slot]? = some v0 ∧ D.slots[fC.slot]? = some c0 ∧ RoadKit.slotOf Z ST "value" "[B" = fV.slot ∧ RoadKit.slotOf Z ST "coder" "B" = fC.slot := by
  obtain ⟨D, cfV, kV, iV, fV, hD, gV, stV, knV, obV, asV, slV⟩ := V
  obtain ⟨D', cfC, kC, iC, fC, hD', gC, stC, -, -, asC, slC⟩ := C
  cases hD.symm.trans hD'
  obtain ⟨D2, kD, e1, e2, e3, e4, e5⟩ := E
  cases hD.symm.trans e1
  obtain ⟨c2, k2, i1, i2, i3, -⟩ := Cond.instantiable_spec wi
  cases e2.symm.trans i1
  cases e3.symm.trans i2
  obtain ⟨kU, u1, u2⟩ := al.2.2 _ _ e3
  exact ⟨D, fV, fC, ⟨hD, ⟨knV, fun q hq => by rw [hq] at obV; cases obV⟩, by rw [al.findClass]; exact e2, kU, u1, by rw [u2]; exact i3, by rw [u2]; exact e5 i3⟩, ⟨SBG.found_only al ⟨cfV, kV, iV, gV⟩, stV⟩, ⟨SBG.found_only al ⟨cfC, kC, iC, gC⟩, stC⟩, slV, slC, by simp [RoadKit.slotOf, gV], by simp [RoadKit.slotOf, gC]⟩
theorem sta_is {Z U : State} (al : Z.vm.Alike U.vm) {C n d : String} {v : Value} (S : RoadKit.Sta Z U.heap C n d v) : StaticIs U C n d v := by
  obtain ⟨cfS, iS, kS, fS, st, cS, t1, t2, t3, t4, t5, t6, t7⟩ := S
  exact StaticIs.there (s := { Z with heap := U.heap }) ⟨cfS, iS, kS, fS, st, cS, t1, t2, t3, t4, t5, (fun q => by rw [q] at t6; cases t6), t7⟩ al rfl
end StrChars.Road
namespace StrChars
open Jvm Sem ClassFile Op Lib Jvm.Stand Jvm.Free.XT Jvm.Free.ALB Jvm.Free.JM Jvm.Free
open Jvm.Lib.Cold (StaticIs)
/-- what place i of a byte[]'s cell holds -/
def yv (A : Cell) (i : Nat) : Int32 := match A.slots[i]? with | some (.int x) => x | _ => 0
theorem yv_get {a : Addr} {A : Cell} {U : State} (h : XT.Arr .byte a A U) (ht : Typed .byte A) {i : Nat} (hi : i < A.slots.size) : A.slots[i]? = some (.int (yv A i)) := by
  have e := Array.getElem?_eq_getElem hi
  have f := ht i _ e
  unfold yv; rw [e]
  generalize A.slots[i] = v at f
  cases v <;> simp [fits] at f ⊢
/-- the two arrays are equal, place for place -/
def EqC (A B : Cell) : Prop := A.slots.size = B.slots.size ∧ ∀ i, i < A.slots.size → yv A i = yv B i
/-- a boolean that says whether p -/
def Says01 (q : Prop) (r : Option Value) (s u : State) : Prop := ∃ v : Int32, r = some (.int v) ∧ u.heap = s.heap ∧ ((v = 1 ∧ q) ∨ (v = 0 ∧ ¬ q))
theorem Says01.mv {q : Prop} : ∀ r (U U' V V' : State), U'.heap = U.heap → V.vm.Alike V'.vm → V'.heap = V.heap → Says01 q r U V → Says01 q r U' V' :=
  fun r U U' V V' h1 _ h2 ⟨v, a, b, c⟩ => ⟨v, a, by rw [h1, h2]; exact b, c⟩
namespace LEq
def yN : MethodName := ⟨"java/lang/StringLatin1", "equals", "([B[B)Z"⟩
abbrev yB : ByteArray := jdk_43_method_13_code
theorem d0 : decode yB 0 = .ok (.aload_n 0, 1) := by decide +kernel
theorem d1 : decode yB 1 = .ok (.arraylength, 1) := by decide +kernel
theorem d2 : decode yB 2 = .ok (.aload_n 1, 1) := by decide +kernel
theorem d3 : decode yB 3 = .ok (.arraylength, 1) := by decide +kernel
theorem d4 : decode yB 4 = .ok (.if_icmp (.ne) 30, 3) := by decide +kernel
theorem d7 : decode yB 7 = .ok (.iconst 0, 1) := by decide +kernel
theorem d8 : decode yB 8 = .ok (.istore_n 2, 1) := by decide +kernel
theorem d9 : decode yB 9 = .ok (.iload_n 2, 1) := by decide +kernel
theorem d10 : decode yB 10 = .ok (.aload_n 0, 1) := by decide +kernel
theorem d11 : decode yB 11 = .ok (.arraylength, 1) := by decide +kernel
theorem d12 : decode yB 12 = .ok (.if_icmp (.ge) 20, 3) := by decide +kernel
theorem d15 : decode yB 15 = .ok (.aload_n 0, 1) := by decide +kernel
theorem d16 : decode yB 16 = .ok (.iload_n 2, 1) := by decide +kernel
theorem d17 : decode yB 17 = .ok (.baload, 1) := by decide +kernel
theorem d18 : decode yB 18 = .ok (.aload_n 1, 1) := by decide +kernel
theorem d19 : decode yB 19 = .ok (.iload_n 2, 1) := by decide +kernel
theorem d20 : decode yB 20 = .ok (.baload, 1) := by decide +kernel
theorem d21 : decode yB 21 = .ok (.if_icmp (.eq) 5, 3) := by decide +kernel
theorem d24 : decode yB 24 = .ok (.iconst 0, 1) := by decide +kernel
theorem d25 : decode yB 25 = .ok (.ireturn, 1) := by decide +kernel
theorem d26 : decode yB 26 = .ok (.iinc 2 1, 3) := by decide +kernel
theorem d29 : decode yB 29 = .ok (.goto (-20), 3) := by decide +kernel
theorem d32 : decode yB 32 = .ok (.iconst 1, 1) := by decide +kernel
theorem d33 : decode yB 33 = .ok (.ireturn, 1) := by decide +kernel
theorem d34 : decode yB 34 = .ok (.iconst 0, 1) := by decide +kernel
theorem d35 : decode yB 35 = .ok (.ireturn, 1) := by decide +kernel
def site : List Cond := []
def tab : Cond := tabOf yN yB 3 (some .boolean) site
def P (a : Addr) (A : Cell) (b : Addr) (B : Cell) (args : Array Value) (s : State) : Prop := args = #[.ref a, .ref b] ∧ XT.Arr .byte a A s ∧ Typed .byte A ∧ XT.Arr .byte b B s ∧ Typed .byte B
/-- whether two byte[] are equal, place for place -/
theorem law (l : Launch) (a : Addr) (A : Cell) (b : Addr) (B : Cell) : Law l yN 2 2 0 0 yB 3 (some .boolean) site (P a A b B) (Says01 (EqC A B)) [] 0 0 := by
  refine Law.of_walk (plainFor_of_name (by decide +kernel)) (by decide +kernel) (by decide +kernel) (by decide) (fun _ _ h => by rw [h.1]; rfl) (fun _ U U' hal hh h => ⟨h.1, h.2.1.mv hal hh, h.2.2.1, h.2.2.2.1.mv hal hh, h.2.2.2.2⟩) (fun r U U' V V' h1 hal h2 h => Says01.mv r U U' V V' h1 hal h2 h) ?_
  intro p e s m args below meth c s₁ X0 hexec hbytes hml hret hlk hnm hown hh0 W hP
  obtain ⟨rfl, hA, tA, hB, tB⟩ := hP
  have a31 := hA.2.2.2
  have b31 := hB.2.2.2
  have hA0 := hA.mv X0.warmed.alike hh0
  have hB0 := hB.mv X0.warmed.alike hh0
  have c1 : Steps p.tables e below (s₁.setTop (entryFrame m #[.ref a, .ref b] 3)) (s₁.setTop (mkF m 0 #[.val (.ref a), .val (.ref b), .unset] [])) := entry rfl
  have c2 : Steps p.tables e below (s₁.setTop (entryFrame m #[.ref a, .ref b] 3)) (s₁.setTop (mkF m 4 #[.val (.ref a), .val (.ref b), .unset] [.int (Int32.ofNat B.slots.size), .int (Int32.ofNat A.slots.size)])) := c1.trans (by
    refine XS.aloadN X0.here hexec rfl (hb hbytes d0) rfl rfl ?_
    refine X0.alen hexec hA0 rfl rfl (hb hbytes d1) ?_
    refine XS.aloadN X0.here hexec rfl (hb hbytes d2) rfl rfl ?_
    refine X0.alen hexec hB0 rfl rfl (hb hbytes d3) ?_
    exact Steps.refl _)
  by_cases hs : A.slots.size = B.slots.size
  · have c3 : Steps p.tables e below (s₁.setTop (entryFrame m #[.ref a, .ref b] 3)) (s₁.setTop (mkF m 9 #[.val (.ref a), .val (.ref b), .val (.int 0)] [])) := c2.trans (by
      refine XS.icmpNo X0.here hexec rfl (hb hbytes d4) rfl (ii_ne_f (by rw [hs])) ?_
      refine iconstV X0.here hexec rfl 0 (hb hbytes d7) (by decide) ?_
      refine XS.istoreN X0.here hexec rfl (hb hbytes d8) rfl rfl ?_
      exact Steps.refl _)
    have loop : ∀ (r i : Nat), i + r = A.slots.size → (∀ j, j < i → yv A j = yv B j) → Steps p.tables e below (s₁.setTop (entryFrame m #[.ref a, .ref b] 3)) (s₁.setTop (mkF m 9 #[.val (.ref a), .val (.ref b), .val (.int (Int32.ofNat i))] [])) → ∃ (pc : Nat) (Ls : Array Slot) (v : Int32), (pc = 25 ∨ pc = 33) ∧ ((v = 1 ∧ EqC A B) ∨ (v = 0 ∧ ¬ EqC A B)) ∧ Steps p.tables e below (s₁.setTop (entryFrame m #[.ref a, .ref b] 3)) (s₁.setTop (mkF m pc Ls [.int v])) := by
      intro r
      induction r with
      | zero =>
        intro i hi he cl
        exact ⟨33, _, 1, Or.inr rfl, Or.inl ⟨rfl, hs, fun j hj => he j (by omega)⟩, cl.trans (by
          refine XS.iloadN X0.here hexec rfl (hb hbytes d9) rfl ?_
          refine XS.aloadN X0.here hexec rfl (hb hbytes d10) rfl rfl ?_
          refine X0.alen hexec hA0 rfl rfl (hb hbytes d11) ?_
          refine XS.icmpYes X0.here hexec rfl (pc0 := 12) rfl (hb hbytes d12) rfl (ii_ge_t (nlt32 (by omega) (by omega))) (by decide) rfl ?_
          refine iconstV X0.here hexec rfl 1 (hb hbytes d32) (by decide) ?_
          exact Steps.refl _)⟩
      | succ r ih =>
        intro i hi he cl
        have c4 : Steps p.tables e below (s₁.setTop (entryFrame m #[.ref a, .ref b] 3)) (s₁.setTop (mkF m 21 #[.val (.ref a), .val (.ref b), .val (.int (Int32.ofNat i))] [.int (yv B i), .int (yv A i)])) := cl.trans (by
          refine XS.iloadN X0.here hexec rfl (hb hbytes d9) rfl ?_
          refine XS.aloadN X0.here hexec rfl (hb hbytes d10) rfl rfl ?_
          refine X0.alen hexec hA0 rfl rfl (hb hbytes d11) ?_
          refine XS.icmpNo X0.here hexec rfl (hb hbytes d12) rfl (ii_ge_f (lt32 (by omega) (by omega))) ?_
          refine XS.aloadN X0.here hexec rfl (hb hbytes d15) rfl rfl ?_
          refine XS.iloadN X0.here hexec rfl (hb hbytes d16) rfl ?_
          refine X0.aget hexec hA0 rfl (yv_get hA tA (i := i) (by omega)) rfl rfl (hb hbytes d17) ?_
          refine XS.aloadN X0.here hexec rfl (hb hbytes d18) rfl rfl ?_
          refine XS.iloadN X0.here hexec rfl (hb hbytes d19) rfl ?_
          refine X0.aget hexec hB0 rfl (yv_get hB tB (i := i) (by omega)) rfl rfl (hb hbytes d20) ?_
          exact Steps.refl _)
        by_cases hv : yv A i = yv B i
        · have c5 : Steps p.tables e below (s₁.setTop (entryFrame m #[.ref a, .ref b] 3)) (s₁.setTop (mkF m 9 #[.val (.ref a), .val (.ref b), .val (.int (Int32.ofNat i + 1))] [])) := c4.trans (by
            refine XS.icmpYes X0.here hexec rfl (pc0 := 21) rfl (hb hbytes d21) rfl (ii_eq_t hv) (by decide) rfl ?_
            refine iincV X0.here hexec rfl 1 (hb hbytes d26) (by decide) rfl rfl ?_
            refine XS.goto X0.here hexec rfl (pc0 := 29) rfl (hb hbytes d29) (by decide) rfl ?_
            exact Steps.refl _)
          rw [succ32] at c5
          exact ih (i + 1) (by omega) (fun j hj => by
            by_cases e : j = i
            · rw [e]; exact hv
            · exact he j (by omega)) c5
        · exact ⟨25, _, 0, Or.inl rfl, Or.inr ⟨rfl, fun q => hv (q.2 i (by omega))⟩, c4.trans (by
            refine XS.icmpNo X0.here hexec rfl (hb hbytes d21) rfl (ii_eq_f hv) ?_
            refine iconstV X0.here hexec rfl 0 (hb hbytes d24) (by decide) ?_
            exact Steps.refl _)⟩
    obtain ⟨pc, Ls, v, hpc, hv, cz⟩ := loop A.slots.size 0 (by omega) (fun j hj => absurd hj (Nat.not_lt_zero j)) c3
    have nv : narrow .boolean (.int v) = .int v := by rcases hv with ⟨rfl, -⟩ | ⟨rfl, -⟩ <;> rfl
    rcases hpc with rfl | rfl
    · exact ⟨s₁, some (.int v), _, _, _, X0, rfl, rfl, rfl, (fun h => by cases h), ⟨v, rfl, hh0, hv⟩, fun fs hl => cz.trans (X0.ireturnOut hexec hret nv (Or.inr (Or.inl rfl)) (hb hbytes d25) hl)⟩
    · exact ⟨s₁, some (.int v), _, _, _, X0, rfl, rfl, rfl, (fun h => by cases h), ⟨v, rfl, hh0, hv⟩, fun fs hl => cz.trans (X0.ireturnOut hexec hret nv (Or.inr (Or.inl rfl)) (hb hbytes d33) hl)⟩
  · have c3 : Steps p.tables e below (s₁.setTop (entryFrame m #[.ref a, .ref b] 3)) (s₁.setTop (mkF m 35 #[.val (.ref a), .val (.ref b), .unset] [.int 0])) := c2.trans (by
      refine XS.icmpYes X0.here hexec rfl (pc0 := 4) rfl (hb hbytes d4) rfl (ii_ne_t (ne32 a31 b31 hs)) (by decide) rfl ?_
      refine iconstV X0.here hexec rfl 0 (hb hbytes d34) (by decide) ?_
      exact Steps.refl _)
    exact ⟨s₁, some (.int 0), _, _, _, X0, rfl, rfl, rfl, (fun h => by cases h), ⟨0, rfl, hh0, Or.inr ⟨rfl, fun q => hs q.1⟩⟩, fun fs hl => c3.trans (X0.ireturnOut hexec hret rfl (Or.inr (Or.inl rfl)) (hb hbytes d35) hl)⟩
end LEq
theorem Cod.ty {cd : Int32} {n : Nat} {f : Nat → Int32} {V : Cell} (h : Cod cd n f V) : Typed .byte V := fun i v hv => by
  have hi : i < V.slots.size := (Array.getElem?_eq_some_iff.mp hv).1
  rcases h with ⟨-, k1, k2⟩ | ⟨-, k1, k2, -⟩
  · rw [(k2 i (by omega)).1] at hv; cases hv; exact fits_lo8 _
  · rcases Nat.mod_two_eq_zero_or_one i with e | e
    · obtain ⟨j, rfl⟩ : ∃ j, i = 2 * j := ⟨i / 2, by omega⟩
      rw [(k2 j (by omega)).1] at hv; cases hv; exact fits_lo8 _
    · obtain ⟨j, rfl⟩ : ∃ j, i = 2 * j + 1 := ⟨i / 2, by omega⟩
      rw [(k2 j (by omega)).2] at hv; cases hv; exact fits_lo8 _
/-- the same text -/
def SameT (n : Nat) (f : Nat → Int32) (k : Nat) (g : Nat → Int32) : Prop := n = k ∧ ∀ j, j < n → f j = g j
theorem lo8_inj {x y : Int32} (h0 : ¬ x < 0) (h1 : ¬ 255 < x) (k0 : ¬ y < 0) (k1 : ¬ 255 < y) (h : lo8 x = lo8 y) : x = y := by
  rw [← lo8_mask h0 h1, ← lo8_mask k0 k1, h]
/-- arrays coded by one coder are equal just where the texts are -/
theorem Cod.eqv {cd : Int32} {n k : Nat} {f g : Nat → Int32} {V V' : Cell} (h : Cod cd n f V) (h' : Cod cd k g V') (hf : ∀ j, j < n → ¬ f j < 0 ∧ ¬ 65535 < f j) (hg : ∀ j, j < k → ¬ g j < 0 ∧ ¬ 65535 < g j) : EqC V V' ↔ SameT n f k g := by
  have yvv : ∀ {W : Cell} {i : Nat} {x : Int32}, W.slots[i]? = some (.int x) → yv W i = x := fun q => by unfold yv; rw [q]
  rcases h with ⟨rfl, k1, k2⟩ | ⟨rfl, k1, k2, -⟩
  · rcases h' with ⟨-, m1, m2⟩ | ⟨e, -⟩
    · constructor
      · rintro ⟨e1, e2⟩
        refine ⟨by omega, fun j hj => ?_⟩
        have q := e2 j (by omega)
        rw [yvv (k2 j hj).1, yvv (m2 j (by omega)).1] at q
        exact lo8_inj (hf j hj).1 (k2 j hj).2 (hg j (by omega)).1 (m2 j (by omega)).2 q
      · rintro ⟨rfl, e2⟩
        refine ⟨by omega, fun j hj => ?_⟩
        rw [yvv (k2 j (by omega)).1, yvv (m2 j (by omega)).1, e2 j (by omega)]
    · exact absurd e (by decide)
  · rcases h' with ⟨e, -⟩ | ⟨-, m1, m2, -⟩
    · exact absurd e (by decide)
    · constructor
      · rintro ⟨e1, e2⟩
        refine ⟨by omega, fun j hj => ?_⟩
        have q1 := e2 (2 * j) (by omega)
        have q2 := e2 (2 * j + 1) (by omega)
        rw [yvv (k2 j hj).1, yvv (m2 j (by omega)).1] at q1
        rw [yvv (k2 j hj).2, yvv (m2 j (by omega)).2] at q2
        rw [← pair_says (hf j hj).1 (hf j hj).2, ← pair_says (hg j (by omega)).1 (hg j (by omega)).2, q1, q2]
      · rintro ⟨rfl, e2⟩
        refine ⟨by omega, fun i hi => ?_⟩
        rcases Nat.mod_two_eq_zero_or_one i with e | e
        · obtain ⟨j, rfl⟩ : ∃ j, i = 2 * j := ⟨i / 2, by omega⟩
          rw [yvv (k2 j (by omega)).1, yvv (m2 j (by omega)).1, e2 j (by omega)]
        · obtain ⟨j, rfl⟩ : ∃ j, i = 2 * j + 1 := ⟨i / 2, by omega⟩
          rw [yvv (k2 j (by omega)).2, yvv (m2 j (by omega)).2, e2 j (by omega)]
/-- two codings differ: so do the texts -/
theorem Cod.dif {cd cd' : Int32} {n k : Nat} {f g : Nat → Int32} {V V' : Cell} (h : Cod cd n f V) (h' : Cod cd' k g V') (hne : ¬ cd = cd') : ¬ SameT n f k g := by
  rintro ⟨rfl, e⟩
  rcases h with ⟨rfl, -, k2⟩ | ⟨rfl, -, -, j, hj, hw⟩
  · rcases h' with ⟨rfl, -⟩ | ⟨-, -, -, j, hj, hw⟩
    · exact hne rfl
    · exact (k2 j hj).2 (by rw [e j hj]; exact hw)
  · rcases h' with ⟨-, -, m2⟩ | ⟨rfl, -⟩
    · exact (m2 j hj).2 (by rw [← e j hj]; exact hw)
    · exact hne rfl
/-- an object of exactly C is an instance of C -/
theorem cinst {p : Program} {l : Launch} {e : Env} {R : Room} {s : State} {m : MethodId} {args : Array Value} {below : List Frame} {meth : Method} {c : Code} {T : State} {locs : List Loc} {cells slots : Nat} (X : Stand p l e R s m args below meth c T locs cells slots) (hexec : p.tables.exec = Jvm.exec) {own C : String} {index : Nat} (hown : s.vm.findClass own = some m.cls) (hlink : (Cond.classLink own index C).before args s = true) {a : Addr} (hE : Exact C a T)
    {g : JFrame} (hg : g.method = m) {rest : List Value} (hstack : g.stack = .ref a :: rest) (hdg : decode c.code g.pc = .ok (.instanceof index, 3)) :
    ∃ T', Stand p l e R s m args below meth c T' locs cells slots ∧ T'.heap = T.heap ∧ ∀ target, Steps p.tables e below (T'.setTop { g with pc := g.pc + 3, stack := .int 1 :: rest }) target → Steps p.tables e below (T.setTop g) target := by
  obtain ⟨cB, h1, D, h2, h3, h4⟩ := hE
  have h1' : s.vm.findClass C = some cB := by rw [← X.warmed.alike.findClass]; exact h1
  obtain ⟨vm', X', st⟩ := X.instanceofYes hexec hown hlink h2 h4 h1' (by rw [h3]; exact Jvm.Free.SB.assignable_self _ _) hg hstack hdg
  exact ⟨_, X', rfl, st⟩
theorem cself {p : Program} {l : Launch} {e : Env} {R : Room} {s : State} {m : MethodId} {args : Array Value} {below : List Frame} {meth : Method} {c : Code} {T : State} {locs : List Loc} {cells slots : Nat} (X : Stand p l e R s m args below meth c T locs cells slots) (hexec : p.tables.exec = Jvm.exec) {own C : String} {index : Nat} (hown : s.vm.findClass own = some m.cls) (hlink : (Cond.classLink own index C).before args s = true) {a : Addr} (hE : Exact C a T)
    {g : JFrame} (hg : g.method = m) {rest : List Value} (hstack : g.stack = .ref a :: rest) (hdg : decode c.code g.pc = .ok (.checkcast index, 3)) :
    ∃ T', Stand p l e R s m args below meth c T' locs cells slots ∧ T'.heap = T.heap ∧ ∀ target, Steps p.tables e below (T'.setTop { g with pc := g.pc + 3, stack := .ref a :: rest }) target → Steps p.tables e below (T.setTop g) target := by
  obtain ⟨cB, h1, D, h2, h3, h4⟩ := hE
  have h1' : s.vm.findClass C = some cB := by rw [← X.warmed.alike.findClass]; exact h1
  obtain ⟨vm', X', st⟩ := X.checkcastYes hexec hown hlink h2 h4 h1' (by rw [h3]; exact Jvm.Free.SB.assignable_self _ _) hg hstack hdg
  exact ⟨_, X', rfl, fun t h => st t (by rw [← hstack] at h; exact h)⟩
namespace SEq
def yN : MethodName := ⟨"java/lang/String", "equals", "(Ljava/lang/Object;)Z"⟩
abbrev yB : ByteArray := jdk_42_method_66_code
theorem d0 : decode yB 0 = .ok (.aload_n 0, 1) := by decide +kernel
theorem d1 : decode yB 1 = .ok (.aload_n 1, 1) := by decide +kernel
theorem d2 : decode yB 2 = .ok (.if_acmp (.ne) 5, 3) := by decide +kernel
theorem d5 : decode yB 5 = .ok (.iconst 1, 1) := by decide +kernel
theorem d6 : decode yB 6 = .ok (.ireturn, 1) := by decide +kernel
theorem d7 : decode yB 7 = .ok (.aload_n 1, 1) := by decide +kernel
theorem d8 : decode yB 8 = .ok (.instanceof 10, 3) := by decide +kernel
theorem d11 : decode yB 11 = .ok (.ifCond (.eq) 43, 3) := by decide +kernel
theorem d14 : decode yB 14 = .ok (.aload_n 1, 1) := by decide +kernel
theorem d15 : decode yB 15 = .ok (.checkcast 10, 3) := by decide +kernel
theorem d18 : decode yB 18 = .ok (.astore_n 2, 1) := by decide +kernel
theorem d19 : decode yB 19 = .ok (.getstatic 38, 3) := by decide +kernel
theorem d22 : decode yB 22 = .ok (.ifCond (.eq) 14, 3) := by decide +kernel
theorem d25 : decode yB 25 = .ok (.aload_n 0, 1) := by decide +kernel
theorem d26 : decode yB 26 = .ok (.getfield 15, 3) := by decide +kernel
theorem d29 : decode yB 29 = .ok (.aload_n 2, 1) := by decide +kernel
theorem d30 : decode yB 30 = .ok (.getfield 15, 3) := by decide +kernel
theorem d33 : decode yB 33 = .ok (.if_icmp (.ne) 21, 3) := by decide +kernel
theorem d36 : decode yB 36 = .ok (.aload_n 0, 1) := by decide +kernel
theorem d37 : decode yB 37 = .ok (.getfield 9, 3) := by decide +kernel
theorem d40 : decode yB 40 = .ok (.aload_n 2, 1) := by decide +kernel
theorem d41 : decode yB 41 = .ok (.getfield 9, 3) := by decide +kernel
theorem d44 : decode yB 44 = .ok (.invokestatic 541, 3) := by decide +kernel
theorem d47 : decode yB 47 = .ok (.ifCond (.eq) 7, 3) := by decide +kernel
theorem d50 : decode yB 50 = .ok (.iconst 1, 1) := by decide +kernel
theorem d51 : decode yB 51 = .ok (.goto 4, 3) := by decide +kernel
theorem d54 : decode yB 54 = .ok (.iconst 0, 1) := by decide +kernel
theorem d55 : decode yB 55 = .ok (.ireturn, 1) := by decide +kernel
def site : List Cond := [.classLink "java/lang/String" 10 "java/lang/String", .fieldLink "java/lang/String" 38 "java/lang/String" "COMPACT_STRINGS" "Z", .fieldLink "java/lang/String" 15 "java/lang/String" "coder" "B", .fieldLink "java/lang/String" 9 "java/lang/String" "value" "[B", LEq.tab] ++ staticW "java/lang/String" 541 LEq.yN
def tab : Cond := tabOf yN yB 3 (some .boolean) site
def P (x t : Addr) (V : Cell) (cd : Int32) (n : Nat) (f : Nat → Int32) (y t' : Addr) (V' : Cell) (cd' : Int32) (k : Nat) (g : Nat → Int32) (z : Int32) (args : Array Value) (s : State) : Prop := args = #[.ref x, .ref y] ∧ Txt x t V cd n f s ∧ Txt y t' V' cd' k g s ∧ StaticIs s "java/lang/String" "COMPACT_STRINGS" "Z" (.int z) ∧ ¬ z = 0
/-- equals(Object) of two Strings: whether the texts are the same -/
theorem law (l : Launch) (x t : Addr) (V : Cell) (cd : Int32) (n : Nat) (f : Nat → Int32) (y t' : Addr) (V' : Cell) (cd' : Int32) (k : Nat) (g : Nat → Int32) (z : Int32) : Law l yN 2 1 1 14 yB 3 (some .boolean) site (P x t V cd n f y t' V' cd' k g z) (Says01 (SameT n f k g)) [] 0 0 := by
  refine Law.of_walk (plainFor_of_name (by decide +kernel)) (by decide +kernel) (by decide +kernel) (by decide) (fun _ _ h => by rw [h.1]; rfl) (fun _ U U' hal hh h => ⟨h.1, h.2.1.mv hal hh, h.2.2.1.mv hal hh, h.2.2.2.1.there hal hh, h.2.2.2.2⟩) (fun r U U' V V' h1 hal h2 h => Says01.mv r U U' V V' h1 hal h2 h) ?_
  intro p e s m args below meth c s₁ X0 hexec hbytes hml hret hlk hnm hown hh0 W hP
  obtain ⟨rfl, hx, hy, s1, hz⟩ := hP
  have c1 : Steps p.tables e below (s₁.setTop (entryFrame m #[.ref x, .ref y] 3)) (s₁.setTop (mkF m 2 #[.val (.ref x), .val (.ref y), .unset] [.ref y, .ref x])) := Steps.trans (entry rfl) (by
    show Steps p.tables e below (s₁.setTop (mkF m 0 #[.val (.ref x), .val (.ref y), .unset] [])) _
    refine XS.aloadN X0.here hexec rfl (hb hbytes d0) rfl rfl ?_
    refine XS.aloadN X0.here hexec rfl (hb hbytes d1) rfl rfl ?_
    exact Steps.refl _)
  by_cases hxy : x = y
  · have c2 : Steps p.tables e below (s₁.setTop (entryFrame m #[.ref x, .ref y] 3)) (s₁.setTop (mkF m 6 #[.val (.ref x), .val (.ref y), .unset] [.int 1])) := c1.trans (by
      refine acmpNo X0.here hexec rfl (hb hbytes d2) rfl rfl rfl (by simp [acmp, hxy]) ?_
      refine iconstV X0.here hexec rfl 1 (hb hbytes d5) (by decide) ?_
      exact Steps.refl _)
    subst hxy
    have ec : cd = cd' := by
      obtain ⟨D, fd, a1, a2, a3⟩ := hx.2.2.1
      obtain ⟨D', fd', b1, b2, b3⟩ := hy.2.2.1
      cases a1.symm.trans b1
      obtain ⟨q1, q2, q3, q4⟩ := a2.1
      obtain ⟨r1, r2, r3, r4⟩ := b2.1
      cases q4.symm.trans r4
      cases a3.symm.trans b3; rfl
    have et : t = t' := by
      obtain ⟨D, fd, a1, a2, a3⟩ := hx.2.1
      obtain ⟨D', fd', b1, b2, b3⟩ := hy.2.1
      cases a1.symm.trans b1
      obtain ⟨q1, q2, q3, q4⟩ := a2.1
      obtain ⟨r1, r2, r3, r4⟩ := b2.1
      cases q4.symm.trans r4
      cases a3.symm.trans b3; rfl
    subst ec et
    have ev : V = V' := by cases hx.2.2.2.1.1.symm.trans hy.2.2.2.1.1; rfl
    subst ev
    have hs : SameT n f k g := (Cod.eqv hx.2.2.2.2.1 hy.2.2.2.2.1 hx.2.2.2.2.2 hy.2.2.2.2.2).mp ⟨rfl, fun _ _ => rfl⟩
    exact ⟨s₁, some (.int 1), _, _, _, X0, rfl, rfl, rfl, (fun h => by cases h), ⟨1, rfl, hh0, Or.inl ⟨rfl, hs⟩⟩, fun fs hl => c2.trans (X0.ireturnOut hexec hret rfl (Or.inr (Or.inl rfl)) (hb hbytes d6) hl)⟩
  · have c2 : Steps p.tables e below (s₁.setTop (entryFrame m #[.ref x, .ref y] 3)) (s₁.setTop (mkF m 8 #[.val (.ref x), .val (.ref y), .unset] [.ref y])) := c1.trans (by
      refine acmpYes X0.here hexec rfl (pc0 := 2) rfl (hb hbytes d2) rfl rfl rfl (by simp [acmp, hxy]) (by decide) rfl ?_
      refine XS.aloadN X0.here hexec rfl (hb hbytes d7) rfl rfl ?_
      exact Steps.refl _)
    obtain ⟨T3, X3, q3, st3⟩ := cinst X0 hexec hown (wk W (.classLink "java/lang/String" 10 "java/lang/String")) (hy.mv X0.warmed.alike hh0).1 (g := (mkF m 8 #[.val (.ref x), .val (.ref y), .unset] [.ref y])) rfl (rest := []) rfl (hb hbytes d8)
    have hh3 := q3.trans hh0
    have c4 : Steps p.tables e below (s₁.setTop (entryFrame m #[.ref x, .ref y] 3)) (T3.setTop (mkF m 15 #[.val (.ref x), .val (.ref y), .unset] [.ref y])) := (c2.trans (st3 _ (Steps.refl _))).trans (by
      refine XS.ifNo X3.here hexec rfl (hb hbytes d11) rfl (i0_eq_f (by decide)) ?_
      refine XS.aloadN X3.here hexec rfl (hb hbytes d14) rfl rfl ?_
      exact Steps.refl _)
    obtain ⟨T5, X5, q5, st5⟩ := cself X3 hexec hown (wk W (.classLink "java/lang/String" 10 "java/lang/String")) (hy.mv X3.warmed.alike hh3).1 (g := (mkF m 15 #[.val (.ref x), .val (.ref y), .unset] [.ref y])) rfl (rest := []) rfl (hb hbytes d15)
    have hh5 := q5.trans hh3
    have c6 : Steps p.tables e below (s₁.setTop (entryFrame m #[.ref x, .ref y] 3)) (T5.setTop (mkF m 19 #[.val (.ref x), .val (.ref y), .val (.ref y)] [])) := (c4.trans (st5 _ (Steps.refl _))).trans (by
      refine XS.astoreN X5.here hexec rfl (hb hbytes d18) rfl rfl rfl ?_
      exact Steps.refl _)
    obtain ⟨T7, X7, q7, st7⟩ := X5.sget hexec hown (wk W (.fieldLink "java/lang/String" 38 "java/lang/String" "COMPACT_STRINGS" "Z")) s1 (fun _ _ h => by rw [hh5]; exact h) (g := (mkF m 19 #[.val (.ref x), .val (.ref y), .val (.ref y)] [])) rfl (hb hbytes d19)
    have hh7 := q7.trans hh5
    have c8 : Steps p.tables e below (s₁.setTop (entryFrame m #[.ref x, .ref y] 3)) (T7.setTop (mkF m 26 #[.val (.ref x), .val (.ref y), .val (.ref y)] [.ref x])) := (c6.trans (st7 _ (Steps.refl _))).trans (by
      refine XS.ifNo X7.here hexec rfl (hb hbytes d22) rfl (i0_eq_f hz) ?_
      refine XS.aloadN X7.here hexec rfl (hb hbytes d25) rfl rfl ?_
      exact Steps.refl _)
    obtain ⟨T9, X9, q9, st9⟩ := X7.hget hexec hown (wk W (.fieldLink "java/lang/String" 15 "java/lang/String" "coder" "B")) (hx.mv X7.warmed.alike hh7).2.2.1 (g := (mkF m 26 #[.val (.ref x), .val (.ref y), .val (.ref y)] [.ref x])) rfl (rest := []) rfl (hb hbytes d26)
    have hh9 := q9.trans hh7
    have c10 : Steps p.tables e below (s₁.setTop (entryFrame m #[.ref x, .ref y] 3)) (T9.setTop (mkF m 30 #[.val (.ref x), .val (.ref y), .val (.ref y)] [.ref y, .int cd])) := (c8.trans (st9 _ (Steps.refl _))).trans (by
      refine XS.aloadN X9.here hexec rfl (hb hbytes d29) rfl rfl ?_
      exact Steps.refl _)
    obtain ⟨T11, X11, q11, st11⟩ := X9.hget hexec hown (wk W (.fieldLink "java/lang/String" 15 "java/lang/String" "coder" "B")) (hy.mv X9.warmed.alike hh9).2.2.1 (g := (mkF m 30 #[.val (.ref x), .val (.ref y), .val (.ref y)] [.ref y, .int cd])) rfl (rest := [.int cd]) rfl (hb hbytes d30)
    have hh11 := q11.trans hh9
    have c12 : Steps p.tables e below (s₁.setTop (entryFrame m #[.ref x, .ref y] 3)) (T11.setTop (mkF m 33 #[.val (.ref x), .val (.ref y), .val (.ref y)] [.int cd', .int cd])) := c10.trans (st11 _ (Steps.refl _))
    by_cases hcd : cd = cd'
    · subst hcd
      have c13 : Steps p.tables e below (s₁.setTop (entryFrame m #[.ref x, .ref y] 3)) (T11.setTop (mkF m 37 #[.val (.ref x), .val (.ref y), .val (.ref y)] [.ref x])) := c12.trans (by
        refine XS.icmpNo X11.here hexec rfl (hb hbytes d33) rfl (ii_ne_f rfl) ?_
        refine XS.aloadN X11.here hexec rfl (hb hbytes d36) rfl rfl ?_
        exact Steps.refl _)
      obtain ⟨T14, X14, q14, st14⟩ := X11.hget hexec hown (wk W (.fieldLink "java/lang/String" 9 "java/lang/String" "value" "[B")) (hx.mv X11.warmed.alike hh11).2.1 (g := (mkF m 37 #[.val (.ref x), .val (.ref y), .val (.ref y)] [.ref x])) rfl (rest := []) rfl (hb hbytes d37)
      have hh14 := q14.trans hh11
      have c15 : Steps p.tables e below (s₁.setTop (entryFrame m #[.ref x, .ref y] 3)) (T14.setTop (mkF m 41 #[.val (.ref x), .val (.ref y), .val (.ref y)] [.ref y, .ref t])) := (c13.trans (st14 _ (Steps.refl _))).trans (by
        refine XS.aloadN X14.here hexec rfl (hb hbytes d40) rfl rfl ?_
        exact Steps.refl _)
      obtain ⟨T16, X16, q16, st16⟩ := X14.hget hexec hown (wk W (.fieldLink "java/lang/String" 9 "java/lang/String" "value" "[B")) (hy.mv X14.warmed.alike hh14).2.1 (g := (mkF m 41 #[.val (.ref x), .val (.ref y), .val (.ref y)] [.ref y, .ref t])) rfl (rest := [.ref t]) rfl (hb hbytes d41)
      have hh16 := q16.trans hh14
      have c17 : Steps p.tables e below (s₁.setTop (entryFrame m #[.ref x, .ref y] 3)) (T16.setTop (mkF m 44 #[.val (.ref x), .val (.ref y), .val (.ref y)] [.ref t', .ref t])) := c15.trans (st16 _ (Steps.refl _))
      obtain ⟨v18, T18, X18, E18, g18⟩ := X16.callS hexec (LEq.law l t V t' V') hown (wks W (staticW "java/lang/String" 541 LEq.yN)) (wk W LEq.tab) (W := 0) (Nat.le_of_ble_eq_true rfl) (Nat.le_of_ble_eq_true rfl) (Nat.le_refl _) (Nat.le_refl _) (g := (mkF m 44 #[.val (.ref x), .val (.ref y), .val (.ref y)] [.ref t', .ref t])) rfl (by rw [hml]; rfl) c17 (argsL := [.ref t, .ref t']) (rest := []) rfl rfl (by show 2 * 0 + 0 ≤ _; decide) (hb hbytes d44) (⟨rfl, hx.2.2.2.1.mv X16.warmed.alike hh16, hx.2.2.2.2.1.ty, hy.2.2.2.1.mv X16.warmed.alike hh16, hy.2.2.2.2.1.ty⟩)
      obtain ⟨v, rfl, q18, hv⟩ := E18
      have iff := Cod.eqv hx.2.2.2.2.1 hy.2.2.2.2.1 hx.2.2.2.2.2 hy.2.2.2.2.2
      rcases hv with ⟨rfl, he⟩ | ⟨rfl, he⟩
      · have c19 : Steps p.tables e below (s₁.setTop (entryFrame m #[.ref x, .ref y] 3)) (T18.setTop (mkF m 55 #[.val (.ref x), .val (.ref y), .val (.ref y)] [.int 1])) := Steps.trans g18 (by
          refine XS.ifNo X18.here hexec rfl (hb hbytes d47) rfl (i0_eq_f (by decide)) ?_
          refine iconstV X18.here hexec rfl 1 (hb hbytes d50) (by decide) ?_
          refine XS.goto X18.here hexec rfl (pc0 := 51) rfl (hb hbytes d51) (by decide) rfl ?_
          exact Steps.refl _)
        exact ⟨T18, some (.int 1), _, _, _, X18, rfl, rfl, rfl, (fun h => by cases h), ⟨1, rfl, q18.trans hh16, Or.inl ⟨rfl, iff.mp he⟩⟩, fun fs hl => c19.trans (X18.ireturnOut hexec hret rfl (Or.inr (Or.inl rfl)) (hb hbytes d55) hl)⟩
      · have c19 : Steps p.tables e below (s₁.setTop (entryFrame m #[.ref x, .ref y] 3)) (T18.setTop (mkF m 55 #[.val (.ref x), .val (.ref y), .val (.ref y)] [.int 0])) := Steps.trans g18 (by
          refine XS.ifYes X18.here hexec rfl (pc0 := 47) rfl (hb hbytes d47) rfl (i0_eq_t rfl) (by decide) rfl ?_
          refine iconstV X18.here hexec rfl 0 (hb hbytes d54) (by decide) ?_
          exact Steps.refl _)
        exact ⟨T18, some (.int 0), _, _, _, X18, rfl, rfl, rfl, (fun h => by cases h), ⟨0, rfl, q18.trans hh16, Or.inr ⟨rfl, fun q => he (iff.mpr q)⟩⟩, fun fs hl => c19.trans (X18.ireturnOut hexec hret rfl (Or.inr (Or.inl rfl)) (hb hbytes d55) hl)⟩
    · have c13 : Steps p.tables e below (s₁.setTop (entryFrame m #[.ref x, .ref y] 3)) (T11.setTop (mkF m 55 #[.val (.ref x), .val (.ref y), .val (.ref y)] [.int 0])) := c12.trans (by
        refine XS.icmpYes X11.here hexec rfl (pc0 := 33) rfl (hb hbytes d33) rfl (ii_ne_t hcd) (by decide) rfl ?_
        refine iconstV X11.here hexec rfl 0 (hb hbytes d54) (by decide) ?_
        exact Steps.refl _)
      exact ⟨T11, some (.int 0), _, _, _, X11, rfl, rfl, rfl, (fun h => by cases h), ⟨0, rfl, hh11, Or.inr ⟨rfl, Cod.dif hx.2.2.2.2.1 hy.2.2.2.2.1 hcd⟩⟩, fun fs hl => c13.trans (X11.ireturnOut hexec hret rfl (Or.inr (Or.inl rfl)) (hb hbytes d55) hl)⟩
theorem pays {l : Launch} {R : Room} {p : Program} {e : Env} {below : List Frame} {s : State} {sargs : Array Value} {len W : Nat} (x t : Addr) (V : Cell) (cd : Int32) (n : Nat) (f : Nat → Int32) (y t' : Addr) (V' : Cell) (cd' : Int32) (k : Nat) (g : Nat → Int32) (z : Int32) (htab : tab.before sargs s = true) (hfr : 2 ≤ R.frames) (hlo : W + 28 ≤ R.locals) :
    Back l R p e below s sargs yN len W (fun A₁ a₁ => A₁.cells + 0 ≤ R.cells ∧ A₁.slots + 0 ≤ R.slots ∧ P x t V cd n f y t' V' cd' k g z a₁ A₁.U) (fun A₁ _ v₁ B₁ => Says01 (SameT n f k g) v₁ A₁.U B₁.U ∧ B₁.locs = A₁.locs ++ [] ∧ B₁.cells = A₁.cells + 0 ∧ B₁.slots = A₁.slots + 0) :=
  (law l x t V cd n f y t' V' cd' k g z).pays htab hfr (by omega)
end SEq
end StrChars
namespace StrChars.Road
open Jvm Sem ClassFile Op Lib Jvm.Stand Jvm.Free Jvm.Free.XT
open Jvm.Lib.Cold (StaticIs)
/-- the words of String.equals(Object) -/
abbrev wordsEq : List Jvm.Cond := [.code SEq.yN SEq.yB 3 (some .boolean), .initialized ST, .classLink ST 10 ST, .fieldLink ST 38 ST "COMPACT_STRINGS" "Z", .fieldLink ST 15 ST "coder" "B", .fieldLink ST 9 ST "value" "[B", .methodLink ST 541 LEq.yN, .static LEq.yN, .code LEq.yN LEq.yB 3 (some .boolean), .initialized "java/lang/StringLatin1"]
theorem tabEq_of {a : Array Value} {s : State} (h : ∀ w ∈ wordsEq, w.before a s = true) : SEq.tab.before a s = true := by
  have hl : LEq.tab.before a s = true := unparts (wk h (.code LEq.yN LEq.yB 3 (some .boolean))) (wks h (.initialized LEq.yN.cls :: LEq.site))
  have q := consq hl h
  exact unparts (wk q (.code SEq.yN SEq.yB 3 (some .boolean))) (wks q (.initialized SEq.yN.cls :: SEq.site))
theorem movedEq {Z s : State} {a0 args : Array Value} (hZ : Z.Warmed39 s.vm) (hw : ∀ d ∈ wordsEq, d.before a0 Z = true) : ∀ d ∈ wordsEq, d.before args s = true := fun d hd => by
  have t : ∀ d ∈ wordsEq, (d.onTables && d.keepsFace) = true := by decide +kernel
  exact RoadKit.mv hZ (hw d hd) (t d hd)
/-- the road's facts of a String, as the laws ask it -/
theorem txt_of {Z U : State} {a0 : Array Value} {kI : Nat} (wi : (Jvm.Cond.instantiable ST kI).before a0 Z = true) (al : Z.vm.Alike U.vm) {x t : Addr} {kb : ClassId} {cs : List Int32} {cd N2 : Int32} {vs : List Value} (E : RoadKit.Exa Z U.heap x ST) (V : RoadKit.Fld Z U.heap x ST "value" "[B" (.ref t)) (C : RoadKit.Fld Z U.heap x ST "coder" "B" (.int cd)) (K : RoadKit.Arv Z U.heap t kb .byte N2 vs (.int 0)) (hc : CodA cs cd N2 vs) (hb : ∀ c ∈ cs, ¬ c < 0 ∧ ¬ (65535 : Int32) < c) (l2 : cs.length ≤ 4000) :
    ∃ A, Txt x t A cd cs.length (fun j => cs.getD j 0) U := by
  obtain ⟨A, K1, K2, K3, K4, K5, K6⟩ := K
  have hcod := hc.cod (by omega) K3 K5
  obtain ⟨D, fV, fC, hB, F1, F2, g1, g2, -, -⟩ := strObj wi al E V C
  exact ⟨A, ⟨_, hB.2.2.1, D, hB.1, rfl, by cases q : D.vm <;> first | rfl | exact absurd q (hB.2.1.2 _)⟩, Has.of hB F1 g1, Has.of hB F2 g2, ⟨K1.1, State.isArrayOf_alike al K1.2.1, K1.2.2, by rcases hcod with ⟨-, q, -⟩ | ⟨-, q, -⟩ <;> omega⟩, hcod, fun j hj => by
    have e : cs.getD j 0 = cs[j] := by simp [List.getD_eq_getElem?_getD, hj]
    show ¬ cs.getD j 0 < 0 ∧ ¬ 65535 < cs.getD j 0
    rw [e]; exact hb _ (List.getElem_mem _)⟩
theorem same_list (cs ds : List Int32) : SameT cs.length (fun j => cs.getD j 0) ds.length (fun j => ds.getD j 0) ↔ cs = ds := by
  constructor
  · rintro ⟨e, q⟩
    refine List.ext_getElem e fun j h1 h2 => ?_
    have := q j h1
    simpa [List.getD_eq_getElem?_getD, h1, h2] using this
  · rintro rfl
    exact ⟨rfl, fun _ _ => rfl⟩
/-- **equals(Object) OF TWO SUCH STRINGS**: 1 just where the chars are the same -/
theorem eqW {p : Program} {l : Launch} {e : Env} {R : Room} {s : State} {args : Array Value} {below : List Frame} {len W : Nat} {Z : State} {a0 : Array Value} {h : Heap} (hZ : Z.Warmed39 s.vm) (hw : ∀ d ∈ wordsEq, d.before a0 Z = true) {kI : Nat} (wi : (Jvm.Cond.instantiable ST kI).before a0 Z = true)
    {x t : Addr} {kb : ClassId} {cs : List Int32} {cd N2 : Int32} {vs : List Value} (E : RoadKit.Exa Z h x ST) (V : RoadKit.Fld Z h x ST "value" "[B" (.ref t)) (C : RoadKit.Fld Z h x ST "coder" "B" (.int cd)) (K : RoadKit.Arv Z h t kb .byte N2 vs (.int 0)) (hc : CodA cs cd N2 vs) (hb : ∀ c ∈ cs, ¬ c < 0 ∧ ¬ (65535 : Int32) < c) (l2 : cs.length ≤ 4000)
    {y t' : Addr} {kb' : ClassId} {ds : List Int32} {cd' N2' : Int32} {vs' : List Value} (E' : RoadKit.Exa Z h y ST) (V' : RoadKit.Fld Z h y ST "value" "[B" (.ref t')) (C' : RoadKit.Fld Z h y ST "coder" "B" (.int cd')) (K' : RoadKit.Arv Z h t' kb' .byte N2' vs' (.int 0)) (hc' : CodA ds cd' N2' vs') (hb' : ∀ c ∈ ds, ¬ c < 0 ∧ ¬ (65535 : Int32) < c) (l2' : ds.length ≤ 4000)
    {z : Int32} (S : RoadKit.Sta Z h ST "COMPACT_STRINGS" "Z" (.int z)) (hz : ¬ z = 0) (hfr : 2 ≤ R.frames) (hlo : W + 28 ≤ R.locals) :
    Back l R p e below s args (⟨"java/lang/String", "equals", "(Ljava/lang/Object;)Z"⟩ : MethodName) len W (fun P a => a = #[.ref x, .ref y] ∧ P.U.heap = h ∧ P.cells + 0 ≤ R.cells ∧ P.slots + 0 ≤ R.slots)
      (fun P _ v B => ∃ L, (((v = some (.int 1) ∧ cs = ds) ∨ (v = some (.int 0) ∧ ¬ cs = ds)) ∧ L = [] ∧ B.U.heap = h) ∧ B.locs = P.locs ++ L ∧ B.cells = P.cells + 0 ∧ B.slots = P.slots + 0) := by
  intro m meth c P g ig mk a X hg hsize hdg hW hn hp'
  obtain ⟨rfl, rfl, r1, r2⟩ := hp'
  have al : Z.vm.Alike P.U.vm := hZ.alike.trans X.warmed.alike
  obtain ⟨A, hx⟩ := txt_of wi al E V C K hc hb l2
  obtain ⟨A', hy⟩ := txt_of wi al E' V' C' K' hc' hb' l2'
  obtain ⟨v, B, X', ⟨⟨w, hv, hh, hq⟩, hl, hk, hs⟩, st⟩ := SEq.pays x t A cd cs.length (fun j => cs.getD j 0) y t' A' cd' ds.length (fun j => ds.getD j 0) z (tabEq_of (movedEq hZ hw)) hfr hlo m meth c P g ig mk _ X hg hsize hdg hW hn ⟨r1, r2, rfl, hx, hy, sta_is al S, hz⟩
  refine ⟨v, B, X', ⟨[], ⟨?_, rfl, hh⟩, hl, hk, hs⟩, st⟩
  rcases hq with ⟨rfl, q⟩ | ⟨rfl, q⟩
  · exact Or.inl ⟨hv, (same_list cs ds).mp q⟩
  · exact Or.inr ⟨hv, fun e => q ((same_list cs ds).mpr e)⟩
end StrChars.Road
namespace StrChars.Road
open Jvm Sem ClassFile Op Lib Jvm.Stand Jvm.Free Jvm.Free.XT
open Jvm.Lib.Cold (StaticIs)
/-- what backV says of its String, as the contracts of this text ask it: cs's low bytes, coder 0 -/
theorem codOf {cs : List Int32} {n : Nat} (hn : cs.length = n) (hb : ∀ c ∈ cs, ¬ 255 < c) : CodA cs 0 (Int32.ofNat n) ((cs.map lo8).map Value.int) := Or.inl ⟨rfl, by rw [hn], by simp [List.map_map, Function.comp_def], hb⟩
end StrChars.Road
end Jvm.Pilot.@@N@@

namespace Jvm.Pilot.@@N@@
open Jvm Jvm.ClassFile Sem Op Lib Jvm.Free Jvm.Stand Jvm.LawKit Jvm.RoadKit Bundle Jvm.Pilot.@@N@@.Jvm.D

theorem and255_chars (x : Int32) : ¬ nar .char ((x &&& (255 : Int32)).toUInt32.toUInt16.toUInt32.toInt32) < 0 ∧ ¬ (255 : Int32) < nar .char ((x &&& (255 : Int32)).toUInt32.toUInt16.toUInt32.toInt32) := by
  have t : ∀ k : Fin 256, ¬ nar .char ((Int32.ofNat k.val).toUInt32.toUInt16.toUInt32.toInt32) < 0 ∧ ¬ (255 : Int32) < nar .char ((Int32.ofNat k.val).toUInt32.toUInt16.toUInt32.toInt32) := by decide +kernel
  have h : (x &&& 255).toBitVec.toNat < 256 := by
    simp only [Int32.toBitVec_and, BitVec.toNat_and]
    exact Nat.lt_succ_of_le Nat.and_le_right
  have e : (x &&& 255) = Int32.ofNat (x &&& 255).toBitVec.toNat := by
    apply Int32.toBitVec_inj.mp
    show _ = BitVec.ofNat 32 _
    rw [BitVec.ofNat_toNat]; simp
  rw [e]
  exact t ⟨_, h⟩
theorem own_strwords : ∀ d ∈ StrChars.Road.words, d ∈ tables_1 := by decide +kernel

theorem own_up (cs : List Int32) (h : ∀ c ∈ cs, ¬ c < 0 ∧ ¬ (255 : Int32) < c) : ∀ c ∈ cs, ¬ c < 0 ∧ ¬ (65535 : Int32) < c := fun c hc => ⟨(h c hc).1, fun q => (h c hc).2 (by rw [Int32.lt_iff_toInt_lt] at q ⊢; have e1 : (65535 : Int32).toInt = 65535 := rfl; have e2 : (255 : Int32).toInt = 255 := rfl; omega)⟩

theorem own_strAtoms : ∀ d ∈ Bundle.stringAtoms, d ∈ tables_1 := by decide +kernel
theorem own_wS {Z : State} {a0 : Array Value} (hw : ∀ d ∈ tables_1, d.before a0 Z = true) : ∀ d ∈ Bundle.stringAtoms, d.before a0 Z = true := fun d hd => hw d (own_strAtoms d hd)

abbrev own_EL : List (String × Nat) := consts_1
theorem own_EW {Z : State} {a0 : Array Value} (hw : ∀ d ∈ tables_1, d.before a0 Z = true) : EW Z a0 own_EL := (EW.cons (hw _ (List.mem_of_getElem? (i := 33) rfl)) (by decide) (EW.cons (hw _ (List.mem_of_getElem? (i := 21) rfl)) (by decide) EW.nil))
theorem own_safeNull {Z : State} {EL : List (String × Nat)} {vm : Vm} {h : Heap} {x : Addr} {a0 : Array Value} {n : Nat} (hal : Z.vm.Alike vm) (E : Exa Z h x "java/lang/String") (F : Fld Z h x "java/lang/String" "value" "[B" .null) (wi : (Cond.instantiable "java/lang/String" n).before a0 Z = true) : Safe Z EL vm h x := fun B => by
  obtain ⟨p, -, u, a, -, q, -, F', e⟩ := B
  obtain ⟨cS, ⟨⟨s1, s2, s3, ⟨cv, kv, iv, s4, s4'⟩, -, s6, -, s8, -, s10, s11, s12, -⟩, -, -⟩, -, hB, -⟩ := F'
  rcases e with rfl | rfl
  · obtain ⟨kv', z4⟩ := ff_back (U := Wst Z vm h) hal s4
    have G : Fld Z h q.sa "java/lang/String" "value" "[B" (.ref q.sd) := ⟨q.sC, cv, kv', iv, q.fSV, s1, z4, s6, s2, s3, by rw [← hal.assignable]; exact s4', s8⟩
    exact Fld.ne F G (by simp) rfl
  · have hA : Arr Z h q.sd q.SA .byte := ⟨s10, State.isArrayOf_alike (s := Wst Z vm h) hal.symm s11, s12⟩
    exact ne_arr E wi hA rfl

theorem own_eqwords : ∀ d ∈ StrChars.Road.wordsEq, d ∈ tables_1 := by decide +kernel

theorem own_eqcase {v : Option Value} {P : Prop} (h : (v = some (.int 1) ∧ P) ∨ (v = some (.int 0) ∧ ¬ P)) : ∃ b : Int32, v = some (.int b) ∧ ((b = 1 ∧ P) ∨ (b = 0 ∧ ¬ P)) := by
  rcases h with ⟨h, q⟩ | ⟨h, q⟩
  · exact ⟨1, h, Or.inl ⟨rfl, q⟩⟩
  · exact ⟨0, h, Or.inr ⟨rfl, q⟩⟩

theorem d_jdk_42_method_149_code_0 : decode jdk_42_method_149_code 0 = .ok (.aload_n 0, 1) := by decide +kernel
theorem d_jdk_42_method_149_code_1 : decode jdk_42_method_149_code 1 = .ok (.invokespecial 1, 3) := by decide +kernel
theorem d_jdk_42_method_149_code_4 : decode jdk_42_method_149_code 4 = .ok (.iload_n 3, 1) := by decide +kernel
theorem d_jdk_42_method_149_code_5 : decode jdk_42_method_149_code 5 = .ok (.ifCond .ne 22, 3) := by decide +kernel
theorem d_jdk_42_method_149_code_8 : decode jdk_42_method_149_code 8 = .ok (.aload_n 0, 1) := by decide +kernel
theorem d_jdk_42_method_149_code_9 : decode jdk_42_method_149_code 9 = .ok (.ldc 7, 2) := by decide +kernel
theorem d_jdk_42_method_149_code_11 : decode jdk_42_method_149_code 11 = .ok (.getfield 9, 3) := by decide +kernel
theorem d_jdk_42_method_149_code_14 : decode jdk_42_method_149_code 14 = .ok (.putfield 9, 3) := by decide +kernel
theorem d_jdk_42_method_149_code_17 : decode jdk_42_method_149_code 17 = .ok (.aload_n 0, 1) := by decide +kernel
theorem d_jdk_42_method_149_code_18 : decode jdk_42_method_149_code 18 = .ok (.ldc 7, 2) := by decide +kernel
theorem d_jdk_42_method_149_code_20 : decode jdk_42_method_149_code 20 = .ok (.getfield 15, 3) := by decide +kernel
theorem d_jdk_42_method_149_code_23 : decode jdk_42_method_149_code 23 = .ok (.putfield 15, 3) := by decide +kernel
theorem d_jdk_42_method_149_code_26 : decode jdk_42_method_149_code 26 = .ok (.return_, 1) := by decide +kernel
theorem pn_java_lang_String : plainName "java/lang/String" = true := by first | (simp [plainName, overriddenIn]; done) | decide +kernel
theorem ef_init4e (m : MethodId) (x0 : Addr) (x1 : Addr) (x2 : Int32) (x3 : Int32) : entryFrame m #[(.ref x0), (.ref x1), (.int x2), (.int x3), .null] 6 = mkF m 0 #[.val (.ref x0), .val (.ref x1), .val (.int x2), .val (.int x3), .val .null, .unset] [] := by (first | (simp [entryFrame, mkF, argsToLocals, Value.category]; done) | rfl)
def Q_init4e (Z : State) (a1 : Addr) (h0 : Heap) (n0 : Nat) (v : Option Value) (h : Heap) (L : List Loc) : Prop := v = none ∧ Fr n0 L ∧ Keep h0 h [a1] ∧ Exa Z h a1 "java/lang/String" ∧ Fld Z h a1 "java/lang/String" "coder" "B" (.int 0) ∧ ∃ (t : Addr) (k : ClassId), Fld Z h a1 "java/lang/String" "value" "[B" (.ref t) ∧ Arv Z h t k .byte (0 : Int32) ([] : List Value) (.int 0)
set_option maxRecDepth 65536 in
set_option maxHeartbeats 40000000 in
theorem rm_init4e (l : Launch) (Z : State) (a0 : Array Value) (hw : ∀ d ∈ tables_1, d.before a0 Z = true) (ws : List Jvm.Cond) (a1 b1 : Addr) (h0 : Heap) (n0 : Nat) (Z0 : n0 ≤ h0.size) (g_a1 : n0 ≤ a1) (E1 : Exa Z h0 a1 "java/lang/String") (Fv : Fld Z h0 a1 "java/lang/String" "value" "[B" .null) (Fc : Fld Z h0 a1 "java/lang/String" "coder" "B" (.int (0 : Int32))) :
    MetFree l (⟨"java/lang/String", "<init>", "([CIILjava/lang/Void;)V"⟩ : MethodName) (head1 (Jvm.Cond.code (⟨"java/lang/String", "<init>", "([CIILjava/lang/Void;)V"⟩ : MethodName) jdk_42_method_149_code 6 none :: ws) ({ frames := 1, cells := 4, slots := 8, locals := 12 } : Room)) (fun a U => a = #[(.ref a1), (.ref b1), (.int (0 : Int32)), (.int (0 : Int32)), .null] ∧ Z.Warmed39 U.vm ∧ U.heap = h0 ∧ CHv Z own_EL U.vm h0) (fun _ _ _ _ _ => True) (fun _ U o U' => ∃ v L, o = .returned v ∧ Q_init4e Z a1 h0 n0 v U'.heap L ∧ CHr Z own_EL U.vm U.heap U'.vm U'.heap ∧ ReturnedEndW U o U' L ({ frames := 1, cells := 4, slots := 8, locals := 12 } : Room).cells ({ frames := 1, cells := 4, slots := 8, locals := 12 } : Room).slots) := by
  refine MetFree.of_bodySF (plainFor_of_name pn_java_lang_String) hisR ?_
  intro p e s m args below meth c s₁ Bd hml0 hP hK
  obtain ⟨rfl, hZ, hh, hCH0⟩ := hP
  have hx := Bd.exec
  have hby := Bd.bytes
  have hml : c.maxLocals = 6 := hml0
  have hown : s.vm.findClass "java/lang/String" = some m.cls := findClass_of_methodNamed Bd.named
  have hnm := (name_of_methodNamed Bd.named Bd.method).1
  have X0 : Stand p l e ({ frames := 1, cells := 4, slots := 8, locals := 12 } : Room) (s.setVm s.vm) m #[(.ref a1), (.ref b1), (.int (0 : Int32)), (.int (0 : Int32)), .null] below meth c s₁ [] 0 0 := Stand.of_body Bd
  have e0 : s₁.heap = h0 := by rw [← hh, Bd.state]; rfl
  have N0 := Fr.nil n0
  have pre0 : ∀ t, Steps p.tables e below (s₁.setTop (mkF m 0 #[.val (.ref a1), .val (.ref b1), .val (.int (0 : Int32)), .val (.int (0 : Int32)), .val .null, .unset] [])) t → Steps p.tables e below (s₁.setTop (entryFrame m #[(.ref a1), (.ref b1), (.int (0 : Int32)), (.int (0 : Int32)), .null] 6)) t := fun t k => castTop (ef_init4e m a1 b1 (0 : Int32) (0 : Int32)) k
  have P0 : ∀ t, Steps p.tables e below (s₁.setTop (mkF m 0 #[.val (.ref a1), .val (.ref b1), .val (.int (0 : Int32)), .val (.int (0 : Int32)), .val .null, .unset] [])) t → Steps p.tables e below (s₁.setTop (mkF m 0 #[.val (.ref a1), .val (.ref b1), .val (.int (0 : Int32)), .val (.int (0 : Int32)), .val .null, .unset] [])) t := fun t k => k
  have hS0 : s.Since s.vm h0.size := (State.WarmedH.refl s).since _
  have hCR0 : CHr Z own_EL s.vm h0 s.vm h0 := CHr.refl hCH0
  have sf_a1 : Safe Z own_EL s.vm h0 a1 := own_safeNull hZ.alike E1 Fv (hw _ (List.mem_of_getElem? (i := 9) rfl))
  obtain ⟨T1, X1, e1, st1⟩ := initO X0 hx hZ hown (hw _ (List.mem_of_getElem? (i := 18) rfl)) (hw _ (List.mem_of_getElem? (i := 19) rfl)) (hw _ (List.mem_of_getElem? (i := 20) rfl)) e0 (g := (mkF m 1 #[.val (.ref a1), .val (.ref b1), .val (.int (0 : Int32)), .val (.int (0 : Int32)), .val .null, .unset] [(.ref a1)])) rfl (by rw [hml]; rfl) rfl (hb hby d_jdk_42_method_149_code_1) (by decide) (W := 0) (by show 2 * 0 + _ ≤ _; exact Nat.le_of_eq rfl) (by decide)
  have P2 : ∀ t, Steps p.tables e below (T1.setTop (mkF m 4 #[.val (.ref a1), .val (.ref b1), .val (.int (0 : Int32)), .val (.int (0 : Int32)), .val .null, .unset] [])) t → Steps p.tables e below (s₁.setTop (mkF m 0 #[.val (.ref a1), .val (.ref b1), .val (.int (0 : Int32)), .val (.int (0 : Int32)), .val .null, .unset] [])) t := fun t k => P0 t (by
    refine XS.aloadN X0.here hx rfl (hb hby d_jdk_42_method_149_code_0) rfl rfl ?_
    show Steps p.tables e below (s₁.setTop (mkF m 1 #[.val (.ref a1), .val (.ref b1), .val (.int (0 : Int32)), .val (.int (0 : Int32)), .val .null, .unset] [(.ref a1)])) _
    exact st1 _ k)
  obtain ⟨y3, T3, h3, k3, t3, kb3, X3, e3, E3, hS3, hk3, hZ3, ho3, Ea3, Fc3, Fv3, Av3, la3, lb3, cr3, Li3, ne3, st3⟩ := ldcCH X1 hx hZ hown (hw _ (List.mem_of_getElem? (i := 21) rfl)) (own_wS hw) e1 hS0 (Nat.le_refl _) (own_EW hw) (by decide) hCH0 (vs := ([] : List Value)) (z := (0 : Int32)) ⟨by decide, by decide⟩ (by decide) (by decide) (g := (mkF m 9 #[.val (.ref a1), .val (.ref b1), .val (.int (0 : Int32)), .val (.int (0 : Int32)), .val .null, .unset] [(.ref a1)])) rfl (hb hby d_jdk_42_method_149_code_9) (n := 0) (by decide) (by decide) (Nat.le_of_ble_eq_true rfl) (Nat.le_of_ble_eq_true rfl)
  have P4 : ∀ t, Steps p.tables e below (T3.setTop (mkF m 11 #[.val (.ref a1), .val (.ref b1), .val (.int (0 : Int32)), .val (.int (0 : Int32)), .val .null, .unset] [(.ref y3), (.ref a1)])) t → Steps p.tables e below (s₁.setTop (mkF m 0 #[.val (.ref a1), .val (.ref b1), .val (.int (0 : Int32)), .val (.int (0 : Int32)), .val .null, .unset] [])) t := fun t k => P2 t (by
    show Steps p.tables e below (T1.setTop (mkF m 4 #[.val (.ref a1), .val (.ref b1), .val (.int (0 : Int32)), .val (.int (0 : Int32)), .val .null, .unset] [])) _
    refine XS.iloadN X1.here hx rfl (hb hby d_jdk_42_method_149_code_4) rfl ?_
    show Steps p.tables e below (T1.setTop (mkF m 5 #[.val (.ref a1), .val (.ref b1), .val (.int (0 : Int32)), .val (.int (0 : Int32)), .val .null, .unset] [(.int (0 : Int32))])) _
    refine XS.ifNo X1.here hx rfl (hb hby d_jdk_42_method_149_code_5) rfl ((if0 _ _).trans (teq (show (0 : Int32) = (0 : Int32) from (by decide))).2) ?_
    show Steps p.tables e below (T1.setTop (mkF m 8 #[.val (.ref a1), .val (.ref b1), .val (.int (0 : Int32)), .val (.int (0 : Int32)), .val .null, .unset] [])) _
    refine XS.aloadN X1.here hx rfl (hb hby d_jdk_42_method_149_code_8) rfl rfl ?_
    show Steps p.tables e below (T1.setTop (mkF m 9 #[.val (.ref a1), .val (.ref b1), .val (.int (0 : Int32)), .val (.int (0 : Int32)), .val .null, .unset] [(.ref a1)])) _
    exact st3 _ k)
  have Z5 : n0 ≤ h3.size := Nat.le_trans Z0 E3.1
  have K6 : Keep h0 h3 [a1] := (Keep.refl h0 [a1]).ext E3
  have R7 : CHr Z own_EL s.vm h0 T3.vm h3 := hCR0.trans cr3
  obtain ⟨T8, X8, e8, st8⟩ := getF X3 hx hZ3 ho3 (host := "") (Or.inl (hw _ (List.mem_of_getElem? (i := 27) rfl))) Via.refl e3 Fv3 (g := (mkF m 11 #[.val (.ref a1), .val (.ref b1), .val (.int (0 : Int32)), .val (.int (0 : Int32)), .val .null, .unset] [(.ref y3), (.ref a1)])) rfl rfl (hb hby d_jdk_42_method_149_code_11)
  have P9 : ∀ t, Steps p.tables e below (T8.setTop (mkF m 14 #[.val (.ref a1), .val (.ref b1), .val (.int (0 : Int32)), .val (.int (0 : Int32)), .val .null, .unset] [(.ref t3), (.ref a1)])) t → Steps p.tables e below (s₁.setTop (mkF m 0 #[.val (.ref a1), .val (.ref b1), .val (.int (0 : Int32)), .val (.int (0 : Int32)), .val .null, .unset] [])) t := fun t k => P4 t (by
    show Steps p.tables e below (T3.setTop (mkF m 11 #[.val (.ref a1), .val (.ref b1), .val (.int (0 : Int32)), .val (.int (0 : Int32)), .val .null, .unset] [(.ref y3), (.ref a1)])) _
    exact st8 _ k)
  have f10 : Fld Z h3 a1 "java/lang/String" "value" "[B" .null := (Fv.ext E3)
  have f11 : Exa Z h3 a1 "java/lang/String" := (E1.ext E3)
  obtain ⟨T12, h12, X12, e12, W12, st12⟩ := putF X8 hx hZ3 ho3 (host := "") (Or.inl (hw _ (List.mem_of_getElem? (i := 27) rfl))) Via.refl e8 f10 f11 (Or.inr ⟨(hw _ (List.mem_of_getElem? (i := 23) rfl)), rfl, hnm⟩) (hw _ (List.mem_of_getElem? (i := 9) rfl)) (ty := (.array .byte)) (by decide) rfl rfl (g := (mkF m 14 #[.val (.ref a1), .val (.ref b1), .val (.int (0 : Int32)), .val (.int (0 : Int32)), .val .null, .unset] [(.ref t3), (.ref a1)])) rfl rfl (hb hby d_jdk_42_method_149_code_14)
  have P13 : ∀ t, Steps p.tables e below (T12.setTop (mkF m 17 #[.val (.ref a1), .val (.ref b1), .val (.int (0 : Int32)), .val (.int (0 : Int32)), .val .null, .unset] [])) t → Steps p.tables e below (s₁.setTop (mkF m 0 #[.val (.ref a1), .val (.ref b1), .val (.int (0 : Int32)), .val (.int (0 : Int32)), .val .null, .unset] [])) t := fun t k => P9 t (by
    show Steps p.tables e below (T8.setTop (mkF m 14 #[.val (.ref a1), .val (.ref b1), .val (.int (0 : Int32)), .val (.int (0 : Int32)), .val .null, .unset] [(.ref t3), (.ref a1)])) _
    exact st12 _ k)
  have f14 := f10.same W12
  have N15 := Fr.snoc X12 N0 g_a1
  have Z16 : n0 ≤ h12.size := Nat.le_trans Z5 (Keep.of_wr W12).1
  have K17 : Keep h0 h12 [a1] := K6.wr W12 (Or.inl (List.mem_of_getElem? (i := 0) rfl))
  have hk18 : k3 ≤ h12.size := Nat.le_trans hk3 (Keep.of_wr W12).1
  have C19 : CHr Z own_EL T3.vm h3 T3.vm h12 := CHr.wr W12 (CHr.safe cr3 E1.lt sf_a1) cr3.1
  have R20 : CHr Z own_EL s.vm h0 T3.vm h12 := R7.trans C19
  obtain ⟨y21, T21, h21, k21, t21, kb21, X21, e21, E21, hS21, hk21, hZ21, ho21, Ea21, Fc21, Fv21, Av21, la21, lb21, cr21, Li21, ne21, st21⟩ := ldcCH X12 hx hZ3 ho3 (hw _ (List.mem_of_getElem? (i := 21) rfl)) (own_wS hw) e12 hS3 hk18 (own_EW hw) (by decide) C19.1 (vs := ([] : List Value)) (z := (0 : Int32)) ⟨by decide, by decide⟩ (by decide) (by decide) (g := (mkF m 18 #[.val (.ref a1), .val (.ref b1), .val (.int (0 : Int32)), .val (.int (0 : Int32)), .val .null, .unset] [(.ref a1)])) rfl (hb hby d_jdk_42_method_149_code_18) (n := 0) (by decide) (by decide) (Nat.le_of_ble_eq_true rfl) (Nat.le_of_ble_eq_true rfl)
  have P22 : ∀ t, Steps p.tables e below (T21.setTop (mkF m 20 #[.val (.ref a1), .val (.ref b1), .val (.int (0 : Int32)), .val (.int (0 : Int32)), .val .null, .unset] [(.ref y21), (.ref a1)])) t → Steps p.tables e below (s₁.setTop (mkF m 0 #[.val (.ref a1), .val (.ref b1), .val (.int (0 : Int32)), .val (.int (0 : Int32)), .val .null, .unset] [])) t := fun t k => P13 t (by
    show Steps p.tables e below (T12.setTop (mkF m 17 #[.val (.ref a1), .val (.ref b1), .val (.int (0 : Int32)), .val (.int (0 : Int32)), .val .null, .unset] [])) _
    refine XS.aloadN X12.here hx rfl (hb hby d_jdk_42_method_149_code_17) rfl rfl ?_
    show Steps p.tables e below (T12.setTop (mkF m 18 #[.val (.ref a1), .val (.ref b1), .val (.int (0 : Int32)), .val (.int (0 : Int32)), .val .null, .unset] [(.ref a1)])) _
    exact st21 _ k)
  have Z23 : n0 ≤ h21.size := Nat.le_trans Z16 E21.1
  have K24 : Keep h0 h21 [a1] := K17.ext E21
  have R25 : CHr Z own_EL s.vm h0 T21.vm h21 := R20.trans cr21
  obtain ⟨T26, X26, e26, st26⟩ := getF X21 hx hZ21 ho21 (host := "") (Or.inl (hw _ (List.mem_of_getElem? (i := 28) rfl))) Via.refl e21 Fc21 (g := (mkF m 20 #[.val (.ref a1), .val (.ref b1), .val (.int (0 : Int32)), .val (.int (0 : Int32)), .val .null, .unset] [(.ref y21), (.ref a1)])) rfl rfl (hb hby d_jdk_42_method_149_code_20)
  have P27 : ∀ t, Steps p.tables e below (T26.setTop (mkF m 23 #[.val (.ref a1), .val (.ref b1), .val (.int (0 : Int32)), .val (.int (0 : Int32)), .val .null, .unset] [(.int (0 : Int32)), (.ref a1)])) t → Steps p.tables e below (s₁.setTop (mkF m 0 #[.val (.ref a1), .val (.ref b1), .val (.int (0 : Int32)), .val (.int (0 : Int32)), .val .null, .unset] [])) t := fun t k => P22 t (by
    show Steps p.tables e below (T21.setTop (mkF m 20 #[.val (.ref a1), .val (.ref b1), .val (.int (0 : Int32)), .val (.int (0 : Int32)), .val .null, .unset] [(.ref y21), (.ref a1)])) _
    exact st26 _ k)
  have f28 : Fld Z h21 a1 "java/lang/String" "coder" "B" (.int (0 : Int32)) := (((Fc.ext E3).other W12 (Or.inr (slot_ne (Or.inr (hw _ (List.mem_of_getElem? (i := 24) rfl))) (Or.inr (hw _ (List.mem_of_getElem? (i := 23) rfl))) (by decide) (t := .byte) (t' := (.array .byte)) (by decide) (by decide)))).ext E21)
  have f29 : Exa Z h21 a1 "java/lang/String" := ((f11.wr W12).ext E21)
  obtain ⟨T30, h30, X30, e30, W30, st30⟩ := putFN X26 hx hZ21 ho21 (hw _ (List.mem_of_getElem? (i := 28) rfl)) Via.refl e26 f28 f29 (Or.inr ⟨(hw _ (List.mem_of_getElem? (i := 24) rfl)), rfl, hnm⟩) (hw _ (List.mem_of_getElem? (i := 9) rfl)) (ty := .byte) (v' := .int (0 : Int32)) (by decide) rfl rfl (g := (mkF m 23 #[.val (.ref a1), .val (.ref b1), .val (.int (0 : Int32)), .val (.int (0 : Int32)), .val .null, .unset] [(.int (0 : Int32)), (.ref a1)])) rfl rfl (hb hby d_jdk_42_method_149_code_23)
  have P31 : ∀ t, Steps p.tables e below (T30.setTop (mkF m 26 #[.val (.ref a1), .val (.ref b1), .val (.int (0 : Int32)), .val (.int (0 : Int32)), .val .null, .unset] [])) t → Steps p.tables e below (s₁.setTop (mkF m 0 #[.val (.ref a1), .val (.ref b1), .val (.int (0 : Int32)), .val (.int (0 : Int32)), .val .null, .unset] [])) t := fun t k => P27 t (by
    show Steps p.tables e below (T26.setTop (mkF m 23 #[.val (.ref a1), .val (.ref b1), .val (.int (0 : Int32)), .val (.int (0 : Int32)), .val .null, .unset] [(.int (0 : Int32)), (.ref a1)])) _
    exact st30 _ k)
  have f32 := f28.same W30
  have N33 := Fr.snoc X30 N15 g_a1
  have Z34 : n0 ≤ h30.size := Nat.le_trans Z23 (Keep.of_wr W30).1
  have K35 : Keep h0 h30 [a1] := K24.wr W30 (Or.inl (List.mem_of_getElem? (i := 0) rfl))
  have hk36 : k21 ≤ h30.size := Nat.le_trans hk21 (Keep.of_wr W30).1
  have C37 : CHr Z own_EL T21.vm h21 T21.vm h30 := CHr.wr W30 (CHr.safe ((cr3.trans C19).trans cr21) E1.lt sf_a1) cr21.1
  have R38 : CHr Z own_EL s.vm h0 T21.vm h30 := R25.trans C37
  have f39 : Exa Z h30 a1 "java/lang/String" := (f29.wr W30)
  have f40 : Fld Z h30 a1 "java/lang/String" "value" "[B" (.ref t3) := ((f14.ext E21).other W30 (Or.inr (slot_ne (Or.inr (hw _ (List.mem_of_getElem? (i := 23) rfl))) (Or.inr (hw _ (List.mem_of_getElem? (i := 24) rfl))) (by decide) (t := (.array .byte)) (t' := .byte) (by decide) (by decide))))
  have f41 : Arv Z h30 t3 kb3 .byte (0 : Int32) ([] : List Value) (.int 0) := (((Av3.other W12 (Ne.symm (Exa.neArv (E1.ext E3) Av3 (hw _ (List.mem_of_getElem? (i := 9) rfl))))).ext E21).other W30 (Ne.symm (Exa.neArv (E1.ext E3) Av3 (hw _ (List.mem_of_getElem? (i := 9) rfl)))))
  obtain ⟨fs42, hr42, hrun42, hended42, hRW42⟩ := X30.leaveW (v := none) hS21 (by rw [e30]; exact hk36) (fun _ => rfl)
  have hce42 : CHr Z own_EL s.vm s.heap T30.vm T30.heap := by
    rw [hh, e30]
    exact R38.trans (CHv.at X30 hZ21 (own_EW hw) C37.1)
  refine ⟨_, _, pre0 _ (P31 _ ?_), hrun42, hended42, _, _, rfl, ?_, hce42, ⟨hRW42.1, hRW42.2.1, hRW42.2.2.1, hRW42.2.2.2.mono (Nat.le_of_ble_eq_true rfl) (Nat.le_of_ble_eq_true rfl)⟩⟩
  · show Steps p.tables e below (T30.setTop (mkF m 26 #[.val (.ref a1), .val (.ref b1), .val (.int (0 : Int32)), .val (.int (0 : Int32)), .val .null, .unset] [])) _
    exact X30.returnOut hx Bd.returns (hb hby d_jdk_42_method_149_code_26) hr42
  · show Q_init4e Z a1 h0 n0 _ T30.heap _
    rw [e30]
    exact ⟨rfl, N33, K35, f39, f32, t3, _, f40, f41⟩
theorem d_jdk_42_method_3_code_0 : decode jdk_42_method_3_code 0 = .ok (.aload_n 0, 1) := by decide +kernel
theorem d_jdk_42_method_3_code_1 : decode jdk_42_method_3_code 1 = .ok (.aload_n 1, 1) := by decide +kernel
theorem d_jdk_42_method_3_code_2 : decode jdk_42_method_3_code 2 = .ok (.iconst 0, 1) := by decide +kernel
theorem d_jdk_42_method_3_code_3 : decode jdk_42_method_3_code 3 = .ok (.aload_n 1, 1) := by decide +kernel
theorem d_jdk_42_method_3_code_4 : decode jdk_42_method_3_code 4 = .ok (.arraylength, 1) := by decide +kernel
theorem d_jdk_42_method_3_code_5 : decode jdk_42_method_3_code 5 = .ok (.aconst_null, 1) := by decide +kernel
theorem d_jdk_42_method_3_code_6 : decode jdk_42_method_3_code 6 = .ok (.invokespecial 27, 3) := by decide +kernel
theorem pd__28_5bCIILjava_2flang_2fVoid_3b_29V : parseMethodDescriptor "([CIILjava/lang/Void;)V" = some ⟨[(.array .char), .int, .int, (.object "java/lang/Void")], none⟩ := by decide +kernel
theorem d_jdk_42_method_3_code_9 : decode jdk_42_method_3_code 9 = .ok (.return_, 1) := by decide +kernel
theorem ef_init1e (m : MethodId) (x0 : Addr) (x1 : Addr) : entryFrame m #[(.ref x0), (.ref x1)] 2 = mkF m 0 #[.val (.ref x0), .val (.ref x1)] [] := by (first | (simp [entryFrame, mkF, argsToLocals, Value.category]; done) | rfl)
def Q_init1e (Z : State) (a1 : Addr) (h0 : Heap) (n0 : Nat) (v : Option Value) (h : Heap) (L : List Loc) : Prop := v = none ∧ Fr n0 L ∧ Keep h0 h [a1] ∧ Exa Z h a1 "java/lang/String" ∧ Fld Z h a1 "java/lang/String" "coder" "B" (.int 0) ∧ ∃ (t : Addr) (k : ClassId), Fld Z h a1 "java/lang/String" "value" "[B" (.ref t) ∧ Arv Z h t k .byte (0 : Int32) ([] : List Value) (.int 0)
set_option maxRecDepth 65536 in
set_option maxHeartbeats 40000000 in
theorem rm_init1e (l : Launch) (Z : State) (a0 : Array Value) (hw : ∀ d ∈ tables_1, d.before a0 Z = true) (ws : List Jvm.Cond) (a1 b1 : Addr) (kb : ClassId) (h0 : Heap) (n0 : Nat) (Z0 : n0 ≤ h0.size) (g_a1 : n0 ≤ a1) (E1 : Exa Z h0 a1 "java/lang/String") (Fv : Fld Z h0 a1 "java/lang/String" "value" "[B" .null) (Fc : Fld Z h0 a1 "java/lang/String" "coder" "B" (.int (0 : Int32))) (Ab : Arv Z h0 b1 kb .char (0 : Int32) ([] : List Value) (.int (0 : Int32))) :
    MetFree l (⟨"java/lang/String", "<init>", "([C)V"⟩ : MethodName) (head1 (Jvm.Cond.code (⟨"java/lang/String", "<init>", "([C)V"⟩ : MethodName) jdk_42_method_3_code 2 none :: ws) ({ frames := 2, cells := 4, slots := 8, locals := 29 } : Room)) (fun a U => a = #[(.ref a1), (.ref b1)] ∧ Z.Warmed39 U.vm ∧ U.heap = h0 ∧ CHv Z own_EL U.vm h0) (fun _ _ _ _ _ => True) (fun _ U o U' => ∃ v L, o = .returned v ∧ Q_init1e Z a1 h0 n0 v U'.heap L ∧ CHr Z own_EL U.vm U.heap U'.vm U'.heap ∧ ReturnedEndW U o U' L ({ frames := 2, cells := 4, slots := 8, locals := 29 } : Room).cells ({ frames := 2, cells := 4, slots := 8, locals := 29 } : Room).slots) := by
  refine MetFree.of_bodySF (plainFor_of_name pn_java_lang_String) hisR ?_
  intro p e s m args below meth c s₁ Bd hml0 hP hK
  obtain ⟨rfl, hZ, hh, hCH0⟩ := hP
  have hx := Bd.exec
  have hby := Bd.bytes
  have hml : c.maxLocals = 2 := hml0
  have hown : s.vm.findClass "java/lang/String" = some m.cls := findClass_of_methodNamed Bd.named
  have hnm := (name_of_methodNamed Bd.named Bd.method).1
  have X0 : Stand p l e ({ frames := 2, cells := 4, slots := 8, locals := 29 } : Room) (s.setVm s.vm) m #[(.ref a1), (.ref b1)] below meth c s₁ [] 0 0 := Stand.of_body Bd
  have e0 : s₁.heap = h0 := by rw [← hh, Bd.state]; rfl
  have N0 := Fr.nil n0
  have pre0 : ∀ t, Steps p.tables e below (s₁.setTop (mkF m 0 #[.val (.ref a1), .val (.ref b1)] [])) t → Steps p.tables e below (s₁.setTop (entryFrame m #[(.ref a1), (.ref b1)] 2)) t := fun t k => castTop (ef_init1e m a1 b1) k
  have P0 : ∀ t, Steps p.tables e below (s₁.setTop (mkF m 0 #[.val (.ref a1), .val (.ref b1)] [])) t → Steps p.tables e below (s₁.setTop (mkF m 0 #[.val (.ref a1), .val (.ref b1)] [])) t := fun t k => k
  have hS0 : s.Since s.vm h0.size := (State.WarmedH.refl s).since _
  have hCR0 : CHr Z own_EL s.vm h0 s.vm h0 := CHr.refl hCH0
  have sf_a1 : Safe Z own_EL s.vm h0 a1 := own_safeNull hZ.alike E1 Fv (hw _ (List.mem_of_getElem? (i := 9) rfl))
  obtain ⟨cl43, Ar43, -, S43, N43, -, -⟩ := id Ab
  obtain ⟨_, _, ⟨T44, L44, k44, n44⟩, -, X44, hs44, hg44, ⟨Lc44, hQ44, l44, y44, z44, cr44⟩, st44⟩ := X0.specialBackS hx (y := (⟨"java/lang/String", "<init>", "([CIILjava/lang/Void;)V"⟩ : MethodName)) rfl hown (mvT hZ (hw _ (List.mem_of_getElem? (i := 14) rfl))) (mvT hZ (hw _ (List.mem_of_getElem? (i := 15) rfl))) (mvT hZ (hw _ (List.mem_of_getElem? (i := 17) rfl))) (by decide) (backOfSH (W := 0) (rm_init4e l Z a0 hw [] a1 b1 h0 n0 Z0 g_a1 E1 Fv Fc) hZ (hw _ (List.mem_of_getElem? (i := 17) rfl)) (hw _ (List.mem_of_getElem? (i := 10) rfl)) (by decide) (by decide) (own_EW hw) hCH0) (g := (mkF m 6 #[.val (.ref a1), .val (.ref b1)] [.null, (.int (0 : Int32)), (.int (0 : Int32)), (.ref b1), (.ref a1)])) rfl (by rw [hml]; rfl) (Steps.refl _) (a := a1) (argsL := [(.ref b1), (.int (0 : Int32)), (.int (0 : Int32)), .null]) (rest := []) (lenOf pd__28_5bCIILjava_2flang_2fVoid_3b_29V rfl) rfl (by show 2 * 0 + _ ≤ _; exact Nat.le_of_eq rfl) (hb hby d_jdk_42_method_3_code_6) (fun _ _ => ⟨rfl, e0, (Nat.le_of_ble_eq_true rfl : 0 + 4 ≤ _), (Nat.le_of_ble_eq_true rfl : 0 + 8 ≤ _)⟩)
  dsimp only [Pt.U, Pt.locs, Pt.cells, Pt.slots] at X44 l44 y44 z44 st44 hQ44 hs44 hg44 cr44
  subst l44 y44 z44
  obtain ⟨rfl, Nq44, Kk44, Ek44, Fc44, t44, k44, Fv44, Av44⟩ := hQ44
  obtain ⟨Xr44, hSr44, hZr44, ho44⟩ := rebS hS0 (by rw [e0]; exact (Nat.le_refl _)) X44 hs44 hg44 hZ hown
  have N45 := Fr.app N0 Nq44
  have P46 : ∀ t, Steps p.tables e below (T44.setTop (mkF m 9 #[.val (.ref a1), .val (.ref b1)] [])) t → Steps p.tables e below (s₁.setTop (mkF m 0 #[.val (.ref a1), .val (.ref b1)] [])) t := fun t k => P0 t (by
    refine XS.aloadN X0.here hx rfl (hb hby d_jdk_42_method_3_code_0) rfl rfl ?_
    show Steps p.tables e below (s₁.setTop (mkF m 1 #[.val (.ref a1), .val (.ref b1)] [(.ref a1)])) _
    refine XS.aloadN X0.here hx rfl (hb hby d_jdk_42_method_3_code_1) rfl rfl ?_
    show Steps p.tables e below (s₁.setTop (mkF m 2 #[.val (.ref a1), .val (.ref b1)] [(.ref b1), (.ref a1)])) _
    refine XS.iconst X0.here hx rfl (hb hby d_jdk_42_method_3_code_2) ?_
    show Steps p.tables e below (s₁.setTop (mkF m 3 #[.val (.ref a1), .val (.ref b1)] [(.int (0 : Int32)), (.ref b1), (.ref a1)])) _
    refine XS.aloadN X0.here hx rfl (hb hby d_jdk_42_method_3_code_3) rfl rfl ?_
    show Steps p.tables e below (s₁.setTop (mkF m 4 #[.val (.ref a1), .val (.ref b1)] [(.ref b1), (.int (0 : Int32)), (.ref b1), (.ref a1)])) _
    refine X0.arraylength hx (by rw [e0]; exact Ar43.1) (State.isArrayOf_alike hZ.alike Ar43.2.1) (g := (mkF m 4 #[.val (.ref a1), .val (.ref b1)] [(.ref b1), (.int (0 : Int32)), (.ref b1), (.ref a1)])) rfl rfl (hb hby d_jdk_42_method_3_code_4) _ ?_
    rw [len_of S43 N43]
    show Steps p.tables e below (s₁.setTop (mkF m 5 #[.val (.ref a1), .val (.ref b1)] [(.int (0 : Int32)), (.int (0 : Int32)), (.ref b1), (.ref a1)])) _
    refine XS.aconstNull X0.here hx rfl (hb hby d_jdk_42_method_3_code_5) ?_
    show Steps p.tables e below (s₁.setTop (mkF m 6 #[.val (.ref a1), .val (.ref b1)] [.null, (.int (0 : Int32)), (.int (0 : Int32)), (.ref b1), (.ref a1)])) _
    exact st44.trans k)
  have Z47 : n0 ≤ T44.heap.size := Nat.le_trans Z0 Kk44.1
  have K48 : Keep h0 T44.heap [a1] := (Keep.refl h0 [a1]).trans Kk44 ((allS (Or.inl (List.mem_of_getElem? (i := 0) rfl)) all0))
  have R49 : CHr Z own_EL s.vm h0 T44.vm T44.heap := hCR0.trans cr44
  obtain ⟨fs50, hr50, hrun50, hended50, hRW50⟩ := Xr44.leaveW (v := none) hSr44 (Nat.le_refl _) (fun _ => rfl)
  have hce50 : CHr Z own_EL s.vm s.heap T44.vm T44.heap := by
    rw [hh]
    exact R49.trans (CHv.at Xr44 hZr44 (own_EW hw) cr44.1)
  refine ⟨_, _, pre0 _ (P46 _ ?_), hrun50, hended50, _, _, rfl, ?_, hce50, ⟨hRW50.1, hRW50.2.1, hRW50.2.2.1, hRW50.2.2.2.mono (Nat.le_of_ble_eq_true rfl) (Nat.le_of_ble_eq_true rfl)⟩⟩
  · show Steps p.tables e below (T44.setTop (mkF m 9 #[.val (.ref a1), .val (.ref b1)] [])) _
    exact Xr44.returnOut hx Bd.returns (hb hby d_jdk_42_method_3_code_9) hr50
  · show Q_init1e Z a1 h0 n0 _ T44.heap _
    exact ⟨rfl, N45, K48, Ek44, Fc44, t44, _, Fv44, Av44⟩

def own_raw (q1 : Int64) (p1 p2 : Int32) : Int32 := ((((q1.toUInt64 >>> (((8 : Int32) * p1) &&& 0x3f).toInt64.toUInt64).toInt64).toInt32) ^^^ p2) &&& (255 : Int32)

theorem d_method_2_code_0 : decode method_2_code 0 = .ok (.lload_n 0, 1) := by decide +kernel
theorem d_method_2_code_1 : decode method_2_code 1 = .ok (.bipush 8, 2) := by decide +kernel
theorem d_method_2_code_3 : decode method_2_code 3 = .ok (.iload_n 2, 1) := by decide +kernel
theorem d_method_2_code_4 : decode method_2_code 4 = .ok (.imul, 1) := by decide +kernel
theorem d_method_2_code_5 : decode method_2_code 5 = .ok (.lushr, 1) := by decide +kernel
theorem d_method_2_code_6 : decode method_2_code 6 = .ok (.l2i, 1) := by decide +kernel
theorem d_method_2_code_7 : decode method_2_code 7 = .ok (.iload_n 3, 1) := by decide +kernel
theorem d_method_2_code_8 : decode method_2_code 8 = .ok (.ixor, 1) := by decide +kernel
theorem d_method_2_code_9 : decode method_2_code 9 = .ok (.sipush 255, 3) := by decide +kernel
theorem d_method_2_code_12 : decode method_2_code 12 = .ok (.iand, 1) := by decide +kernel
theorem d_method_2_code_13 : decode method_2_code 13 = .ok (.i2c, 1) := by decide +kernel
theorem d_method_2_code_14 : decode method_2_code 14 = .ok (.ireturn, 1) := by decide +kernel
theorem pn_com_example_vervet_vervet_engine_RulesMayJoinPinLaw : plainName "com/example/vervet/vervet/engine/RulesMayJoinPinLaw" = true := by first | (simp [plainName, overriddenIn]; done) | decide +kernel
theorem ef_at (m : MethodId) (x0 : Int64) (x1 : Int32) (x2 : Int32) : entryFrame m #[(.long x0), (.int x1), (.int x2)] 4 = mkF m 0 #[.val (.long x0), .second, .val (.int x1), .val (.int x2)] [] := by (first | (simp [entryFrame, mkF, argsToLocals, Value.category]; done) | rfl)
def Q_at (q1 : Int64) (p1 p2 : Int32) (h0 : Heap) (n0 : Nat) (v : Option Value) (h : Heap) (L : List Loc) : Prop := v = some (.int (nar .char ((own_raw q1 p1 p2).toUInt32.toUInt16.toUInt32.toInt32))) ∧ Fr n0 L ∧ h = h0
set_option maxRecDepth 65536 in
set_option maxHeartbeats 40000000 in
theorem rm_at (l : Launch) (Z : State) (a0 : Array Value) (hw : ∀ d ∈ tables_1, d.before a0 Z = true) (ws : List Jvm.Cond) (q1 : Int64) (p1 p2 : Int32) (h0 : Heap) (n0 : Nat) (Z0 : n0 ≤ h0.size)  :
    MetFree l (⟨"com/example/vervet/vervet/engine/RulesMayJoinPinLaw", "at", "(JII)C"⟩ : MethodName) (head1 (Jvm.Cond.code (⟨"com/example/vervet/vervet/engine/RulesMayJoinPinLaw", "at", "(JII)C"⟩ : MethodName) method_2_code 4 (some .char) :: ws) ({ frames := 0, cells := 0, slots := 0, locals := 0 } : Room)) (fun a U => a = #[(.long q1), (.int p1), (.int p2)] ∧ Z.Warmed39 U.vm ∧ U.heap = h0) (fun _ _ _ _ _ => True) (fun _ U o U' => ∃ v L, o = .returned v ∧ Q_at q1 p1 p2 h0 n0 v U'.heap L ∧ FrameEnd U o U' L ({ frames := 0, cells := 0, slots := 0, locals := 0 } : Room).cells ({ frames := 0, cells := 0, slots := 0, locals := 0 } : Room).slots) := by
  refine MetFree.of_bodySF (plainFor_of_name pn_com_example_vervet_vervet_engine_RulesMayJoinPinLaw) hisR ?_
  intro p e s m args below meth c s₁ Bd hml0 hP hK
  obtain ⟨rfl, hZ, hh⟩ := hP
  have hx := Bd.exec
  have hby := Bd.bytes
  have hml : c.maxLocals = 4 := hml0
  have hown : s.vm.findClass "com/example/vervet/vervet/engine/RulesMayJoinPinLaw" = some m.cls := findClass_of_methodNamed Bd.named
  have hnm := (name_of_methodNamed Bd.named Bd.method).1
  have X0 : Stand p l e ({ frames := 0, cells := 0, slots := 0, locals := 0 } : Room) s m #[(.long q1), (.int p1), (.int p2)] below meth c s₁ [] 0 0 := Stand.of_body Bd
  have e0 : s₁.heap = h0 := by rw [← hh, Bd.state]; rfl
  have N0 := Fr.nil n0
  have pre0 : ∀ t, Steps p.tables e below (s₁.setTop (mkF m 0 #[.val (.long q1), .second, .val (.int p1), .val (.int p2)] [])) t → Steps p.tables e below (s₁.setTop (entryFrame m #[(.long q1), (.int p1), (.int p2)] 4)) t := fun t k => castTop (ef_at m q1 p1 p2) k
  have P0 : ∀ t, Steps p.tables e below (s₁.setTop (mkF m 0 #[.val (.long q1), .second, .val (.int p1), .val (.int p2)] [])) t → Steps p.tables e below (s₁.setTop (mkF m 0 #[.val (.long q1), .second, .val (.int p1), .val (.int p2)] [])) t := fun t k => k
  obtain ⟨fs51, hr51, hrun51, hended51, hW51, hsame51⟩ := X0.leave (v := some (.int (nar .char ((((((q1.toUInt64 >>> (((8 : Int32) * p1) &&& 0x3f).toInt64.toUInt64).toInt64).toInt32) ^^^ p2) &&& (255 : Int32)).toUInt32.toUInt16.toUInt32.toInt32)))) (fun h => by rw [Bd.returns] at h; cases h)
  refine ⟨_, _, pre0 _ (P0 _ ?_), hrun51, hended51, _, _, rfl, ?_, ⟨⟨_, rfl⟩, hW51, hsame51.mono (Nat.le_of_ble_eq_true rfl) (Nat.le_of_ble_eq_true rfl)⟩⟩
  · refine XS.lloadN X0.here hx rfl (hb hby d_method_2_code_0) rfl ?_
    show Steps p.tables e below (s₁.setTop (mkF m 1 #[.val (.long q1), .second, .val (.int p1), .val (.int p2)] [(.long q1)])) _
    refine XS.bipush X0.here hx rfl (hb hby d_method_2_code_1) ?_
    show Steps p.tables e below (s₁.setTop (mkF m 3 #[.val (.long q1), .second, .val (.int p1), .val (.int p2)] [(.int (8 : Int32)), (.long q1)])) _
    refine XS.iloadN X0.here hx rfl (hb hby d_method_2_code_3) rfl ?_
    show Steps p.tables e below (s₁.setTop (mkF m 4 #[.val (.long q1), .second, .val (.int p1), .val (.int p2)] [(.int p1), (.int (8 : Int32)), (.long q1)])) _
    refine XS.imul X0.here hx rfl (hb hby d_method_2_code_4) rfl ?_
    show Steps p.tables e below (s₁.setTop (mkF m 5 #[.val (.long q1), .second, .val (.int p1), .val (.int p2)] [(.int ((8 : Int32) * p1)), (.long q1)])) _
    refine XS.lushr X0.here hx rfl (hb hby d_method_2_code_5) rfl ?_
    show Steps p.tables e below (s₁.setTop (mkF m 6 #[.val (.long q1), .second, .val (.int p1), .val (.int p2)] [(.long ((q1.toUInt64 >>> (((8 : Int32) * p1) &&& 0x3f).toInt64.toUInt64).toInt64))])) _
    refine XS.l2i X0.here hx rfl (hb hby d_method_2_code_6) rfl ?_
    show Steps p.tables e below (s₁.setTop (mkF m 7 #[.val (.long q1), .second, .val (.int p1), .val (.int p2)] [(.int (((q1.toUInt64 >>> (((8 : Int32) * p1) &&& 0x3f).toInt64.toUInt64).toInt64).toInt32))])) _
    refine XS.iloadN X0.here hx rfl (hb hby d_method_2_code_7) rfl ?_
    show Steps p.tables e below (s₁.setTop (mkF m 8 #[.val (.long q1), .second, .val (.int p1), .val (.int p2)] [(.int p2), (.int (((q1.toUInt64 >>> (((8 : Int32) * p1) &&& 0x3f).toInt64.toUInt64).toInt64).toInt32))])) _
    refine XS.ixor X0.here hx rfl (hb hby d_method_2_code_8) rfl ?_
    show Steps p.tables e below (s₁.setTop (mkF m 9 #[.val (.long q1), .second, .val (.int p1), .val (.int p2)] [(.int ((((q1.toUInt64 >>> (((8 : Int32) * p1) &&& 0x3f).toInt64.toUInt64).toInt64).toInt32) ^^^ p2))])) _
    refine XS.sipush X0.here hx rfl (hb hby d_method_2_code_9) ?_
    show Steps p.tables e below (s₁.setTop (mkF m 12 #[.val (.long q1), .second, .val (.int p1), .val (.int p2)] [(.int (255 : Int32)), (.int ((((q1.toUInt64 >>> (((8 : Int32) * p1) &&& 0x3f).toInt64.toUInt64).toInt64).toInt32) ^^^ p2))])) _
    refine XS.iand X0.here hx rfl (hb hby d_method_2_code_12) rfl ?_
    show Steps p.tables e below (s₁.setTop (mkF m 13 #[.val (.long q1), .second, .val (.int p1), .val (.int p2)] [(.int (((((q1.toUInt64 >>> (((8 : Int32) * p1) &&& 0x3f).toInt64.toUInt64).toInt64).toInt32) ^^^ p2) &&& (255 : Int32)))])) _
    refine XS.i2c X0.here hx rfl (hb hby d_method_2_code_13) rfl ?_
    show Steps p.tables e below (s₁.setTop (mkF m 14 #[.val (.long q1), .second, .val (.int p1), .val (.int p2)] [(.int ((((((q1.toUInt64 >>> (((8 : Int32) * p1) &&& 0x3f).toInt64.toUInt64).toInt64).toInt32) ^^^ p2) &&& (255 : Int32)).toUInt32.toUInt16.toUInt32.toInt32))])) _
    exact retN X0 hx (t := .char) Bd.returns (by simp) (hb hby d_method_2_code_14) hr51
  · show Q_at q1 p1 p2 h0 n0 _ s₁.heap _
    rw [e0]
    exact ⟨rfl, N0, rfl⟩

def own_cs (p1 c0 c1 c2 c3 c4 c5 c6 : Int32) : List Int32 := if p1 = (0 : Int32) then [] else if p1 = (1 : Int32) then [nar .char c0] else if p1 = (2 : Int32) then [nar .char c0, nar .char c1] else if p1 = (3 : Int32) then [nar .char c0, nar .char c1, nar .char c2] else if p1 = (4 : Int32) then [nar .char c0, nar .char c1, nar .char c2, nar .char c3] else if p1 = (5 : Int32) then [nar .char c0, nar .char c1, nar .char c2, nar .char c3, nar .char c4] else if p1 = (6 : Int32) then [nar .char c0, nar .char c1, nar .char c2, nar .char c3, nar .char c4, nar .char c5] else [nar .char c0, nar .char c1, nar .char c2, nar .char c3, nar .char c4, nar .char c5, nar .char c6]

theorem own_nar {c : Int32} (h : ¬ c < 0 ∧ ¬ (255 : Int32) < c) : nar .char c = c := by
  have h1 : 0 ≤ c.toInt := by have := h.1; rw [Int32.lt_iff_toInt_lt] at this; have e : (0 : Int32).toInt = 0 := rfl; omega
  have h2 : c.toInt ≤ 255 := by have := h.2; rw [Int32.lt_iff_toInt_lt] at this; have e : (255 : Int32).toInt = 255 := rfl; omega
  have t : ∀ k : Fin 256, nar .char (Int32.ofNat k.val) = Int32.ofNat k.val := by decide +kernel
  have e : c = Int32.ofNat c.toInt.toNat := by
    apply Int32.toInt_inj.mp
    rw [Int32.toInt_ofNat_small (by omega)]; omega
  rw [e]
  exact t ⟨c.toInt.toNat, by omega⟩

theorem d_method_3_code_0 : decode method_3_code 0 = .ok (.iload_n 0, 1) := by decide +kernel
theorem d_method_3_code_1 : decode method_3_code 1 = .ok (.ifCond .ne 14, 3) := by decide +kernel
theorem d_method_3_code_4 : decode method_3_code 4 = .ok (.new 7, 3) := by decide +kernel
theorem d_method_3_code_7 : decode method_3_code 7 = .ok (.dup, 1) := by decide +kernel
theorem d_method_3_code_8 : decode method_3_code 8 = .ok (.iconst 0, 1) := by decide +kernel
theorem d_method_3_code_9 : decode method_3_code 9 = .ok (.newarray .char, 2) := by decide +kernel
theorem d_method_3_code_11 : decode method_3_code 11 = .ok (.invokespecial 9, 3) := by decide +kernel
theorem pd__28_5bC_29V : parseMethodDescriptor "([C)V" = some ⟨[(.array .char)], none⟩ := by decide +kernel
theorem d_method_3_code_14 : decode method_3_code 14 = .ok (.areturn, 1) := by decide +kernel
theorem d_method_3_code_15 : decode method_3_code 15 = .ok (.iload_n 0, 1) := by decide +kernel
theorem d_method_3_code_16 : decode method_3_code 16 = .ok (.iconst 1, 1) := by decide +kernel
theorem d_method_3_code_17 : decode method_3_code 17 = .ok (.if_icmp .ne 20, 3) := by decide +kernel
theorem d_method_3_code_20 : decode method_3_code 20 = .ok (.new 7, 3) := by decide +kernel
theorem d_method_3_code_23 : decode method_3_code 23 = .ok (.dup, 1) := by decide +kernel
theorem d_method_3_code_24 : decode method_3_code 24 = .ok (.iconst 1, 1) := by decide +kernel
theorem d_method_3_code_25 : decode method_3_code 25 = .ok (.newarray .char, 2) := by decide +kernel
theorem d_method_3_code_27 : decode method_3_code 27 = .ok (.dup, 1) := by decide +kernel
theorem d_method_3_code_28 : decode method_3_code 28 = .ok (.iconst 0, 1) := by decide +kernel
theorem d_method_3_code_29 : decode method_3_code 29 = .ok (.aload_n 1, 1) := by decide +kernel
theorem d_method_3_code_30 : decode method_3_code 30 = .ok (.iconst 0, 1) := by decide +kernel
theorem d_method_3_code_31 : decode method_3_code 31 = .ok (.caload, 1) := by decide +kernel
theorem d_method_3_code_32 : decode method_3_code 32 = .ok (.castore, 1) := by decide +kernel
theorem d_method_3_code_33 : decode method_3_code 33 = .ok (.invokespecial 9, 3) := by decide +kernel
theorem d_method_3_code_36 : decode method_3_code 36 = .ok (.areturn, 1) := by decide +kernel
theorem d_method_3_code_37 : decode method_3_code 37 = .ok (.iload_n 0, 1) := by decide +kernel
theorem d_method_3_code_38 : decode method_3_code 38 = .ok (.iconst 2, 1) := by decide +kernel
theorem d_method_3_code_39 : decode method_3_code 39 = .ok (.if_icmp .ne 26, 3) := by decide +kernel
theorem d_method_3_code_42 : decode method_3_code 42 = .ok (.new 7, 3) := by decide +kernel
theorem d_method_3_code_45 : decode method_3_code 45 = .ok (.dup, 1) := by decide +kernel
theorem d_method_3_code_46 : decode method_3_code 46 = .ok (.iconst 2, 1) := by decide +kernel
theorem d_method_3_code_47 : decode method_3_code 47 = .ok (.newarray .char, 2) := by decide +kernel
theorem d_method_3_code_49 : decode method_3_code 49 = .ok (.dup, 1) := by decide +kernel
theorem d_method_3_code_50 : decode method_3_code 50 = .ok (.iconst 0, 1) := by decide +kernel
theorem d_method_3_code_51 : decode method_3_code 51 = .ok (.aload_n 1, 1) := by decide +kernel
theorem d_method_3_code_52 : decode method_3_code 52 = .ok (.iconst 0, 1) := by decide +kernel
theorem d_method_3_code_53 : decode method_3_code 53 = .ok (.caload, 1) := by decide +kernel
theorem d_method_3_code_54 : decode method_3_code 54 = .ok (.castore, 1) := by decide +kernel
theorem d_method_3_code_55 : decode method_3_code 55 = .ok (.dup, 1) := by decide +kernel
theorem d_method_3_code_56 : decode method_3_code 56 = .ok (.iconst 1, 1) := by decide +kernel
theorem d_method_3_code_57 : decode method_3_code 57 = .ok (.aload_n 1, 1) := by decide +kernel
theorem d_method_3_code_58 : decode method_3_code 58 = .ok (.iconst 1, 1) := by decide +kernel
theorem d_method_3_code_59 : decode method_3_code 59 = .ok (.caload, 1) := by decide +kernel
theorem d_method_3_code_60 : decode method_3_code 60 = .ok (.castore, 1) := by decide +kernel
theorem d_method_3_code_61 : decode method_3_code 61 = .ok (.invokespecial 9, 3) := by decide +kernel
theorem d_method_3_code_64 : decode method_3_code 64 = .ok (.areturn, 1) := by decide +kernel
theorem d_method_3_code_65 : decode method_3_code 65 = .ok (.iload_n 0, 1) := by decide +kernel
theorem d_method_3_code_66 : decode method_3_code 66 = .ok (.iconst 3, 1) := by decide +kernel
theorem d_method_3_code_67 : decode method_3_code 67 = .ok (.if_icmp .ne 32, 3) := by decide +kernel
theorem d_method_3_code_70 : decode method_3_code 70 = .ok (.new 7, 3) := by decide +kernel
theorem d_method_3_code_73 : decode method_3_code 73 = .ok (.dup, 1) := by decide +kernel
theorem d_method_3_code_74 : decode method_3_code 74 = .ok (.iconst 3, 1) := by decide +kernel
theorem d_method_3_code_75 : decode method_3_code 75 = .ok (.newarray .char, 2) := by decide +kernel
theorem d_method_3_code_77 : decode method_3_code 77 = .ok (.dup, 1) := by decide +kernel
theorem d_method_3_code_78 : decode method_3_code 78 = .ok (.iconst 0, 1) := by decide +kernel
theorem d_method_3_code_79 : decode method_3_code 79 = .ok (.aload_n 1, 1) := by decide +kernel
theorem d_method_3_code_80 : decode method_3_code 80 = .ok (.iconst 0, 1) := by decide +kernel
theorem d_method_3_code_81 : decode method_3_code 81 = .ok (.caload, 1) := by decide +kernel
theorem d_method_3_code_82 : decode method_3_code 82 = .ok (.castore, 1) := by decide +kernel
theorem d_method_3_code_83 : decode method_3_code 83 = .ok (.dup, 1) := by decide +kernel
theorem d_method_3_code_84 : decode method_3_code 84 = .ok (.iconst 1, 1) := by decide +kernel
theorem d_method_3_code_85 : decode method_3_code 85 = .ok (.aload_n 1, 1) := by decide +kernel
theorem d_method_3_code_86 : decode method_3_code 86 = .ok (.iconst 1, 1) := by decide +kernel
theorem d_method_3_code_87 : decode method_3_code 87 = .ok (.caload, 1) := by decide +kernel
theorem d_method_3_code_88 : decode method_3_code 88 = .ok (.castore, 1) := by decide +kernel
theorem d_method_3_code_89 : decode method_3_code 89 = .ok (.dup, 1) := by decide +kernel
theorem d_method_3_code_90 : decode method_3_code 90 = .ok (.iconst 2, 1) := by decide +kernel
theorem d_method_3_code_91 : decode method_3_code 91 = .ok (.aload_n 1, 1) := by decide +kernel
theorem d_method_3_code_92 : decode method_3_code 92 = .ok (.iconst 2, 1) := by decide +kernel
theorem d_method_3_code_93 : decode method_3_code 93 = .ok (.caload, 1) := by decide +kernel
theorem d_method_3_code_94 : decode method_3_code 94 = .ok (.castore, 1) := by decide +kernel
theorem d_method_3_code_95 : decode method_3_code 95 = .ok (.invokespecial 9, 3) := by decide +kernel
theorem d_method_3_code_98 : decode method_3_code 98 = .ok (.areturn, 1) := by decide +kernel
theorem d_method_3_code_99 : decode method_3_code 99 = .ok (.iload_n 0, 1) := by decide +kernel
theorem d_method_3_code_100 : decode method_3_code 100 = .ok (.iconst 4, 1) := by decide +kernel
theorem d_method_3_code_101 : decode method_3_code 101 = .ok (.if_icmp .ne 38, 3) := by decide +kernel
theorem d_method_3_code_104 : decode method_3_code 104 = .ok (.new 7, 3) := by decide +kernel
theorem d_method_3_code_107 : decode method_3_code 107 = .ok (.dup, 1) := by decide +kernel
theorem d_method_3_code_108 : decode method_3_code 108 = .ok (.iconst 4, 1) := by decide +kernel
theorem d_method_3_code_109 : decode method_3_code 109 = .ok (.newarray .char, 2) := by decide +kernel
theorem d_method_3_code_111 : decode method_3_code 111 = .ok (.dup, 1) := by decide +kernel
theorem d_method_3_code_112 : decode method_3_code 112 = .ok (.iconst 0, 1) := by decide +kernel
theorem d_method_3_code_113 : decode method_3_code 113 = .ok (.aload_n 1, 1) := by decide +kernel
theorem d_method_3_code_114 : decode method_3_code 114 = .ok (.iconst 0, 1) := by decide +kernel
theorem d_method_3_code_115 : decode method_3_code 115 = .ok (.caload, 1) := by decide +kernel
theorem d_method_3_code_116 : decode method_3_code 116 = .ok (.castore, 1) := by decide +kernel
theorem d_method_3_code_117 : decode method_3_code 117 = .ok (.dup, 1) := by decide +kernel
theorem d_method_3_code_118 : decode method_3_code 118 = .ok (.iconst 1, 1) := by decide +kernel
theorem d_method_3_code_119 : decode method_3_code 119 = .ok (.aload_n 1, 1) := by decide +kernel
theorem d_method_3_code_120 : decode method_3_code 120 = .ok (.iconst 1, 1) := by decide +kernel
theorem d_method_3_code_121 : decode method_3_code 121 = .ok (.caload, 1) := by decide +kernel
theorem d_method_3_code_122 : decode method_3_code 122 = .ok (.castore, 1) := by decide +kernel
theorem d_method_3_code_123 : decode method_3_code 123 = .ok (.dup, 1) := by decide +kernel
theorem d_method_3_code_124 : decode method_3_code 124 = .ok (.iconst 2, 1) := by decide +kernel
theorem d_method_3_code_125 : decode method_3_code 125 = .ok (.aload_n 1, 1) := by decide +kernel
theorem d_method_3_code_126 : decode method_3_code 126 = .ok (.iconst 2, 1) := by decide +kernel
theorem d_method_3_code_127 : decode method_3_code 127 = .ok (.caload, 1) := by decide +kernel
theorem d_method_3_code_128 : decode method_3_code 128 = .ok (.castore, 1) := by decide +kernel
theorem d_method_3_code_129 : decode method_3_code 129 = .ok (.dup, 1) := by decide +kernel
theorem d_method_3_code_130 : decode method_3_code 130 = .ok (.iconst 3, 1) := by decide +kernel
theorem d_method_3_code_131 : decode method_3_code 131 = .ok (.aload_n 1, 1) := by decide +kernel
theorem d_method_3_code_132 : decode method_3_code 132 = .ok (.iconst 3, 1) := by decide +kernel
theorem d_method_3_code_133 : decode method_3_code 133 = .ok (.caload, 1) := by decide +kernel
theorem d_method_3_code_134 : decode method_3_code 134 = .ok (.castore, 1) := by decide +kernel
theorem d_method_3_code_135 : decode method_3_code 135 = .ok (.invokespecial 9, 3) := by decide +kernel
theorem d_method_3_code_138 : decode method_3_code 138 = .ok (.areturn, 1) := by decide +kernel
theorem d_method_3_code_139 : decode method_3_code 139 = .ok (.iload_n 0, 1) := by decide +kernel
theorem d_method_3_code_140 : decode method_3_code 140 = .ok (.iconst 5, 1) := by decide +kernel
theorem d_method_3_code_141 : decode method_3_code 141 = .ok (.if_icmp .ne 44, 3) := by decide +kernel
theorem d_method_3_code_144 : decode method_3_code 144 = .ok (.new 7, 3) := by decide +kernel
theorem d_method_3_code_147 : decode method_3_code 147 = .ok (.dup, 1) := by decide +kernel
theorem d_method_3_code_148 : decode method_3_code 148 = .ok (.iconst 5, 1) := by decide +kernel
theorem d_method_3_code_149 : decode method_3_code 149 = .ok (.newarray .char, 2) := by decide +kernel
theorem d_method_3_code_151 : decode method_3_code 151 = .ok (.dup, 1) := by decide +kernel
theorem d_method_3_code_152 : decode method_3_code 152 = .ok (.iconst 0, 1) := by decide +kernel
theorem d_method_3_code_153 : decode method_3_code 153 = .ok (.aload_n 1, 1) := by decide +kernel
theorem d_method_3_code_154 : decode method_3_code 154 = .ok (.iconst 0, 1) := by decide +kernel
theorem d_method_3_code_155 : decode method_3_code 155 = .ok (.caload, 1) := by decide +kernel
theorem d_method_3_code_156 : decode method_3_code 156 = .ok (.castore, 1) := by decide +kernel
theorem d_method_3_code_157 : decode method_3_code 157 = .ok (.dup, 1) := by decide +kernel
theorem d_method_3_code_158 : decode method_3_code 158 = .ok (.iconst 1, 1) := by decide +kernel
theorem d_method_3_code_159 : decode method_3_code 159 = .ok (.aload_n 1, 1) := by decide +kernel
theorem d_method_3_code_160 : decode method_3_code 160 = .ok (.iconst 1, 1) := by decide +kernel
theorem d_method_3_code_161 : decode method_3_code 161 = .ok (.caload, 1) := by decide +kernel
theorem d_method_3_code_162 : decode method_3_code 162 = .ok (.castore, 1) := by decide +kernel
theorem d_method_3_code_163 : decode method_3_code 163 = .ok (.dup, 1) := by decide +kernel
theorem d_method_3_code_164 : decode method_3_code 164 = .ok (.iconst 2, 1) := by decide +kernel
theorem d_method_3_code_165 : decode method_3_code 165 = .ok (.aload_n 1, 1) := by decide +kernel
theorem d_method_3_code_166 : decode method_3_code 166 = .ok (.iconst 2, 1) := by decide +kernel
theorem d_method_3_code_167 : decode method_3_code 167 = .ok (.caload, 1) := by decide +kernel
theorem d_method_3_code_168 : decode method_3_code 168 = .ok (.castore, 1) := by decide +kernel
theorem d_method_3_code_169 : decode method_3_code 169 = .ok (.dup, 1) := by decide +kernel
theorem d_method_3_code_170 : decode method_3_code 170 = .ok (.iconst 3, 1) := by decide +kernel
theorem d_method_3_code_171 : decode method_3_code 171 = .ok (.aload_n 1, 1) := by decide +kernel
theorem d_method_3_code_172 : decode method_3_code 172 = .ok (.iconst 3, 1) := by decide +kernel
theorem d_method_3_code_173 : decode method_3_code 173 = .ok (.caload, 1) := by decide +kernel
theorem d_method_3_code_174 : decode method_3_code 174 = .ok (.castore, 1) := by decide +kernel
theorem d_method_3_code_175 : decode method_3_code 175 = .ok (.dup, 1) := by decide +kernel
theorem d_method_3_code_176 : decode method_3_code 176 = .ok (.iconst 4, 1) := by decide +kernel
theorem d_method_3_code_177 : decode method_3_code 177 = .ok (.aload_n 1, 1) := by decide +kernel
theorem d_method_3_code_178 : decode method_3_code 178 = .ok (.iconst 4, 1) := by decide +kernel
theorem d_method_3_code_179 : decode method_3_code 179 = .ok (.caload, 1) := by decide +kernel
theorem d_method_3_code_180 : decode method_3_code 180 = .ok (.castore, 1) := by decide +kernel
theorem d_method_3_code_181 : decode method_3_code 181 = .ok (.invokespecial 9, 3) := by decide +kernel
theorem d_method_3_code_184 : decode method_3_code 184 = .ok (.areturn, 1) := by decide +kernel
theorem d_method_3_code_185 : decode method_3_code 185 = .ok (.iload_n 0, 1) := by decide +kernel
theorem d_method_3_code_186 : decode method_3_code 186 = .ok (.bipush 6, 2) := by decide +kernel
theorem d_method_3_code_188 : decode method_3_code 188 = .ok (.if_icmp .ne 51, 3) := by decide +kernel
theorem d_method_3_code_191 : decode method_3_code 191 = .ok (.new 7, 3) := by decide +kernel
theorem d_method_3_code_194 : decode method_3_code 194 = .ok (.dup, 1) := by decide +kernel
theorem d_method_3_code_195 : decode method_3_code 195 = .ok (.bipush 6, 2) := by decide +kernel
theorem d_method_3_code_197 : decode method_3_code 197 = .ok (.newarray .char, 2) := by decide +kernel
theorem d_method_3_code_199 : decode method_3_code 199 = .ok (.dup, 1) := by decide +kernel
theorem d_method_3_code_200 : decode method_3_code 200 = .ok (.iconst 0, 1) := by decide +kernel
theorem d_method_3_code_201 : decode method_3_code 201 = .ok (.aload_n 1, 1) := by decide +kernel
theorem d_method_3_code_202 : decode method_3_code 202 = .ok (.iconst 0, 1) := by decide +kernel
theorem d_method_3_code_203 : decode method_3_code 203 = .ok (.caload, 1) := by decide +kernel
theorem d_method_3_code_204 : decode method_3_code 204 = .ok (.castore, 1) := by decide +kernel
theorem d_method_3_code_205 : decode method_3_code 205 = .ok (.dup, 1) := by decide +kernel
theorem d_method_3_code_206 : decode method_3_code 206 = .ok (.iconst 1, 1) := by decide +kernel
theorem d_method_3_code_207 : decode method_3_code 207 = .ok (.aload_n 1, 1) := by decide +kernel
theorem d_method_3_code_208 : decode method_3_code 208 = .ok (.iconst 1, 1) := by decide +kernel
theorem d_method_3_code_209 : decode method_3_code 209 = .ok (.caload, 1) := by decide +kernel
theorem d_method_3_code_210 : decode method_3_code 210 = .ok (.castore, 1) := by decide +kernel
theorem d_method_3_code_211 : decode method_3_code 211 = .ok (.dup, 1) := by decide +kernel
theorem d_method_3_code_212 : decode method_3_code 212 = .ok (.iconst 2, 1) := by decide +kernel
theorem d_method_3_code_213 : decode method_3_code 213 = .ok (.aload_n 1, 1) := by decide +kernel
theorem d_method_3_code_214 : decode method_3_code 214 = .ok (.iconst 2, 1) := by decide +kernel
theorem d_method_3_code_215 : decode method_3_code 215 = .ok (.caload, 1) := by decide +kernel
theorem d_method_3_code_216 : decode method_3_code 216 = .ok (.castore, 1) := by decide +kernel
theorem d_method_3_code_217 : decode method_3_code 217 = .ok (.dup, 1) := by decide +kernel
theorem d_method_3_code_218 : decode method_3_code 218 = .ok (.iconst 3, 1) := by decide +kernel
theorem d_method_3_code_219 : decode method_3_code 219 = .ok (.aload_n 1, 1) := by decide +kernel
theorem d_method_3_code_220 : decode method_3_code 220 = .ok (.iconst 3, 1) := by decide +kernel
theorem d_method_3_code_221 : decode method_3_code 221 = .ok (.caload, 1) := by decide +kernel
theorem d_method_3_code_222 : decode method_3_code 222 = .ok (.castore, 1) := by decide +kernel
theorem d_method_3_code_223 : decode method_3_code 223 = .ok (.dup, 1) := by decide +kernel
theorem d_method_3_code_224 : decode method_3_code 224 = .ok (.iconst 4, 1) := by decide +kernel
theorem d_method_3_code_225 : decode method_3_code 225 = .ok (.aload_n 1, 1) := by decide +kernel
theorem d_method_3_code_226 : decode method_3_code 226 = .ok (.iconst 4, 1) := by decide +kernel
theorem d_method_3_code_227 : decode method_3_code 227 = .ok (.caload, 1) := by decide +kernel
theorem d_method_3_code_228 : decode method_3_code 228 = .ok (.castore, 1) := by decide +kernel
theorem d_method_3_code_229 : decode method_3_code 229 = .ok (.dup, 1) := by decide +kernel
theorem d_method_3_code_230 : decode method_3_code 230 = .ok (.iconst 5, 1) := by decide +kernel
theorem d_method_3_code_231 : decode method_3_code 231 = .ok (.aload_n 1, 1) := by decide +kernel
theorem d_method_3_code_232 : decode method_3_code 232 = .ok (.iconst 5, 1) := by decide +kernel
theorem d_method_3_code_233 : decode method_3_code 233 = .ok (.caload, 1) := by decide +kernel
theorem d_method_3_code_234 : decode method_3_code 234 = .ok (.castore, 1) := by decide +kernel
theorem d_method_3_code_235 : decode method_3_code 235 = .ok (.invokespecial 9, 3) := by decide +kernel
theorem d_method_3_code_238 : decode method_3_code 238 = .ok (.areturn, 1) := by decide +kernel
theorem d_method_3_code_239 : decode method_3_code 239 = .ok (.new 7, 3) := by decide +kernel
theorem d_method_3_code_242 : decode method_3_code 242 = .ok (.dup, 1) := by decide +kernel
theorem d_method_3_code_243 : decode method_3_code 243 = .ok (.bipush 7, 2) := by decide +kernel
theorem d_method_3_code_245 : decode method_3_code 245 = .ok (.newarray .char, 2) := by decide +kernel
theorem d_method_3_code_247 : decode method_3_code 247 = .ok (.dup, 1) := by decide +kernel
theorem d_method_3_code_248 : decode method_3_code 248 = .ok (.iconst 0, 1) := by decide +kernel
theorem d_method_3_code_249 : decode method_3_code 249 = .ok (.aload_n 1, 1) := by decide +kernel
theorem d_method_3_code_250 : decode method_3_code 250 = .ok (.iconst 0, 1) := by decide +kernel
theorem d_method_3_code_251 : decode method_3_code 251 = .ok (.caload, 1) := by decide +kernel
theorem d_method_3_code_252 : decode method_3_code 252 = .ok (.castore, 1) := by decide +kernel
theorem d_method_3_code_253 : decode method_3_code 253 = .ok (.dup, 1) := by decide +kernel
theorem d_method_3_code_254 : decode method_3_code 254 = .ok (.iconst 1, 1) := by decide +kernel
theorem d_method_3_code_255 : decode method_3_code 255 = .ok (.aload_n 1, 1) := by decide +kernel
theorem d_method_3_code_256 : decode method_3_code 256 = .ok (.iconst 1, 1) := by decide +kernel
theorem d_method_3_code_257 : decode method_3_code 257 = .ok (.caload, 1) := by decide +kernel
theorem d_method_3_code_258 : decode method_3_code 258 = .ok (.castore, 1) := by decide +kernel
theorem d_method_3_code_259 : decode method_3_code 259 = .ok (.dup, 1) := by decide +kernel
theorem d_method_3_code_260 : decode method_3_code 260 = .ok (.iconst 2, 1) := by decide +kernel
theorem d_method_3_code_261 : decode method_3_code 261 = .ok (.aload_n 1, 1) := by decide +kernel
theorem d_method_3_code_262 : decode method_3_code 262 = .ok (.iconst 2, 1) := by decide +kernel
theorem d_method_3_code_263 : decode method_3_code 263 = .ok (.caload, 1) := by decide +kernel
theorem d_method_3_code_264 : decode method_3_code 264 = .ok (.castore, 1) := by decide +kernel
theorem d_method_3_code_265 : decode method_3_code 265 = .ok (.dup, 1) := by decide +kernel
theorem d_method_3_code_266 : decode method_3_code 266 = .ok (.iconst 3, 1) := by decide +kernel
theorem d_method_3_code_267 : decode method_3_code 267 = .ok (.aload_n 1, 1) := by decide +kernel
theorem d_method_3_code_268 : decode method_3_code 268 = .ok (.iconst 3, 1) := by decide +kernel
theorem d_method_3_code_269 : decode method_3_code 269 = .ok (.caload, 1) := by decide +kernel
theorem d_method_3_code_270 : decode method_3_code 270 = .ok (.castore, 1) := by decide +kernel
theorem d_method_3_code_271 : decode method_3_code 271 = .ok (.dup, 1) := by decide +kernel
theorem d_method_3_code_272 : decode method_3_code 272 = .ok (.iconst 4, 1) := by decide +kernel
theorem d_method_3_code_273 : decode method_3_code 273 = .ok (.aload_n 1, 1) := by decide +kernel
theorem d_method_3_code_274 : decode method_3_code 274 = .ok (.iconst 4, 1) := by decide +kernel
theorem d_method_3_code_275 : decode method_3_code 275 = .ok (.caload, 1) := by decide +kernel
theorem d_method_3_code_276 : decode method_3_code 276 = .ok (.castore, 1) := by decide +kernel
theorem d_method_3_code_277 : decode method_3_code 277 = .ok (.dup, 1) := by decide +kernel
theorem d_method_3_code_278 : decode method_3_code 278 = .ok (.iconst 5, 1) := by decide +kernel
theorem d_method_3_code_279 : decode method_3_code 279 = .ok (.aload_n 1, 1) := by decide +kernel
theorem d_method_3_code_280 : decode method_3_code 280 = .ok (.iconst 5, 1) := by decide +kernel
theorem d_method_3_code_281 : decode method_3_code 281 = .ok (.caload, 1) := by decide +kernel
theorem d_method_3_code_282 : decode method_3_code 282 = .ok (.castore, 1) := by decide +kernel
theorem d_method_3_code_283 : decode method_3_code 283 = .ok (.dup, 1) := by decide +kernel
theorem d_method_3_code_284 : decode method_3_code 284 = .ok (.bipush 6, 2) := by decide +kernel
theorem d_method_3_code_286 : decode method_3_code 286 = .ok (.aload_n 1, 1) := by decide +kernel
theorem d_method_3_code_287 : decode method_3_code 287 = .ok (.bipush 6, 2) := by decide +kernel
theorem d_method_3_code_289 : decode method_3_code 289 = .ok (.caload, 1) := by decide +kernel
theorem d_method_3_code_290 : decode method_3_code 290 = .ok (.castore, 1) := by decide +kernel
theorem d_method_3_code_291 : decode method_3_code 291 = .ok (.invokespecial 9, 3) := by decide +kernel
theorem d_method_3_code_294 : decode method_3_code 294 = .ok (.areturn, 1) := by decide +kernel
theorem ef_make (m : MethodId) (x0 : Int32) (x1 : Addr) : entryFrame m #[(.int x0), (.ref x1)] 2 = mkF m 0 #[.val (.int x0), .val (.ref x1)] [] := by (first | (simp [entryFrame, mkF, argsToLocals, Value.category]; done) | rfl)
def Q_make (Z : State) (p1 : Int32) (c0 c1 c2 c3 c4 c5 c6 : Int32) (h0 : Heap) (n0 : Nat) (v : Option Value) (h : Heap) (L : List Loc) : Prop := ∃ (a t : Addr) (k : ClassId) (cs : List Int32), cs = own_cs p1 c0 c1 c2 c3 c4 c5 c6 ∧ v = some (.ref a) ∧ Fr n0 L ∧ h0.size ≤ a ∧ Keep h0 h [] ∧ Exa Z h a "java/lang/String" ∧ Fld Z h a "java/lang/String" "value" "[B" (.ref t) ∧ Fld Z h a "java/lang/String" "coder" "B" (.int 0) ∧ Arv Z h t k .byte (Int32.ofNat cs.length) ((cs.map (fun c => c.toInt8.toInt32)).map Value.int) (.int 0) ∧ cs.length ≤ 7 ∧ ∀ c ∈ cs, ¬ c < 0 ∧ ¬ (255 : Int32) < c
set_option maxRecDepth 65536 in
set_option maxHeartbeats 40000000 in
theorem rm_make (l : Launch) (Z : State) (a0 : Array Value) (hw : ∀ d ∈ tables_1, d.before a0 Z = true) (ws : List Jvm.Cond) (p1 : Int32) (b1 : Addr) (kb : ClassId) (c0 c1 c2 c3 c4 c5 c6 : Int32) (G1 : Int32) (h0 : Heap) (n0 : Nat) (Z0 : n0 ≤ h0.size) (Sg : Sta Z Z.heap "java/lang/String" "COMPACT_STRINGS" "Z" (.int G1)) (P5 : ¬ (G1 = (0 : Int32))) (hbb : ∀ c ∈ ([c0, c1, c2, c3, c4, c5, c6] : List Int32), ¬ c < 0 ∧ ¬ (255 : Int32) < c) (Ab : Arv Z h0 b1 kb .char (7 : Int32) [(.int c0), (.int c1), (.int c2), (.int c3), (.int c4), (.int c5), (.int c6)] (.int (0 : Int32))) (Ol : Old Z n0 h0) :
    MetFree l (⟨"com/example/vervet/vervet/engine/RulesMayJoinPinLaw", "make", "(I[C)Ljava/lang/String;"⟩ : MethodName) (head1 (Jvm.Cond.code (⟨"com/example/vervet/vervet/engine/RulesMayJoinPinLaw", "make", "(I[C)Ljava/lang/String;"⟩ : MethodName) method_3_code 2 (some (.object "java/lang/String")) :: ws) ({ frames := 4, cells := 6, slots := 18, locals := 66 } : Room)) (fun a U => a = #[(.int p1), (.ref b1)] ∧ Z.Warmed39 U.vm ∧ U.heap = h0 ∧ CHv Z own_EL U.vm h0) (fun _ _ _ _ _ => True) (fun _ U o U' => ∃ v L, o = .returned v ∧ Q_make Z p1 c0 c1 c2 c3 c4 c5 c6 h0 n0 v U'.heap L ∧ CHr Z own_EL U.vm U.heap U'.vm U'.heap ∧ ReturnedEndW U o U' L ({ frames := 4, cells := 6, slots := 18, locals := 66 } : Room).cells ({ frames := 4, cells := 6, slots := 18, locals := 66 } : Room).slots) := by
  refine MetFree.of_bodySF (plainFor_of_name pn_com_example_vervet_vervet_engine_RulesMayJoinPinLaw) hisR ?_
  intro p e s m args below meth c s₁ Bd hml0 hP hK
  obtain ⟨rfl, hZ, hh, hCH0⟩ := hP
  have hx := Bd.exec
  have hby := Bd.bytes
  have hml : c.maxLocals = 2 := hml0
  have hown : s.vm.findClass "com/example/vervet/vervet/engine/RulesMayJoinPinLaw" = some m.cls := findClass_of_methodNamed Bd.named
  have hnm := (name_of_methodNamed Bd.named Bd.method).1
  have X0 : Stand p l e ({ frames := 4, cells := 6, slots := 18, locals := 66 } : Room) (s.setVm s.vm) m #[(.int p1), (.ref b1)] below meth c s₁ [] 0 0 := Stand.of_body Bd
  have e0 : s₁.heap = h0 := by rw [← hh, Bd.state]; rfl
  have N0 := Fr.nil n0
  have pre0 : ∀ t, Steps p.tables e below (s₁.setTop (mkF m 0 #[.val (.int p1), .val (.ref b1)] [])) t → Steps p.tables e below (s₁.setTop (entryFrame m #[(.int p1), (.ref b1)] 2)) t := fun t k => castTop (ef_make m p1 b1) k
  have P0 : ∀ t, Steps p.tables e below (s₁.setTop (mkF m 0 #[.val (.int p1), .val (.ref b1)] [])) t → Steps p.tables e below (s₁.setTop (mkF m 0 #[.val (.int p1), .val (.ref b1)] [])) t := fun t k => k
  have hS0 : s.Since s.vm h0.size := (State.WarmedH.refl s).since _
  have hCR0 : CHr Z own_EL s.vm h0 s.vm h0 := CHr.refl hCH0
  have hc0 : ¬ c0 < 0 ∧ ¬ (255 : Int32) < c0 := hbb c0 (by simp)
  have hc1 : ¬ c1 < 0 ∧ ¬ (255 : Int32) < c1 := hbb c1 (by simp)
  have hc2 : ¬ c2 < 0 ∧ ¬ (255 : Int32) < c2 := hbb c2 (by simp)
  have hc3 : ¬ c3 < 0 ∧ ¬ (255 : Int32) < c3 := hbb c3 (by simp)
  have hc4 : ¬ c4 < 0 ∧ ¬ (255 : Int32) < c4 := hbb c4 (by simp)
  have hc5 : ¬ c5 < 0 ∧ ¬ (255 : Int32) < c5 := hbb c5 (by simp)
  have hc6 : ¬ c6 < 0 ∧ ¬ (255 : Int32) < c6 := hbb c6 (by simp)
  have gc0 : ¬ nar .char c0 < 0 ∧ ¬ (255 : Int32) < nar .char c0 := by rw [own_nar hc0]; exact hc0
  have gc1 : ¬ nar .char c1 < 0 ∧ ¬ (255 : Int32) < nar .char c1 := by rw [own_nar hc1]; exact hc1
  have gc2 : ¬ nar .char c2 < 0 ∧ ¬ (255 : Int32) < nar .char c2 := by rw [own_nar hc2]; exact hc2
  have gc3 : ¬ nar .char c3 < 0 ∧ ¬ (255 : Int32) < nar .char c3 := by rw [own_nar hc3]; exact hc3
  have gc4 : ¬ nar .char c4 < 0 ∧ ¬ (255 : Int32) < nar .char c4 := by rw [own_nar hc4]; exact hc4
  have gc5 : ¬ nar .char c5 < 0 ∧ ¬ (255 : Int32) < nar .char c5 := by rw [own_nar hc5]; exact hc5
  have gc6 : ¬ nar .char c6 < 0 ∧ ¬ (255 : Int32) < nar .char c6 := by rw [own_nar hc6]; exact hc6
  by_cases q52 : p1 = (0 : Int32)
  · skip
    obtain ⟨T53, h53, X53, e53, E53, A53, D53, -, st53⟩ := newO X0 hx hZ hown (hw _ (List.mem_of_getElem? (i := 8) rfl)) (hw _ (List.mem_of_getElem? (i := 9) rfl)) (hw _ (List.mem_of_getElem? (i := 10) rfl)) e0 (g := (mkF m 4 #[.val (.int p1), .val (.ref b1)] [])) rfl (hb hby d_method_3_code_4) (by decide) (by decide)
    obtain ⟨b53, g53⟩ : ∃ z, z = h0.size := ⟨_, rfl⟩
    rw [← g53] at A53 D53 st53
    have g_b53 : n0 ≤ b53 := Nat.le_trans Z0 (Nat.le_of_eq g53.symm)
    have sz_b53 : h0.size ≤ b53 := Nat.le_trans (Keep.refl h0 []).1 (Nat.le_of_eq g53.symm)
    have P54 : ∀ t, Steps p.tables e below (T53.setTop (mkF m 7 #[.val (.int p1), .val (.ref b1)] [(.ref b53)])) t → Steps p.tables e below (s₁.setTop (mkF m 0 #[.val (.int p1), .val (.ref b1)] [])) t := fun t k => P0 t (by
      refine XS.iloadN X0.here hx rfl (hb hby d_method_3_code_0) rfl ?_
      show Steps p.tables e below (s₁.setTop (mkF m 1 #[.val (.int p1), .val (.ref b1)] [(.int p1)])) _
      refine XS.ifNo X0.here hx rfl (hb hby d_method_3_code_1) rfl ((if0 _ _).trans (teq (show p1 = (0 : Int32) from q52)).2) ?_
      show Steps p.tables e below (s₁.setTop (mkF m 4 #[.val (.int p1), .val (.ref b1)] [])) _
      exact st53 _ k)
    have Z55 : n0 ≤ h53.size := Nat.le_trans Z0 E53.1
    have K56 : Keep h0 h53 [] := (Keep.refl h0 []).ext E53
    have O57 : Old Z n0 h53 := Ol.ext E53
    have hk58 : h0.size ≤ h53.size := Nat.le_trans (Nat.le_refl _) E53.1
    have C59 : CHr Z own_EL s.vm h0 s.vm h53 := CHr.ext E53 hCH0
    have R60 : CHr Z own_EL s.vm h0 s.vm h53 := hCR0.trans C59
    have sf_b53 : Safe Z own_EL s.vm h53 b53 := Safe.ext E53 hCH0 (Safe.new (Nat.le_of_eq g53.symm))
    have f61 : Fld Z h53 b53 "java/lang/String" "value" "[B" .null := D53 (Or.inr (hw _ (List.mem_of_getElem? (i := 23) rfl))) (ty := (.array .byte)) (by decide)
    have f62 : Fld Z h53 b53 "java/lang/String" "coder" "B" (.int (0 : Int32)) := D53 (Or.inr (hw _ (List.mem_of_getElem? (i := 24) rfl))) (ty := .byte) (by decide)
    obtain ⟨T63, h63, k63, X63, e63, E63, A63, st63⟩ := newP X53 hx hZ (hw _ (List.mem_of_getElem? (i := 0) rfl)) e53 (g := (mkF m 9 #[.val (.int p1), .val (.ref b1)] [(.int (0 : Int32)), (.ref b53), (.ref b53)])) rfl (hb hby d_method_3_code_9) rfl (by decide) (cap := 0) (by decide) (by decide) (by decide) (by decide)
    obtain ⟨b63, g63⟩ : ∃ z, z = h53.size := ⟨_, rfl⟩
    rw [← g63] at A63 st63
    have g_b63 : n0 ≤ b63 := Nat.le_trans Z55 (Nat.le_of_eq g63.symm)
    have sz_b63 : h0.size ≤ b63 := Nat.le_trans K56.1 (Nat.le_of_eq g63.symm)
    have P64 : ∀ t, Steps p.tables e below (T63.setTop (mkF m 11 #[.val (.int p1), .val (.ref b1)] [(.ref b63), (.ref b53), (.ref b53)])) t → Steps p.tables e below (s₁.setTop (mkF m 0 #[.val (.int p1), .val (.ref b1)] [])) t := fun t k => P54 t (by
      show Steps p.tables e below (T53.setTop (mkF m 7 #[.val (.int p1), .val (.ref b1)] [(.ref b53)])) _
      refine XS.dup X53.here hx rfl (hb hby d_method_3_code_7) rfl rfl ?_
      show Steps p.tables e below (T53.setTop (mkF m 8 #[.val (.int p1), .val (.ref b1)] [(.ref b53), (.ref b53)])) _
      refine XS.iconst X53.here hx rfl (hb hby d_method_3_code_8) ?_
      show Steps p.tables e below (T53.setTop (mkF m 9 #[.val (.int p1), .val (.ref b1)] [(.int (0 : Int32)), (.ref b53), (.ref b53)])) _
      exact st63 _ k)
    have Z65 : n0 ≤ h63.size := Nat.le_trans Z55 E63.1
    have K66 : Keep h0 h63 [] := K56.ext E63
    have O67 : Old Z n0 h63 := O57.ext E63
    have hk68 : h0.size ≤ h63.size := Nat.le_trans hk58 E63.1
    have C69 : CHr Z own_EL s.vm h53 s.vm h63 := CHr.ext E63 C59.1
    have R70 : CHr Z own_EL s.vm h0 s.vm h63 := R60.trans C69
    have v71 : Arv Z h63 b63 k63 .char (0 : Int32) ([] : List Value) (.int (0 : Int32)) := Arv.new A63 (by decide)
    have f72 : Exa Z h63 b53 "java/lang/String" := (A53.ext E63)
    have f73 : Fld Z h63 b53 "java/lang/String" "value" "[B" .null := (f61.ext E63)
    have f74 : Fld Z h63 b53 "java/lang/String" "coder" "B" (.int (0 : Int32)) := (f62.ext E63)
    obtain ⟨_, _, ⟨T75, L75, k75, n75⟩, -, X75, hs75, hg75, ⟨Lc75, hQ75, l75, y75, z75, cr75⟩, st75⟩ := X63.specialBackS hx (y := (⟨"java/lang/String", "<init>", "([C)V"⟩ : MethodName)) rfl hown (mvT hZ (hw _ (List.mem_of_getElem? (i := 11) rfl))) (mvT hZ (hw _ (List.mem_of_getElem? (i := 12) rfl))) (mvT hZ (hw _ (List.mem_of_getElem? (i := 13) rfl))) (by decide) (backOfSH (W := 1) (rm_init1e l Z a0 hw [] b53 b63 k63 h63 n0 Z65 g_b53 f72 f73 f74 v71) hZ (hw _ (List.mem_of_getElem? (i := 13) rfl)) (hw _ (List.mem_of_getElem? (i := 10) rfl)) (by decide) (by decide) (own_EW hw) C69.1) (g := (mkF m 11 #[.val (.int p1), .val (.ref b1)] [(.ref b63), (.ref b53), (.ref b53)])) rfl (by rw [hml]; rfl) (Steps.refl _) (a := b53) (argsL := [(.ref b63)]) (rest := [(.ref b53)]) (lenOf pd__28_5bC_29V rfl) rfl (by show 2 * 0 + _ ≤ _; exact Nat.le_of_eq rfl) (hb hby d_method_3_code_11) (fun _ _ => ⟨rfl, e63, (Nat.le_of_ble_eq_true rfl : 2 + 4 ≤ _), (Nat.le_of_ble_eq_true rfl : 4 + 8 ≤ _)⟩)
    dsimp only [Pt.U, Pt.locs, Pt.cells, Pt.slots] at X75 l75 y75 z75 st75 hQ75 hs75 hg75 cr75
    subst l75 y75 z75
    obtain ⟨rfl, Nq75, Kk75, Ek75, Fc75, t75, kb75, Fv75, Av75⟩ := hQ75
    obtain ⟨Xr75, hSr75, hZr75, ho75⟩ := rebS hS0 (by rw [e63]; exact hk68) X75 hs75 hg75 hZ hown
    have N76 := Fr.app N0 Nq75
    have P77 : ∀ t, Steps p.tables e below (T75.setTop (mkF m 14 #[.val (.int p1), .val (.ref b1)] [(.ref b53)])) t → Steps p.tables e below (s₁.setTop (mkF m 0 #[.val (.int p1), .val (.ref b1)] [])) t := fun t k => P64 t (by
      show Steps p.tables e below (T63.setTop (mkF m 11 #[.val (.int p1), .val (.ref b1)] [(.ref b63), (.ref b53), (.ref b53)])) _
      exact st75.trans k)
    have Z78 : n0 ≤ T75.heap.size := Nat.le_trans Z65 Kk75.1
    have K79 : Keep h0 T75.heap [] := K66.trans Kk75 ((allS (Or.inr sz_b53) all0))
    have O80 : Old Z n0 T75.heap := O67.keep Kk75 (allS g_b53 all0)
    have R81 : CHr Z own_EL s.vm h0 T75.vm T75.heap := R70.trans cr75
    obtain ⟨fs82, hr82, hrun82, hended82, hRW82⟩ := Xr75.leaveW (v := some (.ref b53)) hSr75 (Nat.le_refl _) (fun h => by rw [Bd.returns] at h; cases h)
    have hce82 : CHr Z own_EL s.vm s.heap T75.vm T75.heap := by
      rw [hh]
      exact R81.trans (CHv.at Xr75 hZr75 (own_EW hw) cr75.1)
    refine ⟨_, _, pre0 _ (P77 _ ?_), hrun82, hended82, _, _, rfl, ?_, hce82, ⟨hRW82.1, hRW82.2.1, hRW82.2.2.1, hRW82.2.2.2.mono (Nat.le_of_ble_eq_true rfl) (Nat.le_of_ble_eq_true rfl)⟩⟩
    · show Steps p.tables e below (T75.setTop (mkF m 14 #[.val (.int p1), .val (.ref b1)] [(.ref b53)])) _
      exact retOut Xr75 hx Bd.returns rfl (Or.inr (Or.inr (Or.inr (Or.inr ⟨rfl, rfl, rfl⟩)))) (hb hby d_method_3_code_14) hr82
    · show Q_make Z p1 c0 c1 c2 c3 c4 c5 c6 h0 n0 _ T75.heap _
      exact ⟨b53, t75, _, ([] : List Int32), by simp [own_cs, q52], rfl, N76, sz_b53, K79, Ek75, Fv75, Fc75, Av75, Nat.le_of_ble_eq_true rfl, (fun x hx => nomatch hx)⟩
  · skip
    by_cases q83 : p1 = (1 : Int32)
    · skip
      obtain ⟨T84, h84, X84, e84, E84, A84, D84, -, st84⟩ := newO X0 hx hZ hown (hw _ (List.mem_of_getElem? (i := 8) rfl)) (hw _ (List.mem_of_getElem? (i := 9) rfl)) (hw _ (List.mem_of_getElem? (i := 10) rfl)) e0 (g := (mkF m 20 #[.val (.int p1), .val (.ref b1)] [])) rfl (hb hby d_method_3_code_20) (by decide) (by decide)
      obtain ⟨b84, g84⟩ : ∃ z, z = h0.size := ⟨_, rfl⟩
      rw [← g84] at A84 D84 st84
      have g_b84 : n0 ≤ b84 := Nat.le_trans Z0 (Nat.le_of_eq g84.symm)
      have sz_b84 : h0.size ≤ b84 := Nat.le_trans (Keep.refl h0 []).1 (Nat.le_of_eq g84.symm)
      have P85 : ∀ t, Steps p.tables e below (T84.setTop (mkF m 23 #[.val (.int p1), .val (.ref b1)] [(.ref b84)])) t → Steps p.tables e below (s₁.setTop (mkF m 0 #[.val (.int p1), .val (.ref b1)] [])) t := fun t k => P0 t (by
        refine XS.iloadN X0.here hx rfl (hb hby d_method_3_code_0) rfl ?_
        show Steps p.tables e below (s₁.setTop (mkF m 1 #[.val (.int p1), .val (.ref b1)] [(.int p1)])) _
        refine XS.ifYes X0.here hx rfl (pc0 := 1) (pc' := 15) rfl (hb hby d_method_3_code_1) rfl ((if0 _ _).trans (feq (show ¬ (p1 = (0 : Int32)) from q52)).2) (by decide) (by decide) ?_
        show Steps p.tables e below (s₁.setTop (mkF m 15 #[.val (.int p1), .val (.ref b1)] [])) _
        refine XS.iloadN X0.here hx rfl (hb hby d_method_3_code_15) rfl ?_
        show Steps p.tables e below (s₁.setTop (mkF m 16 #[.val (.int p1), .val (.ref b1)] [(.int p1)])) _
        refine XS.iconst X0.here hx rfl (hb hby d_method_3_code_16) ?_
        show Steps p.tables e below (s₁.setTop (mkF m 17 #[.val (.int p1), .val (.ref b1)] [(.int (1 : Int32)), (.int p1)])) _
        refine XS.icmpNo X0.here hx rfl (hb hby d_method_3_code_17) rfl (teq (show p1 = (1 : Int32) from q83)).2 ?_
        show Steps p.tables e below (s₁.setTop (mkF m 20 #[.val (.int p1), .val (.ref b1)] [])) _
        exact st84 _ k)
      have Z86 : n0 ≤ h84.size := Nat.le_trans Z0 E84.1
      have K87 : Keep h0 h84 [] := (Keep.refl h0 []).ext E84
      have O88 : Old Z n0 h84 := Ol.ext E84
      have hk89 : h0.size ≤ h84.size := Nat.le_trans (Nat.le_refl _) E84.1
      have C90 : CHr Z own_EL s.vm h0 s.vm h84 := CHr.ext E84 hCH0
      have R91 : CHr Z own_EL s.vm h0 s.vm h84 := hCR0.trans C90
      have sf_b84 : Safe Z own_EL s.vm h84 b84 := Safe.ext E84 hCH0 (Safe.new (Nat.le_of_eq g84.symm))
      have f92 : Fld Z h84 b84 "java/lang/String" "value" "[B" .null := D84 (Or.inr (hw _ (List.mem_of_getElem? (i := 23) rfl))) (ty := (.array .byte)) (by decide)
      have f93 : Fld Z h84 b84 "java/lang/String" "coder" "B" (.int (0 : Int32)) := D84 (Or.inr (hw _ (List.mem_of_getElem? (i := 24) rfl))) (ty := .byte) (by decide)
      obtain ⟨T94, h94, k94, X94, e94, E94, A94, st94⟩ := newP X84 hx hZ (hw _ (List.mem_of_getElem? (i := 0) rfl)) e84 (g := (mkF m 25 #[.val (.int p1), .val (.ref b1)] [(.int (1 : Int32)), (.ref b84), (.ref b84)])) rfl (hb hby d_method_3_code_25) rfl (by decide) (cap := 1) (by decide) (by decide) (by decide) (by decide)
      obtain ⟨b94, g94⟩ : ∃ z, z = h84.size := ⟨_, rfl⟩
      rw [← g94] at A94 st94
      have g_b94 : n0 ≤ b94 := Nat.le_trans Z86 (Nat.le_of_eq g94.symm)
      have sz_b94 : h0.size ≤ b94 := Nat.le_trans K87.1 (Nat.le_of_eq g94.symm)
      have P95 : ∀ t, Steps p.tables e below (T94.setTop (mkF m 27 #[.val (.int p1), .val (.ref b1)] [(.ref b94), (.ref b84), (.ref b84)])) t → Steps p.tables e below (s₁.setTop (mkF m 0 #[.val (.int p1), .val (.ref b1)] [])) t := fun t k => P85 t (by
        show Steps p.tables e below (T84.setTop (mkF m 23 #[.val (.int p1), .val (.ref b1)] [(.ref b84)])) _
        refine XS.dup X84.here hx rfl (hb hby d_method_3_code_23) rfl rfl ?_
        show Steps p.tables e below (T84.setTop (mkF m 24 #[.val (.int p1), .val (.ref b1)] [(.ref b84), (.ref b84)])) _
        refine XS.iconst X84.here hx rfl (hb hby d_method_3_code_24) ?_
        show Steps p.tables e below (T84.setTop (mkF m 25 #[.val (.int p1), .val (.ref b1)] [(.int (1 : Int32)), (.ref b84), (.ref b84)])) _
        exact st94 _ k)
      have Z96 : n0 ≤ h94.size := Nat.le_trans Z86 E94.1
      have K97 : Keep h0 h94 [] := K87.ext E94
      have O98 : Old Z n0 h94 := O88.ext E94
      have hk99 : h0.size ≤ h94.size := Nat.le_trans hk89 E94.1
      have C100 : CHr Z own_EL s.vm h84 s.vm h94 := CHr.ext E94 C90.1
      have R101 : CHr Z own_EL s.vm h0 s.vm h94 := R91.trans C100
      have v102 : Arv Z h94 b94 k94 .char (1 : Int32) [(.int (0 : Int32))] (.int (0 : Int32)) := (Arv.new A94 (by decide)).pad (pad_rep [] (.int (0 : Int32)) 1)
      have f103 : Arv Z h94 b1 kb .char (7 : Int32) [(.int c0), (.int c1), (.int c2), (.int c3), (.int c4), (.int c5), (.int c6)] (.int (0 : Int32)) := ((Ab.ext E84).ext E94)
      obtain ⟨cl104, Ar104, -, S104, N104, H104, -⟩ := id f103
      have hin104 : ¬ ((0 : Int32) < 0 ∨ cl104.slots.size ≤ ((0 : Int32)).toNatClampNeg) := inb_of S104 ⟨by decide, by decide⟩
      obtain ⟨cl105, Ar105, q105, S105, N105, H105, G105⟩ := id v102
      obtain ⟨T105, h105, X105, e105, W105, st105⟩ := stC X94 hx hZ e94 Ar105 (j := (0 : Int32)) (inb_of S105 ⟨by decide, by decide⟩) (g := (mkF m 32 #[.val (.int p1), .val (.ref b1)] [(.int c0), (.int (0 : Int32)), (.ref b94), (.ref b94), (.ref b84), (.ref b84)])) rfl rfl (hb hby d_method_3_code_32)
      have v106 : Arv Z h105 b94 k94 .char (1 : Int32) [(.int (nar .char c0))] (.int (0 : Int32)) := Arv.set Ar105 q105 S105 N105 H105 G105 (fits_nar_char _) W105 0 rfl (Nat.le_of_ble_eq_true rfl)
      have P107 : ∀ t, Steps p.tables e below (T105.setTop (mkF m 33 #[.val (.int p1), .val (.ref b1)] [(.ref b94), (.ref b84), (.ref b84)])) t → Steps p.tables e below (s₁.setTop (mkF m 0 #[.val (.int p1), .val (.ref b1)] [])) t := fun t k => P95 t (by
        show Steps p.tables e below (T94.setTop (mkF m 27 #[.val (.int p1), .val (.ref b1)] [(.ref b94), (.ref b84), (.ref b84)])) _
        refine XS.dup X94.here hx rfl (hb hby d_method_3_code_27) rfl rfl ?_
        show Steps p.tables e below (T94.setTop (mkF m 28 #[.val (.int p1), .val (.ref b1)] [(.ref b94), (.ref b94), (.ref b84), (.ref b84)])) _
        refine XS.iconst X94.here hx rfl (hb hby d_method_3_code_28) ?_
        show Steps p.tables e below (T94.setTop (mkF m 29 #[.val (.int p1), .val (.ref b1)] [(.int (0 : Int32)), (.ref b94), (.ref b94), (.ref b84), (.ref b84)])) _
        refine XS.aloadN X94.here hx rfl (hb hby d_method_3_code_29) rfl rfl ?_
        show Steps p.tables e below (T94.setTop (mkF m 30 #[.val (.int p1), .val (.ref b1)] [(.ref b1), (.int (0 : Int32)), (.ref b94), (.ref b94), (.ref b84), (.ref b84)])) _
        refine XS.iconst X94.here hx rfl (hb hby d_method_3_code_30) ?_
        show Steps p.tables e below (T94.setTop (mkF m 31 #[.val (.int p1), .val (.ref b1)] [(.int (0 : Int32)), (.ref b1), (.int (0 : Int32)), (.ref b94), (.ref b94), (.ref b84), (.ref b84)])) _
        refine X94.caload hx (j := (0 : Int32)) (v := (.int c0)) (by rw [e94]; exact Ar104.1) (State.isArrayOf_alike hZ.alike Ar104.2.1) Ar104.2.2 hin104 (H104.at hin104 rfl) (g := (mkF m 31 #[.val (.int p1), .val (.ref b1)] [(.int (0 : Int32)), (.ref b1), (.int (0 : Int32)), (.ref b94), (.ref b94), (.ref b84), (.ref b84)])) rfl rfl (hb hby d_method_3_code_31) _ ?_
        show Steps p.tables e below (T94.setTop (mkF m 32 #[.val (.int p1), .val (.ref b1)] [(.int c0), (.int (0 : Int32)), (.ref b94), (.ref b94), (.ref b84), (.ref b84)])) _
        exact st105 _ k)
      have N108 := Fr.snoc X105 N0 g_b94
      have Z109 : n0 ≤ h105.size := Nat.le_trans Z96 (Keep.of_wr W105).1
      have K110 : Keep h0 h105 [] := K97.wr W105 (Or.inr sz_b94)
      have O111 : Old Z n0 h105 := O98.wr W105 g_b94
      have hk112 : h0.size ≤ h105.size := Nat.le_trans hk99 (Keep.of_wr W105).1
      have C113 : CHr Z own_EL s.vm h94 s.vm h105 := CHr.wr W105 (Safe.arv hZ.alike v102 (by decide)) C100.1
      have R114 : CHr Z own_EL s.vm h0 s.vm h105 := R101.trans C113
      have hp : ∀ c ∈ ([(nar .char c0)] : List Int32), ¬ c < 0 ∧ ¬ (255 : Int32) < c := by
        intro c hc
        simp only [List.mem_cons, List.not_mem_nil, or_false] at hc
        subst hc
        exact gc0
      have hwsb84 : ∀ d ∈ StrChars.Road.words, d.before a0 Z = true := fun d hd => hw d (own_strwords d hd)
      have f115 : Exa Z h105 b84 "java/lang/String" := ((A84.ext E94).wr W105)
      have f116 : Fld Z h105 b84 "java/lang/String" "value" "[B" .null := ((f92.ext E94).other W105 (Or.inl (Nat.ne_of_lt (Nat.lt_of_lt_of_le f93.lt (Nat.le_of_eq g94.symm)))))
      have f117 : Fld Z h105 b84 "java/lang/String" "coder" "B" (.int (0 : Int32)) := ((f93.ext E94).other W105 (Or.inl (Nat.ne_of_lt (Nat.lt_of_lt_of_le f93.lt (Nat.le_of_eq g94.symm)))))
      obtain ⟨_, _, ⟨T118, L118, k118, n118⟩, -, X118, ⟨Lc118, hQ118, l118, y118, z118⟩, st118⟩ := X105.specialBack hx (y := (⟨"java/lang/String", "<init>", "([C)V"⟩ : MethodName)) rfl hown (mvT hZ (hw _ (List.mem_of_getElem? (i := 11) rfl))) (mvT hZ (hw _ (List.mem_of_getElem? (i := 12) rfl))) (mvT hZ (hw _ (List.mem_of_getElem? (i := 13) rfl))) (by decide) (StrChars.Road.backV (W := 1) hZ hwsb84 (kI := 4) (hw _ (List.mem_of_getElem? (i := 9) rfl)) (cs := ([(nar .char c0)] : List Int32)) (bs := (([(nar .char c0)] : List Int32)).map (fun c => c.toInt8.toInt32)) (n := 1) g_b84 Z109 f115 f116 f117 v106 (Sg.ext O111.2) P5 rfl rfl (by decide) (by decide) hp rfl (by decide) (by decide)) (g := (mkF m 33 #[.val (.int p1), .val (.ref b1)] [(.ref b94), (.ref b84), (.ref b84)])) rfl (by rw [hml]; rfl) (Steps.refl _) (a := b84) (argsL := [(.ref b94)]) (rest := [(.ref b84)]) (lenOf pd__28_5bC_29V rfl) rfl (by show 2 * 0 + _ ≤ _; exact Nat.le_of_eq rfl) (hb hby d_method_3_code_33) (fun _ _ => ⟨rfl, e105, (Nat.le_of_ble_eq_true rfl : 2 + 1 ≤ _), (Nat.le_of_ble_eq_true rfl : 5 + 1 ≤ _)⟩)
      dsimp only [Pt.U, Pt.locs, Pt.cells, Pt.slots] at X118 l118 y118 z118 st118 hQ118
      subst l118 y118 z118
      obtain ⟨rfl, Nq118, Kk118, Ek118, Fc118, t118, kb118, u118, vt118, wt118, Fv118, Av118⟩ := hQ118
      have N119 := Fr.app N108 Nq118
      have P120 : ∀ t, Steps p.tables e below (T118.setTop (mkF m 36 #[.val (.int p1), .val (.ref b1)] [(.ref b84)])) t → Steps p.tables e below (s₁.setTop (mkF m 0 #[.val (.int p1), .val (.ref b1)] [])) t := fun t k => P107 t (by
        show Steps p.tables e below (T105.setTop (mkF m 33 #[.val (.int p1), .val (.ref b1)] [(.ref b94), (.ref b84), (.ref b84)])) _
        exact st118.trans k)
      have Z121 : n0 ≤ T118.heap.size := Nat.le_trans Z109 Kk118.1
      have K122 : Keep h0 T118.heap [] := K110.trans Kk118 ((allS (Or.inr sz_b84) all0))
      have O123 : Old Z n0 T118.heap := O111.keep Kk118 (allS g_b84 all0)
      have hk124 : h0.size ≤ T118.heap.size := Nat.le_trans hk112 Kk118.1
      have C125 : CHr Z own_EL s.vm h105 s.vm T118.heap := CHr.keep Kk118 (sfS (CHr.safe (C100.trans C113) A84.lt sf_b84) sf0) C113.1
      have R126 : CHr Z own_EL s.vm h0 s.vm T118.heap := R114.trans C125
      have g_t118 : n0 ≤ t118 := Nat.le_trans Z109 vt118
      have sz_t118 : h0.size ≤ t118 := Nat.le_trans K110.1 vt118
      obtain ⟨fs127, hr127, hrun127, hended127, hRW127⟩ := X118.leaveW (v := some (.ref b84)) hS0 hk124 (fun h => by rw [Bd.returns] at h; cases h)
      have hce127 : CHr Z own_EL s.vm s.heap T118.vm T118.heap := by
        rw [hh]
        exact R126.trans (CHv.at X118 hZ (own_EW hw) C125.1)
      refine ⟨_, _, pre0 _ (P120 _ ?_), hrun127, hended127, _, _, rfl, ?_, hce127, ⟨hRW127.1, hRW127.2.1, hRW127.2.2.1, hRW127.2.2.2.mono (Nat.le_of_ble_eq_true rfl) (Nat.le_of_ble_eq_true rfl)⟩⟩
      · show Steps p.tables e below (T118.setTop (mkF m 36 #[.val (.int p1), .val (.ref b1)] [(.ref b84)])) _
        exact retOut X118 hx Bd.returns rfl (Or.inr (Or.inr (Or.inr (Or.inr ⟨rfl, rfl, rfl⟩)))) (hb hby d_method_3_code_36) hr127
      · show Q_make Z p1 c0 c1 c2 c3 c4 c5 c6 h0 n0 _ T118.heap _
        exact ⟨b84, t118, _, [nar .char c0], by simp [own_cs, q52, q83], rfl, N119, sz_b84, K122, Ek118, Fv118, Fc118, Av118, Nat.le_of_ble_eq_true rfl, hp⟩
    · skip
      by_cases q128 : p1 = (2 : Int32)
      · skip
        obtain ⟨T129, h129, X129, e129, E129, A129, D129, -, st129⟩ := newO X0 hx hZ hown (hw _ (List.mem_of_getElem? (i := 8) rfl)) (hw _ (List.mem_of_getElem? (i := 9) rfl)) (hw _ (List.mem_of_getElem? (i := 10) rfl)) e0 (g := (mkF m 42 #[.val (.int p1), .val (.ref b1)] [])) rfl (hb hby d_method_3_code_42) (by decide) (by decide)
        obtain ⟨b129, g129⟩ : ∃ z, z = h0.size := ⟨_, rfl⟩
        rw [← g129] at A129 D129 st129
        have g_b129 : n0 ≤ b129 := Nat.le_trans Z0 (Nat.le_of_eq g129.symm)
        have sz_b129 : h0.size ≤ b129 := Nat.le_trans (Keep.refl h0 []).1 (Nat.le_of_eq g129.symm)
        have P130 : ∀ t, Steps p.tables e below (T129.setTop (mkF m 45 #[.val (.int p1), .val (.ref b1)] [(.ref b129)])) t → Steps p.tables e below (s₁.setTop (mkF m 0 #[.val (.int p1), .val (.ref b1)] [])) t := fun t k => P0 t (by
          refine XS.iloadN X0.here hx rfl (hb hby d_method_3_code_0) rfl ?_
          show Steps p.tables e below (s₁.setTop (mkF m 1 #[.val (.int p1), .val (.ref b1)] [(.int p1)])) _
          refine XS.ifYes X0.here hx rfl (pc0 := 1) (pc' := 15) rfl (hb hby d_method_3_code_1) rfl ((if0 _ _).trans (feq (show ¬ (p1 = (0 : Int32)) from q52)).2) (by decide) (by decide) ?_
          show Steps p.tables e below (s₁.setTop (mkF m 15 #[.val (.int p1), .val (.ref b1)] [])) _
          refine XS.iloadN X0.here hx rfl (hb hby d_method_3_code_15) rfl ?_
          show Steps p.tables e below (s₁.setTop (mkF m 16 #[.val (.int p1), .val (.ref b1)] [(.int p1)])) _
          refine XS.iconst X0.here hx rfl (hb hby d_method_3_code_16) ?_
          show Steps p.tables e below (s₁.setTop (mkF m 17 #[.val (.int p1), .val (.ref b1)] [(.int (1 : Int32)), (.int p1)])) _
          refine XS.icmpYes X0.here hx rfl (pc0 := 17) (pc' := 37) rfl (hb hby d_method_3_code_17) rfl (feq (show ¬ (p1 = (1 : Int32)) from q83)).2 (by decide) (by decide) ?_
          show Steps p.tables e below (s₁.setTop (mkF m 37 #[.val (.int p1), .val (.ref b1)] [])) _
          refine XS.iloadN X0.here hx rfl (hb hby d_method_3_code_37) rfl ?_
          show Steps p.tables e below (s₁.setTop (mkF m 38 #[.val (.int p1), .val (.ref b1)] [(.int p1)])) _
          refine XS.iconst X0.here hx rfl (hb hby d_method_3_code_38) ?_
          show Steps p.tables e below (s₁.setTop (mkF m 39 #[.val (.int p1), .val (.ref b1)] [(.int (2 : Int32)), (.int p1)])) _
          refine XS.icmpNo X0.here hx rfl (hb hby d_method_3_code_39) rfl (teq (show p1 = (2 : Int32) from q128)).2 ?_
          show Steps p.tables e below (s₁.setTop (mkF m 42 #[.val (.int p1), .val (.ref b1)] [])) _
          exact st129 _ k)
        have Z131 : n0 ≤ h129.size := Nat.le_trans Z0 E129.1
        have K132 : Keep h0 h129 [] := (Keep.refl h0 []).ext E129
        have O133 : Old Z n0 h129 := Ol.ext E129
        have hk134 : h0.size ≤ h129.size := Nat.le_trans (Nat.le_refl _) E129.1
        have C135 : CHr Z own_EL s.vm h0 s.vm h129 := CHr.ext E129 hCH0
        have R136 : CHr Z own_EL s.vm h0 s.vm h129 := hCR0.trans C135
        have sf_b129 : Safe Z own_EL s.vm h129 b129 := Safe.ext E129 hCH0 (Safe.new (Nat.le_of_eq g129.symm))
        have f137 : Fld Z h129 b129 "java/lang/String" "value" "[B" .null := D129 (Or.inr (hw _ (List.mem_of_getElem? (i := 23) rfl))) (ty := (.array .byte)) (by decide)
        have f138 : Fld Z h129 b129 "java/lang/String" "coder" "B" (.int (0 : Int32)) := D129 (Or.inr (hw _ (List.mem_of_getElem? (i := 24) rfl))) (ty := .byte) (by decide)
        obtain ⟨T139, h139, k139, X139, e139, E139, A139, st139⟩ := newP X129 hx hZ (hw _ (List.mem_of_getElem? (i := 0) rfl)) e129 (g := (mkF m 47 #[.val (.int p1), .val (.ref b1)] [(.int (2 : Int32)), (.ref b129), (.ref b129)])) rfl (hb hby d_method_3_code_47) rfl (by decide) (cap := 2) (by decide) (by decide) (by decide) (by decide)
        obtain ⟨b139, g139⟩ : ∃ z, z = h129.size := ⟨_, rfl⟩
        rw [← g139] at A139 st139
        have g_b139 : n0 ≤ b139 := Nat.le_trans Z131 (Nat.le_of_eq g139.symm)
        have sz_b139 : h0.size ≤ b139 := Nat.le_trans K132.1 (Nat.le_of_eq g139.symm)
        have P140 : ∀ t, Steps p.tables e below (T139.setTop (mkF m 49 #[.val (.int p1), .val (.ref b1)] [(.ref b139), (.ref b129), (.ref b129)])) t → Steps p.tables e below (s₁.setTop (mkF m 0 #[.val (.int p1), .val (.ref b1)] [])) t := fun t k => P130 t (by
          show Steps p.tables e below (T129.setTop (mkF m 45 #[.val (.int p1), .val (.ref b1)] [(.ref b129)])) _
          refine XS.dup X129.here hx rfl (hb hby d_method_3_code_45) rfl rfl ?_
          show Steps p.tables e below (T129.setTop (mkF m 46 #[.val (.int p1), .val (.ref b1)] [(.ref b129), (.ref b129)])) _
          refine XS.iconst X129.here hx rfl (hb hby d_method_3_code_46) ?_
          show Steps p.tables e below (T129.setTop (mkF m 47 #[.val (.int p1), .val (.ref b1)] [(.int (2 : Int32)), (.ref b129), (.ref b129)])) _
          exact st139 _ k)
        have Z141 : n0 ≤ h139.size := Nat.le_trans Z131 E139.1
        have K142 : Keep h0 h139 [] := K132.ext E139
        have O143 : Old Z n0 h139 := O133.ext E139
        have hk144 : h0.size ≤ h139.size := Nat.le_trans hk134 E139.1
        have C145 : CHr Z own_EL s.vm h129 s.vm h139 := CHr.ext E139 C135.1
        have R146 : CHr Z own_EL s.vm h0 s.vm h139 := R136.trans C145
        have v147 : Arv Z h139 b139 k139 .char (2 : Int32) [(.int (0 : Int32)), (.int (0 : Int32))] (.int (0 : Int32)) := (Arv.new A139 (by decide)).pad (pad_rep [] (.int (0 : Int32)) 2)
        have f148 : Arv Z h139 b1 kb .char (7 : Int32) [(.int c0), (.int c1), (.int c2), (.int c3), (.int c4), (.int c5), (.int c6)] (.int (0 : Int32)) := ((Ab.ext E129).ext E139)
        obtain ⟨cl149, Ar149, -, S149, N149, H149, -⟩ := id f148
        have hin149 : ¬ ((0 : Int32) < 0 ∨ cl149.slots.size ≤ ((0 : Int32)).toNatClampNeg) := inb_of S149 ⟨by decide, by decide⟩
        obtain ⟨cl150, Ar150, q150, S150, N150, H150, G150⟩ := id v147
        obtain ⟨T150, h150, X150, e150, W150, st150⟩ := stC X139 hx hZ e139 Ar150 (j := (0 : Int32)) (inb_of S150 ⟨by decide, by decide⟩) (g := (mkF m 54 #[.val (.int p1), .val (.ref b1)] [(.int c0), (.int (0 : Int32)), (.ref b139), (.ref b139), (.ref b129), (.ref b129)])) rfl rfl (hb hby d_method_3_code_54)
        have v151 : Arv Z h150 b139 k139 .char (2 : Int32) [(.int (nar .char c0)), (.int (0 : Int32))] (.int (0 : Int32)) := Arv.set Ar150 q150 S150 N150 H150 G150 (fits_nar_char _) W150 0 rfl (Nat.le_of_ble_eq_true rfl)
        have P152 : ∀ t, Steps p.tables e below (T150.setTop (mkF m 55 #[.val (.int p1), .val (.ref b1)] [(.ref b139), (.ref b129), (.ref b129)])) t → Steps p.tables e below (s₁.setTop (mkF m 0 #[.val (.int p1), .val (.ref b1)] [])) t := fun t k => P140 t (by
          show Steps p.tables e below (T139.setTop (mkF m 49 #[.val (.int p1), .val (.ref b1)] [(.ref b139), (.ref b129), (.ref b129)])) _
          refine XS.dup X139.here hx rfl (hb hby d_method_3_code_49) rfl rfl ?_
          show Steps p.tables e below (T139.setTop (mkF m 50 #[.val (.int p1), .val (.ref b1)] [(.ref b139), (.ref b139), (.ref b129), (.ref b129)])) _
          refine XS.iconst X139.here hx rfl (hb hby d_method_3_code_50) ?_
          show Steps p.tables e below (T139.setTop (mkF m 51 #[.val (.int p1), .val (.ref b1)] [(.int (0 : Int32)), (.ref b139), (.ref b139), (.ref b129), (.ref b129)])) _
          refine XS.aloadN X139.here hx rfl (hb hby d_method_3_code_51) rfl rfl ?_
          show Steps p.tables e below (T139.setTop (mkF m 52 #[.val (.int p1), .val (.ref b1)] [(.ref b1), (.int (0 : Int32)), (.ref b139), (.ref b139), (.ref b129), (.ref b129)])) _
          refine XS.iconst X139.here hx rfl (hb hby d_method_3_code_52) ?_
          show Steps p.tables e below (T139.setTop (mkF m 53 #[.val (.int p1), .val (.ref b1)] [(.int (0 : Int32)), (.ref b1), (.int (0 : Int32)), (.ref b139), (.ref b139), (.ref b129), (.ref b129)])) _
          refine X139.caload hx (j := (0 : Int32)) (v := (.int c0)) (by rw [e139]; exact Ar149.1) (State.isArrayOf_alike hZ.alike Ar149.2.1) Ar149.2.2 hin149 (H149.at hin149 rfl) (g := (mkF m 53 #[.val (.int p1), .val (.ref b1)] [(.int (0 : Int32)), (.ref b1), (.int (0 : Int32)), (.ref b139), (.ref b139), (.ref b129), (.ref b129)])) rfl rfl (hb hby d_method_3_code_53) _ ?_
          show Steps p.tables e below (T139.setTop (mkF m 54 #[.val (.int p1), .val (.ref b1)] [(.int c0), (.int (0 : Int32)), (.ref b139), (.ref b139), (.ref b129), (.ref b129)])) _
          exact st150 _ k)
        have N153 := Fr.snoc X150 N0 g_b139
        have Z154 : n0 ≤ h150.size := Nat.le_trans Z141 (Keep.of_wr W150).1
        have K155 : Keep h0 h150 [] := K142.wr W150 (Or.inr sz_b139)
        have O156 : Old Z n0 h150 := O143.wr W150 g_b139
        have hk157 : h0.size ≤ h150.size := Nat.le_trans hk144 (Keep.of_wr W150).1
        have C158 : CHr Z own_EL s.vm h139 s.vm h150 := CHr.wr W150 (Safe.arv hZ.alike v147 (by decide)) C145.1
        have R159 : CHr Z own_EL s.vm h0 s.vm h150 := R146.trans C158
        have f160 : Arv Z h150 b1 kb .char (7 : Int32) [(.int c0), (.int c1), (.int c2), (.int c3), (.int c4), (.int c5), (.int c6)] (.int (0 : Int32)) := (f148.other W150 (Nat.ne_of_lt (Nat.lt_of_lt_of_le (Ab.ext E129).lt (Nat.le_of_eq g139.symm))))
        obtain ⟨cl161, Ar161, -, S161, N161, H161, -⟩ := id f160
        have hin161 : ¬ ((1 : Int32) < 0 ∨ cl161.slots.size ≤ ((1 : Int32)).toNatClampNeg) := inb_of S161 ⟨by decide, by decide⟩
        obtain ⟨cl162, Ar162, q162, S162, N162, H162, G162⟩ := id v151
        obtain ⟨T162, h162, X162, e162, W162, st162⟩ := stC X150 hx hZ e150 Ar162 (j := (1 : Int32)) (inb_of S162 ⟨by decide, by decide⟩) (g := (mkF m 60 #[.val (.int p1), .val (.ref b1)] [(.int c1), (.int (1 : Int32)), (.ref b139), (.ref b139), (.ref b129), (.ref b129)])) rfl rfl (hb hby d_method_3_code_60)
        have v163 : Arv Z h162 b139 k139 .char (2 : Int32) [(.int (nar .char c0)), (.int (nar .char c1))] (.int (0 : Int32)) := Arv.set Ar162 q162 S162 N162 H162 G162 (fits_nar_char _) W162 1 rfl (Nat.le_of_ble_eq_true rfl)
        have P164 : ∀ t, Steps p.tables e below (T162.setTop (mkF m 61 #[.val (.int p1), .val (.ref b1)] [(.ref b139), (.ref b129), (.ref b129)])) t → Steps p.tables e below (s₁.setTop (mkF m 0 #[.val (.int p1), .val (.ref b1)] [])) t := fun t k => P152 t (by
          show Steps p.tables e below (T150.setTop (mkF m 55 #[.val (.int p1), .val (.ref b1)] [(.ref b139), (.ref b129), (.ref b129)])) _
          refine XS.dup X150.here hx rfl (hb hby d_method_3_code_55) rfl rfl ?_
          show Steps p.tables e below (T150.setTop (mkF m 56 #[.val (.int p1), .val (.ref b1)] [(.ref b139), (.ref b139), (.ref b129), (.ref b129)])) _
          refine XS.iconst X150.here hx rfl (hb hby d_method_3_code_56) ?_
          show Steps p.tables e below (T150.setTop (mkF m 57 #[.val (.int p1), .val (.ref b1)] [(.int (1 : Int32)), (.ref b139), (.ref b139), (.ref b129), (.ref b129)])) _
          refine XS.aloadN X150.here hx rfl (hb hby d_method_3_code_57) rfl rfl ?_
          show Steps p.tables e below (T150.setTop (mkF m 58 #[.val (.int p1), .val (.ref b1)] [(.ref b1), (.int (1 : Int32)), (.ref b139), (.ref b139), (.ref b129), (.ref b129)])) _
          refine XS.iconst X150.here hx rfl (hb hby d_method_3_code_58) ?_
          show Steps p.tables e below (T150.setTop (mkF m 59 #[.val (.int p1), .val (.ref b1)] [(.int (1 : Int32)), (.ref b1), (.int (1 : Int32)), (.ref b139), (.ref b139), (.ref b129), (.ref b129)])) _
          refine X150.caload hx (j := (1 : Int32)) (v := (.int c1)) (by rw [e150]; exact Ar161.1) (State.isArrayOf_alike hZ.alike Ar161.2.1) Ar161.2.2 hin161 (H161.at hin161 rfl) (g := (mkF m 59 #[.val (.int p1), .val (.ref b1)] [(.int (1 : Int32)), (.ref b1), (.int (1 : Int32)), (.ref b139), (.ref b139), (.ref b129), (.ref b129)])) rfl rfl (hb hby d_method_3_code_59) _ ?_
          show Steps p.tables e below (T150.setTop (mkF m 60 #[.val (.int p1), .val (.ref b1)] [(.int c1), (.int (1 : Int32)), (.ref b139), (.ref b139), (.ref b129), (.ref b129)])) _
          exact st162 _ k)
        have N165 := Fr.snoc X162 N153 g_b139
        have Z166 : n0 ≤ h162.size := Nat.le_trans Z154 (Keep.of_wr W162).1
        have K167 : Keep h0 h162 [] := K155.wr W162 (Or.inr sz_b139)
        have O168 : Old Z n0 h162 := O156.wr W162 g_b139
        have hk169 : h0.size ≤ h162.size := Nat.le_trans hk157 (Keep.of_wr W162).1
        have C170 : CHr Z own_EL s.vm h150 s.vm h162 := CHr.wr W162 (Safe.arv hZ.alike v151 (by decide)) C158.1
        have R171 : CHr Z own_EL s.vm h0 s.vm h162 := R159.trans C170
        have hp : ∀ c ∈ ([(nar .char c0), (nar .char c1)] : List Int32), ¬ c < 0 ∧ ¬ (255 : Int32) < c := by
          intro c hc
          simp only [List.mem_cons, List.not_mem_nil, or_false] at hc
          rcases hc with rfl | rfl
          · exact gc0
          · exact gc1
        have hwsb129 : ∀ d ∈ StrChars.Road.words, d.before a0 Z = true := fun d hd => hw d (own_strwords d hd)
        have f172 : Exa Z h162 b129 "java/lang/String" := (((A129.ext E139).wr W150).wr W162)
        have f173 : Fld Z h162 b129 "java/lang/String" "value" "[B" .null := (((f137.ext E139).other W150 (Or.inl (Nat.ne_of_lt (Nat.lt_of_lt_of_le f138.lt (Nat.le_of_eq g139.symm))))).other W162 (Or.inl (Nat.ne_of_lt (Nat.lt_of_lt_of_le f138.lt (Nat.le_of_eq g139.symm)))))
        have f174 : Fld Z h162 b129 "java/lang/String" "coder" "B" (.int (0 : Int32)) := (((f138.ext E139).other W150 (Or.inl (Nat.ne_of_lt (Nat.lt_of_lt_of_le f138.lt (Nat.le_of_eq g139.symm))))).other W162 (Or.inl (Nat.ne_of_lt (Nat.lt_of_lt_of_le f138.lt (Nat.le_of_eq g139.symm)))))
        obtain ⟨_, _, ⟨T175, L175, k175, n175⟩, -, X175, ⟨Lc175, hQ175, l175, y175, z175⟩, st175⟩ := X162.specialBack hx (y := (⟨"java/lang/String", "<init>", "([C)V"⟩ : MethodName)) rfl hown (mvT hZ (hw _ (List.mem_of_getElem? (i := 11) rfl))) (mvT hZ (hw _ (List.mem_of_getElem? (i := 12) rfl))) (mvT hZ (hw _ (List.mem_of_getElem? (i := 13) rfl))) (by decide) (StrChars.Road.backV (W := 1) hZ hwsb129 (kI := 4) (hw _ (List.mem_of_getElem? (i := 9) rfl)) (cs := ([(nar .char c0), (nar .char c1)] : List Int32)) (bs := (([(nar .char c0), (nar .char c1)] : List Int32)).map (fun c => c.toInt8.toInt32)) (n := 2) g_b129 Z166 f172 f173 f174 v163 (Sg.ext O168.2) P5 rfl rfl (by decide) (by decide) hp rfl (by decide) (by decide)) (g := (mkF m 61 #[.val (.int p1), .val (.ref b1)] [(.ref b139), (.ref b129), (.ref b129)])) rfl (by rw [hml]; rfl) (Steps.refl _) (a := b129) (argsL := [(.ref b139)]) (rest := [(.ref b129)]) (lenOf pd__28_5bC_29V rfl) rfl (by show 2 * 0 + _ ≤ _; exact Nat.le_of_eq rfl) (hb hby d_method_3_code_61) (fun _ _ => ⟨rfl, e162, (Nat.le_of_ble_eq_true rfl : 2 + 1 ≤ _), (Nat.le_of_ble_eq_true rfl : 6 + 2 ≤ _)⟩)
        dsimp only [Pt.U, Pt.locs, Pt.cells, Pt.slots] at X175 l175 y175 z175 st175 hQ175
        subst l175 y175 z175
        obtain ⟨rfl, Nq175, Kk175, Ek175, Fc175, t175, kb175, u175, vt175, wt175, Fv175, Av175⟩ := hQ175
        have N176 := Fr.app N165 Nq175
        have P177 : ∀ t, Steps p.tables e below (T175.setTop (mkF m 64 #[.val (.int p1), .val (.ref b1)] [(.ref b129)])) t → Steps p.tables e below (s₁.setTop (mkF m 0 #[.val (.int p1), .val (.ref b1)] [])) t := fun t k => P164 t (by
          show Steps p.tables e below (T162.setTop (mkF m 61 #[.val (.int p1), .val (.ref b1)] [(.ref b139), (.ref b129), (.ref b129)])) _
          exact st175.trans k)
        have Z178 : n0 ≤ T175.heap.size := Nat.le_trans Z166 Kk175.1
        have K179 : Keep h0 T175.heap [] := K167.trans Kk175 ((allS (Or.inr sz_b129) all0))
        have O180 : Old Z n0 T175.heap := O168.keep Kk175 (allS g_b129 all0)
        have hk181 : h0.size ≤ T175.heap.size := Nat.le_trans hk169 Kk175.1
        have C182 : CHr Z own_EL s.vm h162 s.vm T175.heap := CHr.keep Kk175 (sfS (CHr.safe ((C145.trans C158).trans C170) A129.lt sf_b129) sf0) C170.1
        have R183 : CHr Z own_EL s.vm h0 s.vm T175.heap := R171.trans C182
        have g_t175 : n0 ≤ t175 := Nat.le_trans Z166 vt175
        have sz_t175 : h0.size ≤ t175 := Nat.le_trans K167.1 vt175
        obtain ⟨fs184, hr184, hrun184, hended184, hRW184⟩ := X175.leaveW (v := some (.ref b129)) hS0 hk181 (fun h => by rw [Bd.returns] at h; cases h)
        have hce184 : CHr Z own_EL s.vm s.heap T175.vm T175.heap := by
          rw [hh]
          exact R183.trans (CHv.at X175 hZ (own_EW hw) C182.1)
        refine ⟨_, _, pre0 _ (P177 _ ?_), hrun184, hended184, _, _, rfl, ?_, hce184, ⟨hRW184.1, hRW184.2.1, hRW184.2.2.1, hRW184.2.2.2.mono (Nat.le_of_ble_eq_true rfl) (Nat.le_of_ble_eq_true rfl)⟩⟩
        · show Steps p.tables e below (T175.setTop (mkF m 64 #[.val (.int p1), .val (.ref b1)] [(.ref b129)])) _
          exact retOut X175 hx Bd.returns rfl (Or.inr (Or.inr (Or.inr (Or.inr ⟨rfl, rfl, rfl⟩)))) (hb hby d_method_3_code_64) hr184
        · show Q_make Z p1 c0 c1 c2 c3 c4 c5 c6 h0 n0 _ T175.heap _
          exact ⟨b129, t175, _, [nar .char c0, nar .char c1], by simp [own_cs, q52, q83, q128], rfl, N176, sz_b129, K179, Ek175, Fv175, Fc175, Av175, Nat.le_of_ble_eq_true rfl, hp⟩
      · skip
        by_cases q185 : p1 = (3 : Int32)
        · skip
          obtain ⟨T186, h186, X186, e186, E186, A186, D186, -, st186⟩ := newO X0 hx hZ hown (hw _ (List.mem_of_getElem? (i := 8) rfl)) (hw _ (List.mem_of_getElem? (i := 9) rfl)) (hw _ (List.mem_of_getElem? (i := 10) rfl)) e0 (g := (mkF m 70 #[.val (.int p1), .val (.ref b1)] [])) rfl (hb hby d_method_3_code_70) (by decide) (by decide)
          obtain ⟨b186, g186⟩ : ∃ z, z = h0.size := ⟨_, rfl⟩
          rw [← g186] at A186 D186 st186
          have g_b186 : n0 ≤ b186 := Nat.le_trans Z0 (Nat.le_of_eq g186.symm)
          have sz_b186 : h0.size ≤ b186 := Nat.le_trans (Keep.refl h0 []).1 (Nat.le_of_eq g186.symm)
          have P187 : ∀ t, Steps p.tables e below (T186.setTop (mkF m 73 #[.val (.int p1), .val (.ref b1)] [(.ref b186)])) t → Steps p.tables e below (s₁.setTop (mkF m 0 #[.val (.int p1), .val (.ref b1)] [])) t := fun t k => P0 t (by
            refine XS.iloadN X0.here hx rfl (hb hby d_method_3_code_0) rfl ?_
            show Steps p.tables e below (s₁.setTop (mkF m 1 #[.val (.int p1), .val (.ref b1)] [(.int p1)])) _
            refine XS.ifYes X0.here hx rfl (pc0 := 1) (pc' := 15) rfl (hb hby d_method_3_code_1) rfl ((if0 _ _).trans (feq (show ¬ (p1 = (0 : Int32)) from q52)).2) (by decide) (by decide) ?_
            show Steps p.tables e below (s₁.setTop (mkF m 15 #[.val (.int p1), .val (.ref b1)] [])) _
            refine XS.iloadN X0.here hx rfl (hb hby d_method_3_code_15) rfl ?_
            show Steps p.tables e below (s₁.setTop (mkF m 16 #[.val (.int p1), .val (.ref b1)] [(.int p1)])) _
            refine XS.iconst X0.here hx rfl (hb hby d_method_3_code_16) ?_
            show Steps p.tables e below (s₁.setTop (mkF m 17 #[.val (.int p1), .val (.ref b1)] [(.int (1 : Int32)), (.int p1)])) _
            refine XS.icmpYes X0.here hx rfl (pc0 := 17) (pc' := 37) rfl (hb hby d_method_3_code_17) rfl (feq (show ¬ (p1 = (1 : Int32)) from q83)).2 (by decide) (by decide) ?_
            show Steps p.tables e below (s₁.setTop (mkF m 37 #[.val (.int p1), .val (.ref b1)] [])) _
            refine XS.iloadN X0.here hx rfl (hb hby d_method_3_code_37) rfl ?_
            show Steps p.tables e below (s₁.setTop (mkF m 38 #[.val (.int p1), .val (.ref b1)] [(.int p1)])) _
            refine XS.iconst X0.here hx rfl (hb hby d_method_3_code_38) ?_
            show Steps p.tables e below (s₁.setTop (mkF m 39 #[.val (.int p1), .val (.ref b1)] [(.int (2 : Int32)), (.int p1)])) _
            refine XS.icmpYes X0.here hx rfl (pc0 := 39) (pc' := 65) rfl (hb hby d_method_3_code_39) rfl (feq (show ¬ (p1 = (2 : Int32)) from q128)).2 (by decide) (by decide) ?_
            show Steps p.tables e below (s₁.setTop (mkF m 65 #[.val (.int p1), .val (.ref b1)] [])) _
            refine XS.iloadN X0.here hx rfl (hb hby d_method_3_code_65) rfl ?_
            show Steps p.tables e below (s₁.setTop (mkF m 66 #[.val (.int p1), .val (.ref b1)] [(.int p1)])) _
            refine XS.iconst X0.here hx rfl (hb hby d_method_3_code_66) ?_
            show Steps p.tables e below (s₁.setTop (mkF m 67 #[.val (.int p1), .val (.ref b1)] [(.int (3 : Int32)), (.int p1)])) _
            refine XS.icmpNo X0.here hx rfl (hb hby d_method_3_code_67) rfl (teq (show p1 = (3 : Int32) from q185)).2 ?_
            show Steps p.tables e below (s₁.setTop (mkF m 70 #[.val (.int p1), .val (.ref b1)] [])) _
            exact st186 _ k)
          have Z188 : n0 ≤ h186.size := Nat.le_trans Z0 E186.1
          have K189 : Keep h0 h186 [] := (Keep.refl h0 []).ext E186
          have O190 : Old Z n0 h186 := Ol.ext E186
          have hk191 : h0.size ≤ h186.size := Nat.le_trans (Nat.le_refl _) E186.1
          have C192 : CHr Z own_EL s.vm h0 s.vm h186 := CHr.ext E186 hCH0
          have R193 : CHr Z own_EL s.vm h0 s.vm h186 := hCR0.trans C192
          have sf_b186 : Safe Z own_EL s.vm h186 b186 := Safe.ext E186 hCH0 (Safe.new (Nat.le_of_eq g186.symm))
          have f194 : Fld Z h186 b186 "java/lang/String" "value" "[B" .null := D186 (Or.inr (hw _ (List.mem_of_getElem? (i := 23) rfl))) (ty := (.array .byte)) (by decide)
          have f195 : Fld Z h186 b186 "java/lang/String" "coder" "B" (.int (0 : Int32)) := D186 (Or.inr (hw _ (List.mem_of_getElem? (i := 24) rfl))) (ty := .byte) (by decide)
          obtain ⟨T196, h196, k196, X196, e196, E196, A196, st196⟩ := newP X186 hx hZ (hw _ (List.mem_of_getElem? (i := 0) rfl)) e186 (g := (mkF m 75 #[.val (.int p1), .val (.ref b1)] [(.int (3 : Int32)), (.ref b186), (.ref b186)])) rfl (hb hby d_method_3_code_75) rfl (by decide) (cap := 3) (by decide) (by decide) (by decide) (by decide)
          obtain ⟨b196, g196⟩ : ∃ z, z = h186.size := ⟨_, rfl⟩
          rw [← g196] at A196 st196
          have g_b196 : n0 ≤ b196 := Nat.le_trans Z188 (Nat.le_of_eq g196.symm)
          have sz_b196 : h0.size ≤ b196 := Nat.le_trans K189.1 (Nat.le_of_eq g196.symm)
          have P197 : ∀ t, Steps p.tables e below (T196.setTop (mkF m 77 #[.val (.int p1), .val (.ref b1)] [(.ref b196), (.ref b186), (.ref b186)])) t → Steps p.tables e below (s₁.setTop (mkF m 0 #[.val (.int p1), .val (.ref b1)] [])) t := fun t k => P187 t (by
            show Steps p.tables e below (T186.setTop (mkF m 73 #[.val (.int p1), .val (.ref b1)] [(.ref b186)])) _
            refine XS.dup X186.here hx rfl (hb hby d_method_3_code_73) rfl rfl ?_
            show Steps p.tables e below (T186.setTop (mkF m 74 #[.val (.int p1), .val (.ref b1)] [(.ref b186), (.ref b186)])) _
            refine XS.iconst X186.here hx rfl (hb hby d_method_3_code_74) ?_
            show Steps p.tables e below (T186.setTop (mkF m 75 #[.val (.int p1), .val (.ref b1)] [(.int (3 : Int32)), (.ref b186), (.ref b186)])) _
            exact st196 _ k)
          have Z198 : n0 ≤ h196.size := Nat.le_trans Z188 E196.1
          have K199 : Keep h0 h196 [] := K189.ext E196
          have O200 : Old Z n0 h196 := O190.ext E196
          have hk201 : h0.size ≤ h196.size := Nat.le_trans hk191 E196.1
          have C202 : CHr Z own_EL s.vm h186 s.vm h196 := CHr.ext E196 C192.1
          have R203 : CHr Z own_EL s.vm h0 s.vm h196 := R193.trans C202
          have v204 : Arv Z h196 b196 k196 .char (3 : Int32) [(.int (0 : Int32)), (.int (0 : Int32)), (.int (0 : Int32))] (.int (0 : Int32)) := (Arv.new A196 (by decide)).pad (pad_rep [] (.int (0 : Int32)) 3)
          have f205 : Arv Z h196 b1 kb .char (7 : Int32) [(.int c0), (.int c1), (.int c2), (.int c3), (.int c4), (.int c5), (.int c6)] (.int (0 : Int32)) := ((Ab.ext E186).ext E196)
          obtain ⟨cl206, Ar206, -, S206, N206, H206, -⟩ := id f205
          have hin206 : ¬ ((0 : Int32) < 0 ∨ cl206.slots.size ≤ ((0 : Int32)).toNatClampNeg) := inb_of S206 ⟨by decide, by decide⟩
          obtain ⟨cl207, Ar207, q207, S207, N207, H207, G207⟩ := id v204
          obtain ⟨T207, h207, X207, e207, W207, st207⟩ := stC X196 hx hZ e196 Ar207 (j := (0 : Int32)) (inb_of S207 ⟨by decide, by decide⟩) (g := (mkF m 82 #[.val (.int p1), .val (.ref b1)] [(.int c0), (.int (0 : Int32)), (.ref b196), (.ref b196), (.ref b186), (.ref b186)])) rfl rfl (hb hby d_method_3_code_82)
          have v208 : Arv Z h207 b196 k196 .char (3 : Int32) [(.int (nar .char c0)), (.int (0 : Int32)), (.int (0 : Int32))] (.int (0 : Int32)) := Arv.set Ar207 q207 S207 N207 H207 G207 (fits_nar_char _) W207 0 rfl (Nat.le_of_ble_eq_true rfl)
          have P209 : ∀ t, Steps p.tables e below (T207.setTop (mkF m 83 #[.val (.int p1), .val (.ref b1)] [(.ref b196), (.ref b186), (.ref b186)])) t → Steps p.tables e below (s₁.setTop (mkF m 0 #[.val (.int p1), .val (.ref b1)] [])) t := fun t k => P197 t (by
            show Steps p.tables e below (T196.setTop (mkF m 77 #[.val (.int p1), .val (.ref b1)] [(.ref b196), (.ref b186), (.ref b186)])) _
            refine XS.dup X196.here hx rfl (hb hby d_method_3_code_77) rfl rfl ?_
            show Steps p.tables e below (T196.setTop (mkF m 78 #[.val (.int p1), .val (.ref b1)] [(.ref b196), (.ref b196), (.ref b186), (.ref b186)])) _
            refine XS.iconst X196.here hx rfl (hb hby d_method_3_code_78) ?_
            show Steps p.tables e below (T196.setTop (mkF m 79 #[.val (.int p1), .val (.ref b1)] [(.int (0 : Int32)), (.ref b196), (.ref b196), (.ref b186), (.ref b186)])) _
            refine XS.aloadN X196.here hx rfl (hb hby d_method_3_code_79) rfl rfl ?_
            show Steps p.tables e below (T196.setTop (mkF m 80 #[.val (.int p1), .val (.ref b1)] [(.ref b1), (.int (0 : Int32)), (.ref b196), (.ref b196), (.ref b186), (.ref b186)])) _
            refine XS.iconst X196.here hx rfl (hb hby d_method_3_code_80) ?_
            show Steps p.tables e below (T196.setTop (mkF m 81 #[.val (.int p1), .val (.ref b1)] [(.int (0 : Int32)), (.ref b1), (.int (0 : Int32)), (.ref b196), (.ref b196), (.ref b186), (.ref b186)])) _
            refine X196.caload hx (j := (0 : Int32)) (v := (.int c0)) (by rw [e196]; exact Ar206.1) (State.isArrayOf_alike hZ.alike Ar206.2.1) Ar206.2.2 hin206 (H206.at hin206 rfl) (g := (mkF m 81 #[.val (.int p1), .val (.ref b1)] [(.int (0 : Int32)), (.ref b1), (.int (0 : Int32)), (.ref b196), (.ref b196), (.ref b186), (.ref b186)])) rfl rfl (hb hby d_method_3_code_81) _ ?_
            show Steps p.tables e below (T196.setTop (mkF m 82 #[.val (.int p1), .val (.ref b1)] [(.int c0), (.int (0 : Int32)), (.ref b196), (.ref b196), (.ref b186), (.ref b186)])) _
            exact st207 _ k)
          have N210 := Fr.snoc X207 N0 g_b196
          have Z211 : n0 ≤ h207.size := Nat.le_trans Z198 (Keep.of_wr W207).1
          have K212 : Keep h0 h207 [] := K199.wr W207 (Or.inr sz_b196)
          have O213 : Old Z n0 h207 := O200.wr W207 g_b196
          have hk214 : h0.size ≤ h207.size := Nat.le_trans hk201 (Keep.of_wr W207).1
          have C215 : CHr Z own_EL s.vm h196 s.vm h207 := CHr.wr W207 (Safe.arv hZ.alike v204 (by decide)) C202.1
          have R216 : CHr Z own_EL s.vm h0 s.vm h207 := R203.trans C215
          have f217 : Arv Z h207 b1 kb .char (7 : Int32) [(.int c0), (.int c1), (.int c2), (.int c3), (.int c4), (.int c5), (.int c6)] (.int (0 : Int32)) := (f205.other W207 (Nat.ne_of_lt (Nat.lt_of_lt_of_le (Ab.ext E186).lt (Nat.le_of_eq g196.symm))))
          obtain ⟨cl218, Ar218, -, S218, N218, H218, -⟩ := id f217
          have hin218 : ¬ ((1 : Int32) < 0 ∨ cl218.slots.size ≤ ((1 : Int32)).toNatClampNeg) := inb_of S218 ⟨by decide, by decide⟩
          obtain ⟨cl219, Ar219, q219, S219, N219, H219, G219⟩ := id v208
          obtain ⟨T219, h219, X219, e219, W219, st219⟩ := stC X207 hx hZ e207 Ar219 (j := (1 : Int32)) (inb_of S219 ⟨by decide, by decide⟩) (g := (mkF m 88 #[.val (.int p1), .val (.ref b1)] [(.int c1), (.int (1 : Int32)), (.ref b196), (.ref b196), (.ref b186), (.ref b186)])) rfl rfl (hb hby d_method_3_code_88)
          have v220 : Arv Z h219 b196 k196 .char (3 : Int32) [(.int (nar .char c0)), (.int (nar .char c1)), (.int (0 : Int32))] (.int (0 : Int32)) := Arv.set Ar219 q219 S219 N219 H219 G219 (fits_nar_char _) W219 1 rfl (Nat.le_of_ble_eq_true rfl)
          have P221 : ∀ t, Steps p.tables e below (T219.setTop (mkF m 89 #[.val (.int p1), .val (.ref b1)] [(.ref b196), (.ref b186), (.ref b186)])) t → Steps p.tables e below (s₁.setTop (mkF m 0 #[.val (.int p1), .val (.ref b1)] [])) t := fun t k => P209 t (by
            show Steps p.tables e below (T207.setTop (mkF m 83 #[.val (.int p1), .val (.ref b1)] [(.ref b196), (.ref b186), (.ref b186)])) _
            refine XS.dup X207.here hx rfl (hb hby d_method_3_code_83) rfl rfl ?_
            show Steps p.tables e below (T207.setTop (mkF m 84 #[.val (.int p1), .val (.ref b1)] [(.ref b196), (.ref b196), (.ref b186), (.ref b186)])) _
            refine XS.iconst X207.here hx rfl (hb hby d_method_3_code_84) ?_
            show Steps p.tables e below (T207.setTop (mkF m 85 #[.val (.int p1), .val (.ref b1)] [(.int (1 : Int32)), (.ref b196), (.ref b196), (.ref b186), (.ref b186)])) _
            refine XS.aloadN X207.here hx rfl (hb hby d_method_3_code_85) rfl rfl ?_
            show Steps p.tables e below (T207.setTop (mkF m 86 #[.val (.int p1), .val (.ref b1)] [(.ref b1), (.int (1 : Int32)), (.ref b196), (.ref b196), (.ref b186), (.ref b186)])) _
            refine XS.iconst X207.here hx rfl (hb hby d_method_3_code_86) ?_
            show Steps p.tables e below (T207.setTop (mkF m 87 #[.val (.int p1), .val (.ref b1)] [(.int (1 : Int32)), (.ref b1), (.int (1 : Int32)), (.ref b196), (.ref b196), (.ref b186), (.ref b186)])) _
            refine X207.caload hx (j := (1 : Int32)) (v := (.int c1)) (by rw [e207]; exact Ar218.1) (State.isArrayOf_alike hZ.alike Ar218.2.1) Ar218.2.2 hin218 (H218.at hin218 rfl) (g := (mkF m 87 #[.val (.int p1), .val (.ref b1)] [(.int (1 : Int32)), (.ref b1), (.int (1 : Int32)), (.ref b196), (.ref b196), (.ref b186), (.ref b186)])) rfl rfl (hb hby d_method_3_code_87) _ ?_
            show Steps p.tables e below (T207.setTop (mkF m 88 #[.val (.int p1), .val (.ref b1)] [(.int c1), (.int (1 : Int32)), (.ref b196), (.ref b196), (.ref b186), (.ref b186)])) _
            exact st219 _ k)
          have N222 := Fr.snoc X219 N210 g_b196
          have Z223 : n0 ≤ h219.size := Nat.le_trans Z211 (Keep.of_wr W219).1
          have K224 : Keep h0 h219 [] := K212.wr W219 (Or.inr sz_b196)
          have O225 : Old Z n0 h219 := O213.wr W219 g_b196
          have hk226 : h0.size ≤ h219.size := Nat.le_trans hk214 (Keep.of_wr W219).1
          have C227 : CHr Z own_EL s.vm h207 s.vm h219 := CHr.wr W219 (Safe.arv hZ.alike v208 (by decide)) C215.1
          have R228 : CHr Z own_EL s.vm h0 s.vm h219 := R216.trans C227
          have f229 : Arv Z h219 b1 kb .char (7 : Int32) [(.int c0), (.int c1), (.int c2), (.int c3), (.int c4), (.int c5), (.int c6)] (.int (0 : Int32)) := (f217.other W219 (Nat.ne_of_lt (Nat.lt_of_lt_of_le (Ab.ext E186).lt (Nat.le_of_eq g196.symm))))
          obtain ⟨cl230, Ar230, -, S230, N230, H230, -⟩ := id f229
          have hin230 : ¬ ((2 : Int32) < 0 ∨ cl230.slots.size ≤ ((2 : Int32)).toNatClampNeg) := inb_of S230 ⟨by decide, by decide⟩
          obtain ⟨cl231, Ar231, q231, S231, N231, H231, G231⟩ := id v220
          obtain ⟨T231, h231, X231, e231, W231, st231⟩ := stC X219 hx hZ e219 Ar231 (j := (2 : Int32)) (inb_of S231 ⟨by decide, by decide⟩) (g := (mkF m 94 #[.val (.int p1), .val (.ref b1)] [(.int c2), (.int (2 : Int32)), (.ref b196), (.ref b196), (.ref b186), (.ref b186)])) rfl rfl (hb hby d_method_3_code_94)
          have v232 : Arv Z h231 b196 k196 .char (3 : Int32) [(.int (nar .char c0)), (.int (nar .char c1)), (.int (nar .char c2))] (.int (0 : Int32)) := Arv.set Ar231 q231 S231 N231 H231 G231 (fits_nar_char _) W231 2 rfl (Nat.le_of_ble_eq_true rfl)
          have P233 : ∀ t, Steps p.tables e below (T231.setTop (mkF m 95 #[.val (.int p1), .val (.ref b1)] [(.ref b196), (.ref b186), (.ref b186)])) t → Steps p.tables e below (s₁.setTop (mkF m 0 #[.val (.int p1), .val (.ref b1)] [])) t := fun t k => P221 t (by
            show Steps p.tables e below (T219.setTop (mkF m 89 #[.val (.int p1), .val (.ref b1)] [(.ref b196), (.ref b186), (.ref b186)])) _
            refine XS.dup X219.here hx rfl (hb hby d_method_3_code_89) rfl rfl ?_
            show Steps p.tables e below (T219.setTop (mkF m 90 #[.val (.int p1), .val (.ref b1)] [(.ref b196), (.ref b196), (.ref b186), (.ref b186)])) _
            refine XS.iconst X219.here hx rfl (hb hby d_method_3_code_90) ?_
            show Steps p.tables e below (T219.setTop (mkF m 91 #[.val (.int p1), .val (.ref b1)] [(.int (2 : Int32)), (.ref b196), (.ref b196), (.ref b186), (.ref b186)])) _
            refine XS.aloadN X219.here hx rfl (hb hby d_method_3_code_91) rfl rfl ?_
            show Steps p.tables e below (T219.setTop (mkF m 92 #[.val (.int p1), .val (.ref b1)] [(.ref b1), (.int (2 : Int32)), (.ref b196), (.ref b196), (.ref b186), (.ref b186)])) _
            refine XS.iconst X219.here hx rfl (hb hby d_method_3_code_92) ?_
            show Steps p.tables e below (T219.setTop (mkF m 93 #[.val (.int p1), .val (.ref b1)] [(.int (2 : Int32)), (.ref b1), (.int (2 : Int32)), (.ref b196), (.ref b196), (.ref b186), (.ref b186)])) _
            refine X219.caload hx (j := (2 : Int32)) (v := (.int c2)) (by rw [e219]; exact Ar230.1) (State.isArrayOf_alike hZ.alike Ar230.2.1) Ar230.2.2 hin230 (H230.at hin230 rfl) (g := (mkF m 93 #[.val (.int p1), .val (.ref b1)] [(.int (2 : Int32)), (.ref b1), (.int (2 : Int32)), (.ref b196), (.ref b196), (.ref b186), (.ref b186)])) rfl rfl (hb hby d_method_3_code_93) _ ?_
            show Steps p.tables e below (T219.setTop (mkF m 94 #[.val (.int p1), .val (.ref b1)] [(.int c2), (.int (2 : Int32)), (.ref b196), (.ref b196), (.ref b186), (.ref b186)])) _
            exact st231 _ k)
          have N234 := Fr.snoc X231 N222 g_b196
          have Z235 : n0 ≤ h231.size := Nat.le_trans Z223 (Keep.of_wr W231).1
          have K236 : Keep h0 h231 [] := K224.wr W231 (Or.inr sz_b196)
          have O237 : Old Z n0 h231 := O225.wr W231 g_b196
          have hk238 : h0.size ≤ h231.size := Nat.le_trans hk226 (Keep.of_wr W231).1
          have C239 : CHr Z own_EL s.vm h219 s.vm h231 := CHr.wr W231 (Safe.arv hZ.alike v220 (by decide)) C227.1
          have R240 : CHr Z own_EL s.vm h0 s.vm h231 := R228.trans C239
          have hp : ∀ c ∈ ([(nar .char c0), (nar .char c1), (nar .char c2)] : List Int32), ¬ c < 0 ∧ ¬ (255 : Int32) < c := by
            intro c hc
            simp only [List.mem_cons, List.not_mem_nil, or_false] at hc
            rcases hc with rfl | rfl | rfl
            · exact gc0
            · exact gc1
            · exact gc2
          have hwsb186 : ∀ d ∈ StrChars.Road.words, d.before a0 Z = true := fun d hd => hw d (own_strwords d hd)
          have f241 : Exa Z h231 b186 "java/lang/String" := ((((A186.ext E196).wr W207).wr W219).wr W231)
          have f242 : Fld Z h231 b186 "java/lang/String" "value" "[B" .null := ((((f194.ext E196).other W207 (Or.inl (Nat.ne_of_lt (Nat.lt_of_lt_of_le f195.lt (Nat.le_of_eq g196.symm))))).other W219 (Or.inl (Nat.ne_of_lt (Nat.lt_of_lt_of_le f195.lt (Nat.le_of_eq g196.symm))))).other W231 (Or.inl (Nat.ne_of_lt (Nat.lt_of_lt_of_le f195.lt (Nat.le_of_eq g196.symm)))))
          have f243 : Fld Z h231 b186 "java/lang/String" "coder" "B" (.int (0 : Int32)) := ((((f195.ext E196).other W207 (Or.inl (Nat.ne_of_lt (Nat.lt_of_lt_of_le f195.lt (Nat.le_of_eq g196.symm))))).other W219 (Or.inl (Nat.ne_of_lt (Nat.lt_of_lt_of_le f195.lt (Nat.le_of_eq g196.symm))))).other W231 (Or.inl (Nat.ne_of_lt (Nat.lt_of_lt_of_le f195.lt (Nat.le_of_eq g196.symm)))))
          obtain ⟨_, _, ⟨T244, L244, k244, n244⟩, -, X244, ⟨Lc244, hQ244, l244, y244, z244⟩, st244⟩ := X231.specialBack hx (y := (⟨"java/lang/String", "<init>", "([C)V"⟩ : MethodName)) rfl hown (mvT hZ (hw _ (List.mem_of_getElem? (i := 11) rfl))) (mvT hZ (hw _ (List.mem_of_getElem? (i := 12) rfl))) (mvT hZ (hw _ (List.mem_of_getElem? (i := 13) rfl))) (by decide) (StrChars.Road.backV (W := 1) hZ hwsb186 (kI := 4) (hw _ (List.mem_of_getElem? (i := 9) rfl)) (cs := ([(nar .char c0), (nar .char c1), (nar .char c2)] : List Int32)) (bs := (([(nar .char c0), (nar .char c1), (nar .char c2)] : List Int32)).map (fun c => c.toInt8.toInt32)) (n := 3) g_b186 Z235 f241 f242 f243 v232 (Sg.ext O237.2) P5 rfl rfl (by decide) (by decide) hp rfl (by decide) (by decide)) (g := (mkF m 95 #[.val (.int p1), .val (.ref b1)] [(.ref b196), (.ref b186), (.ref b186)])) rfl (by rw [hml]; rfl) (Steps.refl _) (a := b186) (argsL := [(.ref b196)]) (rest := [(.ref b186)]) (lenOf pd__28_5bC_29V rfl) rfl (by show 2 * 0 + _ ≤ _; exact Nat.le_of_eq rfl) (hb hby d_method_3_code_95) (fun _ _ => ⟨rfl, e231, (Nat.le_of_ble_eq_true rfl : 2 + 1 ≤ _), (Nat.le_of_ble_eq_true rfl : 7 + 3 ≤ _)⟩)
          dsimp only [Pt.U, Pt.locs, Pt.cells, Pt.slots] at X244 l244 y244 z244 st244 hQ244
          subst l244 y244 z244
          obtain ⟨rfl, Nq244, Kk244, Ek244, Fc244, t244, kb244, u244, vt244, wt244, Fv244, Av244⟩ := hQ244
          have N245 := Fr.app N234 Nq244
          have P246 : ∀ t, Steps p.tables e below (T244.setTop (mkF m 98 #[.val (.int p1), .val (.ref b1)] [(.ref b186)])) t → Steps p.tables e below (s₁.setTop (mkF m 0 #[.val (.int p1), .val (.ref b1)] [])) t := fun t k => P233 t (by
            show Steps p.tables e below (T231.setTop (mkF m 95 #[.val (.int p1), .val (.ref b1)] [(.ref b196), (.ref b186), (.ref b186)])) _
            exact st244.trans k)
          have Z247 : n0 ≤ T244.heap.size := Nat.le_trans Z235 Kk244.1
          have K248 : Keep h0 T244.heap [] := K236.trans Kk244 ((allS (Or.inr sz_b186) all0))
          have O249 : Old Z n0 T244.heap := O237.keep Kk244 (allS g_b186 all0)
          have hk250 : h0.size ≤ T244.heap.size := Nat.le_trans hk238 Kk244.1
          have C251 : CHr Z own_EL s.vm h231 s.vm T244.heap := CHr.keep Kk244 (sfS (CHr.safe (((C202.trans C215).trans C227).trans C239) A186.lt sf_b186) sf0) C239.1
          have R252 : CHr Z own_EL s.vm h0 s.vm T244.heap := R240.trans C251
          have g_t244 : n0 ≤ t244 := Nat.le_trans Z235 vt244
          have sz_t244 : h0.size ≤ t244 := Nat.le_trans K236.1 vt244
          obtain ⟨fs253, hr253, hrun253, hended253, hRW253⟩ := X244.leaveW (v := some (.ref b186)) hS0 hk250 (fun h => by rw [Bd.returns] at h; cases h)
          have hce253 : CHr Z own_EL s.vm s.heap T244.vm T244.heap := by
            rw [hh]
            exact R252.trans (CHv.at X244 hZ (own_EW hw) C251.1)
          refine ⟨_, _, pre0 _ (P246 _ ?_), hrun253, hended253, _, _, rfl, ?_, hce253, ⟨hRW253.1, hRW253.2.1, hRW253.2.2.1, hRW253.2.2.2.mono (Nat.le_of_ble_eq_true rfl) (Nat.le_of_ble_eq_true rfl)⟩⟩
          · show Steps p.tables e below (T244.setTop (mkF m 98 #[.val (.int p1), .val (.ref b1)] [(.ref b186)])) _
            exact retOut X244 hx Bd.returns rfl (Or.inr (Or.inr (Or.inr (Or.inr ⟨rfl, rfl, rfl⟩)))) (hb hby d_method_3_code_98) hr253
          · show Q_make Z p1 c0 c1 c2 c3 c4 c5 c6 h0 n0 _ T244.heap _
            exact ⟨b186, t244, _, [nar .char c0, nar .char c1, nar .char c2], by simp [own_cs, q52, q83, q128, q185], rfl, N245, sz_b186, K248, Ek244, Fv244, Fc244, Av244, Nat.le_of_ble_eq_true rfl, hp⟩
        · skip
          by_cases q254 : p1 = (4 : Int32)
          · skip
            obtain ⟨T255, h255, X255, e255, E255, A255, D255, -, st255⟩ := newO X0 hx hZ hown (hw _ (List.mem_of_getElem? (i := 8) rfl)) (hw _ (List.mem_of_getElem? (i := 9) rfl)) (hw _ (List.mem_of_getElem? (i := 10) rfl)) e0 (g := (mkF m 104 #[.val (.int p1), .val (.ref b1)] [])) rfl (hb hby d_method_3_code_104) (by decide) (by decide)
            obtain ⟨b255, g255⟩ : ∃ z, z = h0.size := ⟨_, rfl⟩
            rw [← g255] at A255 D255 st255
            have g_b255 : n0 ≤ b255 := Nat.le_trans Z0 (Nat.le_of_eq g255.symm)
            have sz_b255 : h0.size ≤ b255 := Nat.le_trans (Keep.refl h0 []).1 (Nat.le_of_eq g255.symm)
            have P256 : ∀ t, Steps p.tables e below (T255.setTop (mkF m 107 #[.val (.int p1), .val (.ref b1)] [(.ref b255)])) t → Steps p.tables e below (s₁.setTop (mkF m 0 #[.val (.int p1), .val (.ref b1)] [])) t := fun t k => P0 t (by
              refine XS.iloadN X0.here hx rfl (hb hby d_method_3_code_0) rfl ?_
              show Steps p.tables e below (s₁.setTop (mkF m 1 #[.val (.int p1), .val (.ref b1)] [(.int p1)])) _
              refine XS.ifYes X0.here hx rfl (pc0 := 1) (pc' := 15) rfl (hb hby d_method_3_code_1) rfl ((if0 _ _).trans (feq (show ¬ (p1 = (0 : Int32)) from q52)).2) (by decide) (by decide) ?_
              show Steps p.tables e below (s₁.setTop (mkF m 15 #[.val (.int p1), .val (.ref b1)] [])) _
              refine XS.iloadN X0.here hx rfl (hb hby d_method_3_code_15) rfl ?_
              show Steps p.tables e below (s₁.setTop (mkF m 16 #[.val (.int p1), .val (.ref b1)] [(.int p1)])) _
              refine XS.iconst X0.here hx rfl (hb hby d_method_3_code_16) ?_
              show Steps p.tables e below (s₁.setTop (mkF m 17 #[.val (.int p1), .val (.ref b1)] [(.int (1 : Int32)), (.int p1)])) _
              refine XS.icmpYes X0.here hx rfl (pc0 := 17) (pc' := 37) rfl (hb hby d_method_3_code_17) rfl (feq (show ¬ (p1 = (1 : Int32)) from q83)).2 (by decide) (by decide) ?_
              show Steps p.tables e below (s₁.setTop (mkF m 37 #[.val (.int p1), .val (.ref b1)] [])) _
              refine XS.iloadN X0.here hx rfl (hb hby d_method_3_code_37) rfl ?_
              show Steps p.tables e below (s₁.setTop (mkF m 38 #[.val (.int p1), .val (.ref b1)] [(.int p1)])) _
              refine XS.iconst X0.here hx rfl (hb hby d_method_3_code_38) ?_
              show Steps p.tables e below (s₁.setTop (mkF m 39 #[.val (.int p1), .val (.ref b1)] [(.int (2 : Int32)), (.int p1)])) _
              refine XS.icmpYes X0.here hx rfl (pc0 := 39) (pc' := 65) rfl (hb hby d_method_3_code_39) rfl (feq (show ¬ (p1 = (2 : Int32)) from q128)).2 (by decide) (by decide) ?_
              show Steps p.tables e below (s₁.setTop (mkF m 65 #[.val (.int p1), .val (.ref b1)] [])) _
              refine XS.iloadN X0.here hx rfl (hb hby d_method_3_code_65) rfl ?_
              show Steps p.tables e below (s₁.setTop (mkF m 66 #[.val (.int p1), .val (.ref b1)] [(.int p1)])) _
              refine XS.iconst X0.here hx rfl (hb hby d_method_3_code_66) ?_
              show Steps p.tables e below (s₁.setTop (mkF m 67 #[.val (.int p1), .val (.ref b1)] [(.int (3 : Int32)), (.int p1)])) _
              refine XS.icmpYes X0.here hx rfl (pc0 := 67) (pc' := 99) rfl (hb hby d_method_3_code_67) rfl (feq (show ¬ (p1 = (3 : Int32)) from q185)).2 (by decide) (by decide) ?_
              show Steps p.tables e below (s₁.setTop (mkF m 99 #[.val (.int p1), .val (.ref b1)] [])) _
              refine XS.iloadN X0.here hx rfl (hb hby d_method_3_code_99) rfl ?_
              show Steps p.tables e below (s₁.setTop (mkF m 100 #[.val (.int p1), .val (.ref b1)] [(.int p1)])) _
              refine XS.iconst X0.here hx rfl (hb hby d_method_3_code_100) ?_
              show Steps p.tables e below (s₁.setTop (mkF m 101 #[.val (.int p1), .val (.ref b1)] [(.int (4 : Int32)), (.int p1)])) _
              refine XS.icmpNo X0.here hx rfl (hb hby d_method_3_code_101) rfl (teq (show p1 = (4 : Int32) from q254)).2 ?_
              show Steps p.tables e below (s₁.setTop (mkF m 104 #[.val (.int p1), .val (.ref b1)] [])) _
              exact st255 _ k)
            have Z257 : n0 ≤ h255.size := Nat.le_trans Z0 E255.1
            have K258 : Keep h0 h255 [] := (Keep.refl h0 []).ext E255
            have O259 : Old Z n0 h255 := Ol.ext E255
            have hk260 : h0.size ≤ h255.size := Nat.le_trans (Nat.le_refl _) E255.1
            have C261 : CHr Z own_EL s.vm h0 s.vm h255 := CHr.ext E255 hCH0
            have R262 : CHr Z own_EL s.vm h0 s.vm h255 := hCR0.trans C261
            have sf_b255 : Safe Z own_EL s.vm h255 b255 := Safe.ext E255 hCH0 (Safe.new (Nat.le_of_eq g255.symm))
            have f263 : Fld Z h255 b255 "java/lang/String" "value" "[B" .null := D255 (Or.inr (hw _ (List.mem_of_getElem? (i := 23) rfl))) (ty := (.array .byte)) (by decide)
            have f264 : Fld Z h255 b255 "java/lang/String" "coder" "B" (.int (0 : Int32)) := D255 (Or.inr (hw _ (List.mem_of_getElem? (i := 24) rfl))) (ty := .byte) (by decide)
            obtain ⟨T265, h265, k265, X265, e265, E265, A265, st265⟩ := newP X255 hx hZ (hw _ (List.mem_of_getElem? (i := 0) rfl)) e255 (g := (mkF m 109 #[.val (.int p1), .val (.ref b1)] [(.int (4 : Int32)), (.ref b255), (.ref b255)])) rfl (hb hby d_method_3_code_109) rfl (by decide) (cap := 4) (by decide) (by decide) (by decide) (by decide)
            obtain ⟨b265, g265⟩ : ∃ z, z = h255.size := ⟨_, rfl⟩
            rw [← g265] at A265 st265
            have g_b265 : n0 ≤ b265 := Nat.le_trans Z257 (Nat.le_of_eq g265.symm)
            have sz_b265 : h0.size ≤ b265 := Nat.le_trans K258.1 (Nat.le_of_eq g265.symm)
            have P266 : ∀ t, Steps p.tables e below (T265.setTop (mkF m 111 #[.val (.int p1), .val (.ref b1)] [(.ref b265), (.ref b255), (.ref b255)])) t → Steps p.tables e below (s₁.setTop (mkF m 0 #[.val (.int p1), .val (.ref b1)] [])) t := fun t k => P256 t (by
              show Steps p.tables e below (T255.setTop (mkF m 107 #[.val (.int p1), .val (.ref b1)] [(.ref b255)])) _
              refine XS.dup X255.here hx rfl (hb hby d_method_3_code_107) rfl rfl ?_
              show Steps p.tables e below (T255.setTop (mkF m 108 #[.val (.int p1), .val (.ref b1)] [(.ref b255), (.ref b255)])) _
              refine XS.iconst X255.here hx rfl (hb hby d_method_3_code_108) ?_
              show Steps p.tables e below (T255.setTop (mkF m 109 #[.val (.int p1), .val (.ref b1)] [(.int (4 : Int32)), (.ref b255), (.ref b255)])) _
              exact st265 _ k)
            have Z267 : n0 ≤ h265.size := Nat.le_trans Z257 E265.1
            have K268 : Keep h0 h265 [] := K258.ext E265
            have O269 : Old Z n0 h265 := O259.ext E265
            have hk270 : h0.size ≤ h265.size := Nat.le_trans hk260 E265.1
            have C271 : CHr Z own_EL s.vm h255 s.vm h265 := CHr.ext E265 C261.1
            have R272 : CHr Z own_EL s.vm h0 s.vm h265 := R262.trans C271
            have v273 : Arv Z h265 b265 k265 .char (4 : Int32) [(.int (0 : Int32)), (.int (0 : Int32)), (.int (0 : Int32)), (.int (0 : Int32))] (.int (0 : Int32)) := (Arv.new A265 (by decide)).pad (pad_rep [] (.int (0 : Int32)) 4)
            have f274 : Arv Z h265 b1 kb .char (7 : Int32) [(.int c0), (.int c1), (.int c2), (.int c3), (.int c4), (.int c5), (.int c6)] (.int (0 : Int32)) := ((Ab.ext E255).ext E265)
            obtain ⟨cl275, Ar275, -, S275, N275, H275, -⟩ := id f274
            have hin275 : ¬ ((0 : Int32) < 0 ∨ cl275.slots.size ≤ ((0 : Int32)).toNatClampNeg) := inb_of S275 ⟨by decide, by decide⟩
            obtain ⟨cl276, Ar276, q276, S276, N276, H276, G276⟩ := id v273
            obtain ⟨T276, h276, X276, e276, W276, st276⟩ := stC X265 hx hZ e265 Ar276 (j := (0 : Int32)) (inb_of S276 ⟨by decide, by decide⟩) (g := (mkF m 116 #[.val (.int p1), .val (.ref b1)] [(.int c0), (.int (0 : Int32)), (.ref b265), (.ref b265), (.ref b255), (.ref b255)])) rfl rfl (hb hby d_method_3_code_116)
            have v277 : Arv Z h276 b265 k265 .char (4 : Int32) [(.int (nar .char c0)), (.int (0 : Int32)), (.int (0 : Int32)), (.int (0 : Int32))] (.int (0 : Int32)) := Arv.set Ar276 q276 S276 N276 H276 G276 (fits_nar_char _) W276 0 rfl (Nat.le_of_ble_eq_true rfl)
            have P278 : ∀ t, Steps p.tables e below (T276.setTop (mkF m 117 #[.val (.int p1), .val (.ref b1)] [(.ref b265), (.ref b255), (.ref b255)])) t → Steps p.tables e below (s₁.setTop (mkF m 0 #[.val (.int p1), .val (.ref b1)] [])) t := fun t k => P266 t (by
              show Steps p.tables e below (T265.setTop (mkF m 111 #[.val (.int p1), .val (.ref b1)] [(.ref b265), (.ref b255), (.ref b255)])) _
              refine XS.dup X265.here hx rfl (hb hby d_method_3_code_111) rfl rfl ?_
              show Steps p.tables e below (T265.setTop (mkF m 112 #[.val (.int p1), .val (.ref b1)] [(.ref b265), (.ref b265), (.ref b255), (.ref b255)])) _
              refine XS.iconst X265.here hx rfl (hb hby d_method_3_code_112) ?_
              show Steps p.tables e below (T265.setTop (mkF m 113 #[.val (.int p1), .val (.ref b1)] [(.int (0 : Int32)), (.ref b265), (.ref b265), (.ref b255), (.ref b255)])) _
              refine XS.aloadN X265.here hx rfl (hb hby d_method_3_code_113) rfl rfl ?_
              show Steps p.tables e below (T265.setTop (mkF m 114 #[.val (.int p1), .val (.ref b1)] [(.ref b1), (.int (0 : Int32)), (.ref b265), (.ref b265), (.ref b255), (.ref b255)])) _
              refine XS.iconst X265.here hx rfl (hb hby d_method_3_code_114) ?_
              show Steps p.tables e below (T265.setTop (mkF m 115 #[.val (.int p1), .val (.ref b1)] [(.int (0 : Int32)), (.ref b1), (.int (0 : Int32)), (.ref b265), (.ref b265), (.ref b255), (.ref b255)])) _
              refine X265.caload hx (j := (0 : Int32)) (v := (.int c0)) (by rw [e265]; exact Ar275.1) (State.isArrayOf_alike hZ.alike Ar275.2.1) Ar275.2.2 hin275 (H275.at hin275 rfl) (g := (mkF m 115 #[.val (.int p1), .val (.ref b1)] [(.int (0 : Int32)), (.ref b1), (.int (0 : Int32)), (.ref b265), (.ref b265), (.ref b255), (.ref b255)])) rfl rfl (hb hby d_method_3_code_115) _ ?_
              show Steps p.tables e below (T265.setTop (mkF m 116 #[.val (.int p1), .val (.ref b1)] [(.int c0), (.int (0 : Int32)), (.ref b265), (.ref b265), (.ref b255), (.ref b255)])) _
              exact st276 _ k)
            have N279 := Fr.snoc X276 N0 g_b265
            have Z280 : n0 ≤ h276.size := Nat.le_trans Z267 (Keep.of_wr W276).1
            have K281 : Keep h0 h276 [] := K268.wr W276 (Or.inr sz_b265)
            have O282 : Old Z n0 h276 := O269.wr W276 g_b265
            have hk283 : h0.size ≤ h276.size := Nat.le_trans hk270 (Keep.of_wr W276).1
            have C284 : CHr Z own_EL s.vm h265 s.vm h276 := CHr.wr W276 (Safe.arv hZ.alike v273 (by decide)) C271.1
            have R285 : CHr Z own_EL s.vm h0 s.vm h276 := R272.trans C284
            have f286 : Arv Z h276 b1 kb .char (7 : Int32) [(.int c0), (.int c1), (.int c2), (.int c3), (.int c4), (.int c5), (.int c6)] (.int (0 : Int32)) := (f274.other W276 (Nat.ne_of_lt (Nat.lt_of_lt_of_le (Ab.ext E255).lt (Nat.le_of_eq g265.symm))))
            obtain ⟨cl287, Ar287, -, S287, N287, H287, -⟩ := id f286
            have hin287 : ¬ ((1 : Int32) < 0 ∨ cl287.slots.size ≤ ((1 : Int32)).toNatClampNeg) := inb_of S287 ⟨by decide, by decide⟩
            obtain ⟨cl288, Ar288, q288, S288, N288, H288, G288⟩ := id v277
            obtain ⟨T288, h288, X288, e288, W288, st288⟩ := stC X276 hx hZ e276 Ar288 (j := (1 : Int32)) (inb_of S288 ⟨by decide, by decide⟩) (g := (mkF m 122 #[.val (.int p1), .val (.ref b1)] [(.int c1), (.int (1 : Int32)), (.ref b265), (.ref b265), (.ref b255), (.ref b255)])) rfl rfl (hb hby d_method_3_code_122)
            have v289 : Arv Z h288 b265 k265 .char (4 : Int32) [(.int (nar .char c0)), (.int (nar .char c1)), (.int (0 : Int32)), (.int (0 : Int32))] (.int (0 : Int32)) := Arv.set Ar288 q288 S288 N288 H288 G288 (fits_nar_char _) W288 1 rfl (Nat.le_of_ble_eq_true rfl)
            have P290 : ∀ t, Steps p.tables e below (T288.setTop (mkF m 123 #[.val (.int p1), .val (.ref b1)] [(.ref b265), (.ref b255), (.ref b255)])) t → Steps p.tables e below (s₁.setTop (mkF m 0 #[.val (.int p1), .val (.ref b1)] [])) t := fun t k => P278 t (by
              show Steps p.tables e below (T276.setTop (mkF m 117 #[.val (.int p1), .val (.ref b1)] [(.ref b265), (.ref b255), (.ref b255)])) _
              refine XS.dup X276.here hx rfl (hb hby d_method_3_code_117) rfl rfl ?_
              show Steps p.tables e below (T276.setTop (mkF m 118 #[.val (.int p1), .val (.ref b1)] [(.ref b265), (.ref b265), (.ref b255), (.ref b255)])) _
              refine XS.iconst X276.here hx rfl (hb hby d_method_3_code_118) ?_
              show Steps p.tables e below (T276.setTop (mkF m 119 #[.val (.int p1), .val (.ref b1)] [(.int (1 : Int32)), (.ref b265), (.ref b265), (.ref b255), (.ref b255)])) _
              refine XS.aloadN X276.here hx rfl (hb hby d_method_3_code_119) rfl rfl ?_
              show Steps p.tables e below (T276.setTop (mkF m 120 #[.val (.int p1), .val (.ref b1)] [(.ref b1), (.int (1 : Int32)), (.ref b265), (.ref b265), (.ref b255), (.ref b255)])) _
              refine XS.iconst X276.here hx rfl (hb hby d_method_3_code_120) ?_
              show Steps p.tables e below (T276.setTop (mkF m 121 #[.val (.int p1), .val (.ref b1)] [(.int (1 : Int32)), (.ref b1), (.int (1 : Int32)), (.ref b265), (.ref b265), (.ref b255), (.ref b255)])) _
              refine X276.caload hx (j := (1 : Int32)) (v := (.int c1)) (by rw [e276]; exact Ar287.1) (State.isArrayOf_alike hZ.alike Ar287.2.1) Ar287.2.2 hin287 (H287.at hin287 rfl) (g := (mkF m 121 #[.val (.int p1), .val (.ref b1)] [(.int (1 : Int32)), (.ref b1), (.int (1 : Int32)), (.ref b265), (.ref b265), (.ref b255), (.ref b255)])) rfl rfl (hb hby d_method_3_code_121) _ ?_
              show Steps p.tables e below (T276.setTop (mkF m 122 #[.val (.int p1), .val (.ref b1)] [(.int c1), (.int (1 : Int32)), (.ref b265), (.ref b265), (.ref b255), (.ref b255)])) _
              exact st288 _ k)
            have N291 := Fr.snoc X288 N279 g_b265
            have Z292 : n0 ≤ h288.size := Nat.le_trans Z280 (Keep.of_wr W288).1
            have K293 : Keep h0 h288 [] := K281.wr W288 (Or.inr sz_b265)
            have O294 : Old Z n0 h288 := O282.wr W288 g_b265
            have hk295 : h0.size ≤ h288.size := Nat.le_trans hk283 (Keep.of_wr W288).1
            have C296 : CHr Z own_EL s.vm h276 s.vm h288 := CHr.wr W288 (Safe.arv hZ.alike v277 (by decide)) C284.1
            have R297 : CHr Z own_EL s.vm h0 s.vm h288 := R285.trans C296
            have f298 : Arv Z h288 b1 kb .char (7 : Int32) [(.int c0), (.int c1), (.int c2), (.int c3), (.int c4), (.int c5), (.int c6)] (.int (0 : Int32)) := (f286.other W288 (Nat.ne_of_lt (Nat.lt_of_lt_of_le (Ab.ext E255).lt (Nat.le_of_eq g265.symm))))
            obtain ⟨cl299, Ar299, -, S299, N299, H299, -⟩ := id f298
            have hin299 : ¬ ((2 : Int32) < 0 ∨ cl299.slots.size ≤ ((2 : Int32)).toNatClampNeg) := inb_of S299 ⟨by decide, by decide⟩
            obtain ⟨cl300, Ar300, q300, S300, N300, H300, G300⟩ := id v289
            obtain ⟨T300, h300, X300, e300, W300, st300⟩ := stC X288 hx hZ e288 Ar300 (j := (2 : Int32)) (inb_of S300 ⟨by decide, by decide⟩) (g := (mkF m 128 #[.val (.int p1), .val (.ref b1)] [(.int c2), (.int (2 : Int32)), (.ref b265), (.ref b265), (.ref b255), (.ref b255)])) rfl rfl (hb hby d_method_3_code_128)
            have v301 : Arv Z h300 b265 k265 .char (4 : Int32) [(.int (nar .char c0)), (.int (nar .char c1)), (.int (nar .char c2)), (.int (0 : Int32))] (.int (0 : Int32)) := Arv.set Ar300 q300 S300 N300 H300 G300 (fits_nar_char _) W300 2 rfl (Nat.le_of_ble_eq_true rfl)
            have P302 : ∀ t, Steps p.tables e below (T300.setTop (mkF m 129 #[.val (.int p1), .val (.ref b1)] [(.ref b265), (.ref b255), (.ref b255)])) t → Steps p.tables e below (s₁.setTop (mkF m 0 #[.val (.int p1), .val (.ref b1)] [])) t := fun t k => P290 t (by
              show Steps p.tables e below (T288.setTop (mkF m 123 #[.val (.int p1), .val (.ref b1)] [(.ref b265), (.ref b255), (.ref b255)])) _
              refine XS.dup X288.here hx rfl (hb hby d_method_3_code_123) rfl rfl ?_
              show Steps p.tables e below (T288.setTop (mkF m 124 #[.val (.int p1), .val (.ref b1)] [(.ref b265), (.ref b265), (.ref b255), (.ref b255)])) _
              refine XS.iconst X288.here hx rfl (hb hby d_method_3_code_124) ?_
              show Steps p.tables e below (T288.setTop (mkF m 125 #[.val (.int p1), .val (.ref b1)] [(.int (2 : Int32)), (.ref b265), (.ref b265), (.ref b255), (.ref b255)])) _
              refine XS.aloadN X288.here hx rfl (hb hby d_method_3_code_125) rfl rfl ?_
              show Steps p.tables e below (T288.setTop (mkF m 126 #[.val (.int p1), .val (.ref b1)] [(.ref b1), (.int (2 : Int32)), (.ref b265), (.ref b265), (.ref b255), (.ref b255)])) _
              refine XS.iconst X288.here hx rfl (hb hby d_method_3_code_126) ?_
              show Steps p.tables e below (T288.setTop (mkF m 127 #[.val (.int p1), .val (.ref b1)] [(.int (2 : Int32)), (.ref b1), (.int (2 : Int32)), (.ref b265), (.ref b265), (.ref b255), (.ref b255)])) _
              refine X288.caload hx (j := (2 : Int32)) (v := (.int c2)) (by rw [e288]; exact Ar299.1) (State.isArrayOf_alike hZ.alike Ar299.2.1) Ar299.2.2 hin299 (H299.at hin299 rfl) (g := (mkF m 127 #[.val (.int p1), .val (.ref b1)] [(.int (2 : Int32)), (.ref b1), (.int (2 : Int32)), (.ref b265), (.ref b265), (.ref b255), (.ref b255)])) rfl rfl (hb hby d_method_3_code_127) _ ?_
              show Steps p.tables e below (T288.setTop (mkF m 128 #[.val (.int p1), .val (.ref b1)] [(.int c2), (.int (2 : Int32)), (.ref b265), (.ref b265), (.ref b255), (.ref b255)])) _
              exact st300 _ k)
            have N303 := Fr.snoc X300 N291 g_b265
            have Z304 : n0 ≤ h300.size := Nat.le_trans Z292 (Keep.of_wr W300).1
            have K305 : Keep h0 h300 [] := K293.wr W300 (Or.inr sz_b265)
            have O306 : Old Z n0 h300 := O294.wr W300 g_b265
            have hk307 : h0.size ≤ h300.size := Nat.le_trans hk295 (Keep.of_wr W300).1
            have C308 : CHr Z own_EL s.vm h288 s.vm h300 := CHr.wr W300 (Safe.arv hZ.alike v289 (by decide)) C296.1
            have R309 : CHr Z own_EL s.vm h0 s.vm h300 := R297.trans C308
            have f310 : Arv Z h300 b1 kb .char (7 : Int32) [(.int c0), (.int c1), (.int c2), (.int c3), (.int c4), (.int c5), (.int c6)] (.int (0 : Int32)) := (f298.other W300 (Nat.ne_of_lt (Nat.lt_of_lt_of_le (Ab.ext E255).lt (Nat.le_of_eq g265.symm))))
            obtain ⟨cl311, Ar311, -, S311, N311, H311, -⟩ := id f310
            have hin311 : ¬ ((3 : Int32) < 0 ∨ cl311.slots.size ≤ ((3 : Int32)).toNatClampNeg) := inb_of S311 ⟨by decide, by decide⟩
            obtain ⟨cl312, Ar312, q312, S312, N312, H312, G312⟩ := id v301
            obtain ⟨T312, h312, X312, e312, W312, st312⟩ := stC X300 hx hZ e300 Ar312 (j := (3 : Int32)) (inb_of S312 ⟨by decide, by decide⟩) (g := (mkF m 134 #[.val (.int p1), .val (.ref b1)] [(.int c3), (.int (3 : Int32)), (.ref b265), (.ref b265), (.ref b255), (.ref b255)])) rfl rfl (hb hby d_method_3_code_134)
            have v313 : Arv Z h312 b265 k265 .char (4 : Int32) [(.int (nar .char c0)), (.int (nar .char c1)), (.int (nar .char c2)), (.int (nar .char c3))] (.int (0 : Int32)) := Arv.set Ar312 q312 S312 N312 H312 G312 (fits_nar_char _) W312 3 rfl (Nat.le_of_ble_eq_true rfl)
            have P314 : ∀ t, Steps p.tables e below (T312.setTop (mkF m 135 #[.val (.int p1), .val (.ref b1)] [(.ref b265), (.ref b255), (.ref b255)])) t → Steps p.tables e below (s₁.setTop (mkF m 0 #[.val (.int p1), .val (.ref b1)] [])) t := fun t k => P302 t (by
              show Steps p.tables e below (T300.setTop (mkF m 129 #[.val (.int p1), .val (.ref b1)] [(.ref b265), (.ref b255), (.ref b255)])) _
              refine XS.dup X300.here hx rfl (hb hby d_method_3_code_129) rfl rfl ?_
              show Steps p.tables e below (T300.setTop (mkF m 130 #[.val (.int p1), .val (.ref b1)] [(.ref b265), (.ref b265), (.ref b255), (.ref b255)])) _
              refine XS.iconst X300.here hx rfl (hb hby d_method_3_code_130) ?_
              show Steps p.tables e below (T300.setTop (mkF m 131 #[.val (.int p1), .val (.ref b1)] [(.int (3 : Int32)), (.ref b265), (.ref b265), (.ref b255), (.ref b255)])) _
              refine XS.aloadN X300.here hx rfl (hb hby d_method_3_code_131) rfl rfl ?_
              show Steps p.tables e below (T300.setTop (mkF m 132 #[.val (.int p1), .val (.ref b1)] [(.ref b1), (.int (3 : Int32)), (.ref b265), (.ref b265), (.ref b255), (.ref b255)])) _
              refine XS.iconst X300.here hx rfl (hb hby d_method_3_code_132) ?_
              show Steps p.tables e below (T300.setTop (mkF m 133 #[.val (.int p1), .val (.ref b1)] [(.int (3 : Int32)), (.ref b1), (.int (3 : Int32)), (.ref b265), (.ref b265), (.ref b255), (.ref b255)])) _
              refine X300.caload hx (j := (3 : Int32)) (v := (.int c3)) (by rw [e300]; exact Ar311.1) (State.isArrayOf_alike hZ.alike Ar311.2.1) Ar311.2.2 hin311 (H311.at hin311 rfl) (g := (mkF m 133 #[.val (.int p1), .val (.ref b1)] [(.int (3 : Int32)), (.ref b1), (.int (3 : Int32)), (.ref b265), (.ref b265), (.ref b255), (.ref b255)])) rfl rfl (hb hby d_method_3_code_133) _ ?_
              show Steps p.tables e below (T300.setTop (mkF m 134 #[.val (.int p1), .val (.ref b1)] [(.int c3), (.int (3 : Int32)), (.ref b265), (.ref b265), (.ref b255), (.ref b255)])) _
              exact st312 _ k)
            have N315 := Fr.snoc X312 N303 g_b265
            have Z316 : n0 ≤ h312.size := Nat.le_trans Z304 (Keep.of_wr W312).1
            have K317 : Keep h0 h312 [] := K305.wr W312 (Or.inr sz_b265)
            have O318 : Old Z n0 h312 := O306.wr W312 g_b265
            have hk319 : h0.size ≤ h312.size := Nat.le_trans hk307 (Keep.of_wr W312).1
            have C320 : CHr Z own_EL s.vm h300 s.vm h312 := CHr.wr W312 (Safe.arv hZ.alike v301 (by decide)) C308.1
            have R321 : CHr Z own_EL s.vm h0 s.vm h312 := R309.trans C320
            have hp : ∀ c ∈ ([(nar .char c0), (nar .char c1), (nar .char c2), (nar .char c3)] : List Int32), ¬ c < 0 ∧ ¬ (255 : Int32) < c := by
              intro c hc
              simp only [List.mem_cons, List.not_mem_nil, or_false] at hc
              rcases hc with rfl | rfl | rfl | rfl
              · exact gc0
              · exact gc1
              · exact gc2
              · exact gc3
            have hwsb255 : ∀ d ∈ StrChars.Road.words, d.before a0 Z = true := fun d hd => hw d (own_strwords d hd)
            have f322 : Exa Z h312 b255 "java/lang/String" := (((((A255.ext E265).wr W276).wr W288).wr W300).wr W312)
            have f323 : Fld Z h312 b255 "java/lang/String" "value" "[B" .null := (((((f263.ext E265).other W276 (Or.inl (Nat.ne_of_lt (Nat.lt_of_lt_of_le f264.lt (Nat.le_of_eq g265.symm))))).other W288 (Or.inl (Nat.ne_of_lt (Nat.lt_of_lt_of_le f264.lt (Nat.le_of_eq g265.symm))))).other W300 (Or.inl (Nat.ne_of_lt (Nat.lt_of_lt_of_le f264.lt (Nat.le_of_eq g265.symm))))).other W312 (Or.inl (Nat.ne_of_lt (Nat.lt_of_lt_of_le f264.lt (Nat.le_of_eq g265.symm)))))
            have f324 : Fld Z h312 b255 "java/lang/String" "coder" "B" (.int (0 : Int32)) := (((((f264.ext E265).other W276 (Or.inl (Nat.ne_of_lt (Nat.lt_of_lt_of_le f264.lt (Nat.le_of_eq g265.symm))))).other W288 (Or.inl (Nat.ne_of_lt (Nat.lt_of_lt_of_le f264.lt (Nat.le_of_eq g265.symm))))).other W300 (Or.inl (Nat.ne_of_lt (Nat.lt_of_lt_of_le f264.lt (Nat.le_of_eq g265.symm))))).other W312 (Or.inl (Nat.ne_of_lt (Nat.lt_of_lt_of_le f264.lt (Nat.le_of_eq g265.symm)))))
            obtain ⟨_, _, ⟨T325, L325, k325, n325⟩, -, X325, ⟨Lc325, hQ325, l325, y325, z325⟩, st325⟩ := X312.specialBack hx (y := (⟨"java/lang/String", "<init>", "([C)V"⟩ : MethodName)) rfl hown (mvT hZ (hw _ (List.mem_of_getElem? (i := 11) rfl))) (mvT hZ (hw _ (List.mem_of_getElem? (i := 12) rfl))) (mvT hZ (hw _ (List.mem_of_getElem? (i := 13) rfl))) (by decide) (StrChars.Road.backV (W := 1) hZ hwsb255 (kI := 4) (hw _ (List.mem_of_getElem? (i := 9) rfl)) (cs := ([(nar .char c0), (nar .char c1), (nar .char c2), (nar .char c3)] : List Int32)) (bs := (([(nar .char c0), (nar .char c1), (nar .char c2), (nar .char c3)] : List Int32)).map (fun c => c.toInt8.toInt32)) (n := 4) g_b255 Z316 f322 f323 f324 v313 (Sg.ext O318.2) P5 rfl rfl (by decide) (by decide) hp rfl (by decide) (by decide)) (g := (mkF m 135 #[.val (.int p1), .val (.ref b1)] [(.ref b265), (.ref b255), (.ref b255)])) rfl (by rw [hml]; rfl) (Steps.refl _) (a := b255) (argsL := [(.ref b265)]) (rest := [(.ref b255)]) (lenOf pd__28_5bC_29V rfl) rfl (by show 2 * 0 + _ ≤ _; exact Nat.le_of_eq rfl) (hb hby d_method_3_code_135) (fun _ _ => ⟨rfl, e312, (Nat.le_of_ble_eq_true rfl : 2 + 1 ≤ _), (Nat.le_of_ble_eq_true rfl : 8 + 4 ≤ _)⟩)
            dsimp only [Pt.U, Pt.locs, Pt.cells, Pt.slots] at X325 l325 y325 z325 st325 hQ325
            subst l325 y325 z325
            obtain ⟨rfl, Nq325, Kk325, Ek325, Fc325, t325, kb325, u325, vt325, wt325, Fv325, Av325⟩ := hQ325
            have N326 := Fr.app N315 Nq325
            have P327 : ∀ t, Steps p.tables e below (T325.setTop (mkF m 138 #[.val (.int p1), .val (.ref b1)] [(.ref b255)])) t → Steps p.tables e below (s₁.setTop (mkF m 0 #[.val (.int p1), .val (.ref b1)] [])) t := fun t k => P314 t (by
              show Steps p.tables e below (T312.setTop (mkF m 135 #[.val (.int p1), .val (.ref b1)] [(.ref b265), (.ref b255), (.ref b255)])) _
              exact st325.trans k)
            have Z328 : n0 ≤ T325.heap.size := Nat.le_trans Z316 Kk325.1
            have K329 : Keep h0 T325.heap [] := K317.trans Kk325 ((allS (Or.inr sz_b255) all0))
            have O330 : Old Z n0 T325.heap := O318.keep Kk325 (allS g_b255 all0)
            have hk331 : h0.size ≤ T325.heap.size := Nat.le_trans hk319 Kk325.1
            have C332 : CHr Z own_EL s.vm h312 s.vm T325.heap := CHr.keep Kk325 (sfS (CHr.safe ((((C271.trans C284).trans C296).trans C308).trans C320) A255.lt sf_b255) sf0) C320.1
            have R333 : CHr Z own_EL s.vm h0 s.vm T325.heap := R321.trans C332
            have g_t325 : n0 ≤ t325 := Nat.le_trans Z316 vt325
            have sz_t325 : h0.size ≤ t325 := Nat.le_trans K317.1 vt325
            obtain ⟨fs334, hr334, hrun334, hended334, hRW334⟩ := X325.leaveW (v := some (.ref b255)) hS0 hk331 (fun h => by rw [Bd.returns] at h; cases h)
            have hce334 : CHr Z own_EL s.vm s.heap T325.vm T325.heap := by
              rw [hh]
              exact R333.trans (CHv.at X325 hZ (own_EW hw) C332.1)
            refine ⟨_, _, pre0 _ (P327 _ ?_), hrun334, hended334, _, _, rfl, ?_, hce334, ⟨hRW334.1, hRW334.2.1, hRW334.2.2.1, hRW334.2.2.2.mono (Nat.le_of_ble_eq_true rfl) (Nat.le_of_ble_eq_true rfl)⟩⟩
            · show Steps p.tables e below (T325.setTop (mkF m 138 #[.val (.int p1), .val (.ref b1)] [(.ref b255)])) _
              exact retOut X325 hx Bd.returns rfl (Or.inr (Or.inr (Or.inr (Or.inr ⟨rfl, rfl, rfl⟩)))) (hb hby d_method_3_code_138) hr334
            · show Q_make Z p1 c0 c1 c2 c3 c4 c5 c6 h0 n0 _ T325.heap _
              exact ⟨b255, t325, _, [nar .char c0, nar .char c1, nar .char c2, nar .char c3], by simp [own_cs, q52, q83, q128, q185, q254], rfl, N326, sz_b255, K329, Ek325, Fv325, Fc325, Av325, Nat.le_of_ble_eq_true rfl, hp⟩
          · skip
            by_cases q335 : p1 = (5 : Int32)
            · skip
              obtain ⟨T336, h336, X336, e336, E336, A336, D336, -, st336⟩ := newO X0 hx hZ hown (hw _ (List.mem_of_getElem? (i := 8) rfl)) (hw _ (List.mem_of_getElem? (i := 9) rfl)) (hw _ (List.mem_of_getElem? (i := 10) rfl)) e0 (g := (mkF m 144 #[.val (.int p1), .val (.ref b1)] [])) rfl (hb hby d_method_3_code_144) (by decide) (by decide)
              obtain ⟨b336, g336⟩ : ∃ z, z = h0.size := ⟨_, rfl⟩
              rw [← g336] at A336 D336 st336
              have g_b336 : n0 ≤ b336 := Nat.le_trans Z0 (Nat.le_of_eq g336.symm)
              have sz_b336 : h0.size ≤ b336 := Nat.le_trans (Keep.refl h0 []).1 (Nat.le_of_eq g336.symm)
              have P337 : ∀ t, Steps p.tables e below (T336.setTop (mkF m 147 #[.val (.int p1), .val (.ref b1)] [(.ref b336)])) t → Steps p.tables e below (s₁.setTop (mkF m 0 #[.val (.int p1), .val (.ref b1)] [])) t := fun t k => P0 t (by
                refine XS.iloadN X0.here hx rfl (hb hby d_method_3_code_0) rfl ?_
                show Steps p.tables e below (s₁.setTop (mkF m 1 #[.val (.int p1), .val (.ref b1)] [(.int p1)])) _
                refine XS.ifYes X0.here hx rfl (pc0 := 1) (pc' := 15) rfl (hb hby d_method_3_code_1) rfl ((if0 _ _).trans (feq (show ¬ (p1 = (0 : Int32)) from q52)).2) (by decide) (by decide) ?_
                show Steps p.tables e below (s₁.setTop (mkF m 15 #[.val (.int p1), .val (.ref b1)] [])) _
                refine XS.iloadN X0.here hx rfl (hb hby d_method_3_code_15) rfl ?_
                show Steps p.tables e below (s₁.setTop (mkF m 16 #[.val (.int p1), .val (.ref b1)] [(.int p1)])) _
                refine XS.iconst X0.here hx rfl (hb hby d_method_3_code_16) ?_
                show Steps p.tables e below (s₁.setTop (mkF m 17 #[.val (.int p1), .val (.ref b1)] [(.int (1 : Int32)), (.int p1)])) _
                refine XS.icmpYes X0.here hx rfl (pc0 := 17) (pc' := 37) rfl (hb hby d_method_3_code_17) rfl (feq (show ¬ (p1 = (1 : Int32)) from q83)).2 (by decide) (by decide) ?_
                show Steps p.tables e below (s₁.setTop (mkF m 37 #[.val (.int p1), .val (.ref b1)] [])) _
                refine XS.iloadN X0.here hx rfl (hb hby d_method_3_code_37) rfl ?_
                show Steps p.tables e below (s₁.setTop (mkF m 38 #[.val (.int p1), .val (.ref b1)] [(.int p1)])) _
                refine XS.iconst X0.here hx rfl (hb hby d_method_3_code_38) ?_
                show Steps p.tables e below (s₁.setTop (mkF m 39 #[.val (.int p1), .val (.ref b1)] [(.int (2 : Int32)), (.int p1)])) _
                refine XS.icmpYes X0.here hx rfl (pc0 := 39) (pc' := 65) rfl (hb hby d_method_3_code_39) rfl (feq (show ¬ (p1 = (2 : Int32)) from q128)).2 (by decide) (by decide) ?_
                show Steps p.tables e below (s₁.setTop (mkF m 65 #[.val (.int p1), .val (.ref b1)] [])) _
                refine XS.iloadN X0.here hx rfl (hb hby d_method_3_code_65) rfl ?_
                show Steps p.tables e below (s₁.setTop (mkF m 66 #[.val (.int p1), .val (.ref b1)] [(.int p1)])) _
                refine XS.iconst X0.here hx rfl (hb hby d_method_3_code_66) ?_
                show Steps p.tables e below (s₁.setTop (mkF m 67 #[.val (.int p1), .val (.ref b1)] [(.int (3 : Int32)), (.int p1)])) _
                refine XS.icmpYes X0.here hx rfl (pc0 := 67) (pc' := 99) rfl (hb hby d_method_3_code_67) rfl (feq (show ¬ (p1 = (3 : Int32)) from q185)).2 (by decide) (by decide) ?_
                show Steps p.tables e below (s₁.setTop (mkF m 99 #[.val (.int p1), .val (.ref b1)] [])) _
                refine XS.iloadN X0.here hx rfl (hb hby d_method_3_code_99) rfl ?_
                show Steps p.tables e below (s₁.setTop (mkF m 100 #[.val (.int p1), .val (.ref b1)] [(.int p1)])) _
                refine XS.iconst X0.here hx rfl (hb hby d_method_3_code_100) ?_
                show Steps p.tables e below (s₁.setTop (mkF m 101 #[.val (.int p1), .val (.ref b1)] [(.int (4 : Int32)), (.int p1)])) _
                refine XS.icmpYes X0.here hx rfl (pc0 := 101) (pc' := 139) rfl (hb hby d_method_3_code_101) rfl (feq (show ¬ (p1 = (4 : Int32)) from q254)).2 (by decide) (by decide) ?_
                show Steps p.tables e below (s₁.setTop (mkF m 139 #[.val (.int p1), .val (.ref b1)] [])) _
                refine XS.iloadN X0.here hx rfl (hb hby d_method_3_code_139) rfl ?_
                show Steps p.tables e below (s₁.setTop (mkF m 140 #[.val (.int p1), .val (.ref b1)] [(.int p1)])) _
                refine XS.iconst X0.here hx rfl (hb hby d_method_3_code_140) ?_
                show Steps p.tables e below (s₁.setTop (mkF m 141 #[.val (.int p1), .val (.ref b1)] [(.int (5 : Int32)), (.int p1)])) _
                refine XS.icmpNo X0.here hx rfl (hb hby d_method_3_code_141) rfl (teq (show p1 = (5 : Int32) from q335)).2 ?_
                show Steps p.tables e below (s₁.setTop (mkF m 144 #[.val (.int p1), .val (.ref b1)] [])) _
                exact st336 _ k)
              have Z338 : n0 ≤ h336.size := Nat.le_trans Z0 E336.1
              have K339 : Keep h0 h336 [] := (Keep.refl h0 []).ext E336
              have O340 : Old Z n0 h336 := Ol.ext E336
              have hk341 : h0.size ≤ h336.size := Nat.le_trans (Nat.le_refl _) E336.1
              have C342 : CHr Z own_EL s.vm h0 s.vm h336 := CHr.ext E336 hCH0
              have R343 : CHr Z own_EL s.vm h0 s.vm h336 := hCR0.trans C342
              have sf_b336 : Safe Z own_EL s.vm h336 b336 := Safe.ext E336 hCH0 (Safe.new (Nat.le_of_eq g336.symm))
              have f344 : Fld Z h336 b336 "java/lang/String" "value" "[B" .null := D336 (Or.inr (hw _ (List.mem_of_getElem? (i := 23) rfl))) (ty := (.array .byte)) (by decide)
              have f345 : Fld Z h336 b336 "java/lang/String" "coder" "B" (.int (0 : Int32)) := D336 (Or.inr (hw _ (List.mem_of_getElem? (i := 24) rfl))) (ty := .byte) (by decide)
              obtain ⟨T346, h346, k346, X346, e346, E346, A346, st346⟩ := newP X336 hx hZ (hw _ (List.mem_of_getElem? (i := 0) rfl)) e336 (g := (mkF m 149 #[.val (.int p1), .val (.ref b1)] [(.int (5 : Int32)), (.ref b336), (.ref b336)])) rfl (hb hby d_method_3_code_149) rfl (by decide) (cap := 5) (by decide) (by decide) (by decide) (by decide)
              obtain ⟨b346, g346⟩ : ∃ z, z = h336.size := ⟨_, rfl⟩
              rw [← g346] at A346 st346
              have g_b346 : n0 ≤ b346 := Nat.le_trans Z338 (Nat.le_of_eq g346.symm)
              have sz_b346 : h0.size ≤ b346 := Nat.le_trans K339.1 (Nat.le_of_eq g346.symm)
              have P347 : ∀ t, Steps p.tables e below (T346.setTop (mkF m 151 #[.val (.int p1), .val (.ref b1)] [(.ref b346), (.ref b336), (.ref b336)])) t → Steps p.tables e below (s₁.setTop (mkF m 0 #[.val (.int p1), .val (.ref b1)] [])) t := fun t k => P337 t (by
                show Steps p.tables e below (T336.setTop (mkF m 147 #[.val (.int p1), .val (.ref b1)] [(.ref b336)])) _
                refine XS.dup X336.here hx rfl (hb hby d_method_3_code_147) rfl rfl ?_
                show Steps p.tables e below (T336.setTop (mkF m 148 #[.val (.int p1), .val (.ref b1)] [(.ref b336), (.ref b336)])) _
                refine XS.iconst X336.here hx rfl (hb hby d_method_3_code_148) ?_
                show Steps p.tables e below (T336.setTop (mkF m 149 #[.val (.int p1), .val (.ref b1)] [(.int (5 : Int32)), (.ref b336), (.ref b336)])) _
                exact st346 _ k)
              have Z348 : n0 ≤ h346.size := Nat.le_trans Z338 E346.1
              have K349 : Keep h0 h346 [] := K339.ext E346
              have O350 : Old Z n0 h346 := O340.ext E346
              have hk351 : h0.size ≤ h346.size := Nat.le_trans hk341 E346.1
              have C352 : CHr Z own_EL s.vm h336 s.vm h346 := CHr.ext E346 C342.1
              have R353 : CHr Z own_EL s.vm h0 s.vm h346 := R343.trans C352
              have v354 : Arv Z h346 b346 k346 .char (5 : Int32) [(.int (0 : Int32)), (.int (0 : Int32)), (.int (0 : Int32)), (.int (0 : Int32)), (.int (0 : Int32))] (.int (0 : Int32)) := (Arv.new A346 (by decide)).pad (pad_rep [] (.int (0 : Int32)) 5)
              have f355 : Arv Z h346 b1 kb .char (7 : Int32) [(.int c0), (.int c1), (.int c2), (.int c3), (.int c4), (.int c5), (.int c6)] (.int (0 : Int32)) := ((Ab.ext E336).ext E346)
              obtain ⟨cl356, Ar356, -, S356, N356, H356, -⟩ := id f355
              have hin356 : ¬ ((0 : Int32) < 0 ∨ cl356.slots.size ≤ ((0 : Int32)).toNatClampNeg) := inb_of S356 ⟨by decide, by decide⟩
              obtain ⟨cl357, Ar357, q357, S357, N357, H357, G357⟩ := id v354
              obtain ⟨T357, h357, X357, e357, W357, st357⟩ := stC X346 hx hZ e346 Ar357 (j := (0 : Int32)) (inb_of S357 ⟨by decide, by decide⟩) (g := (mkF m 156 #[.val (.int p1), .val (.ref b1)] [(.int c0), (.int (0 : Int32)), (.ref b346), (.ref b346), (.ref b336), (.ref b336)])) rfl rfl (hb hby d_method_3_code_156)
              have v358 : Arv Z h357 b346 k346 .char (5 : Int32) [(.int (nar .char c0)), (.int (0 : Int32)), (.int (0 : Int32)), (.int (0 : Int32)), (.int (0 : Int32))] (.int (0 : Int32)) := Arv.set Ar357 q357 S357 N357 H357 G357 (fits_nar_char _) W357 0 rfl (Nat.le_of_ble_eq_true rfl)
              have P359 : ∀ t, Steps p.tables e below (T357.setTop (mkF m 157 #[.val (.int p1), .val (.ref b1)] [(.ref b346), (.ref b336), (.ref b336)])) t → Steps p.tables e below (s₁.setTop (mkF m 0 #[.val (.int p1), .val (.ref b1)] [])) t := fun t k => P347 t (by
                show Steps p.tables e below (T346.setTop (mkF m 151 #[.val (.int p1), .val (.ref b1)] [(.ref b346), (.ref b336), (.ref b336)])) _
                refine XS.dup X346.here hx rfl (hb hby d_method_3_code_151) rfl rfl ?_
                show Steps p.tables e below (T346.setTop (mkF m 152 #[.val (.int p1), .val (.ref b1)] [(.ref b346), (.ref b346), (.ref b336), (.ref b336)])) _
                refine XS.iconst X346.here hx rfl (hb hby d_method_3_code_152) ?_
                show Steps p.tables e below (T346.setTop (mkF m 153 #[.val (.int p1), .val (.ref b1)] [(.int (0 : Int32)), (.ref b346), (.ref b346), (.ref b336), (.ref b336)])) _
                refine XS.aloadN X346.here hx rfl (hb hby d_method_3_code_153) rfl rfl ?_
                show Steps p.tables e below (T346.setTop (mkF m 154 #[.val (.int p1), .val (.ref b1)] [(.ref b1), (.int (0 : Int32)), (.ref b346), (.ref b346), (.ref b336), (.ref b336)])) _
                refine XS.iconst X346.here hx rfl (hb hby d_method_3_code_154) ?_
                show Steps p.tables e below (T346.setTop (mkF m 155 #[.val (.int p1), .val (.ref b1)] [(.int (0 : Int32)), (.ref b1), (.int (0 : Int32)), (.ref b346), (.ref b346), (.ref b336), (.ref b336)])) _
                refine X346.caload hx (j := (0 : Int32)) (v := (.int c0)) (by rw [e346]; exact Ar356.1) (State.isArrayOf_alike hZ.alike Ar356.2.1) Ar356.2.2 hin356 (H356.at hin356 rfl) (g := (mkF m 155 #[.val (.int p1), .val (.ref b1)] [(.int (0 : Int32)), (.ref b1), (.int (0 : Int32)), (.ref b346), (.ref b346), (.ref b336), (.ref b336)])) rfl rfl (hb hby d_method_3_code_155) _ ?_
                show Steps p.tables e below (T346.setTop (mkF m 156 #[.val (.int p1), .val (.ref b1)] [(.int c0), (.int (0 : Int32)), (.ref b346), (.ref b346), (.ref b336), (.ref b336)])) _
                exact st357 _ k)
              have N360 := Fr.snoc X357 N0 g_b346
              have Z361 : n0 ≤ h357.size := Nat.le_trans Z348 (Keep.of_wr W357).1
              have K362 : Keep h0 h357 [] := K349.wr W357 (Or.inr sz_b346)
              have O363 : Old Z n0 h357 := O350.wr W357 g_b346
              have hk364 : h0.size ≤ h357.size := Nat.le_trans hk351 (Keep.of_wr W357).1
              have C365 : CHr Z own_EL s.vm h346 s.vm h357 := CHr.wr W357 (Safe.arv hZ.alike v354 (by decide)) C352.1
              have R366 : CHr Z own_EL s.vm h0 s.vm h357 := R353.trans C365
              have f367 : Arv Z h357 b1 kb .char (7 : Int32) [(.int c0), (.int c1), (.int c2), (.int c3), (.int c4), (.int c5), (.int c6)] (.int (0 : Int32)) := (f355.other W357 (Nat.ne_of_lt (Nat.lt_of_lt_of_le (Ab.ext E336).lt (Nat.le_of_eq g346.symm))))
              obtain ⟨cl368, Ar368, -, S368, N368, H368, -⟩ := id f367
              have hin368 : ¬ ((1 : Int32) < 0 ∨ cl368.slots.size ≤ ((1 : Int32)).toNatClampNeg) := inb_of S368 ⟨by decide, by decide⟩
              obtain ⟨cl369, Ar369, q369, S369, N369, H369, G369⟩ := id v358
              obtain ⟨T369, h369, X369, e369, W369, st369⟩ := stC X357 hx hZ e357 Ar369 (j := (1 : Int32)) (inb_of S369 ⟨by decide, by decide⟩) (g := (mkF m 162 #[.val (.int p1), .val (.ref b1)] [(.int c1), (.int (1 : Int32)), (.ref b346), (.ref b346), (.ref b336), (.ref b336)])) rfl rfl (hb hby d_method_3_code_162)
              have v370 : Arv Z h369 b346 k346 .char (5 : Int32) [(.int (nar .char c0)), (.int (nar .char c1)), (.int (0 : Int32)), (.int (0 : Int32)), (.int (0 : Int32))] (.int (0 : Int32)) := Arv.set Ar369 q369 S369 N369 H369 G369 (fits_nar_char _) W369 1 rfl (Nat.le_of_ble_eq_true rfl)
              have P371 : ∀ t, Steps p.tables e below (T369.setTop (mkF m 163 #[.val (.int p1), .val (.ref b1)] [(.ref b346), (.ref b336), (.ref b336)])) t → Steps p.tables e below (s₁.setTop (mkF m 0 #[.val (.int p1), .val (.ref b1)] [])) t := fun t k => P359 t (by
                show Steps p.tables e below (T357.setTop (mkF m 157 #[.val (.int p1), .val (.ref b1)] [(.ref b346), (.ref b336), (.ref b336)])) _
                refine XS.dup X357.here hx rfl (hb hby d_method_3_code_157) rfl rfl ?_
                show Steps p.tables e below (T357.setTop (mkF m 158 #[.val (.int p1), .val (.ref b1)] [(.ref b346), (.ref b346), (.ref b336), (.ref b336)])) _
                refine XS.iconst X357.here hx rfl (hb hby d_method_3_code_158) ?_
                show Steps p.tables e below (T357.setTop (mkF m 159 #[.val (.int p1), .val (.ref b1)] [(.int (1 : Int32)), (.ref b346), (.ref b346), (.ref b336), (.ref b336)])) _
                refine XS.aloadN X357.here hx rfl (hb hby d_method_3_code_159) rfl rfl ?_
                show Steps p.tables e below (T357.setTop (mkF m 160 #[.val (.int p1), .val (.ref b1)] [(.ref b1), (.int (1 : Int32)), (.ref b346), (.ref b346), (.ref b336), (.ref b336)])) _
                refine XS.iconst X357.here hx rfl (hb hby d_method_3_code_160) ?_
                show Steps p.tables e below (T357.setTop (mkF m 161 #[.val (.int p1), .val (.ref b1)] [(.int (1 : Int32)), (.ref b1), (.int (1 : Int32)), (.ref b346), (.ref b346), (.ref b336), (.ref b336)])) _
                refine X357.caload hx (j := (1 : Int32)) (v := (.int c1)) (by rw [e357]; exact Ar368.1) (State.isArrayOf_alike hZ.alike Ar368.2.1) Ar368.2.2 hin368 (H368.at hin368 rfl) (g := (mkF m 161 #[.val (.int p1), .val (.ref b1)] [(.int (1 : Int32)), (.ref b1), (.int (1 : Int32)), (.ref b346), (.ref b346), (.ref b336), (.ref b336)])) rfl rfl (hb hby d_method_3_code_161) _ ?_
                show Steps p.tables e below (T357.setTop (mkF m 162 #[.val (.int p1), .val (.ref b1)] [(.int c1), (.int (1 : Int32)), (.ref b346), (.ref b346), (.ref b336), (.ref b336)])) _
                exact st369 _ k)
              have N372 := Fr.snoc X369 N360 g_b346
              have Z373 : n0 ≤ h369.size := Nat.le_trans Z361 (Keep.of_wr W369).1
              have K374 : Keep h0 h369 [] := K362.wr W369 (Or.inr sz_b346)
              have O375 : Old Z n0 h369 := O363.wr W369 g_b346
              have hk376 : h0.size ≤ h369.size := Nat.le_trans hk364 (Keep.of_wr W369).1
              have C377 : CHr Z own_EL s.vm h357 s.vm h369 := CHr.wr W369 (Safe.arv hZ.alike v358 (by decide)) C365.1
              have R378 : CHr Z own_EL s.vm h0 s.vm h369 := R366.trans C377
              have f379 : Arv Z h369 b1 kb .char (7 : Int32) [(.int c0), (.int c1), (.int c2), (.int c3), (.int c4), (.int c5), (.int c6)] (.int (0 : Int32)) := (f367.other W369 (Nat.ne_of_lt (Nat.lt_of_lt_of_le (Ab.ext E336).lt (Nat.le_of_eq g346.symm))))
              obtain ⟨cl380, Ar380, -, S380, N380, H380, -⟩ := id f379
              have hin380 : ¬ ((2 : Int32) < 0 ∨ cl380.slots.size ≤ ((2 : Int32)).toNatClampNeg) := inb_of S380 ⟨by decide, by decide⟩
              obtain ⟨cl381, Ar381, q381, S381, N381, H381, G381⟩ := id v370
              obtain ⟨T381, h381, X381, e381, W381, st381⟩ := stC X369 hx hZ e369 Ar381 (j := (2 : Int32)) (inb_of S381 ⟨by decide, by decide⟩) (g := (mkF m 168 #[.val (.int p1), .val (.ref b1)] [(.int c2), (.int (2 : Int32)), (.ref b346), (.ref b346), (.ref b336), (.ref b336)])) rfl rfl (hb hby d_method_3_code_168)
              have v382 : Arv Z h381 b346 k346 .char (5 : Int32) [(.int (nar .char c0)), (.int (nar .char c1)), (.int (nar .char c2)), (.int (0 : Int32)), (.int (0 : Int32))] (.int (0 : Int32)) := Arv.set Ar381 q381 S381 N381 H381 G381 (fits_nar_char _) W381 2 rfl (Nat.le_of_ble_eq_true rfl)
              have P383 : ∀ t, Steps p.tables e below (T381.setTop (mkF m 169 #[.val (.int p1), .val (.ref b1)] [(.ref b346), (.ref b336), (.ref b336)])) t → Steps p.tables e below (s₁.setTop (mkF m 0 #[.val (.int p1), .val (.ref b1)] [])) t := fun t k => P371 t (by
                show Steps p.tables e below (T369.setTop (mkF m 163 #[.val (.int p1), .val (.ref b1)] [(.ref b346), (.ref b336), (.ref b336)])) _
                refine XS.dup X369.here hx rfl (hb hby d_method_3_code_163) rfl rfl ?_
                show Steps p.tables e below (T369.setTop (mkF m 164 #[.val (.int p1), .val (.ref b1)] [(.ref b346), (.ref b346), (.ref b336), (.ref b336)])) _
                refine XS.iconst X369.here hx rfl (hb hby d_method_3_code_164) ?_
                show Steps p.tables e below (T369.setTop (mkF m 165 #[.val (.int p1), .val (.ref b1)] [(.int (2 : Int32)), (.ref b346), (.ref b346), (.ref b336), (.ref b336)])) _
                refine XS.aloadN X369.here hx rfl (hb hby d_method_3_code_165) rfl rfl ?_
                show Steps p.tables e below (T369.setTop (mkF m 166 #[.val (.int p1), .val (.ref b1)] [(.ref b1), (.int (2 : Int32)), (.ref b346), (.ref b346), (.ref b336), (.ref b336)])) _
                refine XS.iconst X369.here hx rfl (hb hby d_method_3_code_166) ?_
                show Steps p.tables e below (T369.setTop (mkF m 167 #[.val (.int p1), .val (.ref b1)] [(.int (2 : Int32)), (.ref b1), (.int (2 : Int32)), (.ref b346), (.ref b346), (.ref b336), (.ref b336)])) _
                refine X369.caload hx (j := (2 : Int32)) (v := (.int c2)) (by rw [e369]; exact Ar380.1) (State.isArrayOf_alike hZ.alike Ar380.2.1) Ar380.2.2 hin380 (H380.at hin380 rfl) (g := (mkF m 167 #[.val (.int p1), .val (.ref b1)] [(.int (2 : Int32)), (.ref b1), (.int (2 : Int32)), (.ref b346), (.ref b346), (.ref b336), (.ref b336)])) rfl rfl (hb hby d_method_3_code_167) _ ?_
                show Steps p.tables e below (T369.setTop (mkF m 168 #[.val (.int p1), .val (.ref b1)] [(.int c2), (.int (2 : Int32)), (.ref b346), (.ref b346), (.ref b336), (.ref b336)])) _
                exact st381 _ k)
              have N384 := Fr.snoc X381 N372 g_b346
              have Z385 : n0 ≤ h381.size := Nat.le_trans Z373 (Keep.of_wr W381).1
              have K386 : Keep h0 h381 [] := K374.wr W381 (Or.inr sz_b346)
              have O387 : Old Z n0 h381 := O375.wr W381 g_b346
              have hk388 : h0.size ≤ h381.size := Nat.le_trans hk376 (Keep.of_wr W381).1
              have C389 : CHr Z own_EL s.vm h369 s.vm h381 := CHr.wr W381 (Safe.arv hZ.alike v370 (by decide)) C377.1
              have R390 : CHr Z own_EL s.vm h0 s.vm h381 := R378.trans C389
              have f391 : Arv Z h381 b1 kb .char (7 : Int32) [(.int c0), (.int c1), (.int c2), (.int c3), (.int c4), (.int c5), (.int c6)] (.int (0 : Int32)) := (f379.other W381 (Nat.ne_of_lt (Nat.lt_of_lt_of_le (Ab.ext E336).lt (Nat.le_of_eq g346.symm))))
              obtain ⟨cl392, Ar392, -, S392, N392, H392, -⟩ := id f391
              have hin392 : ¬ ((3 : Int32) < 0 ∨ cl392.slots.size ≤ ((3 : Int32)).toNatClampNeg) := inb_of S392 ⟨by decide, by decide⟩
              obtain ⟨cl393, Ar393, q393, S393, N393, H393, G393⟩ := id v382
              obtain ⟨T393, h393, X393, e393, W393, st393⟩ := stC X381 hx hZ e381 Ar393 (j := (3 : Int32)) (inb_of S393 ⟨by decide, by decide⟩) (g := (mkF m 174 #[.val (.int p1), .val (.ref b1)] [(.int c3), (.int (3 : Int32)), (.ref b346), (.ref b346), (.ref b336), (.ref b336)])) rfl rfl (hb hby d_method_3_code_174)
              have v394 : Arv Z h393 b346 k346 .char (5 : Int32) [(.int (nar .char c0)), (.int (nar .char c1)), (.int (nar .char c2)), (.int (nar .char c3)), (.int (0 : Int32))] (.int (0 : Int32)) := Arv.set Ar393 q393 S393 N393 H393 G393 (fits_nar_char _) W393 3 rfl (Nat.le_of_ble_eq_true rfl)
              have P395 : ∀ t, Steps p.tables e below (T393.setTop (mkF m 175 #[.val (.int p1), .val (.ref b1)] [(.ref b346), (.ref b336), (.ref b336)])) t → Steps p.tables e below (s₁.setTop (mkF m 0 #[.val (.int p1), .val (.ref b1)] [])) t := fun t k => P383 t (by
                show Steps p.tables e below (T381.setTop (mkF m 169 #[.val (.int p1), .val (.ref b1)] [(.ref b346), (.ref b336), (.ref b336)])) _
                refine XS.dup X381.here hx rfl (hb hby d_method_3_code_169) rfl rfl ?_
                show Steps p.tables e below (T381.setTop (mkF m 170 #[.val (.int p1), .val (.ref b1)] [(.ref b346), (.ref b346), (.ref b336), (.ref b336)])) _
                refine XS.iconst X381.here hx rfl (hb hby d_method_3_code_170) ?_
                show Steps p.tables e below (T381.setTop (mkF m 171 #[.val (.int p1), .val (.ref b1)] [(.int (3 : Int32)), (.ref b346), (.ref b346), (.ref b336), (.ref b336)])) _
                refine XS.aloadN X381.here hx rfl (hb hby d_method_3_code_171) rfl rfl ?_
                show Steps p.tables e below (T381.setTop (mkF m 172 #[.val (.int p1), .val (.ref b1)] [(.ref b1), (.int (3 : Int32)), (.ref b346), (.ref b346), (.ref b336), (.ref b336)])) _
                refine XS.iconst X381.here hx rfl (hb hby d_method_3_code_172) ?_
                show Steps p.tables e below (T381.setTop (mkF m 173 #[.val (.int p1), .val (.ref b1)] [(.int (3 : Int32)), (.ref b1), (.int (3 : Int32)), (.ref b346), (.ref b346), (.ref b336), (.ref b336)])) _
                refine X381.caload hx (j := (3 : Int32)) (v := (.int c3)) (by rw [e381]; exact Ar392.1) (State.isArrayOf_alike hZ.alike Ar392.2.1) Ar392.2.2 hin392 (H392.at hin392 rfl) (g := (mkF m 173 #[.val (.int p1), .val (.ref b1)] [(.int (3 : Int32)), (.ref b1), (.int (3 : Int32)), (.ref b346), (.ref b346), (.ref b336), (.ref b336)])) rfl rfl (hb hby d_method_3_code_173) _ ?_
                show Steps p.tables e below (T381.setTop (mkF m 174 #[.val (.int p1), .val (.ref b1)] [(.int c3), (.int (3 : Int32)), (.ref b346), (.ref b346), (.ref b336), (.ref b336)])) _
                exact st393 _ k)
              have N396 := Fr.snoc X393 N384 g_b346
              have Z397 : n0 ≤ h393.size := Nat.le_trans Z385 (Keep.of_wr W393).1
              have K398 : Keep h0 h393 [] := K386.wr W393 (Or.inr sz_b346)
              have O399 : Old Z n0 h393 := O387.wr W393 g_b346
              have hk400 : h0.size ≤ h393.size := Nat.le_trans hk388 (Keep.of_wr W393).1
              have C401 : CHr Z own_EL s.vm h381 s.vm h393 := CHr.wr W393 (Safe.arv hZ.alike v382 (by decide)) C389.1
              have R402 : CHr Z own_EL s.vm h0 s.vm h393 := R390.trans C401
              have f403 : Arv Z h393 b1 kb .char (7 : Int32) [(.int c0), (.int c1), (.int c2), (.int c3), (.int c4), (.int c5), (.int c6)] (.int (0 : Int32)) := (f391.other W393 (Nat.ne_of_lt (Nat.lt_of_lt_of_le (Ab.ext E336).lt (Nat.le_of_eq g346.symm))))
              obtain ⟨cl404, Ar404, -, S404, N404, H404, -⟩ := id f403
              have hin404 : ¬ ((4 : Int32) < 0 ∨ cl404.slots.size ≤ ((4 : Int32)).toNatClampNeg) := inb_of S404 ⟨by decide, by decide⟩
              obtain ⟨cl405, Ar405, q405, S405, N405, H405, G405⟩ := id v394
              obtain ⟨T405, h405, X405, e405, W405, st405⟩ := stC X393 hx hZ e393 Ar405 (j := (4 : Int32)) (inb_of S405 ⟨by decide, by decide⟩) (g := (mkF m 180 #[.val (.int p1), .val (.ref b1)] [(.int c4), (.int (4 : Int32)), (.ref b346), (.ref b346), (.ref b336), (.ref b336)])) rfl rfl (hb hby d_method_3_code_180)
              have v406 : Arv Z h405 b346 k346 .char (5 : Int32) [(.int (nar .char c0)), (.int (nar .char c1)), (.int (nar .char c2)), (.int (nar .char c3)), (.int (nar .char c4))] (.int (0 : Int32)) := Arv.set Ar405 q405 S405 N405 H405 G405 (fits_nar_char _) W405 4 rfl (Nat.le_of_ble_eq_true rfl)
              have P407 : ∀ t, Steps p.tables e below (T405.setTop (mkF m 181 #[.val (.int p1), .val (.ref b1)] [(.ref b346), (.ref b336), (.ref b336)])) t → Steps p.tables e below (s₁.setTop (mkF m 0 #[.val (.int p1), .val (.ref b1)] [])) t := fun t k => P395 t (by
                show Steps p.tables e below (T393.setTop (mkF m 175 #[.val (.int p1), .val (.ref b1)] [(.ref b346), (.ref b336), (.ref b336)])) _
                refine XS.dup X393.here hx rfl (hb hby d_method_3_code_175) rfl rfl ?_
                show Steps p.tables e below (T393.setTop (mkF m 176 #[.val (.int p1), .val (.ref b1)] [(.ref b346), (.ref b346), (.ref b336), (.ref b336)])) _
                refine XS.iconst X393.here hx rfl (hb hby d_method_3_code_176) ?_
                show Steps p.tables e below (T393.setTop (mkF m 177 #[.val (.int p1), .val (.ref b1)] [(.int (4 : Int32)), (.ref b346), (.ref b346), (.ref b336), (.ref b336)])) _
                refine XS.aloadN X393.here hx rfl (hb hby d_method_3_code_177) rfl rfl ?_
                show Steps p.tables e below (T393.setTop (mkF m 178 #[.val (.int p1), .val (.ref b1)] [(.ref b1), (.int (4 : Int32)), (.ref b346), (.ref b346), (.ref b336), (.ref b336)])) _
                refine XS.iconst X393.here hx rfl (hb hby d_method_3_code_178) ?_
                show Steps p.tables e below (T393.setTop (mkF m 179 #[.val (.int p1), .val (.ref b1)] [(.int (4 : Int32)), (.ref b1), (.int (4 : Int32)), (.ref b346), (.ref b346), (.ref b336), (.ref b336)])) _
                refine X393.caload hx (j := (4 : Int32)) (v := (.int c4)) (by rw [e393]; exact Ar404.1) (State.isArrayOf_alike hZ.alike Ar404.2.1) Ar404.2.2 hin404 (H404.at hin404 rfl) (g := (mkF m 179 #[.val (.int p1), .val (.ref b1)] [(.int (4 : Int32)), (.ref b1), (.int (4 : Int32)), (.ref b346), (.ref b346), (.ref b336), (.ref b336)])) rfl rfl (hb hby d_method_3_code_179) _ ?_
                show Steps p.tables e below (T393.setTop (mkF m 180 #[.val (.int p1), .val (.ref b1)] [(.int c4), (.int (4 : Int32)), (.ref b346), (.ref b346), (.ref b336), (.ref b336)])) _
                exact st405 _ k)
              have N408 := Fr.snoc X405 N396 g_b346
              have Z409 : n0 ≤ h405.size := Nat.le_trans Z397 (Keep.of_wr W405).1
              have K410 : Keep h0 h405 [] := K398.wr W405 (Or.inr sz_b346)
              have O411 : Old Z n0 h405 := O399.wr W405 g_b346
              have hk412 : h0.size ≤ h405.size := Nat.le_trans hk400 (Keep.of_wr W405).1
              have C413 : CHr Z own_EL s.vm h393 s.vm h405 := CHr.wr W405 (Safe.arv hZ.alike v394 (by decide)) C401.1
              have R414 : CHr Z own_EL s.vm h0 s.vm h405 := R402.trans C413
              have hp : ∀ c ∈ ([(nar .char c0), (nar .char c1), (nar .char c2), (nar .char c3), (nar .char c4)] : List Int32), ¬ c < 0 ∧ ¬ (255 : Int32) < c := by
                intro c hc
                simp only [List.mem_cons, List.not_mem_nil, or_false] at hc
                rcases hc with rfl | rfl | rfl | rfl | rfl
                · exact gc0
                · exact gc1
                · exact gc2
                · exact gc3
                · exact gc4
              have hwsb336 : ∀ d ∈ StrChars.Road.words, d.before a0 Z = true := fun d hd => hw d (own_strwords d hd)
              have f415 : Exa Z h405 b336 "java/lang/String" := ((((((A336.ext E346).wr W357).wr W369).wr W381).wr W393).wr W405)
              have f416 : Fld Z h405 b336 "java/lang/String" "value" "[B" .null := ((((((f344.ext E346).other W357 (Or.inl (Nat.ne_of_lt (Nat.lt_of_lt_of_le f345.lt (Nat.le_of_eq g346.symm))))).other W369 (Or.inl (Nat.ne_of_lt (Nat.lt_of_lt_of_le f345.lt (Nat.le_of_eq g346.symm))))).other W381 (Or.inl (Nat.ne_of_lt (Nat.lt_of_lt_of_le f345.lt (Nat.le_of_eq g346.symm))))).other W393 (Or.inl (Nat.ne_of_lt (Nat.lt_of_lt_of_le f345.lt (Nat.le_of_eq g346.symm))))).other W405 (Or.inl (Nat.ne_of_lt (Nat.lt_of_lt_of_le f345.lt (Nat.le_of_eq g346.symm)))))
              have f417 : Fld Z h405 b336 "java/lang/String" "coder" "B" (.int (0 : Int32)) := ((((((f345.ext E346).other W357 (Or.inl (Nat.ne_of_lt (Nat.lt_of_lt_of_le f345.lt (Nat.le_of_eq g346.symm))))).other W369 (Or.inl (Nat.ne_of_lt (Nat.lt_of_lt_of_le f345.lt (Nat.le_of_eq g346.symm))))).other W381 (Or.inl (Nat.ne_of_lt (Nat.lt_of_lt_of_le f345.lt (Nat.le_of_eq g346.symm))))).other W393 (Or.inl (Nat.ne_of_lt (Nat.lt_of_lt_of_le f345.lt (Nat.le_of_eq g346.symm))))).other W405 (Or.inl (Nat.ne_of_lt (Nat.lt_of_lt_of_le f345.lt (Nat.le_of_eq g346.symm)))))
              obtain ⟨_, _, ⟨T418, L418, k418, n418⟩, -, X418, ⟨Lc418, hQ418, l418, y418, z418⟩, st418⟩ := X405.specialBack hx (y := (⟨"java/lang/String", "<init>", "([C)V"⟩ : MethodName)) rfl hown (mvT hZ (hw _ (List.mem_of_getElem? (i := 11) rfl))) (mvT hZ (hw _ (List.mem_of_getElem? (i := 12) rfl))) (mvT hZ (hw _ (List.mem_of_getElem? (i := 13) rfl))) (by decide) (StrChars.Road.backV (W := 1) hZ hwsb336 (kI := 4) (hw _ (List.mem_of_getElem? (i := 9) rfl)) (cs := ([(nar .char c0), (nar .char c1), (nar .char c2), (nar .char c3), (nar .char c4)] : List Int32)) (bs := (([(nar .char c0), (nar .char c1), (nar .char c2), (nar .char c3), (nar .char c4)] : List Int32)).map (fun c => c.toInt8.toInt32)) (n := 5) g_b336 Z409 f415 f416 f417 v406 (Sg.ext O411.2) P5 rfl rfl (by decide) (by decide) hp rfl (by decide) (by decide)) (g := (mkF m 181 #[.val (.int p1), .val (.ref b1)] [(.ref b346), (.ref b336), (.ref b336)])) rfl (by rw [hml]; rfl) (Steps.refl _) (a := b336) (argsL := [(.ref b346)]) (rest := [(.ref b336)]) (lenOf pd__28_5bC_29V rfl) rfl (by show 2 * 0 + _ ≤ _; exact Nat.le_of_eq rfl) (hb hby d_method_3_code_181) (fun _ _ => ⟨rfl, e405, (Nat.le_of_ble_eq_true rfl : 2 + 1 ≤ _), (Nat.le_of_ble_eq_true rfl : 9 + 5 ≤ _)⟩)
              dsimp only [Pt.U, Pt.locs, Pt.cells, Pt.slots] at X418 l418 y418 z418 st418 hQ418
              subst l418 y418 z418
              obtain ⟨rfl, Nq418, Kk418, Ek418, Fc418, t418, kb418, u418, vt418, wt418, Fv418, Av418⟩ := hQ418
              have N419 := Fr.app N408 Nq418
              have P420 : ∀ t, Steps p.tables e below (T418.setTop (mkF m 184 #[.val (.int p1), .val (.ref b1)] [(.ref b336)])) t → Steps p.tables e below (s₁.setTop (mkF m 0 #[.val (.int p1), .val (.ref b1)] [])) t := fun t k => P407 t (by
                show Steps p.tables e below (T405.setTop (mkF m 181 #[.val (.int p1), .val (.ref b1)] [(.ref b346), (.ref b336), (.ref b336)])) _
                exact st418.trans k)
              have Z421 : n0 ≤ T418.heap.size := Nat.le_trans Z409 Kk418.1
              have K422 : Keep h0 T418.heap [] := K410.trans Kk418 ((allS (Or.inr sz_b336) all0))
              have O423 : Old Z n0 T418.heap := O411.keep Kk418 (allS g_b336 all0)
              have hk424 : h0.size ≤ T418.heap.size := Nat.le_trans hk412 Kk418.1
              have C425 : CHr Z own_EL s.vm h405 s.vm T418.heap := CHr.keep Kk418 (sfS (CHr.safe (((((C352.trans C365).trans C377).trans C389).trans C401).trans C413) A336.lt sf_b336) sf0) C413.1
              have R426 : CHr Z own_EL s.vm h0 s.vm T418.heap := R414.trans C425
              have g_t418 : n0 ≤ t418 := Nat.le_trans Z409 vt418
              have sz_t418 : h0.size ≤ t418 := Nat.le_trans K410.1 vt418
              obtain ⟨fs427, hr427, hrun427, hended427, hRW427⟩ := X418.leaveW (v := some (.ref b336)) hS0 hk424 (fun h => by rw [Bd.returns] at h; cases h)
              have hce427 : CHr Z own_EL s.vm s.heap T418.vm T418.heap := by
                rw [hh]
                exact R426.trans (CHv.at X418 hZ (own_EW hw) C425.1)
              refine ⟨_, _, pre0 _ (P420 _ ?_), hrun427, hended427, _, _, rfl, ?_, hce427, ⟨hRW427.1, hRW427.2.1, hRW427.2.2.1, hRW427.2.2.2.mono (Nat.le_of_ble_eq_true rfl) (Nat.le_of_ble_eq_true rfl)⟩⟩
              · show Steps p.tables e below (T418.setTop (mkF m 184 #[.val (.int p1), .val (.ref b1)] [(.ref b336)])) _
                exact retOut X418 hx Bd.returns rfl (Or.inr (Or.inr (Or.inr (Or.inr ⟨rfl, rfl, rfl⟩)))) (hb hby d_method_3_code_184) hr427
              · show Q_make Z p1 c0 c1 c2 c3 c4 c5 c6 h0 n0 _ T418.heap _
                exact ⟨b336, t418, _, [nar .char c0, nar .char c1, nar .char c2, nar .char c3, nar .char c4], by simp [own_cs, q52, q83, q128, q185, q254, q335], rfl, N419, sz_b336, K422, Ek418, Fv418, Fc418, Av418, Nat.le_of_ble_eq_true rfl, hp⟩
            · skip
              by_cases q428 : p1 = (6 : Int32)
              · skip
                obtain ⟨T429, h429, X429, e429, E429, A429, D429, -, st429⟩ := newO X0 hx hZ hown (hw _ (List.mem_of_getElem? (i := 8) rfl)) (hw _ (List.mem_of_getElem? (i := 9) rfl)) (hw _ (List.mem_of_getElem? (i := 10) rfl)) e0 (g := (mkF m 191 #[.val (.int p1), .val (.ref b1)] [])) rfl (hb hby d_method_3_code_191) (by decide) (by decide)
                obtain ⟨b429, g429⟩ : ∃ z, z = h0.size := ⟨_, rfl⟩
                rw [← g429] at A429 D429 st429
                have g_b429 : n0 ≤ b429 := Nat.le_trans Z0 (Nat.le_of_eq g429.symm)
                have sz_b429 : h0.size ≤ b429 := Nat.le_trans (Keep.refl h0 []).1 (Nat.le_of_eq g429.symm)
                have P430 : ∀ t, Steps p.tables e below (T429.setTop (mkF m 194 #[.val (.int p1), .val (.ref b1)] [(.ref b429)])) t → Steps p.tables e below (s₁.setTop (mkF m 0 #[.val (.int p1), .val (.ref b1)] [])) t := fun t k => P0 t (by
                  refine XS.iloadN X0.here hx rfl (hb hby d_method_3_code_0) rfl ?_
                  show Steps p.tables e below (s₁.setTop (mkF m 1 #[.val (.int p1), .val (.ref b1)] [(.int p1)])) _
                  refine XS.ifYes X0.here hx rfl (pc0 := 1) (pc' := 15) rfl (hb hby d_method_3_code_1) rfl ((if0 _ _).trans (feq (show ¬ (p1 = (0 : Int32)) from q52)).2) (by decide) (by decide) ?_
                  show Steps p.tables e below (s₁.setTop (mkF m 15 #[.val (.int p1), .val (.ref b1)] [])) _
                  refine XS.iloadN X0.here hx rfl (hb hby d_method_3_code_15) rfl ?_
                  show Steps p.tables e below (s₁.setTop (mkF m 16 #[.val (.int p1), .val (.ref b1)] [(.int p1)])) _
                  refine XS.iconst X0.here hx rfl (hb hby d_method_3_code_16) ?_
                  show Steps p.tables e below (s₁.setTop (mkF m 17 #[.val (.int p1), .val (.ref b1)] [(.int (1 : Int32)), (.int p1)])) _
                  refine XS.icmpYes X0.here hx rfl (pc0 := 17) (pc' := 37) rfl (hb hby d_method_3_code_17) rfl (feq (show ¬ (p1 = (1 : Int32)) from q83)).2 (by decide) (by decide) ?_
                  show Steps p.tables e below (s₁.setTop (mkF m 37 #[.val (.int p1), .val (.ref b1)] [])) _
                  refine XS.iloadN X0.here hx rfl (hb hby d_method_3_code_37) rfl ?_
                  show Steps p.tables e below (s₁.setTop (mkF m 38 #[.val (.int p1), .val (.ref b1)] [(.int p1)])) _
                  refine XS.iconst X0.here hx rfl (hb hby d_method_3_code_38) ?_
                  show Steps p.tables e below (s₁.setTop (mkF m 39 #[.val (.int p1), .val (.ref b1)] [(.int (2 : Int32)), (.int p1)])) _
                  refine XS.icmpYes X0.here hx rfl (pc0 := 39) (pc' := 65) rfl (hb hby d_method_3_code_39) rfl (feq (show ¬ (p1 = (2 : Int32)) from q128)).2 (by decide) (by decide) ?_
                  show Steps p.tables e below (s₁.setTop (mkF m 65 #[.val (.int p1), .val (.ref b1)] [])) _
                  refine XS.iloadN X0.here hx rfl (hb hby d_method_3_code_65) rfl ?_
                  show Steps p.tables e below (s₁.setTop (mkF m 66 #[.val (.int p1), .val (.ref b1)] [(.int p1)])) _
                  refine XS.iconst X0.here hx rfl (hb hby d_method_3_code_66) ?_
                  show Steps p.tables e below (s₁.setTop (mkF m 67 #[.val (.int p1), .val (.ref b1)] [(.int (3 : Int32)), (.int p1)])) _
                  refine XS.icmpYes X0.here hx rfl (pc0 := 67) (pc' := 99) rfl (hb hby d_method_3_code_67) rfl (feq (show ¬ (p1 = (3 : Int32)) from q185)).2 (by decide) (by decide) ?_
                  show Steps p.tables e below (s₁.setTop (mkF m 99 #[.val (.int p1), .val (.ref b1)] [])) _
                  refine XS.iloadN X0.here hx rfl (hb hby d_method_3_code_99) rfl ?_
                  show Steps p.tables e below (s₁.setTop (mkF m 100 #[.val (.int p1), .val (.ref b1)] [(.int p1)])) _
                  refine XS.iconst X0.here hx rfl (hb hby d_method_3_code_100) ?_
                  show Steps p.tables e below (s₁.setTop (mkF m 101 #[.val (.int p1), .val (.ref b1)] [(.int (4 : Int32)), (.int p1)])) _
                  refine XS.icmpYes X0.here hx rfl (pc0 := 101) (pc' := 139) rfl (hb hby d_method_3_code_101) rfl (feq (show ¬ (p1 = (4 : Int32)) from q254)).2 (by decide) (by decide) ?_
                  show Steps p.tables e below (s₁.setTop (mkF m 139 #[.val (.int p1), .val (.ref b1)] [])) _
                  refine XS.iloadN X0.here hx rfl (hb hby d_method_3_code_139) rfl ?_
                  show Steps p.tables e below (s₁.setTop (mkF m 140 #[.val (.int p1), .val (.ref b1)] [(.int p1)])) _
                  refine XS.iconst X0.here hx rfl (hb hby d_method_3_code_140) ?_
                  show Steps p.tables e below (s₁.setTop (mkF m 141 #[.val (.int p1), .val (.ref b1)] [(.int (5 : Int32)), (.int p1)])) _
                  refine XS.icmpYes X0.here hx rfl (pc0 := 141) (pc' := 185) rfl (hb hby d_method_3_code_141) rfl (feq (show ¬ (p1 = (5 : Int32)) from q335)).2 (by decide) (by decide) ?_
                  show Steps p.tables e below (s₁.setTop (mkF m 185 #[.val (.int p1), .val (.ref b1)] [])) _
                  refine XS.iloadN X0.here hx rfl (hb hby d_method_3_code_185) rfl ?_
                  show Steps p.tables e below (s₁.setTop (mkF m 186 #[.val (.int p1), .val (.ref b1)] [(.int p1)])) _
                  refine XS.bipush X0.here hx rfl (hb hby d_method_3_code_186) ?_
                  show Steps p.tables e below (s₁.setTop (mkF m 188 #[.val (.int p1), .val (.ref b1)] [(.int (6 : Int32)), (.int p1)])) _
                  refine XS.icmpNo X0.here hx rfl (hb hby d_method_3_code_188) rfl (teq (show p1 = (6 : Int32) from q428)).2 ?_
                  show Steps p.tables e below (s₁.setTop (mkF m 191 #[.val (.int p1), .val (.ref b1)] [])) _
                  exact st429 _ k)
                have Z431 : n0 ≤ h429.size := Nat.le_trans Z0 E429.1
                have K432 : Keep h0 h429 [] := (Keep.refl h0 []).ext E429
                have O433 : Old Z n0 h429 := Ol.ext E429
                have hk434 : h0.size ≤ h429.size := Nat.le_trans (Nat.le_refl _) E429.1
                have C435 : CHr Z own_EL s.vm h0 s.vm h429 := CHr.ext E429 hCH0
                have R436 : CHr Z own_EL s.vm h0 s.vm h429 := hCR0.trans C435
                have sf_b429 : Safe Z own_EL s.vm h429 b429 := Safe.ext E429 hCH0 (Safe.new (Nat.le_of_eq g429.symm))
                have f437 : Fld Z h429 b429 "java/lang/String" "value" "[B" .null := D429 (Or.inr (hw _ (List.mem_of_getElem? (i := 23) rfl))) (ty := (.array .byte)) (by decide)
                have f438 : Fld Z h429 b429 "java/lang/String" "coder" "B" (.int (0 : Int32)) := D429 (Or.inr (hw _ (List.mem_of_getElem? (i := 24) rfl))) (ty := .byte) (by decide)
                obtain ⟨T439, h439, k439, X439, e439, E439, A439, st439⟩ := newP X429 hx hZ (hw _ (List.mem_of_getElem? (i := 0) rfl)) e429 (g := (mkF m 197 #[.val (.int p1), .val (.ref b1)] [(.int (6 : Int32)), (.ref b429), (.ref b429)])) rfl (hb hby d_method_3_code_197) rfl (by decide) (cap := 6) (by decide) (by decide) (by decide) (by decide)
                obtain ⟨b439, g439⟩ : ∃ z, z = h429.size := ⟨_, rfl⟩
                rw [← g439] at A439 st439
                have g_b439 : n0 ≤ b439 := Nat.le_trans Z431 (Nat.le_of_eq g439.symm)
                have sz_b439 : h0.size ≤ b439 := Nat.le_trans K432.1 (Nat.le_of_eq g439.symm)
                have P440 : ∀ t, Steps p.tables e below (T439.setTop (mkF m 199 #[.val (.int p1), .val (.ref b1)] [(.ref b439), (.ref b429), (.ref b429)])) t → Steps p.tables e below (s₁.setTop (mkF m 0 #[.val (.int p1), .val (.ref b1)] [])) t := fun t k => P430 t (by
                  show Steps p.tables e below (T429.setTop (mkF m 194 #[.val (.int p1), .val (.ref b1)] [(.ref b429)])) _
                  refine XS.dup X429.here hx rfl (hb hby d_method_3_code_194) rfl rfl ?_
                  show Steps p.tables e below (T429.setTop (mkF m 195 #[.val (.int p1), .val (.ref b1)] [(.ref b429), (.ref b429)])) _
                  refine XS.bipush X429.here hx rfl (hb hby d_method_3_code_195) ?_
                  show Steps p.tables e below (T429.setTop (mkF m 197 #[.val (.int p1), .val (.ref b1)] [(.int (6 : Int32)), (.ref b429), (.ref b429)])) _
                  exact st439 _ k)
                have Z441 : n0 ≤ h439.size := Nat.le_trans Z431 E439.1
                have K442 : Keep h0 h439 [] := K432.ext E439
                have O443 : Old Z n0 h439 := O433.ext E439
                have hk444 : h0.size ≤ h439.size := Nat.le_trans hk434 E439.1
                have C445 : CHr Z own_EL s.vm h429 s.vm h439 := CHr.ext E439 C435.1
                have R446 : CHr Z own_EL s.vm h0 s.vm h439 := R436.trans C445
                have v447 : Arv Z h439 b439 k439 .char (6 : Int32) [(.int (0 : Int32)), (.int (0 : Int32)), (.int (0 : Int32)), (.int (0 : Int32)), (.int (0 : Int32)), (.int (0 : Int32))] (.int (0 : Int32)) := (Arv.new A439 (by decide)).pad (pad_rep [] (.int (0 : Int32)) 6)
                have f448 : Arv Z h439 b1 kb .char (7 : Int32) [(.int c0), (.int c1), (.int c2), (.int c3), (.int c4), (.int c5), (.int c6)] (.int (0 : Int32)) := ((Ab.ext E429).ext E439)
                obtain ⟨cl449, Ar449, -, S449, N449, H449, -⟩ := id f448
                have hin449 : ¬ ((0 : Int32) < 0 ∨ cl449.slots.size ≤ ((0 : Int32)).toNatClampNeg) := inb_of S449 ⟨by decide, by decide⟩
                obtain ⟨cl450, Ar450, q450, S450, N450, H450, G450⟩ := id v447
                obtain ⟨T450, h450, X450, e450, W450, st450⟩ := stC X439 hx hZ e439 Ar450 (j := (0 : Int32)) (inb_of S450 ⟨by decide, by decide⟩) (g := (mkF m 204 #[.val (.int p1), .val (.ref b1)] [(.int c0), (.int (0 : Int32)), (.ref b439), (.ref b439), (.ref b429), (.ref b429)])) rfl rfl (hb hby d_method_3_code_204)
                have v451 : Arv Z h450 b439 k439 .char (6 : Int32) [(.int (nar .char c0)), (.int (0 : Int32)), (.int (0 : Int32)), (.int (0 : Int32)), (.int (0 : Int32)), (.int (0 : Int32))] (.int (0 : Int32)) := Arv.set Ar450 q450 S450 N450 H450 G450 (fits_nar_char _) W450 0 rfl (Nat.le_of_ble_eq_true rfl)
                have P452 : ∀ t, Steps p.tables e below (T450.setTop (mkF m 205 #[.val (.int p1), .val (.ref b1)] [(.ref b439), (.ref b429), (.ref b429)])) t → Steps p.tables e below (s₁.setTop (mkF m 0 #[.val (.int p1), .val (.ref b1)] [])) t := fun t k => P440 t (by
                  show Steps p.tables e below (T439.setTop (mkF m 199 #[.val (.int p1), .val (.ref b1)] [(.ref b439), (.ref b429), (.ref b429)])) _
                  refine XS.dup X439.here hx rfl (hb hby d_method_3_code_199) rfl rfl ?_
                  show Steps p.tables e below (T439.setTop (mkF m 200 #[.val (.int p1), .val (.ref b1)] [(.ref b439), (.ref b439), (.ref b429), (.ref b429)])) _
                  refine XS.iconst X439.here hx rfl (hb hby d_method_3_code_200) ?_
                  show Steps p.tables e below (T439.setTop (mkF m 201 #[.val (.int p1), .val (.ref b1)] [(.int (0 : Int32)), (.ref b439), (.ref b439), (.ref b429), (.ref b429)])) _
                  refine XS.aloadN X439.here hx rfl (hb hby d_method_3_code_201) rfl rfl ?_
                  show Steps p.tables e below (T439.setTop (mkF m 202 #[.val (.int p1), .val (.ref b1)] [(.ref b1), (.int (0 : Int32)), (.ref b439), (.ref b439), (.ref b429), (.ref b429)])) _
                  refine XS.iconst X439.here hx rfl (hb hby d_method_3_code_202) ?_
                  show Steps p.tables e below (T439.setTop (mkF m 203 #[.val (.int p1), .val (.ref b1)] [(.int (0 : Int32)), (.ref b1), (.int (0 : Int32)), (.ref b439), (.ref b439), (.ref b429), (.ref b429)])) _
                  refine X439.caload hx (j := (0 : Int32)) (v := (.int c0)) (by rw [e439]; exact Ar449.1) (State.isArrayOf_alike hZ.alike Ar449.2.1) Ar449.2.2 hin449 (H449.at hin449 rfl) (g := (mkF m 203 #[.val (.int p1), .val (.ref b1)] [(.int (0 : Int32)), (.ref b1), (.int (0 : Int32)), (.ref b439), (.ref b439), (.ref b429), (.ref b429)])) rfl rfl (hb hby d_method_3_code_203) _ ?_
                  show Steps p.tables e below (T439.setTop (mkF m 204 #[.val (.int p1), .val (.ref b1)] [(.int c0), (.int (0 : Int32)), (.ref b439), (.ref b439), (.ref b429), (.ref b429)])) _
                  exact st450 _ k)
                have N453 := Fr.snoc X450 N0 g_b439
                have Z454 : n0 ≤ h450.size := Nat.le_trans Z441 (Keep.of_wr W450).1
                have K455 : Keep h0 h450 [] := K442.wr W450 (Or.inr sz_b439)
                have O456 : Old Z n0 h450 := O443.wr W450 g_b439
                have hk457 : h0.size ≤ h450.size := Nat.le_trans hk444 (Keep.of_wr W450).1
                have C458 : CHr Z own_EL s.vm h439 s.vm h450 := CHr.wr W450 (Safe.arv hZ.alike v447 (by decide)) C445.1
                have R459 : CHr Z own_EL s.vm h0 s.vm h450 := R446.trans C458
                have f460 : Arv Z h450 b1 kb .char (7 : Int32) [(.int c0), (.int c1), (.int c2), (.int c3), (.int c4), (.int c5), (.int c6)] (.int (0 : Int32)) := (f448.other W450 (Nat.ne_of_lt (Nat.lt_of_lt_of_le (Ab.ext E429).lt (Nat.le_of_eq g439.symm))))
                obtain ⟨cl461, Ar461, -, S461, N461, H461, -⟩ := id f460
                have hin461 : ¬ ((1 : Int32) < 0 ∨ cl461.slots.size ≤ ((1 : Int32)).toNatClampNeg) := inb_of S461 ⟨by decide, by decide⟩
                obtain ⟨cl462, Ar462, q462, S462, N462, H462, G462⟩ := id v451
                obtain ⟨T462, h462, X462, e462, W462, st462⟩ := stC X450 hx hZ e450 Ar462 (j := (1 : Int32)) (inb_of S462 ⟨by decide, by decide⟩) (g := (mkF m 210 #[.val (.int p1), .val (.ref b1)] [(.int c1), (.int (1 : Int32)), (.ref b439), (.ref b439), (.ref b429), (.ref b429)])) rfl rfl (hb hby d_method_3_code_210)
                have v463 : Arv Z h462 b439 k439 .char (6 : Int32) [(.int (nar .char c0)), (.int (nar .char c1)), (.int (0 : Int32)), (.int (0 : Int32)), (.int (0 : Int32)), (.int (0 : Int32))] (.int (0 : Int32)) := Arv.set Ar462 q462 S462 N462 H462 G462 (fits_nar_char _) W462 1 rfl (Nat.le_of_ble_eq_true rfl)
                have P464 : ∀ t, Steps p.tables e below (T462.setTop (mkF m 211 #[.val (.int p1), .val (.ref b1)] [(.ref b439), (.ref b429), (.ref b429)])) t → Steps p.tables e below (s₁.setTop (mkF m 0 #[.val (.int p1), .val (.ref b1)] [])) t := fun t k => P452 t (by
                  show Steps p.tables e below (T450.setTop (mkF m 205 #[.val (.int p1), .val (.ref b1)] [(.ref b439), (.ref b429), (.ref b429)])) _
                  refine XS.dup X450.here hx rfl (hb hby d_method_3_code_205) rfl rfl ?_
                  show Steps p.tables e below (T450.setTop (mkF m 206 #[.val (.int p1), .val (.ref b1)] [(.ref b439), (.ref b439), (.ref b429), (.ref b429)])) _
                  refine XS.iconst X450.here hx rfl (hb hby d_method_3_code_206) ?_
                  show Steps p.tables e below (T450.setTop (mkF m 207 #[.val (.int p1), .val (.ref b1)] [(.int (1 : Int32)), (.ref b439), (.ref b439), (.ref b429), (.ref b429)])) _
                  refine XS.aloadN X450.here hx rfl (hb hby d_method_3_code_207) rfl rfl ?_
                  show Steps p.tables e below (T450.setTop (mkF m 208 #[.val (.int p1), .val (.ref b1)] [(.ref b1), (.int (1 : Int32)), (.ref b439), (.ref b439), (.ref b429), (.ref b429)])) _
                  refine XS.iconst X450.here hx rfl (hb hby d_method_3_code_208) ?_
                  show Steps p.tables e below (T450.setTop (mkF m 209 #[.val (.int p1), .val (.ref b1)] [(.int (1 : Int32)), (.ref b1), (.int (1 : Int32)), (.ref b439), (.ref b439), (.ref b429), (.ref b429)])) _
                  refine X450.caload hx (j := (1 : Int32)) (v := (.int c1)) (by rw [e450]; exact Ar461.1) (State.isArrayOf_alike hZ.alike Ar461.2.1) Ar461.2.2 hin461 (H461.at hin461 rfl) (g := (mkF m 209 #[.val (.int p1), .val (.ref b1)] [(.int (1 : Int32)), (.ref b1), (.int (1 : Int32)), (.ref b439), (.ref b439), (.ref b429), (.ref b429)])) rfl rfl (hb hby d_method_3_code_209) _ ?_
                  show Steps p.tables e below (T450.setTop (mkF m 210 #[.val (.int p1), .val (.ref b1)] [(.int c1), (.int (1 : Int32)), (.ref b439), (.ref b439), (.ref b429), (.ref b429)])) _
                  exact st462 _ k)
                have N465 := Fr.snoc X462 N453 g_b439
                have Z466 : n0 ≤ h462.size := Nat.le_trans Z454 (Keep.of_wr W462).1
                have K467 : Keep h0 h462 [] := K455.wr W462 (Or.inr sz_b439)
                have O468 : Old Z n0 h462 := O456.wr W462 g_b439
                have hk469 : h0.size ≤ h462.size := Nat.le_trans hk457 (Keep.of_wr W462).1
                have C470 : CHr Z own_EL s.vm h450 s.vm h462 := CHr.wr W462 (Safe.arv hZ.alike v451 (by decide)) C458.1
                have R471 : CHr Z own_EL s.vm h0 s.vm h462 := R459.trans C470
                have f472 : Arv Z h462 b1 kb .char (7 : Int32) [(.int c0), (.int c1), (.int c2), (.int c3), (.int c4), (.int c5), (.int c6)] (.int (0 : Int32)) := (f460.other W462 (Nat.ne_of_lt (Nat.lt_of_lt_of_le (Ab.ext E429).lt (Nat.le_of_eq g439.symm))))
                obtain ⟨cl473, Ar473, -, S473, N473, H473, -⟩ := id f472
                have hin473 : ¬ ((2 : Int32) < 0 ∨ cl473.slots.size ≤ ((2 : Int32)).toNatClampNeg) := inb_of S473 ⟨by decide, by decide⟩
                obtain ⟨cl474, Ar474, q474, S474, N474, H474, G474⟩ := id v463
                obtain ⟨T474, h474, X474, e474, W474, st474⟩ := stC X462 hx hZ e462 Ar474 (j := (2 : Int32)) (inb_of S474 ⟨by decide, by decide⟩) (g := (mkF m 216 #[.val (.int p1), .val (.ref b1)] [(.int c2), (.int (2 : Int32)), (.ref b439), (.ref b439), (.ref b429), (.ref b429)])) rfl rfl (hb hby d_method_3_code_216)
                have v475 : Arv Z h474 b439 k439 .char (6 : Int32) [(.int (nar .char c0)), (.int (nar .char c1)), (.int (nar .char c2)), (.int (0 : Int32)), (.int (0 : Int32)), (.int (0 : Int32))] (.int (0 : Int32)) := Arv.set Ar474 q474 S474 N474 H474 G474 (fits_nar_char _) W474 2 rfl (Nat.le_of_ble_eq_true rfl)
                have P476 : ∀ t, Steps p.tables e below (T474.setTop (mkF m 217 #[.val (.int p1), .val (.ref b1)] [(.ref b439), (.ref b429), (.ref b429)])) t → Steps p.tables e below (s₁.setTop (mkF m 0 #[.val (.int p1), .val (.ref b1)] [])) t := fun t k => P464 t (by
                  show Steps p.tables e below (T462.setTop (mkF m 211 #[.val (.int p1), .val (.ref b1)] [(.ref b439), (.ref b429), (.ref b429)])) _
                  refine XS.dup X462.here hx rfl (hb hby d_method_3_code_211) rfl rfl ?_
                  show Steps p.tables e below (T462.setTop (mkF m 212 #[.val (.int p1), .val (.ref b1)] [(.ref b439), (.ref b439), (.ref b429), (.ref b429)])) _
                  refine XS.iconst X462.here hx rfl (hb hby d_method_3_code_212) ?_
                  show Steps p.tables e below (T462.setTop (mkF m 213 #[.val (.int p1), .val (.ref b1)] [(.int (2 : Int32)), (.ref b439), (.ref b439), (.ref b429), (.ref b429)])) _
                  refine XS.aloadN X462.here hx rfl (hb hby d_method_3_code_213) rfl rfl ?_
                  show Steps p.tables e below (T462.setTop (mkF m 214 #[.val (.int p1), .val (.ref b1)] [(.ref b1), (.int (2 : Int32)), (.ref b439), (.ref b439), (.ref b429), (.ref b429)])) _
                  refine XS.iconst X462.here hx rfl (hb hby d_method_3_code_214) ?_
                  show Steps p.tables e below (T462.setTop (mkF m 215 #[.val (.int p1), .val (.ref b1)] [(.int (2 : Int32)), (.ref b1), (.int (2 : Int32)), (.ref b439), (.ref b439), (.ref b429), (.ref b429)])) _
                  refine X462.caload hx (j := (2 : Int32)) (v := (.int c2)) (by rw [e462]; exact Ar473.1) (State.isArrayOf_alike hZ.alike Ar473.2.1) Ar473.2.2 hin473 (H473.at hin473 rfl) (g := (mkF m 215 #[.val (.int p1), .val (.ref b1)] [(.int (2 : Int32)), (.ref b1), (.int (2 : Int32)), (.ref b439), (.ref b439), (.ref b429), (.ref b429)])) rfl rfl (hb hby d_method_3_code_215) _ ?_
                  show Steps p.tables e below (T462.setTop (mkF m 216 #[.val (.int p1), .val (.ref b1)] [(.int c2), (.int (2 : Int32)), (.ref b439), (.ref b439), (.ref b429), (.ref b429)])) _
                  exact st474 _ k)
                have N477 := Fr.snoc X474 N465 g_b439
                have Z478 : n0 ≤ h474.size := Nat.le_trans Z466 (Keep.of_wr W474).1
                have K479 : Keep h0 h474 [] := K467.wr W474 (Or.inr sz_b439)
                have O480 : Old Z n0 h474 := O468.wr W474 g_b439
                have hk481 : h0.size ≤ h474.size := Nat.le_trans hk469 (Keep.of_wr W474).1
                have C482 : CHr Z own_EL s.vm h462 s.vm h474 := CHr.wr W474 (Safe.arv hZ.alike v463 (by decide)) C470.1
                have R483 : CHr Z own_EL s.vm h0 s.vm h474 := R471.trans C482
                have f484 : Arv Z h474 b1 kb .char (7 : Int32) [(.int c0), (.int c1), (.int c2), (.int c3), (.int c4), (.int c5), (.int c6)] (.int (0 : Int32)) := (f472.other W474 (Nat.ne_of_lt (Nat.lt_of_lt_of_le (Ab.ext E429).lt (Nat.le_of_eq g439.symm))))
                obtain ⟨cl485, Ar485, -, S485, N485, H485, -⟩ := id f484
                have hin485 : ¬ ((3 : Int32) < 0 ∨ cl485.slots.size ≤ ((3 : Int32)).toNatClampNeg) := inb_of S485 ⟨by decide, by decide⟩
                obtain ⟨cl486, Ar486, q486, S486, N486, H486, G486⟩ := id v475
                obtain ⟨T486, h486, X486, e486, W486, st486⟩ := stC X474 hx hZ e474 Ar486 (j := (3 : Int32)) (inb_of S486 ⟨by decide, by decide⟩) (g := (mkF m 222 #[.val (.int p1), .val (.ref b1)] [(.int c3), (.int (3 : Int32)), (.ref b439), (.ref b439), (.ref b429), (.ref b429)])) rfl rfl (hb hby d_method_3_code_222)
                have v487 : Arv Z h486 b439 k439 .char (6 : Int32) [(.int (nar .char c0)), (.int (nar .char c1)), (.int (nar .char c2)), (.int (nar .char c3)), (.int (0 : Int32)), (.int (0 : Int32))] (.int (0 : Int32)) := Arv.set Ar486 q486 S486 N486 H486 G486 (fits_nar_char _) W486 3 rfl (Nat.le_of_ble_eq_true rfl)
                have P488 : ∀ t, Steps p.tables e below (T486.setTop (mkF m 223 #[.val (.int p1), .val (.ref b1)] [(.ref b439), (.ref b429), (.ref b429)])) t → Steps p.tables e below (s₁.setTop (mkF m 0 #[.val (.int p1), .val (.ref b1)] [])) t := fun t k => P476 t (by
                  show Steps p.tables e below (T474.setTop (mkF m 217 #[.val (.int p1), .val (.ref b1)] [(.ref b439), (.ref b429), (.ref b429)])) _
                  refine XS.dup X474.here hx rfl (hb hby d_method_3_code_217) rfl rfl ?_
                  show Steps p.tables e below (T474.setTop (mkF m 218 #[.val (.int p1), .val (.ref b1)] [(.ref b439), (.ref b439), (.ref b429), (.ref b429)])) _
                  refine XS.iconst X474.here hx rfl (hb hby d_method_3_code_218) ?_
                  show Steps p.tables e below (T474.setTop (mkF m 219 #[.val (.int p1), .val (.ref b1)] [(.int (3 : Int32)), (.ref b439), (.ref b439), (.ref b429), (.ref b429)])) _
                  refine XS.aloadN X474.here hx rfl (hb hby d_method_3_code_219) rfl rfl ?_
                  show Steps p.tables e below (T474.setTop (mkF m 220 #[.val (.int p1), .val (.ref b1)] [(.ref b1), (.int (3 : Int32)), (.ref b439), (.ref b439), (.ref b429), (.ref b429)])) _
                  refine XS.iconst X474.here hx rfl (hb hby d_method_3_code_220) ?_
                  show Steps p.tables e below (T474.setTop (mkF m 221 #[.val (.int p1), .val (.ref b1)] [(.int (3 : Int32)), (.ref b1), (.int (3 : Int32)), (.ref b439), (.ref b439), (.ref b429), (.ref b429)])) _
                  refine X474.caload hx (j := (3 : Int32)) (v := (.int c3)) (by rw [e474]; exact Ar485.1) (State.isArrayOf_alike hZ.alike Ar485.2.1) Ar485.2.2 hin485 (H485.at hin485 rfl) (g := (mkF m 221 #[.val (.int p1), .val (.ref b1)] [(.int (3 : Int32)), (.ref b1), (.int (3 : Int32)), (.ref b439), (.ref b439), (.ref b429), (.ref b429)])) rfl rfl (hb hby d_method_3_code_221) _ ?_
                  show Steps p.tables e below (T474.setTop (mkF m 222 #[.val (.int p1), .val (.ref b1)] [(.int c3), (.int (3 : Int32)), (.ref b439), (.ref b439), (.ref b429), (.ref b429)])) _
                  exact st486 _ k)
                have N489 := Fr.snoc X486 N477 g_b439
                have Z490 : n0 ≤ h486.size := Nat.le_trans Z478 (Keep.of_wr W486).1
                have K491 : Keep h0 h486 [] := K479.wr W486 (Or.inr sz_b439)
                have O492 : Old Z n0 h486 := O480.wr W486 g_b439
                have hk493 : h0.size ≤ h486.size := Nat.le_trans hk481 (Keep.of_wr W486).1
                have C494 : CHr Z own_EL s.vm h474 s.vm h486 := CHr.wr W486 (Safe.arv hZ.alike v475 (by decide)) C482.1
                have R495 : CHr Z own_EL s.vm h0 s.vm h486 := R483.trans C494
                have f496 : Arv Z h486 b1 kb .char (7 : Int32) [(.int c0), (.int c1), (.int c2), (.int c3), (.int c4), (.int c5), (.int c6)] (.int (0 : Int32)) := (f484.other W486 (Nat.ne_of_lt (Nat.lt_of_lt_of_le (Ab.ext E429).lt (Nat.le_of_eq g439.symm))))
                obtain ⟨cl497, Ar497, -, S497, N497, H497, -⟩ := id f496
                have hin497 : ¬ ((4 : Int32) < 0 ∨ cl497.slots.size ≤ ((4 : Int32)).toNatClampNeg) := inb_of S497 ⟨by decide, by decide⟩
                obtain ⟨cl498, Ar498, q498, S498, N498, H498, G498⟩ := id v487
                obtain ⟨T498, h498, X498, e498, W498, st498⟩ := stC X486 hx hZ e486 Ar498 (j := (4 : Int32)) (inb_of S498 ⟨by decide, by decide⟩) (g := (mkF m 228 #[.val (.int p1), .val (.ref b1)] [(.int c4), (.int (4 : Int32)), (.ref b439), (.ref b439), (.ref b429), (.ref b429)])) rfl rfl (hb hby d_method_3_code_228)
                have v499 : Arv Z h498 b439 k439 .char (6 : Int32) [(.int (nar .char c0)), (.int (nar .char c1)), (.int (nar .char c2)), (.int (nar .char c3)), (.int (nar .char c4)), (.int (0 : Int32))] (.int (0 : Int32)) := Arv.set Ar498 q498 S498 N498 H498 G498 (fits_nar_char _) W498 4 rfl (Nat.le_of_ble_eq_true rfl)
                have P500 : ∀ t, Steps p.tables e below (T498.setTop (mkF m 229 #[.val (.int p1), .val (.ref b1)] [(.ref b439), (.ref b429), (.ref b429)])) t → Steps p.tables e below (s₁.setTop (mkF m 0 #[.val (.int p1), .val (.ref b1)] [])) t := fun t k => P488 t (by
                  show Steps p.tables e below (T486.setTop (mkF m 223 #[.val (.int p1), .val (.ref b1)] [(.ref b439), (.ref b429), (.ref b429)])) _
                  refine XS.dup X486.here hx rfl (hb hby d_method_3_code_223) rfl rfl ?_
                  show Steps p.tables e below (T486.setTop (mkF m 224 #[.val (.int p1), .val (.ref b1)] [(.ref b439), (.ref b439), (.ref b429), (.ref b429)])) _
                  refine XS.iconst X486.here hx rfl (hb hby d_method_3_code_224) ?_
                  show Steps p.tables e below (T486.setTop (mkF m 225 #[.val (.int p1), .val (.ref b1)] [(.int (4 : Int32)), (.ref b439), (.ref b439), (.ref b429), (.ref b429)])) _
                  refine XS.aloadN X486.here hx rfl (hb hby d_method_3_code_225) rfl rfl ?_
                  show Steps p.tables e below (T486.setTop (mkF m 226 #[.val (.int p1), .val (.ref b1)] [(.ref b1), (.int (4 : Int32)), (.ref b439), (.ref b439), (.ref b429), (.ref b429)])) _
                  refine XS.iconst X486.here hx rfl (hb hby d_method_3_code_226) ?_
                  show Steps p.tables e below (T486.setTop (mkF m 227 #[.val (.int p1), .val (.ref b1)] [(.int (4 : Int32)), (.ref b1), (.int (4 : Int32)), (.ref b439), (.ref b439), (.ref b429), (.ref b429)])) _
                  refine X486.caload hx (j := (4 : Int32)) (v := (.int c4)) (by rw [e486]; exact Ar497.1) (State.isArrayOf_alike hZ.alike Ar497.2.1) Ar497.2.2 hin497 (H497.at hin497 rfl) (g := (mkF m 227 #[.val (.int p1), .val (.ref b1)] [(.int (4 : Int32)), (.ref b1), (.int (4 : Int32)), (.ref b439), (.ref b439), (.ref b429), (.ref b429)])) rfl rfl (hb hby d_method_3_code_227) _ ?_
                  show Steps p.tables e below (T486.setTop (mkF m 228 #[.val (.int p1), .val (.ref b1)] [(.int c4), (.int (4 : Int32)), (.ref b439), (.ref b439), (.ref b429), (.ref b429)])) _
                  exact st498 _ k)
                have N501 := Fr.snoc X498 N489 g_b439
                have Z502 : n0 ≤ h498.size := Nat.le_trans Z490 (Keep.of_wr W498).1
                have K503 : Keep h0 h498 [] := K491.wr W498 (Or.inr sz_b439)
                have O504 : Old Z n0 h498 := O492.wr W498 g_b439
                have hk505 : h0.size ≤ h498.size := Nat.le_trans hk493 (Keep.of_wr W498).1
                have C506 : CHr Z own_EL s.vm h486 s.vm h498 := CHr.wr W498 (Safe.arv hZ.alike v487 (by decide)) C494.1
                have R507 : CHr Z own_EL s.vm h0 s.vm h498 := R495.trans C506
                have f508 : Arv Z h498 b1 kb .char (7 : Int32) [(.int c0), (.int c1), (.int c2), (.int c3), (.int c4), (.int c5), (.int c6)] (.int (0 : Int32)) := (f496.other W498 (Nat.ne_of_lt (Nat.lt_of_lt_of_le (Ab.ext E429).lt (Nat.le_of_eq g439.symm))))
                obtain ⟨cl509, Ar509, -, S509, N509, H509, -⟩ := id f508
                have hin509 : ¬ ((5 : Int32) < 0 ∨ cl509.slots.size ≤ ((5 : Int32)).toNatClampNeg) := inb_of S509 ⟨by decide, by decide⟩
                obtain ⟨cl510, Ar510, q510, S510, N510, H510, G510⟩ := id v499
                obtain ⟨T510, h510, X510, e510, W510, st510⟩ := stC X498 hx hZ e498 Ar510 (j := (5 : Int32)) (inb_of S510 ⟨by decide, by decide⟩) (g := (mkF m 234 #[.val (.int p1), .val (.ref b1)] [(.int c5), (.int (5 : Int32)), (.ref b439), (.ref b439), (.ref b429), (.ref b429)])) rfl rfl (hb hby d_method_3_code_234)
                have v511 : Arv Z h510 b439 k439 .char (6 : Int32) [(.int (nar .char c0)), (.int (nar .char c1)), (.int (nar .char c2)), (.int (nar .char c3)), (.int (nar .char c4)), (.int (nar .char c5))] (.int (0 : Int32)) := Arv.set Ar510 q510 S510 N510 H510 G510 (fits_nar_char _) W510 5 rfl (Nat.le_of_ble_eq_true rfl)
                have P512 : ∀ t, Steps p.tables e below (T510.setTop (mkF m 235 #[.val (.int p1), .val (.ref b1)] [(.ref b439), (.ref b429), (.ref b429)])) t → Steps p.tables e below (s₁.setTop (mkF m 0 #[.val (.int p1), .val (.ref b1)] [])) t := fun t k => P500 t (by
                  show Steps p.tables e below (T498.setTop (mkF m 229 #[.val (.int p1), .val (.ref b1)] [(.ref b439), (.ref b429), (.ref b429)])) _
                  refine XS.dup X498.here hx rfl (hb hby d_method_3_code_229) rfl rfl ?_
                  show Steps p.tables e below (T498.setTop (mkF m 230 #[.val (.int p1), .val (.ref b1)] [(.ref b439), (.ref b439), (.ref b429), (.ref b429)])) _
                  refine XS.iconst X498.here hx rfl (hb hby d_method_3_code_230) ?_
                  show Steps p.tables e below (T498.setTop (mkF m 231 #[.val (.int p1), .val (.ref b1)] [(.int (5 : Int32)), (.ref b439), (.ref b439), (.ref b429), (.ref b429)])) _
                  refine XS.aloadN X498.here hx rfl (hb hby d_method_3_code_231) rfl rfl ?_
                  show Steps p.tables e below (T498.setTop (mkF m 232 #[.val (.int p1), .val (.ref b1)] [(.ref b1), (.int (5 : Int32)), (.ref b439), (.ref b439), (.ref b429), (.ref b429)])) _
                  refine XS.iconst X498.here hx rfl (hb hby d_method_3_code_232) ?_
                  show Steps p.tables e below (T498.setTop (mkF m 233 #[.val (.int p1), .val (.ref b1)] [(.int (5 : Int32)), (.ref b1), (.int (5 : Int32)), (.ref b439), (.ref b439), (.ref b429), (.ref b429)])) _
                  refine X498.caload hx (j := (5 : Int32)) (v := (.int c5)) (by rw [e498]; exact Ar509.1) (State.isArrayOf_alike hZ.alike Ar509.2.1) Ar509.2.2 hin509 (H509.at hin509 rfl) (g := (mkF m 233 #[.val (.int p1), .val (.ref b1)] [(.int (5 : Int32)), (.ref b1), (.int (5 : Int32)), (.ref b439), (.ref b439), (.ref b429), (.ref b429)])) rfl rfl (hb hby d_method_3_code_233) _ ?_
                  show Steps p.tables e below (T498.setTop (mkF m 234 #[.val (.int p1), .val (.ref b1)] [(.int c5), (.int (5 : Int32)), (.ref b439), (.ref b439), (.ref b429), (.ref b429)])) _
                  exact st510 _ k)
                have N513 := Fr.snoc X510 N501 g_b439
                have Z514 : n0 ≤ h510.size := Nat.le_trans Z502 (Keep.of_wr W510).1
                have K515 : Keep h0 h510 [] := K503.wr W510 (Or.inr sz_b439)
                have O516 : Old Z n0 h510 := O504.wr W510 g_b439
                have hk517 : h0.size ≤ h510.size := Nat.le_trans hk505 (Keep.of_wr W510).1
                have C518 : CHr Z own_EL s.vm h498 s.vm h510 := CHr.wr W510 (Safe.arv hZ.alike v499 (by decide)) C506.1
                have R519 : CHr Z own_EL s.vm h0 s.vm h510 := R507.trans C518
                have hp : ∀ c ∈ ([(nar .char c0), (nar .char c1), (nar .char c2), (nar .char c3), (nar .char c4), (nar .char c5)] : List Int32), ¬ c < 0 ∧ ¬ (255 : Int32) < c := by
                  intro c hc
                  simp only [List.mem_cons, List.not_mem_nil, or_false] at hc
                  rcases hc with rfl | rfl | rfl | rfl | rfl | rfl
                  · exact gc0
                  · exact gc1
                  · exact gc2
                  · exact gc3
                  · exact gc4
                  · exact gc5
                have hwsb429 : ∀ d ∈ StrChars.Road.words, d.before a0 Z = true := fun d hd => hw d (own_strwords d hd)
                have f520 : Exa Z h510 b429 "java/lang/String" := (((((((A429.ext E439).wr W450).wr W462).wr W474).wr W486).wr W498).wr W510)
                have f521 : Fld Z h510 b429 "java/lang/String" "value" "[B" .null := (((((((f437.ext E439).other W450 (Or.inl (Nat.ne_of_lt (Nat.lt_of_lt_of_le f438.lt (Nat.le_of_eq g439.symm))))).other W462 (Or.inl (Nat.ne_of_lt (Nat.lt_of_lt_of_le f438.lt (Nat.le_of_eq g439.symm))))).other W474 (Or.inl (Nat.ne_of_lt (Nat.lt_of_lt_of_le f438.lt (Nat.le_of_eq g439.symm))))).other W486 (Or.inl (Nat.ne_of_lt (Nat.lt_of_lt_of_le f438.lt (Nat.le_of_eq g439.symm))))).other W498 (Or.inl (Nat.ne_of_lt (Nat.lt_of_lt_of_le f438.lt (Nat.le_of_eq g439.symm))))).other W510 (Or.inl (Nat.ne_of_lt (Nat.lt_of_lt_of_le f438.lt (Nat.le_of_eq g439.symm)))))
                have f522 : Fld Z h510 b429 "java/lang/String" "coder" "B" (.int (0 : Int32)) := (((((((f438.ext E439).other W450 (Or.inl (Nat.ne_of_lt (Nat.lt_of_lt_of_le f438.lt (Nat.le_of_eq g439.symm))))).other W462 (Or.inl (Nat.ne_of_lt (Nat.lt_of_lt_of_le f438.lt (Nat.le_of_eq g439.symm))))).other W474 (Or.inl (Nat.ne_of_lt (Nat.lt_of_lt_of_le f438.lt (Nat.le_of_eq g439.symm))))).other W486 (Or.inl (Nat.ne_of_lt (Nat.lt_of_lt_of_le f438.lt (Nat.le_of_eq g439.symm))))).other W498 (Or.inl (Nat.ne_of_lt (Nat.lt_of_lt_of_le f438.lt (Nat.le_of_eq g439.symm))))).other W510 (Or.inl (Nat.ne_of_lt (Nat.lt_of_lt_of_le f438.lt (Nat.le_of_eq g439.symm)))))
                obtain ⟨_, _, ⟨T523, L523, k523, n523⟩, -, X523, ⟨Lc523, hQ523, l523, y523, z523⟩, st523⟩ := X510.specialBack hx (y := (⟨"java/lang/String", "<init>", "([C)V"⟩ : MethodName)) rfl hown (mvT hZ (hw _ (List.mem_of_getElem? (i := 11) rfl))) (mvT hZ (hw _ (List.mem_of_getElem? (i := 12) rfl))) (mvT hZ (hw _ (List.mem_of_getElem? (i := 13) rfl))) (by decide) (StrChars.Road.backV (W := 1) hZ hwsb429 (kI := 4) (hw _ (List.mem_of_getElem? (i := 9) rfl)) (cs := ([(nar .char c0), (nar .char c1), (nar .char c2), (nar .char c3), (nar .char c4), (nar .char c5)] : List Int32)) (bs := (([(nar .char c0), (nar .char c1), (nar .char c2), (nar .char c3), (nar .char c4), (nar .char c5)] : List Int32)).map (fun c => c.toInt8.toInt32)) (n := 6) g_b429 Z514 f520 f521 f522 v511 (Sg.ext O516.2) P5 rfl rfl (by decide) (by decide) hp rfl (by decide) (by decide)) (g := (mkF m 235 #[.val (.int p1), .val (.ref b1)] [(.ref b439), (.ref b429), (.ref b429)])) rfl (by rw [hml]; rfl) (Steps.refl _) (a := b429) (argsL := [(.ref b439)]) (rest := [(.ref b429)]) (lenOf pd__28_5bC_29V rfl) rfl (by show 2 * 0 + _ ≤ _; exact Nat.le_of_eq rfl) (hb hby d_method_3_code_235) (fun _ _ => ⟨rfl, e510, (Nat.le_of_ble_eq_true rfl : 2 + 1 ≤ _), (Nat.le_of_ble_eq_true rfl : 10 + 6 ≤ _)⟩)
                dsimp only [Pt.U, Pt.locs, Pt.cells, Pt.slots] at X523 l523 y523 z523 st523 hQ523
                subst l523 y523 z523
                obtain ⟨rfl, Nq523, Kk523, Ek523, Fc523, t523, kb523, u523, vt523, wt523, Fv523, Av523⟩ := hQ523
                have N524 := Fr.app N513 Nq523
                have P525 : ∀ t, Steps p.tables e below (T523.setTop (mkF m 238 #[.val (.int p1), .val (.ref b1)] [(.ref b429)])) t → Steps p.tables e below (s₁.setTop (mkF m 0 #[.val (.int p1), .val (.ref b1)] [])) t := fun t k => P512 t (by
                  show Steps p.tables e below (T510.setTop (mkF m 235 #[.val (.int p1), .val (.ref b1)] [(.ref b439), (.ref b429), (.ref b429)])) _
                  exact st523.trans k)
                have Z526 : n0 ≤ T523.heap.size := Nat.le_trans Z514 Kk523.1
                have K527 : Keep h0 T523.heap [] := K515.trans Kk523 ((allS (Or.inr sz_b429) all0))
                have O528 : Old Z n0 T523.heap := O516.keep Kk523 (allS g_b429 all0)
                have hk529 : h0.size ≤ T523.heap.size := Nat.le_trans hk517 Kk523.1
                have C530 : CHr Z own_EL s.vm h510 s.vm T523.heap := CHr.keep Kk523 (sfS (CHr.safe ((((((C445.trans C458).trans C470).trans C482).trans C494).trans C506).trans C518) A429.lt sf_b429) sf0) C518.1
                have R531 : CHr Z own_EL s.vm h0 s.vm T523.heap := R519.trans C530
                have g_t523 : n0 ≤ t523 := Nat.le_trans Z514 vt523
                have sz_t523 : h0.size ≤ t523 := Nat.le_trans K515.1 vt523
                obtain ⟨fs532, hr532, hrun532, hended532, hRW532⟩ := X523.leaveW (v := some (.ref b429)) hS0 hk529 (fun h => by rw [Bd.returns] at h; cases h)
                have hce532 : CHr Z own_EL s.vm s.heap T523.vm T523.heap := by
                  rw [hh]
                  exact R531.trans (CHv.at X523 hZ (own_EW hw) C530.1)
                refine ⟨_, _, pre0 _ (P525 _ ?_), hrun532, hended532, _, _, rfl, ?_, hce532, ⟨hRW532.1, hRW532.2.1, hRW532.2.2.1, hRW532.2.2.2.mono (Nat.le_of_ble_eq_true rfl) (Nat.le_of_ble_eq_true rfl)⟩⟩
                · show Steps p.tables e below (T523.setTop (mkF m 238 #[.val (.int p1), .val (.ref b1)] [(.ref b429)])) _
                  exact retOut X523 hx Bd.returns rfl (Or.inr (Or.inr (Or.inr (Or.inr ⟨rfl, rfl, rfl⟩)))) (hb hby d_method_3_code_238) hr532
                · show Q_make Z p1 c0 c1 c2 c3 c4 c5 c6 h0 n0 _ T523.heap _
                  exact ⟨b429, t523, _, [nar .char c0, nar .char c1, nar .char c2, nar .char c3, nar .char c4, nar .char c5], by simp [own_cs, q52, q83, q128, q185, q254, q335, q428], rfl, N524, sz_b429, K527, Ek523, Fv523, Fc523, Av523, Nat.le_of_ble_eq_true rfl, hp⟩
              · skip
                obtain ⟨T533, h533, X533, e533, E533, A533, D533, -, st533⟩ := newO X0 hx hZ hown (hw _ (List.mem_of_getElem? (i := 8) rfl)) (hw _ (List.mem_of_getElem? (i := 9) rfl)) (hw _ (List.mem_of_getElem? (i := 10) rfl)) e0 (g := (mkF m 239 #[.val (.int p1), .val (.ref b1)] [])) rfl (hb hby d_method_3_code_239) (by decide) (by decide)
                obtain ⟨b533, g533⟩ : ∃ z, z = h0.size := ⟨_, rfl⟩
                rw [← g533] at A533 D533 st533
                have g_b533 : n0 ≤ b533 := Nat.le_trans Z0 (Nat.le_of_eq g533.symm)
                have sz_b533 : h0.size ≤ b533 := Nat.le_trans (Keep.refl h0 []).1 (Nat.le_of_eq g533.symm)
                have P534 : ∀ t, Steps p.tables e below (T533.setTop (mkF m 242 #[.val (.int p1), .val (.ref b1)] [(.ref b533)])) t → Steps p.tables e below (s₁.setTop (mkF m 0 #[.val (.int p1), .val (.ref b1)] [])) t := fun t k => P0 t (by
                  refine XS.iloadN X0.here hx rfl (hb hby d_method_3_code_0) rfl ?_
                  show Steps p.tables e below (s₁.setTop (mkF m 1 #[.val (.int p1), .val (.ref b1)] [(.int p1)])) _
                  refine XS.ifYes X0.here hx rfl (pc0 := 1) (pc' := 15) rfl (hb hby d_method_3_code_1) rfl ((if0 _ _).trans (feq (show ¬ (p1 = (0 : Int32)) from q52)).2) (by decide) (by decide) ?_
                  show Steps p.tables e below (s₁.setTop (mkF m 15 #[.val (.int p1), .val (.ref b1)] [])) _
                  refine XS.iloadN X0.here hx rfl (hb hby d_method_3_code_15) rfl ?_
                  show Steps p.tables e below (s₁.setTop (mkF m 16 #[.val (.int p1), .val (.ref b1)] [(.int p1)])) _
                  refine XS.iconst X0.here hx rfl (hb hby d_method_3_code_16) ?_
                  show Steps p.tables e below (s₁.setTop (mkF m 17 #[.val (.int p1), .val (.ref b1)] [(.int (1 : Int32)), (.int p1)])) _
                  refine XS.icmpYes X0.here hx rfl (pc0 := 17) (pc' := 37) rfl (hb hby d_method_3_code_17) rfl (feq (show ¬ (p1 = (1 : Int32)) from q83)).2 (by decide) (by decide) ?_
                  show Steps p.tables e below (s₁.setTop (mkF m 37 #[.val (.int p1), .val (.ref b1)] [])) _
                  refine XS.iloadN X0.here hx rfl (hb hby d_method_3_code_37) rfl ?_
                  show Steps p.tables e below (s₁.setTop (mkF m 38 #[.val (.int p1), .val (.ref b1)] [(.int p1)])) _
                  refine XS.iconst X0.here hx rfl (hb hby d_method_3_code_38) ?_
                  show Steps p.tables e below (s₁.setTop (mkF m 39 #[.val (.int p1), .val (.ref b1)] [(.int (2 : Int32)), (.int p1)])) _
                  refine XS.icmpYes X0.here hx rfl (pc0 := 39) (pc' := 65) rfl (hb hby d_method_3_code_39) rfl (feq (show ¬ (p1 = (2 : Int32)) from q128)).2 (by decide) (by decide) ?_
                  show Steps p.tables e below (s₁.setTop (mkF m 65 #[.val (.int p1), .val (.ref b1)] [])) _
                  refine XS.iloadN X0.here hx rfl (hb hby d_method_3_code_65) rfl ?_
                  show Steps p.tables e below (s₁.setTop (mkF m 66 #[.val (.int p1), .val (.ref b1)] [(.int p1)])) _
                  refine XS.iconst X0.here hx rfl (hb hby d_method_3_code_66) ?_
                  show Steps p.tables e below (s₁.setTop (mkF m 67 #[.val (.int p1), .val (.ref b1)] [(.int (3 : Int32)), (.int p1)])) _
                  refine XS.icmpYes X0.here hx rfl (pc0 := 67) (pc' := 99) rfl (hb hby d_method_3_code_67) rfl (feq (show ¬ (p1 = (3 : Int32)) from q185)).2 (by decide) (by decide) ?_
                  show Steps p.tables e below (s₁.setTop (mkF m 99 #[.val (.int p1), .val (.ref b1)] [])) _
                  refine XS.iloadN X0.here hx rfl (hb hby d_method_3_code_99) rfl ?_
                  show Steps p.tables e below (s₁.setTop (mkF m 100 #[.val (.int p1), .val (.ref b1)] [(.int p1)])) _
                  refine XS.iconst X0.here hx rfl (hb hby d_method_3_code_100) ?_
                  show Steps p.tables e below (s₁.setTop (mkF m 101 #[.val (.int p1), .val (.ref b1)] [(.int (4 : Int32)), (.int p1)])) _
                  refine XS.icmpYes X0.here hx rfl (pc0 := 101) (pc' := 139) rfl (hb hby d_method_3_code_101) rfl (feq (show ¬ (p1 = (4 : Int32)) from q254)).2 (by decide) (by decide) ?_
                  show Steps p.tables e below (s₁.setTop (mkF m 139 #[.val (.int p1), .val (.ref b1)] [])) _
                  refine XS.iloadN X0.here hx rfl (hb hby d_method_3_code_139) rfl ?_
                  show Steps p.tables e below (s₁.setTop (mkF m 140 #[.val (.int p1), .val (.ref b1)] [(.int p1)])) _
                  refine XS.iconst X0.here hx rfl (hb hby d_method_3_code_140) ?_
                  show Steps p.tables e below (s₁.setTop (mkF m 141 #[.val (.int p1), .val (.ref b1)] [(.int (5 : Int32)), (.int p1)])) _
                  refine XS.icmpYes X0.here hx rfl (pc0 := 141) (pc' := 185) rfl (hb hby d_method_3_code_141) rfl (feq (show ¬ (p1 = (5 : Int32)) from q335)).2 (by decide) (by decide) ?_
                  show Steps p.tables e below (s₁.setTop (mkF m 185 #[.val (.int p1), .val (.ref b1)] [])) _
                  refine XS.iloadN X0.here hx rfl (hb hby d_method_3_code_185) rfl ?_
                  show Steps p.tables e below (s₁.setTop (mkF m 186 #[.val (.int p1), .val (.ref b1)] [(.int p1)])) _
                  refine XS.bipush X0.here hx rfl (hb hby d_method_3_code_186) ?_
                  show Steps p.tables e below (s₁.setTop (mkF m 188 #[.val (.int p1), .val (.ref b1)] [(.int (6 : Int32)), (.int p1)])) _
                  refine XS.icmpYes X0.here hx rfl (pc0 := 188) (pc' := 239) rfl (hb hby d_method_3_code_188) rfl (feq (show ¬ (p1 = (6 : Int32)) from q428)).2 (by decide) (by decide) ?_
                  show Steps p.tables e below (s₁.setTop (mkF m 239 #[.val (.int p1), .val (.ref b1)] [])) _
                  exact st533 _ k)
                have Z535 : n0 ≤ h533.size := Nat.le_trans Z0 E533.1
                have K536 : Keep h0 h533 [] := (Keep.refl h0 []).ext E533
                have O537 : Old Z n0 h533 := Ol.ext E533
                have hk538 : h0.size ≤ h533.size := Nat.le_trans (Nat.le_refl _) E533.1
                have C539 : CHr Z own_EL s.vm h0 s.vm h533 := CHr.ext E533 hCH0
                have R540 : CHr Z own_EL s.vm h0 s.vm h533 := hCR0.trans C539
                have sf_b533 : Safe Z own_EL s.vm h533 b533 := Safe.ext E533 hCH0 (Safe.new (Nat.le_of_eq g533.symm))
                have f541 : Fld Z h533 b533 "java/lang/String" "value" "[B" .null := D533 (Or.inr (hw _ (List.mem_of_getElem? (i := 23) rfl))) (ty := (.array .byte)) (by decide)
                have f542 : Fld Z h533 b533 "java/lang/String" "coder" "B" (.int (0 : Int32)) := D533 (Or.inr (hw _ (List.mem_of_getElem? (i := 24) rfl))) (ty := .byte) (by decide)
                obtain ⟨T543, h543, k543, X543, e543, E543, A543, st543⟩ := newP X533 hx hZ (hw _ (List.mem_of_getElem? (i := 0) rfl)) e533 (g := (mkF m 245 #[.val (.int p1), .val (.ref b1)] [(.int (7 : Int32)), (.ref b533), (.ref b533)])) rfl (hb hby d_method_3_code_245) rfl (by decide) (cap := 7) (by decide) (by decide) (by decide) (by decide)
                obtain ⟨b543, g543⟩ : ∃ z, z = h533.size := ⟨_, rfl⟩
                rw [← g543] at A543 st543
                have g_b543 : n0 ≤ b543 := Nat.le_trans Z535 (Nat.le_of_eq g543.symm)
                have sz_b543 : h0.size ≤ b543 := Nat.le_trans K536.1 (Nat.le_of_eq g543.symm)
                have P544 : ∀ t, Steps p.tables e below (T543.setTop (mkF m 247 #[.val (.int p1), .val (.ref b1)] [(.ref b543), (.ref b533), (.ref b533)])) t → Steps p.tables e below (s₁.setTop (mkF m 0 #[.val (.int p1), .val (.ref b1)] [])) t := fun t k => P534 t (by
                  show Steps p.tables e below (T533.setTop (mkF m 242 #[.val (.int p1), .val (.ref b1)] [(.ref b533)])) _
                  refine XS.dup X533.here hx rfl (hb hby d_method_3_code_242) rfl rfl ?_
                  show Steps p.tables e below (T533.setTop (mkF m 243 #[.val (.int p1), .val (.ref b1)] [(.ref b533), (.ref b533)])) _
                  refine XS.bipush X533.here hx rfl (hb hby d_method_3_code_243) ?_
                  show Steps p.tables e below (T533.setTop (mkF m 245 #[.val (.int p1), .val (.ref b1)] [(.int (7 : Int32)), (.ref b533), (.ref b533)])) _
                  exact st543 _ k)
                have Z545 : n0 ≤ h543.size := Nat.le_trans Z535 E543.1
                have K546 : Keep h0 h543 [] := K536.ext E543
                have O547 : Old Z n0 h543 := O537.ext E543
                have hk548 : h0.size ≤ h543.size := Nat.le_trans hk538 E543.1
                have C549 : CHr Z own_EL s.vm h533 s.vm h543 := CHr.ext E543 C539.1
                have R550 : CHr Z own_EL s.vm h0 s.vm h543 := R540.trans C549
                have v551 : Arv Z h543 b543 k543 .char (7 : Int32) [(.int (0 : Int32)), (.int (0 : Int32)), (.int (0 : Int32)), (.int (0 : Int32)), (.int (0 : Int32)), (.int (0 : Int32)), (.int (0 : Int32))] (.int (0 : Int32)) := (Arv.new A543 (by decide)).pad (pad_rep [] (.int (0 : Int32)) 7)
                have f552 : Arv Z h543 b1 kb .char (7 : Int32) [(.int c0), (.int c1), (.int c2), (.int c3), (.int c4), (.int c5), (.int c6)] (.int (0 : Int32)) := ((Ab.ext E533).ext E543)
                obtain ⟨cl553, Ar553, -, S553, N553, H553, -⟩ := id f552
                have hin553 : ¬ ((0 : Int32) < 0 ∨ cl553.slots.size ≤ ((0 : Int32)).toNatClampNeg) := inb_of S553 ⟨by decide, by decide⟩
                obtain ⟨cl554, Ar554, q554, S554, N554, H554, G554⟩ := id v551
                obtain ⟨T554, h554, X554, e554, W554, st554⟩ := stC X543 hx hZ e543 Ar554 (j := (0 : Int32)) (inb_of S554 ⟨by decide, by decide⟩) (g := (mkF m 252 #[.val (.int p1), .val (.ref b1)] [(.int c0), (.int (0 : Int32)), (.ref b543), (.ref b543), (.ref b533), (.ref b533)])) rfl rfl (hb hby d_method_3_code_252)
                have v555 : Arv Z h554 b543 k543 .char (7 : Int32) [(.int (nar .char c0)), (.int (0 : Int32)), (.int (0 : Int32)), (.int (0 : Int32)), (.int (0 : Int32)), (.int (0 : Int32)), (.int (0 : Int32))] (.int (0 : Int32)) := Arv.set Ar554 q554 S554 N554 H554 G554 (fits_nar_char _) W554 0 rfl (Nat.le_of_ble_eq_true rfl)
                have P556 : ∀ t, Steps p.tables e below (T554.setTop (mkF m 253 #[.val (.int p1), .val (.ref b1)] [(.ref b543), (.ref b533), (.ref b533)])) t → Steps p.tables e below (s₁.setTop (mkF m 0 #[.val (.int p1), .val (.ref b1)] [])) t := fun t k => P544 t (by
                  show Steps p.tables e below (T543.setTop (mkF m 247 #[.val (.int p1), .val (.ref b1)] [(.ref b543), (.ref b533), (.ref b533)])) _
                  refine XS.dup X543.here hx rfl (hb hby d_method_3_code_247) rfl rfl ?_
                  show Steps p.tables e below (T543.setTop (mkF m 248 #[.val (.int p1), .val (.ref b1)] [(.ref b543), (.ref b543), (.ref b533), (.ref b533)])) _
                  refine XS.iconst X543.here hx rfl (hb hby d_method_3_code_248) ?_
                  show Steps p.tables e below (T543.setTop (mkF m 249 #[.val (.int p1), .val (.ref b1)] [(.int (0 : Int32)), (.ref b543), (.ref b543), (.ref b533), (.ref b533)])) _
                  refine XS.aloadN X543.here hx rfl (hb hby d_method_3_code_249) rfl rfl ?_
                  show Steps p.tables e below (T543.setTop (mkF m 250 #[.val (.int p1), .val (.ref b1)] [(.ref b1), (.int (0 : Int32)), (.ref b543), (.ref b543), (.ref b533), (.ref b533)])) _
                  refine XS.iconst X543.here hx rfl (hb hby d_method_3_code_250) ?_
                  show Steps p.tables e below (T543.setTop (mkF m 251 #[.val (.int p1), .val (.ref b1)] [(.int (0 : Int32)), (.ref b1), (.int (0 : Int32)), (.ref b543), (.ref b543), (.ref b533), (.ref b533)])) _
                  refine X543.caload hx (j := (0 : Int32)) (v := (.int c0)) (by rw [e543]; exact Ar553.1) (State.isArrayOf_alike hZ.alike Ar553.2.1) Ar553.2.2 hin553 (H553.at hin553 rfl) (g := (mkF m 251 #[.val (.int p1), .val (.ref b1)] [(.int (0 : Int32)), (.ref b1), (.int (0 : Int32)), (.ref b543), (.ref b543), (.ref b533), (.ref b533)])) rfl rfl (hb hby d_method_3_code_251) _ ?_
                  show Steps p.tables e below (T543.setTop (mkF m 252 #[.val (.int p1), .val (.ref b1)] [(.int c0), (.int (0 : Int32)), (.ref b543), (.ref b543), (.ref b533), (.ref b533)])) _
                  exact st554 _ k)
                have N557 := Fr.snoc X554 N0 g_b543
                have Z558 : n0 ≤ h554.size := Nat.le_trans Z545 (Keep.of_wr W554).1
                have K559 : Keep h0 h554 [] := K546.wr W554 (Or.inr sz_b543)
                have O560 : Old Z n0 h554 := O547.wr W554 g_b543
                have hk561 : h0.size ≤ h554.size := Nat.le_trans hk548 (Keep.of_wr W554).1
                have C562 : CHr Z own_EL s.vm h543 s.vm h554 := CHr.wr W554 (Safe.arv hZ.alike v551 (by decide)) C549.1
                have R563 : CHr Z own_EL s.vm h0 s.vm h554 := R550.trans C562
                have f564 : Arv Z h554 b1 kb .char (7 : Int32) [(.int c0), (.int c1), (.int c2), (.int c3), (.int c4), (.int c5), (.int c6)] (.int (0 : Int32)) := (f552.other W554 (Nat.ne_of_lt (Nat.lt_of_lt_of_le (Ab.ext E533).lt (Nat.le_of_eq g543.symm))))
                obtain ⟨cl565, Ar565, -, S565, N565, H565, -⟩ := id f564
                have hin565 : ¬ ((1 : Int32) < 0 ∨ cl565.slots.size ≤ ((1 : Int32)).toNatClampNeg) := inb_of S565 ⟨by decide, by decide⟩
                obtain ⟨cl566, Ar566, q566, S566, N566, H566, G566⟩ := id v555
                obtain ⟨T566, h566, X566, e566, W566, st566⟩ := stC X554 hx hZ e554 Ar566 (j := (1 : Int32)) (inb_of S566 ⟨by decide, by decide⟩) (g := (mkF m 258 #[.val (.int p1), .val (.ref b1)] [(.int c1), (.int (1 : Int32)), (.ref b543), (.ref b543), (.ref b533), (.ref b533)])) rfl rfl (hb hby d_method_3_code_258)
                have v567 : Arv Z h566 b543 k543 .char (7 : Int32) [(.int (nar .char c0)), (.int (nar .char c1)), (.int (0 : Int32)), (.int (0 : Int32)), (.int (0 : Int32)), (.int (0 : Int32)), (.int (0 : Int32))] (.int (0 : Int32)) := Arv.set Ar566 q566 S566 N566 H566 G566 (fits_nar_char _) W566 1 rfl (Nat.le_of_ble_eq_true rfl)
                have P568 : ∀ t, Steps p.tables e below (T566.setTop (mkF m 259 #[.val (.int p1), .val (.ref b1)] [(.ref b543), (.ref b533), (.ref b533)])) t → Steps p.tables e below (s₁.setTop (mkF m 0 #[.val (.int p1), .val (.ref b1)] [])) t := fun t k => P556 t (by
                  show Steps p.tables e below (T554.setTop (mkF m 253 #[.val (.int p1), .val (.ref b1)] [(.ref b543), (.ref b533), (.ref b533)])) _
                  refine XS.dup X554.here hx rfl (hb hby d_method_3_code_253) rfl rfl ?_
                  show Steps p.tables e below (T554.setTop (mkF m 254 #[.val (.int p1), .val (.ref b1)] [(.ref b543), (.ref b543), (.ref b533), (.ref b533)])) _
                  refine XS.iconst X554.here hx rfl (hb hby d_method_3_code_254) ?_
                  show Steps p.tables e below (T554.setTop (mkF m 255 #[.val (.int p1), .val (.ref b1)] [(.int (1 : Int32)), (.ref b543), (.ref b543), (.ref b533), (.ref b533)])) _
                  refine XS.aloadN X554.here hx rfl (hb hby d_method_3_code_255) rfl rfl ?_
                  show Steps p.tables e below (T554.setTop (mkF m 256 #[.val (.int p1), .val (.ref b1)] [(.ref b1), (.int (1 : Int32)), (.ref b543), (.ref b543), (.ref b533), (.ref b533)])) _
                  refine XS.iconst X554.here hx rfl (hb hby d_method_3_code_256) ?_
                  show Steps p.tables e below (T554.setTop (mkF m 257 #[.val (.int p1), .val (.ref b1)] [(.int (1 : Int32)), (.ref b1), (.int (1 : Int32)), (.ref b543), (.ref b543), (.ref b533), (.ref b533)])) _
                  refine X554.caload hx (j := (1 : Int32)) (v := (.int c1)) (by rw [e554]; exact Ar565.1) (State.isArrayOf_alike hZ.alike Ar565.2.1) Ar565.2.2 hin565 (H565.at hin565 rfl) (g := (mkF m 257 #[.val (.int p1), .val (.ref b1)] [(.int (1 : Int32)), (.ref b1), (.int (1 : Int32)), (.ref b543), (.ref b543), (.ref b533), (.ref b533)])) rfl rfl (hb hby d_method_3_code_257) _ ?_
                  show Steps p.tables e below (T554.setTop (mkF m 258 #[.val (.int p1), .val (.ref b1)] [(.int c1), (.int (1 : Int32)), (.ref b543), (.ref b543), (.ref b533), (.ref b533)])) _
                  exact st566 _ k)
                have N569 := Fr.snoc X566 N557 g_b543
                have Z570 : n0 ≤ h566.size := Nat.le_trans Z558 (Keep.of_wr W566).1
                have K571 : Keep h0 h566 [] := K559.wr W566 (Or.inr sz_b543)
                have O572 : Old Z n0 h566 := O560.wr W566 g_b543
                have hk573 : h0.size ≤ h566.size := Nat.le_trans hk561 (Keep.of_wr W566).1
                have C574 : CHr Z own_EL s.vm h554 s.vm h566 := CHr.wr W566 (Safe.arv hZ.alike v555 (by decide)) C562.1
                have R575 : CHr Z own_EL s.vm h0 s.vm h566 := R563.trans C574
                have f576 : Arv Z h566 b1 kb .char (7 : Int32) [(.int c0), (.int c1), (.int c2), (.int c3), (.int c4), (.int c5), (.int c6)] (.int (0 : Int32)) := (f564.other W566 (Nat.ne_of_lt (Nat.lt_of_lt_of_le (Ab.ext E533).lt (Nat.le_of_eq g543.symm))))
                obtain ⟨cl577, Ar577, -, S577, N577, H577, -⟩ := id f576
                have hin577 : ¬ ((2 : Int32) < 0 ∨ cl577.slots.size ≤ ((2 : Int32)).toNatClampNeg) := inb_of S577 ⟨by decide, by decide⟩
                obtain ⟨cl578, Ar578, q578, S578, N578, H578, G578⟩ := id v567
                obtain ⟨T578, h578, X578, e578, W578, st578⟩ := stC X566 hx hZ e566 Ar578 (j := (2 : Int32)) (inb_of S578 ⟨by decide, by decide⟩) (g := (mkF m 264 #[.val (.int p1), .val (.ref b1)] [(.int c2), (.int (2 : Int32)), (.ref b543), (.ref b543), (.ref b533), (.ref b533)])) rfl rfl (hb hby d_method_3_code_264)
                have v579 : Arv Z h578 b543 k543 .char (7 : Int32) [(.int (nar .char c0)), (.int (nar .char c1)), (.int (nar .char c2)), (.int (0 : Int32)), (.int (0 : Int32)), (.int (0 : Int32)), (.int (0 : Int32))] (.int (0 : Int32)) := Arv.set Ar578 q578 S578 N578 H578 G578 (fits_nar_char _) W578 2 rfl (Nat.le_of_ble_eq_true rfl)
                have P580 : ∀ t, Steps p.tables e below (T578.setTop (mkF m 265 #[.val (.int p1), .val (.ref b1)] [(.ref b543), (.ref b533), (.ref b533)])) t → Steps p.tables e below (s₁.setTop (mkF m 0 #[.val (.int p1), .val (.ref b1)] [])) t := fun t k => P568 t (by
                  show Steps p.tables e below (T566.setTop (mkF m 259 #[.val (.int p1), .val (.ref b1)] [(.ref b543), (.ref b533), (.ref b533)])) _
                  refine XS.dup X566.here hx rfl (hb hby d_method_3_code_259) rfl rfl ?_
                  show Steps p.tables e below (T566.setTop (mkF m 260 #[.val (.int p1), .val (.ref b1)] [(.ref b543), (.ref b543), (.ref b533), (.ref b533)])) _
                  refine XS.iconst X566.here hx rfl (hb hby d_method_3_code_260) ?_
                  show Steps p.tables e below (T566.setTop (mkF m 261 #[.val (.int p1), .val (.ref b1)] [(.int (2 : Int32)), (.ref b543), (.ref b543), (.ref b533), (.ref b533)])) _
                  refine XS.aloadN X566.here hx rfl (hb hby d_method_3_code_261) rfl rfl ?_
                  show Steps p.tables e below (T566.setTop (mkF m 262 #[.val (.int p1), .val (.ref b1)] [(.ref b1), (.int (2 : Int32)), (.ref b543), (.ref b543), (.ref b533), (.ref b533)])) _
                  refine XS.iconst X566.here hx rfl (hb hby d_method_3_code_262) ?_
                  show Steps p.tables e below (T566.setTop (mkF m 263 #[.val (.int p1), .val (.ref b1)] [(.int (2 : Int32)), (.ref b1), (.int (2 : Int32)), (.ref b543), (.ref b543), (.ref b533), (.ref b533)])) _
                  refine X566.caload hx (j := (2 : Int32)) (v := (.int c2)) (by rw [e566]; exact Ar577.1) (State.isArrayOf_alike hZ.alike Ar577.2.1) Ar577.2.2 hin577 (H577.at hin577 rfl) (g := (mkF m 263 #[.val (.int p1), .val (.ref b1)] [(.int (2 : Int32)), (.ref b1), (.int (2 : Int32)), (.ref b543), (.ref b543), (.ref b533), (.ref b533)])) rfl rfl (hb hby d_method_3_code_263) _ ?_
                  show Steps p.tables e below (T566.setTop (mkF m 264 #[.val (.int p1), .val (.ref b1)] [(.int c2), (.int (2 : Int32)), (.ref b543), (.ref b543), (.ref b533), (.ref b533)])) _
                  exact st578 _ k)
                have N581 := Fr.snoc X578 N569 g_b543
                have Z582 : n0 ≤ h578.size := Nat.le_trans Z570 (Keep.of_wr W578).1
                have K583 : Keep h0 h578 [] := K571.wr W578 (Or.inr sz_b543)
                have O584 : Old Z n0 h578 := O572.wr W578 g_b543
                have hk585 : h0.size ≤ h578.size := Nat.le_trans hk573 (Keep.of_wr W578).1
                have C586 : CHr Z own_EL s.vm h566 s.vm h578 := CHr.wr W578 (Safe.arv hZ.alike v567 (by decide)) C574.1
                have R587 : CHr Z own_EL s.vm h0 s.vm h578 := R575.trans C586
                have f588 : Arv Z h578 b1 kb .char (7 : Int32) [(.int c0), (.int c1), (.int c2), (.int c3), (.int c4), (.int c5), (.int c6)] (.int (0 : Int32)) := (f576.other W578 (Nat.ne_of_lt (Nat.lt_of_lt_of_le (Ab.ext E533).lt (Nat.le_of_eq g543.symm))))
                obtain ⟨cl589, Ar589, -, S589, N589, H589, -⟩ := id f588
                have hin589 : ¬ ((3 : Int32) < 0 ∨ cl589.slots.size ≤ ((3 : Int32)).toNatClampNeg) := inb_of S589 ⟨by decide, by decide⟩
                obtain ⟨cl590, Ar590, q590, S590, N590, H590, G590⟩ := id v579
                obtain ⟨T590, h590, X590, e590, W590, st590⟩ := stC X578 hx hZ e578 Ar590 (j := (3 : Int32)) (inb_of S590 ⟨by decide, by decide⟩) (g := (mkF m 270 #[.val (.int p1), .val (.ref b1)] [(.int c3), (.int (3 : Int32)), (.ref b543), (.ref b543), (.ref b533), (.ref b533)])) rfl rfl (hb hby d_method_3_code_270)
                have v591 : Arv Z h590 b543 k543 .char (7 : Int32) [(.int (nar .char c0)), (.int (nar .char c1)), (.int (nar .char c2)), (.int (nar .char c3)), (.int (0 : Int32)), (.int (0 : Int32)), (.int (0 : Int32))] (.int (0 : Int32)) := Arv.set Ar590 q590 S590 N590 H590 G590 (fits_nar_char _) W590 3 rfl (Nat.le_of_ble_eq_true rfl)
                have P592 : ∀ t, Steps p.tables e below (T590.setTop (mkF m 271 #[.val (.int p1), .val (.ref b1)] [(.ref b543), (.ref b533), (.ref b533)])) t → Steps p.tables e below (s₁.setTop (mkF m 0 #[.val (.int p1), .val (.ref b1)] [])) t := fun t k => P580 t (by
                  show Steps p.tables e below (T578.setTop (mkF m 265 #[.val (.int p1), .val (.ref b1)] [(.ref b543), (.ref b533), (.ref b533)])) _
                  refine XS.dup X578.here hx rfl (hb hby d_method_3_code_265) rfl rfl ?_
                  show Steps p.tables e below (T578.setTop (mkF m 266 #[.val (.int p1), .val (.ref b1)] [(.ref b543), (.ref b543), (.ref b533), (.ref b533)])) _
                  refine XS.iconst X578.here hx rfl (hb hby d_method_3_code_266) ?_
                  show Steps p.tables e below (T578.setTop (mkF m 267 #[.val (.int p1), .val (.ref b1)] [(.int (3 : Int32)), (.ref b543), (.ref b543), (.ref b533), (.ref b533)])) _
                  refine XS.aloadN X578.here hx rfl (hb hby d_method_3_code_267) rfl rfl ?_
                  show Steps p.tables e below (T578.setTop (mkF m 268 #[.val (.int p1), .val (.ref b1)] [(.ref b1), (.int (3 : Int32)), (.ref b543), (.ref b543), (.ref b533), (.ref b533)])) _
                  refine XS.iconst X578.here hx rfl (hb hby d_method_3_code_268) ?_
                  show Steps p.tables e below (T578.setTop (mkF m 269 #[.val (.int p1), .val (.ref b1)] [(.int (3 : Int32)), (.ref b1), (.int (3 : Int32)), (.ref b543), (.ref b543), (.ref b533), (.ref b533)])) _
                  refine X578.caload hx (j := (3 : Int32)) (v := (.int c3)) (by rw [e578]; exact Ar589.1) (State.isArrayOf_alike hZ.alike Ar589.2.1) Ar589.2.2 hin589 (H589.at hin589 rfl) (g := (mkF m 269 #[.val (.int p1), .val (.ref b1)] [(.int (3 : Int32)), (.ref b1), (.int (3 : Int32)), (.ref b543), (.ref b543), (.ref b533), (.ref b533)])) rfl rfl (hb hby d_method_3_code_269) _ ?_
                  show Steps p.tables e below (T578.setTop (mkF m 270 #[.val (.int p1), .val (.ref b1)] [(.int c3), (.int (3 : Int32)), (.ref b543), (.ref b543), (.ref b533), (.ref b533)])) _
                  exact st590 _ k)
                have N593 := Fr.snoc X590 N581 g_b543
                have Z594 : n0 ≤ h590.size := Nat.le_trans Z582 (Keep.of_wr W590).1
                have K595 : Keep h0 h590 [] := K583.wr W590 (Or.inr sz_b543)
                have O596 : Old Z n0 h590 := O584.wr W590 g_b543
                have hk597 : h0.size ≤ h590.size := Nat.le_trans hk585 (Keep.of_wr W590).1
                have C598 : CHr Z own_EL s.vm h578 s.vm h590 := CHr.wr W590 (Safe.arv hZ.alike v579 (by decide)) C586.1
                have R599 : CHr Z own_EL s.vm h0 s.vm h590 := R587.trans C598
                have f600 : Arv Z h590 b1 kb .char (7 : Int32) [(.int c0), (.int c1), (.int c2), (.int c3), (.int c4), (.int c5), (.int c6)] (.int (0 : Int32)) := (f588.other W590 (Nat.ne_of_lt (Nat.lt_of_lt_of_le (Ab.ext E533).lt (Nat.le_of_eq g543.symm))))
                obtain ⟨cl601, Ar601, -, S601, N601, H601, -⟩ := id f600
                have hin601 : ¬ ((4 : Int32) < 0 ∨ cl601.slots.size ≤ ((4 : Int32)).toNatClampNeg) := inb_of S601 ⟨by decide, by decide⟩
                obtain ⟨cl602, Ar602, q602, S602, N602, H602, G602⟩ := id v591
                obtain ⟨T602, h602, X602, e602, W602, st602⟩ := stC X590 hx hZ e590 Ar602 (j := (4 : Int32)) (inb_of S602 ⟨by decide, by decide⟩) (g := (mkF m 276 #[.val (.int p1), .val (.ref b1)] [(.int c4), (.int (4 : Int32)), (.ref b543), (.ref b543), (.ref b533), (.ref b533)])) rfl rfl (hb hby d_method_3_code_276)
                have v603 : Arv Z h602 b543 k543 .char (7 : Int32) [(.int (nar .char c0)), (.int (nar .char c1)), (.int (nar .char c2)), (.int (nar .char c3)), (.int (nar .char c4)), (.int (0 : Int32)), (.int (0 : Int32))] (.int (0 : Int32)) := Arv.set Ar602 q602 S602 N602 H602 G602 (fits_nar_char _) W602 4 rfl (Nat.le_of_ble_eq_true rfl)
                have P604 : ∀ t, Steps p.tables e below (T602.setTop (mkF m 277 #[.val (.int p1), .val (.ref b1)] [(.ref b543), (.ref b533), (.ref b533)])) t → Steps p.tables e below (s₁.setTop (mkF m 0 #[.val (.int p1), .val (.ref b1)] [])) t := fun t k => P592 t (by
                  show Steps p.tables e below (T590.setTop (mkF m 271 #[.val (.int p1), .val (.ref b1)] [(.ref b543), (.ref b533), (.ref b533)])) _
                  refine XS.dup X590.here hx rfl (hb hby d_method_3_code_271) rfl rfl ?_
                  show Steps p.tables e below (T590.setTop (mkF m 272 #[.val (.int p1), .val (.ref b1)] [(.ref b543), (.ref b543), (.ref b533), (.ref b533)])) _
                  refine XS.iconst X590.here hx rfl (hb hby d_method_3_code_272) ?_
                  show Steps p.tables e below (T590.setTop (mkF m 273 #[.val (.int p1), .val (.ref b1)] [(.int (4 : Int32)), (.ref b543), (.ref b543), (.ref b533), (.ref b533)])) _
                  refine XS.aloadN X590.here hx rfl (hb hby d_method_3_code_273) rfl rfl ?_
                  show Steps p.tables e below (T590.setTop (mkF m 274 #[.val (.int p1), .val (.ref b1)] [(.ref b1), (.int (4 : Int32)), (.ref b543), (.ref b543), (.ref b533), (.ref b533)])) _
                  refine XS.iconst X590.here hx rfl (hb hby d_method_3_code_274) ?_
                  show Steps p.tables e below (T590.setTop (mkF m 275 #[.val (.int p1), .val (.ref b1)] [(.int (4 : Int32)), (.ref b1), (.int (4 : Int32)), (.ref b543), (.ref b543), (.ref b533), (.ref b533)])) _
                  refine X590.caload hx (j := (4 : Int32)) (v := (.int c4)) (by rw [e590]; exact Ar601.1) (State.isArrayOf_alike hZ.alike Ar601.2.1) Ar601.2.2 hin601 (H601.at hin601 rfl) (g := (mkF m 275 #[.val (.int p1), .val (.ref b1)] [(.int (4 : Int32)), (.ref b1), (.int (4 : Int32)), (.ref b543), (.ref b543), (.ref b533), (.ref b533)])) rfl rfl (hb hby d_method_3_code_275) _ ?_
                  show Steps p.tables e below (T590.setTop (mkF m 276 #[.val (.int p1), .val (.ref b1)] [(.int c4), (.int (4 : Int32)), (.ref b543), (.ref b543), (.ref b533), (.ref b533)])) _
                  exact st602 _ k)
                have N605 := Fr.snoc X602 N593 g_b543
                have Z606 : n0 ≤ h602.size := Nat.le_trans Z594 (Keep.of_wr W602).1
                have K607 : Keep h0 h602 [] := K595.wr W602 (Or.inr sz_b543)
                have O608 : Old Z n0 h602 := O596.wr W602 g_b543
                have hk609 : h0.size ≤ h602.size := Nat.le_trans hk597 (Keep.of_wr W602).1
                have C610 : CHr Z own_EL s.vm h590 s.vm h602 := CHr.wr W602 (Safe.arv hZ.alike v591 (by decide)) C598.1
                have R611 : CHr Z own_EL s.vm h0 s.vm h602 := R599.trans C610
                have f612 : Arv Z h602 b1 kb .char (7 : Int32) [(.int c0), (.int c1), (.int c2), (.int c3), (.int c4), (.int c5), (.int c6)] (.int (0 : Int32)) := (f600.other W602 (Nat.ne_of_lt (Nat.lt_of_lt_of_le (Ab.ext E533).lt (Nat.le_of_eq g543.symm))))
                obtain ⟨cl613, Ar613, -, S613, N613, H613, -⟩ := id f612
                have hin613 : ¬ ((5 : Int32) < 0 ∨ cl613.slots.size ≤ ((5 : Int32)).toNatClampNeg) := inb_of S613 ⟨by decide, by decide⟩
                obtain ⟨cl614, Ar614, q614, S614, N614, H614, G614⟩ := id v603
                obtain ⟨T614, h614, X614, e614, W614, st614⟩ := stC X602 hx hZ e602 Ar614 (j := (5 : Int32)) (inb_of S614 ⟨by decide, by decide⟩) (g := (mkF m 282 #[.val (.int p1), .val (.ref b1)] [(.int c5), (.int (5 : Int32)), (.ref b543), (.ref b543), (.ref b533), (.ref b533)])) rfl rfl (hb hby d_method_3_code_282)
                have v615 : Arv Z h614 b543 k543 .char (7 : Int32) [(.int (nar .char c0)), (.int (nar .char c1)), (.int (nar .char c2)), (.int (nar .char c3)), (.int (nar .char c4)), (.int (nar .char c5)), (.int (0 : Int32))] (.int (0 : Int32)) := Arv.set Ar614 q614 S614 N614 H614 G614 (fits_nar_char _) W614 5 rfl (Nat.le_of_ble_eq_true rfl)
                have P616 : ∀ t, Steps p.tables e below (T614.setTop (mkF m 283 #[.val (.int p1), .val (.ref b1)] [(.ref b543), (.ref b533), (.ref b533)])) t → Steps p.tables e below (s₁.setTop (mkF m 0 #[.val (.int p1), .val (.ref b1)] [])) t := fun t k => P604 t (by
                  show Steps p.tables e below (T602.setTop (mkF m 277 #[.val (.int p1), .val (.ref b1)] [(.ref b543), (.ref b533), (.ref b533)])) _
                  refine XS.dup X602.here hx rfl (hb hby d_method_3_code_277) rfl rfl ?_
                  show Steps p.tables e below (T602.setTop (mkF m 278 #[.val (.int p1), .val (.ref b1)] [(.ref b543), (.ref b543), (.ref b533), (.ref b533)])) _
                  refine XS.iconst X602.here hx rfl (hb hby d_method_3_code_278) ?_
                  show Steps p.tables e below (T602.setTop (mkF m 279 #[.val (.int p1), .val (.ref b1)] [(.int (5 : Int32)), (.ref b543), (.ref b543), (.ref b533), (.ref b533)])) _
                  refine XS.aloadN X602.here hx rfl (hb hby d_method_3_code_279) rfl rfl ?_
                  show Steps p.tables e below (T602.setTop (mkF m 280 #[.val (.int p1), .val (.ref b1)] [(.ref b1), (.int (5 : Int32)), (.ref b543), (.ref b543), (.ref b533), (.ref b533)])) _
                  refine XS.iconst X602.here hx rfl (hb hby d_method_3_code_280) ?_
                  show Steps p.tables e below (T602.setTop (mkF m 281 #[.val (.int p1), .val (.ref b1)] [(.int (5 : Int32)), (.ref b1), (.int (5 : Int32)), (.ref b543), (.ref b543), (.ref b533), (.ref b533)])) _
                  refine X602.caload hx (j := (5 : Int32)) (v := (.int c5)) (by rw [e602]; exact Ar613.1) (State.isArrayOf_alike hZ.alike Ar613.2.1) Ar613.2.2 hin613 (H613.at hin613 rfl) (g := (mkF m 281 #[.val (.int p1), .val (.ref b1)] [(.int (5 : Int32)), (.ref b1), (.int (5 : Int32)), (.ref b543), (.ref b543), (.ref b533), (.ref b533)])) rfl rfl (hb hby d_method_3_code_281) _ ?_
                  show Steps p.tables e below (T602.setTop (mkF m 282 #[.val (.int p1), .val (.ref b1)] [(.int c5), (.int (5 : Int32)), (.ref b543), (.ref b543), (.ref b533), (.ref b533)])) _
                  exact st614 _ k)
                have N617 := Fr.snoc X614 N605 g_b543
                have Z618 : n0 ≤ h614.size := Nat.le_trans Z606 (Keep.of_wr W614).1
                have K619 : Keep h0 h614 [] := K607.wr W614 (Or.inr sz_b543)
                have O620 : Old Z n0 h614 := O608.wr W614 g_b543
                have hk621 : h0.size ≤ h614.size := Nat.le_trans hk609 (Keep.of_wr W614).1
                have C622 : CHr Z own_EL s.vm h602 s.vm h614 := CHr.wr W614 (Safe.arv hZ.alike v603 (by decide)) C610.1
                have R623 : CHr Z own_EL s.vm h0 s.vm h614 := R611.trans C622
                have f624 : Arv Z h614 b1 kb .char (7 : Int32) [(.int c0), (.int c1), (.int c2), (.int c3), (.int c4), (.int c5), (.int c6)] (.int (0 : Int32)) := (f612.other W614 (Nat.ne_of_lt (Nat.lt_of_lt_of_le (Ab.ext E533).lt (Nat.le_of_eq g543.symm))))
                obtain ⟨cl625, Ar625, -, S625, N625, H625, -⟩ := id f624
                have hin625 : ¬ ((6 : Int32) < 0 ∨ cl625.slots.size ≤ ((6 : Int32)).toNatClampNeg) := inb_of S625 ⟨by decide, by decide⟩
                obtain ⟨cl626, Ar626, q626, S626, N626, H626, G626⟩ := id v615
                obtain ⟨T626, h626, X626, e626, W626, st626⟩ := stC X614 hx hZ e614 Ar626 (j := (6 : Int32)) (inb_of S626 ⟨by decide, by decide⟩) (g := (mkF m 290 #[.val (.int p1), .val (.ref b1)] [(.int c6), (.int (6 : Int32)), (.ref b543), (.ref b543), (.ref b533), (.ref b533)])) rfl rfl (hb hby d_method_3_code_290)
                have v627 : Arv Z h626 b543 k543 .char (7 : Int32) [(.int (nar .char c0)), (.int (nar .char c1)), (.int (nar .char c2)), (.int (nar .char c3)), (.int (nar .char c4)), (.int (nar .char c5)), (.int (nar .char c6))] (.int (0 : Int32)) := Arv.set Ar626 q626 S626 N626 H626 G626 (fits_nar_char _) W626 6 rfl (Nat.le_of_ble_eq_true rfl)
                have P628 : ∀ t, Steps p.tables e below (T626.setTop (mkF m 291 #[.val (.int p1), .val (.ref b1)] [(.ref b543), (.ref b533), (.ref b533)])) t → Steps p.tables e below (s₁.setTop (mkF m 0 #[.val (.int p1), .val (.ref b1)] [])) t := fun t k => P616 t (by
                  show Steps p.tables e below (T614.setTop (mkF m 283 #[.val (.int p1), .val (.ref b1)] [(.ref b543), (.ref b533), (.ref b533)])) _
                  refine XS.dup X614.here hx rfl (hb hby d_method_3_code_283) rfl rfl ?_
                  show Steps p.tables e below (T614.setTop (mkF m 284 #[.val (.int p1), .val (.ref b1)] [(.ref b543), (.ref b543), (.ref b533), (.ref b533)])) _
                  refine XS.bipush X614.here hx rfl (hb hby d_method_3_code_284) ?_
                  show Steps p.tables e below (T614.setTop (mkF m 286 #[.val (.int p1), .val (.ref b1)] [(.int (6 : Int32)), (.ref b543), (.ref b543), (.ref b533), (.ref b533)])) _
                  refine XS.aloadN X614.here hx rfl (hb hby d_method_3_code_286) rfl rfl ?_
                  show Steps p.tables e below (T614.setTop (mkF m 287 #[.val (.int p1), .val (.ref b1)] [(.ref b1), (.int (6 : Int32)), (.ref b543), (.ref b543), (.ref b533), (.ref b533)])) _
                  refine XS.bipush X614.here hx rfl (hb hby d_method_3_code_287) ?_
                  show Steps p.tables e below (T614.setTop (mkF m 289 #[.val (.int p1), .val (.ref b1)] [(.int (6 : Int32)), (.ref b1), (.int (6 : Int32)), (.ref b543), (.ref b543), (.ref b533), (.ref b533)])) _
                  refine X614.caload hx (j := (6 : Int32)) (v := (.int c6)) (by rw [e614]; exact Ar625.1) (State.isArrayOf_alike hZ.alike Ar625.2.1) Ar625.2.2 hin625 (H625.at hin625 rfl) (g := (mkF m 289 #[.val (.int p1), .val (.ref b1)] [(.int (6 : Int32)), (.ref b1), (.int (6 : Int32)), (.ref b543), (.ref b543), (.ref b533), (.ref b533)])) rfl rfl (hb hby d_method_3_code_289) _ ?_
                  show Steps p.tables e below (T614.setTop (mkF m 290 #[.val (.int p1), .val (.ref b1)] [(.int c6), (.int (6 : Int32)), (.ref b543), (.ref b543), (.ref b533), (.ref b533)])) _
                  exact st626 _ k)
                have N629 := Fr.snoc X626 N617 g_b543
                have Z630 : n0 ≤ h626.size := Nat.le_trans Z618 (Keep.of_wr W626).1
                have K631 : Keep h0 h626 [] := K619.wr W626 (Or.inr sz_b543)
                have O632 : Old Z n0 h626 := O620.wr W626 g_b543
                have hk633 : h0.size ≤ h626.size := Nat.le_trans hk621 (Keep.of_wr W626).1
                have C634 : CHr Z own_EL s.vm h614 s.vm h626 := CHr.wr W626 (Safe.arv hZ.alike v615 (by decide)) C622.1
                have R635 : CHr Z own_EL s.vm h0 s.vm h626 := R623.trans C634
                have hp : ∀ c ∈ ([(nar .char c0), (nar .char c1), (nar .char c2), (nar .char c3), (nar .char c4), (nar .char c5), (nar .char c6)] : List Int32), ¬ c < 0 ∧ ¬ (255 : Int32) < c := by
                  intro c hc
                  simp only [List.mem_cons, List.not_mem_nil, or_false] at hc
                  rcases hc with rfl | rfl | rfl | rfl | rfl | rfl | rfl
                  · exact gc0
                  · exact gc1
                  · exact gc2
                  · exact gc3
                  · exact gc4
                  · exact gc5
                  · exact gc6
                have hwsb533 : ∀ d ∈ StrChars.Road.words, d.before a0 Z = true := fun d hd => hw d (own_strwords d hd)
                have f636 : Exa Z h626 b533 "java/lang/String" := ((((((((A533.ext E543).wr W554).wr W566).wr W578).wr W590).wr W602).wr W614).wr W626)
                have f637 : Fld Z h626 b533 "java/lang/String" "value" "[B" .null := ((((((((f541.ext E543).other W554 (Or.inl (Nat.ne_of_lt (Nat.lt_of_lt_of_le f542.lt (Nat.le_of_eq g543.symm))))).other W566 (Or.inl (Nat.ne_of_lt (Nat.lt_of_lt_of_le f542.lt (Nat.le_of_eq g543.symm))))).other W578 (Or.inl (Nat.ne_of_lt (Nat.lt_of_lt_of_le f542.lt (Nat.le_of_eq g543.symm))))).other W590 (Or.inl (Nat.ne_of_lt (Nat.lt_of_lt_of_le f542.lt (Nat.le_of_eq g543.symm))))).other W602 (Or.inl (Nat.ne_of_lt (Nat.lt_of_lt_of_le f542.lt (Nat.le_of_eq g543.symm))))).other W614 (Or.inl (Nat.ne_of_lt (Nat.lt_of_lt_of_le f542.lt (Nat.le_of_eq g543.symm))))).other W626 (Or.inl (Nat.ne_of_lt (Nat.lt_of_lt_of_le f542.lt (Nat.le_of_eq g543.symm)))))
                have f638 : Fld Z h626 b533 "java/lang/String" "coder" "B" (.int (0 : Int32)) := ((((((((f542.ext E543).other W554 (Or.inl (Nat.ne_of_lt (Nat.lt_of_lt_of_le f542.lt (Nat.le_of_eq g543.symm))))).other W566 (Or.inl (Nat.ne_of_lt (Nat.lt_of_lt_of_le f542.lt (Nat.le_of_eq g543.symm))))).other W578 (Or.inl (Nat.ne_of_lt (Nat.lt_of_lt_of_le f542.lt (Nat.le_of_eq g543.symm))))).other W590 (Or.inl (Nat.ne_of_lt (Nat.lt_of_lt_of_le f542.lt (Nat.le_of_eq g543.symm))))).other W602 (Or.inl (Nat.ne_of_lt (Nat.lt_of_lt_of_le f542.lt (Nat.le_of_eq g543.symm))))).other W614 (Or.inl (Nat.ne_of_lt (Nat.lt_of_lt_of_le f542.lt (Nat.le_of_eq g543.symm))))).other W626 (Or.inl (Nat.ne_of_lt (Nat.lt_of_lt_of_le f542.lt (Nat.le_of_eq g543.symm)))))
                obtain ⟨_, _, ⟨T639, L639, k639, n639⟩, -, X639, ⟨Lc639, hQ639, l639, y639, z639⟩, st639⟩ := X626.specialBack hx (y := (⟨"java/lang/String", "<init>", "([C)V"⟩ : MethodName)) rfl hown (mvT hZ (hw _ (List.mem_of_getElem? (i := 11) rfl))) (mvT hZ (hw _ (List.mem_of_getElem? (i := 12) rfl))) (mvT hZ (hw _ (List.mem_of_getElem? (i := 13) rfl))) (by decide) (StrChars.Road.backV (W := 1) hZ hwsb533 (kI := 4) (hw _ (List.mem_of_getElem? (i := 9) rfl)) (cs := ([(nar .char c0), (nar .char c1), (nar .char c2), (nar .char c3), (nar .char c4), (nar .char c5), (nar .char c6)] : List Int32)) (bs := (([(nar .char c0), (nar .char c1), (nar .char c2), (nar .char c3), (nar .char c4), (nar .char c5), (nar .char c6)] : List Int32)).map (fun c => c.toInt8.toInt32)) (n := 7) g_b533 Z630 f636 f637 f638 v627 (Sg.ext O632.2) P5 rfl rfl (by decide) (by decide) hp rfl (by decide) (by decide)) (g := (mkF m 291 #[.val (.int p1), .val (.ref b1)] [(.ref b543), (.ref b533), (.ref b533)])) rfl (by rw [hml]; rfl) (Steps.refl _) (a := b533) (argsL := [(.ref b543)]) (rest := [(.ref b533)]) (lenOf pd__28_5bC_29V rfl) rfl (by show 2 * 0 + _ ≤ _; exact Nat.le_of_eq rfl) (hb hby d_method_3_code_291) (fun _ _ => ⟨rfl, e626, (Nat.le_of_ble_eq_true rfl : 2 + 1 ≤ _), (Nat.le_of_ble_eq_true rfl : 11 + 7 ≤ _)⟩)
                dsimp only [Pt.U, Pt.locs, Pt.cells, Pt.slots] at X639 l639 y639 z639 st639 hQ639
                subst l639 y639 z639
                obtain ⟨rfl, Nq639, Kk639, Ek639, Fc639, t639, kb639, u639, vt639, wt639, Fv639, Av639⟩ := hQ639
                have N640 := Fr.app N629 Nq639
                have P641 : ∀ t, Steps p.tables e below (T639.setTop (mkF m 294 #[.val (.int p1), .val (.ref b1)] [(.ref b533)])) t → Steps p.tables e below (s₁.setTop (mkF m 0 #[.val (.int p1), .val (.ref b1)] [])) t := fun t k => P628 t (by
                  show Steps p.tables e below (T626.setTop (mkF m 291 #[.val (.int p1), .val (.ref b1)] [(.ref b543), (.ref b533), (.ref b533)])) _
                  exact st639.trans k)
                have Z642 : n0 ≤ T639.heap.size := Nat.le_trans Z630 Kk639.1
                have K643 : Keep h0 T639.heap [] := K631.trans Kk639 ((allS (Or.inr sz_b533) all0))
                have O644 : Old Z n0 T639.heap := O632.keep Kk639 (allS g_b533 all0)
                have hk645 : h0.size ≤ T639.heap.size := Nat.le_trans hk633 Kk639.1
                have C646 : CHr Z own_EL s.vm h626 s.vm T639.heap := CHr.keep Kk639 (sfS (CHr.safe (((((((C549.trans C562).trans C574).trans C586).trans C598).trans C610).trans C622).trans C634) A533.lt sf_b533) sf0) C634.1
                have R647 : CHr Z own_EL s.vm h0 s.vm T639.heap := R635.trans C646
                have g_t639 : n0 ≤ t639 := Nat.le_trans Z630 vt639
                have sz_t639 : h0.size ≤ t639 := Nat.le_trans K631.1 vt639
                obtain ⟨fs648, hr648, hrun648, hended648, hRW648⟩ := X639.leaveW (v := some (.ref b533)) hS0 hk645 (fun h => by rw [Bd.returns] at h; cases h)
                have hce648 : CHr Z own_EL s.vm s.heap T639.vm T639.heap := by
                  rw [hh]
                  exact R647.trans (CHv.at X639 hZ (own_EW hw) C646.1)
                refine ⟨_, _, pre0 _ (P641 _ ?_), hrun648, hended648, _, _, rfl, ?_, hce648, ⟨hRW648.1, hRW648.2.1, hRW648.2.2.1, hRW648.2.2.2.mono (Nat.le_of_ble_eq_true rfl) (Nat.le_of_ble_eq_true rfl)⟩⟩
                · show Steps p.tables e below (T639.setTop (mkF m 294 #[.val (.int p1), .val (.ref b1)] [(.ref b533)])) _
                  exact retOut X639 hx Bd.returns rfl (Or.inr (Or.inr (Or.inr (Or.inr ⟨rfl, rfl, rfl⟩)))) (hb hby d_method_3_code_294) hr648
                · show Q_make Z p1 c0 c1 c2 c3 c4 c5 c6 h0 n0 _ T639.heap _
                  exact ⟨b533, t639, _, [nar .char c0, nar .char c1, nar .char c2, nar .char c3, nar .char c4, nar .char c5, nar .char c6], by simp [own_cs, q52, q83, q128, q185, q254, q335, q428], rfl, N640, sz_b533, K643, Ek639, Fv639, Fc639, Av639, Nat.le_of_ble_eq_true rfl, hp⟩

def own_sys : List Int32 := [(115 : Int32), (121 : Int32), (115 : Int32), (116 : Int32), (101 : Int32), (109 : Int32)]
theorem own_sysb : ∀ c ∈ own_sys, ¬ c < 0 ∧ ¬ (255 : Int32) < c := by decide

theorem d_prog_10_method_34_code_0 : decode prog_10_method_34_code 0 = .ok (.iload_n 0, 1) := by decide +kernel
theorem d_prog_10_method_34_code_1 : decode prog_10_method_34_code 1 = .ok (.ifCond .ne 12, 3) := by decide +kernel
theorem d_prog_10_method_34_code_4 : decode prog_10_method_34_code 4 = .ok (.aload_n 1, 1) := by decide +kernel
theorem d_prog_10_method_34_code_5 : decode prog_10_method_34_code 5 = .ok (.ldc 224, 2) := by decide +kernel
theorem d_prog_10_method_34_code_7 : decode prog_10_method_34_code 7 = .ok (.invokevirtual 107, 3) := by decide +kernel
theorem pd__28Ljava_2flang_2fObject_3b_29Z : parseMethodDescriptor "(Ljava/lang/Object;)Z" = some ⟨[(.object "java/lang/Object")], some .boolean⟩ := by decide +kernel
theorem d_prog_10_method_34_code_10 : decode prog_10_method_34_code 10 = .ok (.ifCond .ne 7, 3) := by decide +kernel
theorem d_prog_10_method_34_code_13 : decode prog_10_method_34_code 13 = .ok (.iconst 1, 1) := by decide +kernel
theorem d_prog_10_method_34_code_14 : decode prog_10_method_34_code 14 = .ok (.goto 4, 3) := by decide +kernel
theorem d_prog_10_method_34_code_18 : decode prog_10_method_34_code 18 = .ok (.ireturn, 1) := by decide +kernel
theorem d_prog_10_method_34_code_17 : decode prog_10_method_34_code 17 = .ok (.iconst 0, 1) := by decide +kernel
theorem pn_com_example_vervet_vervet_engine_Rules : plainName "com/example/vervet/vervet/engine/Rules" = true := by first | (simp [plainName, overriddenIn]; done) | decide +kernel
theorem ef_may (m : MethodId) (x0 : Int32) (x1 : Addr) : entryFrame m #[(.int x0), (.ref x1)] 2 = mkF m 0 #[.val (.int x0), .val (.ref x1)] [] := by (first | (simp [entryFrame, mkF, argsToLocals, Value.category]; done) | rfl)
def Q_may (p1 : Int32) (cs : List Int32) (h0 : Heap) (n0 : Nat) (v : Option Value) (h : Heap) (L : List Loc) : Prop := v = some (.int (if p1 = (0 : Int32) ∧ cs = own_sys then 0 else 1)) ∧ Fr n0 L ∧ Keep h0 h []
set_option maxRecDepth 65536 in
set_option maxHeartbeats 40000000 in
theorem rm_may (l : Launch) (Z : State) (a0 : Array Value) (hw : ∀ d ∈ tables_1, d.before a0 Z = true) (ws : List Jvm.Cond) (p1 : Int32) (a1 t1 : Addr) (k1 : ClassId) (cs : List Int32) (G1 : Int32) (h0 : Heap) (n0 : Nat) (Z0 : n0 ≤ h0.size) (Sg : Sta Z Z.heap "java/lang/String" "COMPACT_STRINGS" "Z" (.int G1)) (P5 : ¬ (G1 = (0 : Int32))) (E1 : Exa Z h0 a1 "java/lang/String") (Fv : Fld Z h0 a1 "java/lang/String" "value" "[B" (.ref t1)) (Fc : Fld Z h0 a1 "java/lang/String" "coder" "B" (.int 0)) (A1 : Arv Z h0 t1 k1 .byte (Int32.ofNat cs.length) ((cs.map (fun c => c.toInt8.toInt32)).map Value.int) (.int 0)) (hlen : cs.length ≤ 7) (hbb : ∀ c ∈ cs, ¬ c < 0 ∧ ¬ (255 : Int32) < c) (Ol : Old Z n0 h0) :
    MetFree l (⟨"com/example/vervet/vervet/engine/Rules", "mayJoin", "(ZLjava/lang/String;)Z"⟩ : MethodName) (head1 (Jvm.Cond.code (⟨"com/example/vervet/vervet/engine/Rules", "mayJoin", "(ZLjava/lang/String;)Z"⟩ : MethodName) prog_10_method_34_code 2 (some .boolean) :: ws) ({ frames := 2, cells := 2, slots := 28, locals := 28 } : Room)) (fun a U => a = #[(.int p1), (.ref a1)] ∧ Z.Warmed39 U.vm ∧ U.heap = h0 ∧ CHv Z own_EL U.vm h0) (fun _ _ _ _ _ => True) (fun _ U o U' => ∃ v L, o = .returned v ∧ Q_may p1 cs h0 n0 v U'.heap L ∧ CHr Z own_EL U.vm U.heap U'.vm U'.heap ∧ ReturnedEndW U o U' L ({ frames := 2, cells := 2, slots := 28, locals := 28 } : Room).cells ({ frames := 2, cells := 2, slots := 28, locals := 28 } : Room).slots) := by
  refine MetFree.of_bodySF (plainFor_of_name pn_com_example_vervet_vervet_engine_Rules) hisR ?_
  intro p e s m args below meth c s₁ Bd hml0 hP hK
  obtain ⟨rfl, hZ, hh, hCH0⟩ := hP
  have hx := Bd.exec
  have hby := Bd.bytes
  have hml : c.maxLocals = 2 := hml0
  have hown : s.vm.findClass "com/example/vervet/vervet/engine/Rules" = some m.cls := findClass_of_methodNamed Bd.named
  have hnm := (name_of_methodNamed Bd.named Bd.method).1
  have X0 : Stand p l e ({ frames := 2, cells := 2, slots := 28, locals := 28 } : Room) (s.setVm s.vm) m #[(.int p1), (.ref a1)] below meth c s₁ [] 0 0 := Stand.of_body Bd
  have e0 : s₁.heap = h0 := by rw [← hh, Bd.state]; rfl
  have N0 := Fr.nil n0
  have pre0 : ∀ t, Steps p.tables e below (s₁.setTop (mkF m 0 #[.val (.int p1), .val (.ref a1)] [])) t → Steps p.tables e below (s₁.setTop (entryFrame m #[(.int p1), (.ref a1)] 2)) t := fun t k => castTop (ef_may m p1 a1) k
  have P0 : ∀ t, Steps p.tables e below (s₁.setTop (mkF m 0 #[.val (.int p1), .val (.ref a1)] [])) t → Steps p.tables e below (s₁.setTop (mkF m 0 #[.val (.int p1), .val (.ref a1)] [])) t := fun t k => k
  have hS0 : s.Since s.vm h0.size := (State.WarmedH.refl s).since _
  have hCR0 : CHr Z own_EL s.vm h0 s.vm h0 := CHr.refl hCH0
  by_cases q649 : p1 = (0 : Int32)
  · skip
    obtain ⟨y650, T650, h650, k650, t650, kb650, X650, e650, E650, hS650, hk650, hZ650, ho650, Ea650, Fc650, Fv650, Av650, la650, lb650, cr650, Li650, ne650, st650⟩ := ldcCH X0 hx hZ hown (hw _ (List.mem_of_getElem? (i := 33) rfl)) (own_wS hw) e0 hS0 (Nat.le_refl _) (own_EW hw) (by decide) hCH0 (vs := [(.int (115 : Int32)), (.int (121 : Int32)), (.int (115 : Int32)), (.int (116 : Int32)), (.int (101 : Int32)), (.int (109 : Int32))]) (z := (6 : Int32)) ⟨by decide, by decide⟩ (by decide) (by decide) (g := (mkF m 5 #[.val (.int p1), .val (.ref a1)] [(.ref a1)])) rfl (hb hby d_prog_10_method_34_code_5) (n := 24) (by decide) (by decide) (Nat.le_of_ble_eq_true rfl) (Nat.le_of_ble_eq_true rfl)
    have P651 : ∀ t, Steps p.tables e below (T650.setTop (mkF m 7 #[.val (.int p1), .val (.ref a1)] [(.ref y650), (.ref a1)])) t → Steps p.tables e below (s₁.setTop (mkF m 0 #[.val (.int p1), .val (.ref a1)] [])) t := fun t k => P0 t (by
      refine XS.iloadN X0.here hx rfl (hb hby d_prog_10_method_34_code_0) rfl ?_
      show Steps p.tables e below (s₁.setTop (mkF m 1 #[.val (.int p1), .val (.ref a1)] [(.int p1)])) _
      refine XS.ifNo X0.here hx rfl (hb hby d_prog_10_method_34_code_1) rfl ((if0 _ _).trans (teq (show p1 = (0 : Int32) from q649)).2) ?_
      show Steps p.tables e below (s₁.setTop (mkF m 4 #[.val (.int p1), .val (.ref a1)] [])) _
      refine XS.aloadN X0.here hx rfl (hb hby d_prog_10_method_34_code_4) rfl rfl ?_
      show Steps p.tables e below (s₁.setTop (mkF m 5 #[.val (.int p1), .val (.ref a1)] [(.ref a1)])) _
      exact st650 _ k)
    have Z652 : n0 ≤ h650.size := Nat.le_trans Z0 E650.1
    have K653 : Keep h0 h650 [] := (Keep.refl h0 []).ext E650
    have O654 : Old Z n0 h650 := Ol.ext E650
    have R655 : CHr Z own_EL s.vm h0 T650.vm h650 := hCR0.trans cr650
    have hcd1 : StrChars.Road.CodA cs 0 (Int32.ofNat cs.length) ((cs.map (fun c => c.toInt8.toInt32)).map Value.int) := StrChars.Road.codOf (n := cs.length) rfl (fun x hx => (hbb x hx).2)
    have hcd2 : StrChars.Road.CodA own_sys 0 (6 : Int32) [(.int (115 : Int32)), (.int (121 : Int32)), (.int (115 : Int32)), (.int (116 : Int32)), (.int (101 : Int32)), (.int (109 : Int32))] := StrChars.Road.codOf (n := 6) rfl (fun x hx => (own_sysb x hx).2)
    have f657 : Exa Z h650 a1 "java/lang/String" := (E1.ext E650)
    have f658 : Fld Z h650 a1 "java/lang/String" "value" "[B" (.ref t1) := (Fv.ext E650)
    have f659 : Fld Z h650 a1 "java/lang/String" "coder" "B" (.int 0) := (Fc.ext E650)
    have f660 : Arv Z h650 t1 k1 .byte (Int32.ofNat cs.length) ((cs.map (fun c => c.toInt8.toInt32)).map Value.int) (.int 0) := (A1.ext E650)
    have heq656 : ∀ d ∈ StrChars.Road.wordsEq, d.before a0 Z = true := fun d hd => hw d (own_eqwords d hd)
    obtain ⟨cq661, kq661, q661a, q661b, q661c⟩ := isOf hZ650 e650 f657
    obtain ⟨vv661, _, ⟨T661, L661, k661, n661⟩, -, X661, ⟨Lc661, hQ661, l661, y661, z661⟩, st661⟩ := X650.virtualBack hx (y := (⟨"java/lang/String", "equals", "(Ljava/lang/Object;)Z"⟩ : MethodName)) (z := (⟨"java/lang/String", "equals", "(Ljava/lang/Object;)Z"⟩ : MethodName)) ho650 (mvT hZ650 (hw _ (List.mem_of_getElem? (i := 34) rfl))) (mvT hZ650 (hw _ (List.mem_of_getElem? (i := 35) rfl))) (notFace_of_selects (args := #[]) (mvT hZ650 (hw _ (List.mem_of_getElem? (i := 37) rfl)))) (mvT hZ650 (hw _ (List.mem_of_getElem? (i := 37) rfl))) (mvT hZ650 (hw _ (List.mem_of_getElem? (i := 36) rfl))) (by decide) (StrChars.Road.eqW (W := 0) hZ650 heq656 (kI := 4) (hw _ (List.mem_of_getElem? (i := 9) rfl)) f657 f658 f659 f660 hcd1 (own_up _ hbb) (Nat.le_trans hlen (by decide)) Ea650 Fv650 Fc650 Av650 hcd2 (own_up _ own_sysb) (by decide) (Sg.ext O654.2) P5 (by decide) (by decide)) q661a q661c (g := (mkF m 7 #[.val (.int p1), .val (.ref a1)] [(.ref y650), (.ref a1)])) rfl (by rw [hml]; rfl) (Steps.refl _) (argsL := [(.ref y650)]) (rest := []) (lenOf pd__28Ljava_2flang_2fObject_3b_29Z rfl) rfl (by show 2 * 0 + _ ≤ _; exact Nat.le_of_eq rfl) (hb hby d_prog_10_method_34_code_7) (fun _ _ => ⟨rfl, e650, (Nat.le_of_ble_eq_true rfl : 2 + 0 ≤ _), (Nat.le_of_ble_eq_true rfl : 28 + 0 ≤ _)⟩)
    dsimp only [Pt.U, Pt.locs, Pt.cells, Pt.slots] at X661 l661 y661 z661 st661 hQ661
    subst l661 y661 z661
    obtain ⟨hcs661, rfl, e661⟩ := hQ661
    obtain ⟨be661, rfl, hce661⟩ := own_eqcase hcs661
    have N662 := Fr.app N0 (Fr.nil n0)
    have P663 : ∀ t, Steps p.tables e below (T661.setTop (mkF m 10 #[.val (.int p1), .val (.ref a1)] [(.int be661)])) t → Steps p.tables e below (s₁.setTop (mkF m 0 #[.val (.int p1), .val (.ref a1)] [])) t := fun t k => P651 t (by
      show Steps p.tables e below (T650.setTop (mkF m 7 #[.val (.int p1), .val (.ref a1)] [(.ref y650), (.ref a1)])) _
      exact st661.trans k)
    by_cases q664 : be661 = (0 : Int32)
    · skip
      have hne : ¬ cs = own_sys := by
        rcases hce661 with ⟨h, _⟩ | ⟨_, h⟩
        · rw [q664] at h; exact absurd h (by decide)
        · exact h
      obtain ⟨fs665, hr665, hrun665, hended665, hRW665⟩ := X661.leaveW (v := some (.int (1 : Int32))) hS650 (by rw [e661]; exact hk650) (fun h => by rw [Bd.returns] at h; cases h)
      have hce665 : CHr Z own_EL s.vm s.heap T661.vm T661.heap := by
        rw [hh, e661]
        exact R655.trans (CHv.at X661 hZ650 (own_EW hw) cr650.1)
      refine ⟨_, _, pre0 _ (P663 _ ?_), hrun665, hended665, _, _, rfl, ?_, hce665, ⟨hRW665.1, hRW665.2.1, hRW665.2.2.1, hRW665.2.2.2.mono (Nat.le_of_ble_eq_true rfl) (Nat.le_of_ble_eq_true rfl)⟩⟩
      · show Steps p.tables e below (T661.setTop (mkF m 10 #[.val (.int p1), .val (.ref a1)] [(.int be661)])) _
        refine XS.ifNo X661.here hx rfl (hb hby d_prog_10_method_34_code_10) rfl ((if0 _ _).trans (teq (show be661 = (0 : Int32) from q664)).2) ?_
        show Steps p.tables e below (T661.setTop (mkF m 13 #[.val (.int p1), .val (.ref a1)] [])) _
        refine XS.iconst X661.here hx rfl (hb hby d_prog_10_method_34_code_13) ?_
        show Steps p.tables e below (T661.setTop (mkF m 14 #[.val (.int p1), .val (.ref a1)] [(.int (1 : Int32))])) _
        refine XS.goto X661.here hx rfl (pc0 := 14) (pc' := 18) rfl (hb hby d_prog_10_method_34_code_14) (by decide) (by decide) ?_
        show Steps p.tables e below (T661.setTop (mkF m 18 #[.val (.int p1), .val (.ref a1)] [(.int (1 : Int32))])) _
        exact retN X661 hx (t := .boolean) Bd.returns (by simp) (hb hby d_prog_10_method_34_code_18) hr665
      · show Q_may p1 cs h0 n0 _ T661.heap _
        rw [e661]
        exact ⟨by rw [if_neg (fun z => hne z.2)], N662, K653⟩
    · skip
      have hyes : cs = own_sys := by
        rcases hce661 with ⟨_, h⟩ | ⟨h, _⟩
        · exact h
        · exact absurd h q664
      obtain ⟨fs666, hr666, hrun666, hended666, hRW666⟩ := X661.leaveW (v := some (.int (0 : Int32))) hS650 (by rw [e661]; exact hk650) (fun h => by rw [Bd.returns] at h; cases h)
      have hce666 : CHr Z own_EL s.vm s.heap T661.vm T661.heap := by
        rw [hh, e661]
        exact R655.trans (CHv.at X661 hZ650 (own_EW hw) cr650.1)
      refine ⟨_, _, pre0 _ (P663 _ ?_), hrun666, hended666, _, _, rfl, ?_, hce666, ⟨hRW666.1, hRW666.2.1, hRW666.2.2.1, hRW666.2.2.2.mono (Nat.le_of_ble_eq_true rfl) (Nat.le_of_ble_eq_true rfl)⟩⟩
      · show Steps p.tables e below (T661.setTop (mkF m 10 #[.val (.int p1), .val (.ref a1)] [(.int be661)])) _
        refine XS.ifYes X661.here hx rfl (pc0 := 10) (pc' := 17) rfl (hb hby d_prog_10_method_34_code_10) rfl ((if0 _ _).trans (feq (show ¬ (be661 = (0 : Int32)) from q664)).2) (by decide) (by decide) ?_
        show Steps p.tables e below (T661.setTop (mkF m 17 #[.val (.int p1), .val (.ref a1)] [])) _
        refine XS.iconst X661.here hx rfl (hb hby d_prog_10_method_34_code_17) ?_
        show Steps p.tables e below (T661.setTop (mkF m 18 #[.val (.int p1), .val (.ref a1)] [(.int (0 : Int32))])) _
        exact retN X661 hx (t := .boolean) Bd.returns (by simp) (hb hby d_prog_10_method_34_code_18) hr666
      · show Q_may p1 cs h0 n0 _ T661.heap _
        rw [e661]
        exact ⟨by rw [if_pos ⟨q649, hyes⟩], N662, K653⟩
  · skip
    obtain ⟨fs667, hr667, hrun667, hended667, hRW667⟩ := X0.leaveW (v := some (.int (1 : Int32))) hS0 (by rw [e0]; exact (Nat.le_refl _)) (fun h => by rw [Bd.returns] at h; cases h)
    have hce667 : CHr Z own_EL s.vm s.heap s₁.vm s₁.heap := by
      rw [hh, e0]
      exact hCR0.trans (CHv.at X0 hZ (own_EW hw) hCH0)
    refine ⟨_, _, pre0 _ (P0 _ ?_), hrun667, hended667, _, _, rfl, ?_, hce667, ⟨hRW667.1, hRW667.2.1, hRW667.2.2.1, hRW667.2.2.2.mono (Nat.le_of_ble_eq_true rfl) (Nat.le_of_ble_eq_true rfl)⟩⟩
    · refine XS.iloadN X0.here hx rfl (hb hby d_prog_10_method_34_code_0) rfl ?_
      show Steps p.tables e below (s₁.setTop (mkF m 1 #[.val (.int p1), .val (.ref a1)] [(.int p1)])) _
      refine XS.ifYes X0.here hx rfl (pc0 := 1) (pc' := 13) rfl (hb hby d_prog_10_method_34_code_1) rfl ((if0 _ _).trans (feq (show ¬ (p1 = (0 : Int32)) from q649)).2) (by decide) (by decide) ?_
      show Steps p.tables e below (s₁.setTop (mkF m 13 #[.val (.int p1), .val (.ref a1)] [])) _
      refine XS.iconst X0.here hx rfl (hb hby d_prog_10_method_34_code_13) ?_
      show Steps p.tables e below (s₁.setTop (mkF m 14 #[.val (.int p1), .val (.ref a1)] [(.int (1 : Int32))])) _
      refine XS.goto X0.here hx rfl (pc0 := 14) (pc' := 18) rfl (hb hby d_prog_10_method_34_code_14) (by decide) (by decide) ?_
      show Steps p.tables e below (s₁.setTop (mkF m 18 #[.val (.int p1), .val (.ref a1)] [(.int (1 : Int32))])) _
      exact retN X0 hx (t := .boolean) Bd.returns (by simp) (hb hby d_prog_10_method_34_code_18) hr667
    · show Q_may p1 cs h0 n0 _ s₁.heap _
      rw [e0]
      exact ⟨by rw [if_neg (fun z => q649 z.1)], N0, (Keep.refl h0 [])⟩

theorem own_rawb (q : Int64) (a b : Int32) : ¬ nar .char (nar .char ((own_raw q a b).toUInt32.toUInt16.toUInt32.toInt32)) < 0 ∧ ¬ (255 : Int32) < nar .char (nar .char ((own_raw q a b).toUInt32.toUInt16.toUInt32.toInt32)) := by
  have h : ¬ nar .char ((own_raw q a b).toUInt32.toUInt16.toUInt32.toInt32) < 0 ∧ ¬ (255 : Int32) < nar .char ((own_raw q a b).toUInt32.toUInt16.toUInt32.toInt32) := and255_chars _
  rw [own_nar h]; exact h
theorem own_rawe (q : Int64) (a b : Int32) : nar .char (nar .char (nar .char ((own_raw q a b).toUInt32.toUInt16.toUInt32.toInt32))) = own_raw q a b := by
  simp only [nar, own_raw, i2c_mask]
theorem own_xor0 (y b : Int32) (hb : b &&& 255 = b) : (y ^^^ b) &&& (255 : Int32) = b ↔ y &&& 255 = 0 := by
  have e : (y ^^^ b) &&& (255 : Int32) = (y &&& 255) ^^^ (b &&& 255) := by
    apply Int32.toBitVec_inj.mp
    ext j hj
    simp
    cases y.toBitVec[j] <;> cases b.toBitVec[j] <;> cases (255#32)[j] <;> rfl
  rw [e, hb]
  constructor
  · intro h
    have h2 := congrArg (fun z => z ^^^ b) h
    simpa [Int32.xor_assoc] using h2
  · intro h; rw [h]; simp
theorem own_byte (q : Int64) (i : Int32) (k : Nat) (hk : ((8 : Int32) * i).toBitVec.toNat % 64 = k) (h0 : 0 < k) : ((q.toUInt64 >>> (((8 : Int32) * i) &&& 0x3f).toInt64.toUInt64).toInt64).toInt32 &&& (255 : Int32) = 0 ↔ ((q.toInt % 18446744073709551616) / (2 ^ k : Nat)) % 256 = 0 := by
  have h1 := c_lushr q ((8 : Int32) * i) k hk h0
  have h2 := c_l2i ((q.toUInt64 >>> (((8 : Int32) * i) &&& 0x3f).toInt64.toUInt64).toInt64)
  have h3 := c_mask ((q.toUInt64 >>> (((8 : Int32) * i) &&& 0x3f).toInt64.toUInt64).toInt64).toInt32 255 8 (by decide) (by decide)
  rw [← Int32.toInt_inj, h3]
  rw [h1] at h2
  have e : (0 : Int32).toInt = 0 := rfl
  rw [e]
  omega
theorem own_byte0 (q : Int64) : ((q.toUInt64 >>> (((8 : Int32) * 0) &&& 0x3f).toInt64.toUInt64).toInt64).toInt32 &&& (255 : Int32) = 0 ↔ (q.toInt % 18446744073709551616) % 256 = 0 := by
  have e0 : (q.toUInt64 >>> (((8 : Int32) * 0) &&& 0x3f).toInt64.toUInt64).toInt64 = q := by
    have : (((8 : Int32) * 0) &&& 0x3f).toInt64.toUInt64 = 0 := by decide
    rw [this]; simp
  rw [e0]
  have h2 := c_l2i q
  have h3 := c_mask q.toInt32 255 8 (by decide) (by decide)
  rw [← Int32.toInt_inj, h3]
  have e : (0 : Int32).toInt = 0 := rfl
  rw [e]
  omega
theorem own_key (q : Int64) : ([own_raw q 0 115, own_raw q 1 121, own_raw q 2 115, own_raw q 3 116, own_raw q 4 101, own_raw q 5 109] : List Int32) = own_sys ↔ q &&& (281474976710655 : Int64) = 0 := by
  have h48 := c_maskL q (281474976710655 : Int64) 48 (by decide) (by decide)
  have e0 : (0 : Int64).toInt = 0 := rfl
  rw [← Int64.toInt_inj, h48, e0]
  simp only [own_sys, List.cons.injEq, and_true, own_raw]
  rw [own_xor0 _ 115 (by decide), own_xor0 _ 121 (by decide), own_xor0 _ 115 (by decide), own_xor0 _ 116 (by decide), own_xor0 _ 101 (by decide), own_xor0 _ 109 (by decide)]
  rw [own_byte0, own_byte q 1 8 (by decide) (by decide), own_byte q 2 16 (by decide) (by decide), own_byte q 3 24 (by decide) (by decide), own_byte q 4 32 (by decide) (by decide), own_byte q 5 40 (by decide) (by decide)]
  omega
theorem own_cskey (n : Int32) (q : Int64) {d0 d1 d2 d3 d4 d5 d6 : Int32} (h0 : nar .char d0 = own_raw q 0 115) (h1 : nar .char d1 = own_raw q 1 121) (h2 : nar .char d2 = own_raw q 2 115) (h3 : nar .char d3 = own_raw q 3 116) (h4 : nar .char d4 = own_raw q 4 101) (h5 : nar .char d5 = own_raw q 5 109) : own_cs n d0 d1 d2 d3 d4 d5 d6 = own_sys ↔ (n = 6 ∧ q &&& (281474976710655 : Int64) = 0) := by
  by_cases h6 : n = (6 : Int32)
  · have e : own_cs n d0 d1 d2 d3 d4 d5 d6 = [own_raw q 0 115, own_raw q 1 121, own_raw q 2 115, own_raw q 3 116, own_raw q 4 101, own_raw q 5 109] := by
      subst h6
      rw [← h0, ← h1, ← h2, ← h3, ← h4, ← h5]; rfl
    rw [e, own_key]
    simp [h6]
  · constructor
    · intro h
      have hl := congrArg List.length h
      unfold own_cs own_sys at hl
      exfalso
      revert hl
      split
      · simp
      split
      · simp
      split
      · simp
      split
      · simp
      split
      · simp
      split
      · simp
      · simp
    · intro h; exact absurd h.1 h6
theorem own_final (p0 : Int32) (p1 : Int64) (b3 b7 b8 : Int32) (cs : List Int32) (h3 : b3 = (if (p0 &&& (1 : Int32)) = (0 : Int32) then (0 : Int32) else (1 : Int32)))
    (h7 : b7 = (if (((p0.toUInt32 >>> ((1 : Int32) &&& 31).toUInt32).toInt32) &&& (7 : Int32)) = (6 : Int32) then (if (p1 &&& (281474976710655 : Int64)) = (0 : Int64) then (1 : Int32) else (0 : Int32)) else (0 : Int32)))
    (h8 : b8 = (if b3 = (0 : Int32) then (if b7 = (0 : Int32) then (1 : Int32) else (0 : Int32)) else (1 : Int32)))
    (hcs : cs = own_sys ↔ ((((p0.toUInt32 >>> ((1 : Int32) &&& 31).toUInt32).toInt32) &&& (7 : Int32)) = (6 : Int32) ∧ p1 &&& (281474976710655 : Int64) = 0)) : (if b3 = (0 : Int32) ∧ cs = own_sys then (0 : Int32) else (1 : Int32)) = b8 := by
  rw [h8]
  by_cases hb : b3 = (0 : Int32)
  · simp only [hb, true_and, if_true]
    rw [h7]
    have hx : (cs = own_sys) = ((((p0.toUInt32 >>> ((1 : Int32) &&& 31).toUInt32).toInt32) &&& (7 : Int32)) = (6 : Int32) ∧ p1 &&& (281474976710655 : Int64) = 0) := propext hcs
    simp only [hx]
    by_cases q1 : (((p0.toUInt32 >>> ((1 : Int32) &&& 31).toUInt32).toInt32) &&& (7 : Int32)) = (6 : Int32) <;> by_cases q2 : p1 &&& (281474976710655 : Int64) = 0 <;> simp [q1, q2]
  · simp [hb]

theorem pd__28JII_29C : parseMethodDescriptor "(JII)C" = some ⟨[.long, .int, .int], some .char⟩ := by decide +kernel
theorem pd__28I_5bC_29Ljava_2flang_2fString_3b : parseMethodDescriptor "(I[C)Ljava/lang/String;" = some ⟨[.int, (.array .char)], some (.object "java/lang/String")⟩ := by decide +kernel
theorem pd__28ZLjava_2flang_2fString_3b_29Z : parseMethodDescriptor "(ZLjava/lang/String;)Z" = some ⟨[.boolean, (.object "java/lang/String")], some .boolean⟩ := by decide +kernel
theorem ef_law (m : MethodId) (x0 : Int32) (x1 : Int64) : entryFrame m #[(.int x0), (.long x1)] maxLocals = mkF m 0 #[.val (.int x0), .val (.long x1), .second, .unset, .unset, .unset, .unset, .unset, .unset] [] := by (first | (simp [entryFrame, mkF, argsToLocals, Value.category, maxLocals]; done) | rfl)
def Q_law  (h0 : Heap) (n0 : Nat) (v : Option Value) (h : Heap) (L : List Loc) : Prop := v = some (.int 1) ∧ Fr n0 L
set_option maxRecDepth 65536 in
set_option maxHeartbeats 40000000 in
theorem rm_law (l : Launch) (Z : State) (a0 : Array Value) (hw : ∀ d ∈ tables_1, d.before a0 Z = true) (ws : List Jvm.Cond) (p0 : Int32) (p1 : Int64) (G1 : Int32) (h0 : Heap) (n0 : Nat) (Z0 : n0 ≤ h0.size) (Sg : Sta Z Z.heap "java/lang/String" "COMPACT_STRINGS" "Z" (.int G1)) (P5 : ¬ (G1 = (0 : Int32))) (Ol : Old Z n0 h0) :
    MetFree l x (head1 (Jvm.Cond.code x code maxLocals ret :: ws) room_1) (fun a U => a = #[(.int p0), (.long p1)] ∧ Z.Warmed39 U.vm ∧ U.heap = h0 ∧ CHv Z own_EL U.vm h0) (fun _ _ _ _ _ => True) (fun _ U o U' => ∃ v L, o = .returned v ∧ Q_law  h0 n0 v U'.heap L ∧ CHr Z own_EL U.vm U.heap U'.vm U'.heap ∧ ReturnedEndW U o U' L 24 2176) := by
  refine MetFree.of_bodySF (plainFor_of_name pn_com_example_vervet_vervet_engine_RulesMayJoinPinLaw) hisR ?_
  intro p e s m args below meth c s₁ Bd hml0 hP hK
  obtain ⟨rfl, hZ, hh, hCH0⟩ := hP
  have hx := Bd.exec
  have hby := Bd.bytes
  have hml : c.maxLocals = 9 := hml0
  have hown : s.vm.findClass "com/example/vervet/vervet/engine/RulesMayJoinPinLaw" = some m.cls := findClass_of_methodNamed Bd.named
  have hnm := (name_of_methodNamed Bd.named Bd.method).1
  have X0 : Stand p l e room_1 (s.setVm s.vm) m #[(.int p0), (.long p1)] below meth c s₁ [] 0 0 := Stand.of_body Bd
  have e0 : s₁.heap = h0 := by rw [← hh, Bd.state]; rfl
  have N0 := Fr.nil n0
  have pre0 : ∀ t, Steps p.tables e below (s₁.setTop (mkF m 0 #[.val (.int p0), .val (.long p1), .second, .unset, .unset, .unset, .unset, .unset, .unset] [])) t → Steps p.tables e below (s₁.setTop (entryFrame m #[(.int p0), (.long p1)] maxLocals)) t := fun t k => castTop (ef_law m p0 p1) k
  have P0 : ∀ t, Steps p.tables e below (s₁.setTop (mkF m 0 #[.val (.int p0), .val (.long p1), .second, .unset, .unset, .unset, .unset, .unset, .unset] [])) t → Steps p.tables e below (s₁.setTop (mkF m 0 #[.val (.int p0), .val (.long p1), .second, .unset, .unset, .unset, .unset, .unset, .unset] [])) t := fun t k => k
  have hS0 : s.Since s.vm h0.size := (State.WarmedH.refl s).since _
  have hCR0 : CHr Z own_EL s.vm h0 s.vm h0 := CHr.refl hCH0
  have P668 : ∀ t, Steps p.tables e below (s₁.setTop (mkF m 3 #[.val (.int p0), .val (.long p1), .second, .unset, .unset, .unset, .unset, .unset, .unset] [(.int (p0 &&& (1 : Int32)))])) t → Steps p.tables e below (s₁.setTop (mkF m 0 #[.val (.int p0), .val (.long p1), .second, .unset, .unset, .unset, .unset, .unset, .unset] [])) t := fun t k => P0 t (by
    refine XS.iloadN X0.here hx rfl (hb hby at_0) rfl ?_
    show Steps p.tables e below (s₁.setTop (mkF m 1 #[.val (.int p0), .val (.long p1), .second, .unset, .unset, .unset, .unset, .unset, .unset] [(.int p0)])) _
    refine XS.iconst X0.here hx rfl (hb hby at_1) ?_
    show Steps p.tables e below (s₁.setTop (mkF m 2 #[.val (.int p0), .val (.long p1), .second, .unset, .unset, .unset, .unset, .unset, .unset] [(.int (1 : Int32)), (.int p0)])) _
    refine XS.iand X0.here hx rfl (hb hby at_2) rfl ?_
    show Steps p.tables e below (s₁.setTop (mkF m 3 #[.val (.int p0), .val (.long p1), .second, .unset, .unset, .unset, .unset, .unset, .unset] [(.int (p0 &&& (1 : Int32)))])) _
    exact k)
  obtain ⟨b670, hb670⟩ : ∃ z : Int32, z = (if (p0 &&& (1 : Int32)) = (0 : Int32) then (0 : Int32) else (1 : Int32)) := ⟨_, rfl⟩
  have P671 : ∀ t, Steps p.tables e below (s₁.setTop (mkF m 11 #[.val (.int p0), .val (.long p1), .second, .unset, .unset, .unset, .unset, .unset, .unset] [(.int b670)])) t → Steps p.tables e below (s₁.setTop (mkF m 0 #[.val (.int p0), .val (.long p1), .second, .unset, .unset, .unset, .unset, .unset, .unset] [])) t := fun t k => P668 t (by
    show Steps p.tables e below (s₁.setTop (mkF m 3 #[.val (.int p0), .val (.long p1), .second, .unset, .unset, .unset, .unset, .unset, .unset] [(.int (p0 &&& (1 : Int32)))])) _
    by_cases q669 : (p0 &&& (1 : Int32)) = (0 : Int32)
    · skip
      refine XS.ifYes X0.here hx rfl (pc0 := 3) (pc' := 10) rfl (hb hby at_3) rfl ((if0 _ _).trans (teq (show (p0 &&& (1 : Int32)) = (0 : Int32) from q669)).1) (by decide) (by decide) ?_
      show Steps p.tables e below (s₁.setTop (mkF m 10 #[.val (.int p0), .val (.long p1), .second, .unset, .unset, .unset, .unset, .unset, .unset] [])) _
      refine XS.iconst X0.here hx rfl (hb hby at_10) ?_
      show Steps p.tables e below (s₁.setTop (mkF m 11 #[.val (.int p0), .val (.long p1), .second, .unset, .unset, .unset, .unset, .unset, .unset] [(.int (0 : Int32))])) _
      have eb670 : b670 = (0 : Int32) := by rw [hb670, if_pos q669]
      rw [eb670] at k
      exact k
    · skip
      refine XS.ifNo X0.here hx rfl (hb hby at_3) rfl ((if0 _ _).trans (feq (show ¬ ((p0 &&& (1 : Int32)) = (0 : Int32)) from q669)).1) ?_
      show Steps p.tables e below (s₁.setTop (mkF m 6 #[.val (.int p0), .val (.long p1), .second, .unset, .unset, .unset, .unset, .unset, .unset] [])) _
      refine XS.iconst X0.here hx rfl (hb hby at_6) ?_
      show Steps p.tables e below (s₁.setTop (mkF m 7 #[.val (.int p0), .val (.long p1), .second, .unset, .unset, .unset, .unset, .unset, .unset] [(.int (1 : Int32))])) _
      refine XS.goto X0.here hx rfl (pc0 := 7) (pc' := 11) rfl (hb hby at_7) (by decide) (by decide) ?_
      show Steps p.tables e below (s₁.setTop (mkF m 11 #[.val (.int p0), .val (.long p1), .second, .unset, .unset, .unset, .unset, .unset, .unset] [(.int (1 : Int32))])) _
      have eb670 : b670 = (1 : Int32) := by rw [hb670, if_neg q669]
      rw [eb670] at k
      exact k)
  obtain ⟨T672, h672, k672, X672, e672, E672, A672, st672⟩ := newP X0 hx hZ (hw _ (List.mem_of_getElem? (i := 0) rfl)) e0 (g := (mkF m 22 #[.val (.int p0), .val (.long p1), .second, .val (.int b670), .val (.int (((p0.toUInt32 >>> ((1 : Int32) &&& 31).toUInt32).toInt32) &&& (7 : Int32))), .unset, .unset, .unset, .unset] [(.int (7 : Int32))])) rfl (hb hby at_22) rfl (by decide) (cap := 7) (by decide) (by decide) (by decide) (by decide)
  obtain ⟨b672, g672⟩ : ∃ z, z = h0.size := ⟨_, rfl⟩
  rw [← g672] at A672 st672
  have g_b672 : n0 ≤ b672 := Nat.le_trans Z0 (Nat.le_of_eq g672.symm)
  have sz_b672 : h0.size ≤ b672 := Nat.le_trans (Keep.refl h0 []).1 (Nat.le_of_eq g672.symm)
  have P673 : ∀ t, Steps p.tables e below (T672.setTop (mkF m 24 #[.val (.int p0), .val (.long p1), .second, .val (.int b670), .val (.int (((p0.toUInt32 >>> ((1 : Int32) &&& 31).toUInt32).toInt32) &&& (7 : Int32))), .unset, .unset, .unset, .unset] [(.ref b672)])) t → Steps p.tables e below (s₁.setTop (mkF m 0 #[.val (.int p0), .val (.long p1), .second, .unset, .unset, .unset, .unset, .unset, .unset] [])) t := fun t k => P671 t (by
    show Steps p.tables e below (s₁.setTop (mkF m 11 #[.val (.int p0), .val (.long p1), .second, .unset, .unset, .unset, .unset, .unset, .unset] [(.int b670)])) _
    refine XS.istoreN X0.here hx rfl (hb hby at_11) rfl (l' := #[.val (.int p0), .val (.long p1), .second, .val (.int b670), .unset, .unset, .unset, .unset, .unset]) rfl ?_
    show Steps p.tables e below (s₁.setTop (mkF m 12 #[.val (.int p0), .val (.long p1), .second, .val (.int b670), .unset, .unset, .unset, .unset, .unset] [])) _
    refine XS.iloadN X0.here hx rfl (hb hby at_12) rfl ?_
    show Steps p.tables e below (s₁.setTop (mkF m 13 #[.val (.int p0), .val (.long p1), .second, .val (.int b670), .unset, .unset, .unset, .unset, .unset] [(.int p0)])) _
    refine XS.iconst X0.here hx rfl (hb hby at_13) ?_
    show Steps p.tables e below (s₁.setTop (mkF m 14 #[.val (.int p0), .val (.long p1), .second, .val (.int b670), .unset, .unset, .unset, .unset, .unset] [(.int (1 : Int32)), (.int p0)])) _
    refine XS.iushr X0.here hx rfl (hb hby at_14) rfl ?_
    show Steps p.tables e below (s₁.setTop (mkF m 15 #[.val (.int p0), .val (.long p1), .second, .val (.int b670), .unset, .unset, .unset, .unset, .unset] [(.int ((p0.toUInt32 >>> ((1 : Int32) &&& 31).toUInt32).toInt32))])) _
    refine XS.bipush X0.here hx rfl (hb hby at_15) ?_
    show Steps p.tables e below (s₁.setTop (mkF m 17 #[.val (.int p0), .val (.long p1), .second, .val (.int b670), .unset, .unset, .unset, .unset, .unset] [(.int (7 : Int32)), (.int ((p0.toUInt32 >>> ((1 : Int32) &&& 31).toUInt32).toInt32))])) _
    refine XS.iand X0.here hx rfl (hb hby at_17) rfl ?_
    show Steps p.tables e below (s₁.setTop (mkF m 18 #[.val (.int p0), .val (.long p1), .second, .val (.int b670), .unset, .unset, .unset, .unset, .unset] [(.int (((p0.toUInt32 >>> ((1 : Int32) &&& 31).toUInt32).toInt32) &&& (7 : Int32)))])) _
    refine XS.istore X0.here hx rfl (hb hby at_18) rfl (l' := #[.val (.int p0), .val (.long p1), .second, .val (.int b670), .val (.int (((p0.toUInt32 >>> ((1 : Int32) &&& 31).toUInt32).toInt32) &&& (7 : Int32))), .unset, .unset, .unset, .unset]) rfl ?_
    show Steps p.tables e below (s₁.setTop (mkF m 20 #[.val (.int p0), .val (.long p1), .second, .val (.int b670), .val (.int (((p0.toUInt32 >>> ((1 : Int32) &&& 31).toUInt32).toInt32) &&& (7 : Int32))), .unset, .unset, .unset, .unset] [])) _
    refine XS.bipush X0.here hx rfl (hb hby at_20) ?_
    show Steps p.tables e below (s₁.setTop (mkF m 22 #[.val (.int p0), .val (.long p1), .second, .val (.int b670), .val (.int (((p0.toUInt32 >>> ((1 : Int32) &&& 31).toUInt32).toInt32) &&& (7 : Int32))), .unset, .unset, .unset, .unset] [(.int (7 : Int32))])) _
    exact st672 _ k)
  have Z674 : n0 ≤ h672.size := Nat.le_trans Z0 E672.1
  have K675 : Keep h0 h672 [] := (Keep.refl h0 []).ext E672
  have O676 : Old Z n0 h672 := Ol.ext E672
  have hk677 : h0.size ≤ h672.size := Nat.le_trans (Nat.le_refl _) E672.1
  have C678 : CHr Z own_EL s.vm h0 s.vm h672 := CHr.ext E672 hCH0
  have R679 : CHr Z own_EL s.vm h0 s.vm h672 := hCR0.trans C678
  have v680 : Arv Z h672 b672 k672 .char (7 : Int32) [(.int (0 : Int32)), (.int (0 : Int32)), (.int (0 : Int32)), (.int (0 : Int32)), (.int (0 : Int32)), (.int (0 : Int32)), (.int (0 : Int32))] (.int (0 : Int32)) := (Arv.new A672 (by decide)).pad (pad_rep [] (.int (0 : Int32)) 7)
  obtain ⟨_, _, ⟨T681, L681, k681, n681⟩, -, X681, ⟨Lc681, hQ681, l681, y681, z681⟩, st681⟩ := Jvm.LawKit.callS X672 hx (y := (⟨"com/example/vervet/vervet/engine/RulesMayJoinPinLaw", "at", "(JII)C"⟩ : MethodName)) hown (mvT hZ (hw _ (List.mem_of_getElem? (i := 1) rfl))) (mvT hZ (hw _ (List.mem_of_getElem? (i := 2) rfl))) (mvT hZ (hw _ (List.mem_of_getElem? (i := 3) rfl))) (mvT hZ (hw _ (List.mem_of_getElem? (i := 4) rfl))) (by decide) (backOf (W := 2) (rm_at l Z a0 hw [] p1 (0 : Int32) (115 : Int32) h672 n0 Z674 ) hZ (hw _ (List.mem_of_getElem? (i := 4) rfl)) (hw _ (List.mem_of_getElem? (i := 3) rfl)) (by decide) (by decide)) (g := (mkF m 33 #[.val (.int p0), .val (.long p1), .second, .val (.int b670), .val (.int (((p0.toUInt32 >>> ((1 : Int32) &&& 31).toUInt32).toInt32) &&& (7 : Int32))), .val (.ref b672), .unset, .unset, .unset] [(.int (115 : Int32)), (.int (0 : Int32)), (.long p1), (.int (0 : Int32)), (.ref b672)])) rfl (by rw [hml]; rfl) (argsL := [(.long p1), (.int (0 : Int32)), (.int (115 : Int32))]) (rest := [(.int (0 : Int32)), (.ref b672)]) (lenOf pd__28JII_29C rfl) rfl (by show 2 * 0 + _ ≤ _; exact Nat.le_of_eq rfl) (hb hby at_33) (fun _ _ => ⟨rfl, e672, (Nat.le_of_ble_eq_true rfl : 1 + 0 ≤ _), (Nat.le_of_ble_eq_true rfl : 7 + 0 ≤ _)⟩)
  dsimp only [Pt.U, Pt.locs, Pt.cells, Pt.slots] at X681 l681 y681 z681 st681 hQ681
  subst l681 y681 z681
  obtain ⟨rfl, Nq681, e681⟩ := hQ681
  have N682 := Fr.app N0 Nq681
  have P683 : ∀ t, Steps p.tables e below (T681.setTop (mkF m 36 #[.val (.int p0), .val (.long p1), .second, .val (.int b670), .val (.int (((p0.toUInt32 >>> ((1 : Int32) &&& 31).toUInt32).toInt32) &&& (7 : Int32))), .val (.ref b672), .unset, .unset, .unset] [(.int (nar .char ((own_raw p1 (0 : Int32) (115 : Int32)).toUInt32.toUInt16.toUInt32.toInt32))), (.int (0 : Int32)), (.ref b672)])) t → Steps p.tables e below (s₁.setTop (mkF m 0 #[.val (.int p0), .val (.long p1), .second, .unset, .unset, .unset, .unset, .unset, .unset] [])) t := fun t k => P673 t (by
    show Steps p.tables e below (T672.setTop (mkF m 24 #[.val (.int p0), .val (.long p1), .second, .val (.int b670), .val (.int (((p0.toUInt32 >>> ((1 : Int32) &&& 31).toUInt32).toInt32) &&& (7 : Int32))), .unset, .unset, .unset, .unset] [(.ref b672)])) _
    refine XS.astore X672.here hx rfl (hb hby at_24) rfl rfl (l' := #[.val (.int p0), .val (.long p1), .second, .val (.int b670), .val (.int (((p0.toUInt32 >>> ((1 : Int32) &&& 31).toUInt32).toInt32) &&& (7 : Int32))), .val (.ref b672), .unset, .unset, .unset]) rfl ?_
    show Steps p.tables e below (T672.setTop (mkF m 26 #[.val (.int p0), .val (.long p1), .second, .val (.int b670), .val (.int (((p0.toUInt32 >>> ((1 : Int32) &&& 31).toUInt32).toInt32) &&& (7 : Int32))), .val (.ref b672), .unset, .unset, .unset] [])) _
    refine XS.aload X672.here hx rfl (hb hby at_26) rfl rfl ?_
    show Steps p.tables e below (T672.setTop (mkF m 28 #[.val (.int p0), .val (.long p1), .second, .val (.int b670), .val (.int (((p0.toUInt32 >>> ((1 : Int32) &&& 31).toUInt32).toInt32) &&& (7 : Int32))), .val (.ref b672), .unset, .unset, .unset] [(.ref b672)])) _
    refine XS.iconst X672.here hx rfl (hb hby at_28) ?_
    show Steps p.tables e below (T672.setTop (mkF m 29 #[.val (.int p0), .val (.long p1), .second, .val (.int b670), .val (.int (((p0.toUInt32 >>> ((1 : Int32) &&& 31).toUInt32).toInt32) &&& (7 : Int32))), .val (.ref b672), .unset, .unset, .unset] [(.int (0 : Int32)), (.ref b672)])) _
    refine XS.lloadN X672.here hx rfl (hb hby at_29) rfl ?_
    show Steps p.tables e below (T672.setTop (mkF m 30 #[.val (.int p0), .val (.long p1), .second, .val (.int b670), .val (.int (((p0.toUInt32 >>> ((1 : Int32) &&& 31).toUInt32).toInt32) &&& (7 : Int32))), .val (.ref b672), .unset, .unset, .unset] [(.long p1), (.int (0 : Int32)), (.ref b672)])) _
    refine XS.iconst X672.here hx rfl (hb hby at_30) ?_
    show Steps p.tables e below (T672.setTop (mkF m 31 #[.val (.int p0), .val (.long p1), .second, .val (.int b670), .val (.int (((p0.toUInt32 >>> ((1 : Int32) &&& 31).toUInt32).toInt32) &&& (7 : Int32))), .val (.ref b672), .unset, .unset, .unset] [(.int (0 : Int32)), (.long p1), (.int (0 : Int32)), (.ref b672)])) _
    refine XS.bipush X672.here hx rfl (hb hby at_31) ?_
    show Steps p.tables e below (T672.setTop (mkF m 33 #[.val (.int p0), .val (.long p1), .second, .val (.int b670), .val (.int (((p0.toUInt32 >>> ((1 : Int32) &&& 31).toUInt32).toInt32) &&& (7 : Int32))), .val (.ref b672), .unset, .unset, .unset] [(.int (115 : Int32)), (.int (0 : Int32)), (.long p1), (.int (0 : Int32)), (.ref b672)])) _
    exact st681 _ k)
  obtain ⟨cl684, Ar684, q684, S684, N684, H684, G684⟩ := id v680
  obtain ⟨T684, h684, X684, e684, W684, st684⟩ := stC X681 hx hZ e681 Ar684 (j := (0 : Int32)) (inb_of S684 ⟨by decide, by decide⟩) (g := (mkF m 36 #[.val (.int p0), .val (.long p1), .second, .val (.int b670), .val (.int (((p0.toUInt32 >>> ((1 : Int32) &&& 31).toUInt32).toInt32) &&& (7 : Int32))), .val (.ref b672), .unset, .unset, .unset] [(.int (nar .char ((own_raw p1 (0 : Int32) (115 : Int32)).toUInt32.toUInt16.toUInt32.toInt32))), (.int (0 : Int32)), (.ref b672)])) rfl rfl (hb hby at_36)
  have v685 : Arv Z h684 b672 k672 .char (7 : Int32) [(.int (nar .char (nar .char ((own_raw p1 (0 : Int32) (115 : Int32)).toUInt32.toUInt16.toUInt32.toInt32)))), (.int (0 : Int32)), (.int (0 : Int32)), (.int (0 : Int32)), (.int (0 : Int32)), (.int (0 : Int32)), (.int (0 : Int32))] (.int (0 : Int32)) := Arv.set Ar684 q684 S684 N684 H684 G684 (fits_nar_char _) W684 0 rfl (Nat.le_of_ble_eq_true rfl)
  have P686 : ∀ t, Steps p.tables e below (T684.setTop (mkF m 37 #[.val (.int p0), .val (.long p1), .second, .val (.int b670), .val (.int (((p0.toUInt32 >>> ((1 : Int32) &&& 31).toUInt32).toInt32) &&& (7 : Int32))), .val (.ref b672), .unset, .unset, .unset] [])) t → Steps p.tables e below (s₁.setTop (mkF m 0 #[.val (.int p0), .val (.long p1), .second, .unset, .unset, .unset, .unset, .unset, .unset] [])) t := fun t k => P683 t (by
    show Steps p.tables e below (T681.setTop (mkF m 36 #[.val (.int p0), .val (.long p1), .second, .val (.int b670), .val (.int (((p0.toUInt32 >>> ((1 : Int32) &&& 31).toUInt32).toInt32) &&& (7 : Int32))), .val (.ref b672), .unset, .unset, .unset] [(.int (nar .char ((own_raw p1 (0 : Int32) (115 : Int32)).toUInt32.toUInt16.toUInt32.toInt32))), (.int (0 : Int32)), (.ref b672)])) _
    exact st684 _ k)
  have N687 := Fr.snoc X684 N682 g_b672
  have Z688 : n0 ≤ h684.size := Nat.le_trans Z674 (Keep.of_wr W684).1
  have K689 : Keep h0 h684 [] := K675.wr W684 (Or.inr sz_b672)
  have O690 : Old Z n0 h684 := O676.wr W684 g_b672
  have hk691 : h0.size ≤ h684.size := Nat.le_trans hk677 (Keep.of_wr W684).1
  have C692 : CHr Z own_EL s.vm h672 s.vm h684 := CHr.wr W684 (Safe.arv hZ.alike v680 (by decide)) C678.1
  have R693 : CHr Z own_EL s.vm h0 s.vm h684 := R679.trans C692
  obtain ⟨_, _, ⟨T694, L694, k694, n694⟩, -, X694, ⟨Lc694, hQ694, l694, y694, z694⟩, st694⟩ := Jvm.LawKit.callS X684 hx (y := (⟨"com/example/vervet/vervet/engine/RulesMayJoinPinLaw", "at", "(JII)C"⟩ : MethodName)) hown (mvT hZ (hw _ (List.mem_of_getElem? (i := 1) rfl))) (mvT hZ (hw _ (List.mem_of_getElem? (i := 2) rfl))) (mvT hZ (hw _ (List.mem_of_getElem? (i := 3) rfl))) (mvT hZ (hw _ (List.mem_of_getElem? (i := 4) rfl))) (by decide) (backOf (W := 2) (rm_at l Z a0 hw [] p1 (1 : Int32) (121 : Int32) h684 n0 Z688 ) hZ (hw _ (List.mem_of_getElem? (i := 4) rfl)) (hw _ (List.mem_of_getElem? (i := 3) rfl)) (by decide) (by decide)) (g := (mkF m 44 #[.val (.int p0), .val (.long p1), .second, .val (.int b670), .val (.int (((p0.toUInt32 >>> ((1 : Int32) &&& 31).toUInt32).toInt32) &&& (7 : Int32))), .val (.ref b672), .unset, .unset, .unset] [(.int (121 : Int32)), (.int (1 : Int32)), (.long p1), (.int (1 : Int32)), (.ref b672)])) rfl (by rw [hml]; rfl) (argsL := [(.long p1), (.int (1 : Int32)), (.int (121 : Int32))]) (rest := [(.int (1 : Int32)), (.ref b672)]) (lenOf pd__28JII_29C rfl) rfl (by show 2 * 0 + _ ≤ _; exact Nat.le_of_eq rfl) (hb hby at_44) (fun _ _ => ⟨rfl, e684, (Nat.le_of_ble_eq_true rfl : 1 + 0 ≤ _), (Nat.le_of_ble_eq_true rfl : 7 + 0 ≤ _)⟩)
  dsimp only [Pt.U, Pt.locs, Pt.cells, Pt.slots] at X694 l694 y694 z694 st694 hQ694
  subst l694 y694 z694
  obtain ⟨rfl, Nq694, e694⟩ := hQ694
  have N695 := Fr.app N687 Nq694
  have P696 : ∀ t, Steps p.tables e below (T694.setTop (mkF m 47 #[.val (.int p0), .val (.long p1), .second, .val (.int b670), .val (.int (((p0.toUInt32 >>> ((1 : Int32) &&& 31).toUInt32).toInt32) &&& (7 : Int32))), .val (.ref b672), .unset, .unset, .unset] [(.int (nar .char ((own_raw p1 (1 : Int32) (121 : Int32)).toUInt32.toUInt16.toUInt32.toInt32))), (.int (1 : Int32)), (.ref b672)])) t → Steps p.tables e below (s₁.setTop (mkF m 0 #[.val (.int p0), .val (.long p1), .second, .unset, .unset, .unset, .unset, .unset, .unset] [])) t := fun t k => P686 t (by
    show Steps p.tables e below (T684.setTop (mkF m 37 #[.val (.int p0), .val (.long p1), .second, .val (.int b670), .val (.int (((p0.toUInt32 >>> ((1 : Int32) &&& 31).toUInt32).toInt32) &&& (7 : Int32))), .val (.ref b672), .unset, .unset, .unset] [])) _
    refine XS.aload X684.here hx rfl (hb hby at_37) rfl rfl ?_
    show Steps p.tables e below (T684.setTop (mkF m 39 #[.val (.int p0), .val (.long p1), .second, .val (.int b670), .val (.int (((p0.toUInt32 >>> ((1 : Int32) &&& 31).toUInt32).toInt32) &&& (7 : Int32))), .val (.ref b672), .unset, .unset, .unset] [(.ref b672)])) _
    refine XS.iconst X684.here hx rfl (hb hby at_39) ?_
    show Steps p.tables e below (T684.setTop (mkF m 40 #[.val (.int p0), .val (.long p1), .second, .val (.int b670), .val (.int (((p0.toUInt32 >>> ((1 : Int32) &&& 31).toUInt32).toInt32) &&& (7 : Int32))), .val (.ref b672), .unset, .unset, .unset] [(.int (1 : Int32)), (.ref b672)])) _
    refine XS.lloadN X684.here hx rfl (hb hby at_40) rfl ?_
    show Steps p.tables e below (T684.setTop (mkF m 41 #[.val (.int p0), .val (.long p1), .second, .val (.int b670), .val (.int (((p0.toUInt32 >>> ((1 : Int32) &&& 31).toUInt32).toInt32) &&& (7 : Int32))), .val (.ref b672), .unset, .unset, .unset] [(.long p1), (.int (1 : Int32)), (.ref b672)])) _
    refine XS.iconst X684.here hx rfl (hb hby at_41) ?_
    show Steps p.tables e below (T684.setTop (mkF m 42 #[.val (.int p0), .val (.long p1), .second, .val (.int b670), .val (.int (((p0.toUInt32 >>> ((1 : Int32) &&& 31).toUInt32).toInt32) &&& (7 : Int32))), .val (.ref b672), .unset, .unset, .unset] [(.int (1 : Int32)), (.long p1), (.int (1 : Int32)), (.ref b672)])) _
    refine XS.bipush X684.here hx rfl (hb hby at_42) ?_
    show Steps p.tables e below (T684.setTop (mkF m 44 #[.val (.int p0), .val (.long p1), .second, .val (.int b670), .val (.int (((p0.toUInt32 >>> ((1 : Int32) &&& 31).toUInt32).toInt32) &&& (7 : Int32))), .val (.ref b672), .unset, .unset, .unset] [(.int (121 : Int32)), (.int (1 : Int32)), (.long p1), (.int (1 : Int32)), (.ref b672)])) _
    exact st694 _ k)
  obtain ⟨cl697, Ar697, q697, S697, N697, H697, G697⟩ := id v685
  obtain ⟨T697, h697, X697, e697, W697, st697⟩ := stC X694 hx hZ e694 Ar697 (j := (1 : Int32)) (inb_of S697 ⟨by decide, by decide⟩) (g := (mkF m 47 #[.val (.int p0), .val (.long p1), .second, .val (.int b670), .val (.int (((p0.toUInt32 >>> ((1 : Int32) &&& 31).toUInt32).toInt32) &&& (7 : Int32))), .val (.ref b672), .unset, .unset, .unset] [(.int (nar .char ((own_raw p1 (1 : Int32) (121 : Int32)).toUInt32.toUInt16.toUInt32.toInt32))), (.int (1 : Int32)), (.ref b672)])) rfl rfl (hb hby at_47)
  have v698 : Arv Z h697 b672 k672 .char (7 : Int32) [(.int (nar .char (nar .char ((own_raw p1 (0 : Int32) (115 : Int32)).toUInt32.toUInt16.toUInt32.toInt32)))), (.int (nar .char (nar .char ((own_raw p1 (1 : Int32) (121 : Int32)).toUInt32.toUInt16.toUInt32.toInt32)))), (.int (0 : Int32)), (.int (0 : Int32)), (.int (0 : Int32)), (.int (0 : Int32)), (.int (0 : Int32))] (.int (0 : Int32)) := Arv.set Ar697 q697 S697 N697 H697 G697 (fits_nar_char _) W697 1 rfl (Nat.le_of_ble_eq_true rfl)
  have P699 : ∀ t, Steps p.tables e below (T697.setTop (mkF m 48 #[.val (.int p0), .val (.long p1), .second, .val (.int b670), .val (.int (((p0.toUInt32 >>> ((1 : Int32) &&& 31).toUInt32).toInt32) &&& (7 : Int32))), .val (.ref b672), .unset, .unset, .unset] [])) t → Steps p.tables e below (s₁.setTop (mkF m 0 #[.val (.int p0), .val (.long p1), .second, .unset, .unset, .unset, .unset, .unset, .unset] [])) t := fun t k => P696 t (by
    show Steps p.tables e below (T694.setTop (mkF m 47 #[.val (.int p0), .val (.long p1), .second, .val (.int b670), .val (.int (((p0.toUInt32 >>> ((1 : Int32) &&& 31).toUInt32).toInt32) &&& (7 : Int32))), .val (.ref b672), .unset, .unset, .unset] [(.int (nar .char ((own_raw p1 (1 : Int32) (121 : Int32)).toUInt32.toUInt16.toUInt32.toInt32))), (.int (1 : Int32)), (.ref b672)])) _
    exact st697 _ k)
  have N700 := Fr.snoc X697 N695 g_b672
  have Z701 : n0 ≤ h697.size := Nat.le_trans Z688 (Keep.of_wr W697).1
  have K702 : Keep h0 h697 [] := K689.wr W697 (Or.inr sz_b672)
  have O703 : Old Z n0 h697 := O690.wr W697 g_b672
  have hk704 : h0.size ≤ h697.size := Nat.le_trans hk691 (Keep.of_wr W697).1
  have C705 : CHr Z own_EL s.vm h684 s.vm h697 := CHr.wr W697 (Safe.arv hZ.alike v685 (by decide)) C692.1
  have R706 : CHr Z own_EL s.vm h0 s.vm h697 := R693.trans C705
  obtain ⟨_, _, ⟨T707, L707, k707, n707⟩, -, X707, ⟨Lc707, hQ707, l707, y707, z707⟩, st707⟩ := Jvm.LawKit.callS X697 hx (y := (⟨"com/example/vervet/vervet/engine/RulesMayJoinPinLaw", "at", "(JII)C"⟩ : MethodName)) hown (mvT hZ (hw _ (List.mem_of_getElem? (i := 1) rfl))) (mvT hZ (hw _ (List.mem_of_getElem? (i := 2) rfl))) (mvT hZ (hw _ (List.mem_of_getElem? (i := 3) rfl))) (mvT hZ (hw _ (List.mem_of_getElem? (i := 4) rfl))) (by decide) (backOf (W := 2) (rm_at l Z a0 hw [] p1 (2 : Int32) (115 : Int32) h697 n0 Z701 ) hZ (hw _ (List.mem_of_getElem? (i := 4) rfl)) (hw _ (List.mem_of_getElem? (i := 3) rfl)) (by decide) (by decide)) (g := (mkF m 55 #[.val (.int p0), .val (.long p1), .second, .val (.int b670), .val (.int (((p0.toUInt32 >>> ((1 : Int32) &&& 31).toUInt32).toInt32) &&& (7 : Int32))), .val (.ref b672), .unset, .unset, .unset] [(.int (115 : Int32)), (.int (2 : Int32)), (.long p1), (.int (2 : Int32)), (.ref b672)])) rfl (by rw [hml]; rfl) (argsL := [(.long p1), (.int (2 : Int32)), (.int (115 : Int32))]) (rest := [(.int (2 : Int32)), (.ref b672)]) (lenOf pd__28JII_29C rfl) rfl (by show 2 * 0 + _ ≤ _; exact Nat.le_of_eq rfl) (hb hby at_55) (fun _ _ => ⟨rfl, e697, (Nat.le_of_ble_eq_true rfl : 1 + 0 ≤ _), (Nat.le_of_ble_eq_true rfl : 7 + 0 ≤ _)⟩)
  dsimp only [Pt.U, Pt.locs, Pt.cells, Pt.slots] at X707 l707 y707 z707 st707 hQ707
  subst l707 y707 z707
  obtain ⟨rfl, Nq707, e707⟩ := hQ707
  have N708 := Fr.app N700 Nq707
  have P709 : ∀ t, Steps p.tables e below (T707.setTop (mkF m 58 #[.val (.int p0), .val (.long p1), .second, .val (.int b670), .val (.int (((p0.toUInt32 >>> ((1 : Int32) &&& 31).toUInt32).toInt32) &&& (7 : Int32))), .val (.ref b672), .unset, .unset, .unset] [(.int (nar .char ((own_raw p1 (2 : Int32) (115 : Int32)).toUInt32.toUInt16.toUInt32.toInt32))), (.int (2 : Int32)), (.ref b672)])) t → Steps p.tables e below (s₁.setTop (mkF m 0 #[.val (.int p0), .val (.long p1), .second, .unset, .unset, .unset, .unset, .unset, .unset] [])) t := fun t k => P699 t (by
    show Steps p.tables e below (T697.setTop (mkF m 48 #[.val (.int p0), .val (.long p1), .second, .val (.int b670), .val (.int (((p0.toUInt32 >>> ((1 : Int32) &&& 31).toUInt32).toInt32) &&& (7 : Int32))), .val (.ref b672), .unset, .unset, .unset] [])) _
    refine XS.aload X697.here hx rfl (hb hby at_48) rfl rfl ?_
    show Steps p.tables e below (T697.setTop (mkF m 50 #[.val (.int p0), .val (.long p1), .second, .val (.int b670), .val (.int (((p0.toUInt32 >>> ((1 : Int32) &&& 31).toUInt32).toInt32) &&& (7 : Int32))), .val (.ref b672), .unset, .unset, .unset] [(.ref b672)])) _
    refine XS.iconst X697.here hx rfl (hb hby at_50) ?_
    show Steps p.tables e below (T697.setTop (mkF m 51 #[.val (.int p0), .val (.long p1), .second, .val (.int b670), .val (.int (((p0.toUInt32 >>> ((1 : Int32) &&& 31).toUInt32).toInt32) &&& (7 : Int32))), .val (.ref b672), .unset, .unset, .unset] [(.int (2 : Int32)), (.ref b672)])) _
    refine XS.lloadN X697.here hx rfl (hb hby at_51) rfl ?_
    show Steps p.tables e below (T697.setTop (mkF m 52 #[.val (.int p0), .val (.long p1), .second, .val (.int b670), .val (.int (((p0.toUInt32 >>> ((1 : Int32) &&& 31).toUInt32).toInt32) &&& (7 : Int32))), .val (.ref b672), .unset, .unset, .unset] [(.long p1), (.int (2 : Int32)), (.ref b672)])) _
    refine XS.iconst X697.here hx rfl (hb hby at_52) ?_
    show Steps p.tables e below (T697.setTop (mkF m 53 #[.val (.int p0), .val (.long p1), .second, .val (.int b670), .val (.int (((p0.toUInt32 >>> ((1 : Int32) &&& 31).toUInt32).toInt32) &&& (7 : Int32))), .val (.ref b672), .unset, .unset, .unset] [(.int (2 : Int32)), (.long p1), (.int (2 : Int32)), (.ref b672)])) _
    refine XS.bipush X697.here hx rfl (hb hby at_53) ?_
    show Steps p.tables e below (T697.setTop (mkF m 55 #[.val (.int p0), .val (.long p1), .second, .val (.int b670), .val (.int (((p0.toUInt32 >>> ((1 : Int32) &&& 31).toUInt32).toInt32) &&& (7 : Int32))), .val (.ref b672), .unset, .unset, .unset] [(.int (115 : Int32)), (.int (2 : Int32)), (.long p1), (.int (2 : Int32)), (.ref b672)])) _
    exact st707 _ k)
  obtain ⟨cl710, Ar710, q710, S710, N710, H710, G710⟩ := id v698
  obtain ⟨T710, h710, X710, e710, W710, st710⟩ := stC X707 hx hZ e707 Ar710 (j := (2 : Int32)) (inb_of S710 ⟨by decide, by decide⟩) (g := (mkF m 58 #[.val (.int p0), .val (.long p1), .second, .val (.int b670), .val (.int (((p0.toUInt32 >>> ((1 : Int32) &&& 31).toUInt32).toInt32) &&& (7 : Int32))), .val (.ref b672), .unset, .unset, .unset] [(.int (nar .char ((own_raw p1 (2 : Int32) (115 : Int32)).toUInt32.toUInt16.toUInt32.toInt32))), (.int (2 : Int32)), (.ref b672)])) rfl rfl (hb hby at_58)
  have v711 : Arv Z h710 b672 k672 .char (7 : Int32) [(.int (nar .char (nar .char ((own_raw p1 (0 : Int32) (115 : Int32)).toUInt32.toUInt16.toUInt32.toInt32)))), (.int (nar .char (nar .char ((own_raw p1 (1 : Int32) (121 : Int32)).toUInt32.toUInt16.toUInt32.toInt32)))), (.int (nar .char (nar .char ((own_raw p1 (2 : Int32) (115 : Int32)).toUInt32.toUInt16.toUInt32.toInt32)))), (.int (0 : Int32)), (.int (0 : Int32)), (.int (0 : Int32)), (.int (0 : Int32))] (.int (0 : Int32)) := Arv.set Ar710 q710 S710 N710 H710 G710 (fits_nar_char _) W710 2 rfl (Nat.le_of_ble_eq_true rfl)
  have P712 : ∀ t, Steps p.tables e below (T710.setTop (mkF m 59 #[.val (.int p0), .val (.long p1), .second, .val (.int b670), .val (.int (((p0.toUInt32 >>> ((1 : Int32) &&& 31).toUInt32).toInt32) &&& (7 : Int32))), .val (.ref b672), .unset, .unset, .unset] [])) t → Steps p.tables e below (s₁.setTop (mkF m 0 #[.val (.int p0), .val (.long p1), .second, .unset, .unset, .unset, .unset, .unset, .unset] [])) t := fun t k => P709 t (by
    show Steps p.tables e below (T707.setTop (mkF m 58 #[.val (.int p0), .val (.long p1), .second, .val (.int b670), .val (.int (((p0.toUInt32 >>> ((1 : Int32) &&& 31).toUInt32).toInt32) &&& (7 : Int32))), .val (.ref b672), .unset, .unset, .unset] [(.int (nar .char ((own_raw p1 (2 : Int32) (115 : Int32)).toUInt32.toUInt16.toUInt32.toInt32))), (.int (2 : Int32)), (.ref b672)])) _
    exact st710 _ k)
  have N713 := Fr.snoc X710 N708 g_b672
  have Z714 : n0 ≤ h710.size := Nat.le_trans Z701 (Keep.of_wr W710).1
  have K715 : Keep h0 h710 [] := K702.wr W710 (Or.inr sz_b672)
  have O716 : Old Z n0 h710 := O703.wr W710 g_b672
  have hk717 : h0.size ≤ h710.size := Nat.le_trans hk704 (Keep.of_wr W710).1
  have C718 : CHr Z own_EL s.vm h697 s.vm h710 := CHr.wr W710 (Safe.arv hZ.alike v698 (by decide)) C705.1
  have R719 : CHr Z own_EL s.vm h0 s.vm h710 := R706.trans C718
  obtain ⟨_, _, ⟨T720, L720, k720, n720⟩, -, X720, ⟨Lc720, hQ720, l720, y720, z720⟩, st720⟩ := Jvm.LawKit.callS X710 hx (y := (⟨"com/example/vervet/vervet/engine/RulesMayJoinPinLaw", "at", "(JII)C"⟩ : MethodName)) hown (mvT hZ (hw _ (List.mem_of_getElem? (i := 1) rfl))) (mvT hZ (hw _ (List.mem_of_getElem? (i := 2) rfl))) (mvT hZ (hw _ (List.mem_of_getElem? (i := 3) rfl))) (mvT hZ (hw _ (List.mem_of_getElem? (i := 4) rfl))) (by decide) (backOf (W := 2) (rm_at l Z a0 hw [] p1 (3 : Int32) (116 : Int32) h710 n0 Z714 ) hZ (hw _ (List.mem_of_getElem? (i := 4) rfl)) (hw _ (List.mem_of_getElem? (i := 3) rfl)) (by decide) (by decide)) (g := (mkF m 66 #[.val (.int p0), .val (.long p1), .second, .val (.int b670), .val (.int (((p0.toUInt32 >>> ((1 : Int32) &&& 31).toUInt32).toInt32) &&& (7 : Int32))), .val (.ref b672), .unset, .unset, .unset] [(.int (116 : Int32)), (.int (3 : Int32)), (.long p1), (.int (3 : Int32)), (.ref b672)])) rfl (by rw [hml]; rfl) (argsL := [(.long p1), (.int (3 : Int32)), (.int (116 : Int32))]) (rest := [(.int (3 : Int32)), (.ref b672)]) (lenOf pd__28JII_29C rfl) rfl (by show 2 * 0 + _ ≤ _; exact Nat.le_of_eq rfl) (hb hby at_66) (fun _ _ => ⟨rfl, e710, (Nat.le_of_ble_eq_true rfl : 1 + 0 ≤ _), (Nat.le_of_ble_eq_true rfl : 7 + 0 ≤ _)⟩)
  dsimp only [Pt.U, Pt.locs, Pt.cells, Pt.slots] at X720 l720 y720 z720 st720 hQ720
  subst l720 y720 z720
  obtain ⟨rfl, Nq720, e720⟩ := hQ720
  have N721 := Fr.app N713 Nq720
  have P722 : ∀ t, Steps p.tables e below (T720.setTop (mkF m 69 #[.val (.int p0), .val (.long p1), .second, .val (.int b670), .val (.int (((p0.toUInt32 >>> ((1 : Int32) &&& 31).toUInt32).toInt32) &&& (7 : Int32))), .val (.ref b672), .unset, .unset, .unset] [(.int (nar .char ((own_raw p1 (3 : Int32) (116 : Int32)).toUInt32.toUInt16.toUInt32.toInt32))), (.int (3 : Int32)), (.ref b672)])) t → Steps p.tables e below (s₁.setTop (mkF m 0 #[.val (.int p0), .val (.long p1), .second, .unset, .unset, .unset, .unset, .unset, .unset] [])) t := fun t k => P712 t (by
    show Steps p.tables e below (T710.setTop (mkF m 59 #[.val (.int p0), .val (.long p1), .second, .val (.int b670), .val (.int (((p0.toUInt32 >>> ((1 : Int32) &&& 31).toUInt32).toInt32) &&& (7 : Int32))), .val (.ref b672), .unset, .unset, .unset] [])) _
    refine XS.aload X710.here hx rfl (hb hby at_59) rfl rfl ?_
    show Steps p.tables e below (T710.setTop (mkF m 61 #[.val (.int p0), .val (.long p1), .second, .val (.int b670), .val (.int (((p0.toUInt32 >>> ((1 : Int32) &&& 31).toUInt32).toInt32) &&& (7 : Int32))), .val (.ref b672), .unset, .unset, .unset] [(.ref b672)])) _
    refine XS.iconst X710.here hx rfl (hb hby at_61) ?_
    show Steps p.tables e below (T710.setTop (mkF m 62 #[.val (.int p0), .val (.long p1), .second, .val (.int b670), .val (.int (((p0.toUInt32 >>> ((1 : Int32) &&& 31).toUInt32).toInt32) &&& (7 : Int32))), .val (.ref b672), .unset, .unset, .unset] [(.int (3 : Int32)), (.ref b672)])) _
    refine XS.lloadN X710.here hx rfl (hb hby at_62) rfl ?_
    show Steps p.tables e below (T710.setTop (mkF m 63 #[.val (.int p0), .val (.long p1), .second, .val (.int b670), .val (.int (((p0.toUInt32 >>> ((1 : Int32) &&& 31).toUInt32).toInt32) &&& (7 : Int32))), .val (.ref b672), .unset, .unset, .unset] [(.long p1), (.int (3 : Int32)), (.ref b672)])) _
    refine XS.iconst X710.here hx rfl (hb hby at_63) ?_
    show Steps p.tables e below (T710.setTop (mkF m 64 #[.val (.int p0), .val (.long p1), .second, .val (.int b670), .val (.int (((p0.toUInt32 >>> ((1 : Int32) &&& 31).toUInt32).toInt32) &&& (7 : Int32))), .val (.ref b672), .unset, .unset, .unset] [(.int (3 : Int32)), (.long p1), (.int (3 : Int32)), (.ref b672)])) _
    refine XS.bipush X710.here hx rfl (hb hby at_64) ?_
    show Steps p.tables e below (T710.setTop (mkF m 66 #[.val (.int p0), .val (.long p1), .second, .val (.int b670), .val (.int (((p0.toUInt32 >>> ((1 : Int32) &&& 31).toUInt32).toInt32) &&& (7 : Int32))), .val (.ref b672), .unset, .unset, .unset] [(.int (116 : Int32)), (.int (3 : Int32)), (.long p1), (.int (3 : Int32)), (.ref b672)])) _
    exact st720 _ k)
  obtain ⟨cl723, Ar723, q723, S723, N723, H723, G723⟩ := id v711
  obtain ⟨T723, h723, X723, e723, W723, st723⟩ := stC X720 hx hZ e720 Ar723 (j := (3 : Int32)) (inb_of S723 ⟨by decide, by decide⟩) (g := (mkF m 69 #[.val (.int p0), .val (.long p1), .second, .val (.int b670), .val (.int (((p0.toUInt32 >>> ((1 : Int32) &&& 31).toUInt32).toInt32) &&& (7 : Int32))), .val (.ref b672), .unset, .unset, .unset] [(.int (nar .char ((own_raw p1 (3 : Int32) (116 : Int32)).toUInt32.toUInt16.toUInt32.toInt32))), (.int (3 : Int32)), (.ref b672)])) rfl rfl (hb hby at_69)
  have v724 : Arv Z h723 b672 k672 .char (7 : Int32) [(.int (nar .char (nar .char ((own_raw p1 (0 : Int32) (115 : Int32)).toUInt32.toUInt16.toUInt32.toInt32)))), (.int (nar .char (nar .char ((own_raw p1 (1 : Int32) (121 : Int32)).toUInt32.toUInt16.toUInt32.toInt32)))), (.int (nar .char (nar .char ((own_raw p1 (2 : Int32) (115 : Int32)).toUInt32.toUInt16.toUInt32.toInt32)))), (.int (nar .char (nar .char ((own_raw p1 (3 : Int32) (116 : Int32)).toUInt32.toUInt16.toUInt32.toInt32)))), (.int (0 : Int32)), (.int (0 : Int32)), (.int (0 : Int32))] (.int (0 : Int32)) := Arv.set Ar723 q723 S723 N723 H723 G723 (fits_nar_char _) W723 3 rfl (Nat.le_of_ble_eq_true rfl)
  have P725 : ∀ t, Steps p.tables e below (T723.setTop (mkF m 70 #[.val (.int p0), .val (.long p1), .second, .val (.int b670), .val (.int (((p0.toUInt32 >>> ((1 : Int32) &&& 31).toUInt32).toInt32) &&& (7 : Int32))), .val (.ref b672), .unset, .unset, .unset] [])) t → Steps p.tables e below (s₁.setTop (mkF m 0 #[.val (.int p0), .val (.long p1), .second, .unset, .unset, .unset, .unset, .unset, .unset] [])) t := fun t k => P722 t (by
    show Steps p.tables e below (T720.setTop (mkF m 69 #[.val (.int p0), .val (.long p1), .second, .val (.int b670), .val (.int (((p0.toUInt32 >>> ((1 : Int32) &&& 31).toUInt32).toInt32) &&& (7 : Int32))), .val (.ref b672), .unset, .unset, .unset] [(.int (nar .char ((own_raw p1 (3 : Int32) (116 : Int32)).toUInt32.toUInt16.toUInt32.toInt32))), (.int (3 : Int32)), (.ref b672)])) _
    exact st723 _ k)
  have N726 := Fr.snoc X723 N721 g_b672
  have Z727 : n0 ≤ h723.size := Nat.le_trans Z714 (Keep.of_wr W723).1
  have K728 : Keep h0 h723 [] := K715.wr W723 (Or.inr sz_b672)
  have O729 : Old Z n0 h723 := O716.wr W723 g_b672
  have hk730 : h0.size ≤ h723.size := Nat.le_trans hk717 (Keep.of_wr W723).1
  have C731 : CHr Z own_EL s.vm h710 s.vm h723 := CHr.wr W723 (Safe.arv hZ.alike v711 (by decide)) C718.1
  have R732 : CHr Z own_EL s.vm h0 s.vm h723 := R719.trans C731
  obtain ⟨_, _, ⟨T733, L733, k733, n733⟩, -, X733, ⟨Lc733, hQ733, l733, y733, z733⟩, st733⟩ := Jvm.LawKit.callS X723 hx (y := (⟨"com/example/vervet/vervet/engine/RulesMayJoinPinLaw", "at", "(JII)C"⟩ : MethodName)) hown (mvT hZ (hw _ (List.mem_of_getElem? (i := 1) rfl))) (mvT hZ (hw _ (List.mem_of_getElem? (i := 2) rfl))) (mvT hZ (hw _ (List.mem_of_getElem? (i := 3) rfl))) (mvT hZ (hw _ (List.mem_of_getElem? (i := 4) rfl))) (by decide) (backOf (W := 2) (rm_at l Z a0 hw [] p1 (4 : Int32) (101 : Int32) h723 n0 Z727 ) hZ (hw _ (List.mem_of_getElem? (i := 4) rfl)) (hw _ (List.mem_of_getElem? (i := 3) rfl)) (by decide) (by decide)) (g := (mkF m 77 #[.val (.int p0), .val (.long p1), .second, .val (.int b670), .val (.int (((p0.toUInt32 >>> ((1 : Int32) &&& 31).toUInt32).toInt32) &&& (7 : Int32))), .val (.ref b672), .unset, .unset, .unset] [(.int (101 : Int32)), (.int (4 : Int32)), (.long p1), (.int (4 : Int32)), (.ref b672)])) rfl (by rw [hml]; rfl) (argsL := [(.long p1), (.int (4 : Int32)), (.int (101 : Int32))]) (rest := [(.int (4 : Int32)), (.ref b672)]) (lenOf pd__28JII_29C rfl) rfl (by show 2 * 0 + _ ≤ _; exact Nat.le_of_eq rfl) (hb hby at_77) (fun _ _ => ⟨rfl, e723, (Nat.le_of_ble_eq_true rfl : 1 + 0 ≤ _), (Nat.le_of_ble_eq_true rfl : 7 + 0 ≤ _)⟩)
  dsimp only [Pt.U, Pt.locs, Pt.cells, Pt.slots] at X733 l733 y733 z733 st733 hQ733
  subst l733 y733 z733
  obtain ⟨rfl, Nq733, e733⟩ := hQ733
  have N734 := Fr.app N726 Nq733
  have P735 : ∀ t, Steps p.tables e below (T733.setTop (mkF m 80 #[.val (.int p0), .val (.long p1), .second, .val (.int b670), .val (.int (((p0.toUInt32 >>> ((1 : Int32) &&& 31).toUInt32).toInt32) &&& (7 : Int32))), .val (.ref b672), .unset, .unset, .unset] [(.int (nar .char ((own_raw p1 (4 : Int32) (101 : Int32)).toUInt32.toUInt16.toUInt32.toInt32))), (.int (4 : Int32)), (.ref b672)])) t → Steps p.tables e below (s₁.setTop (mkF m 0 #[.val (.int p0), .val (.long p1), .second, .unset, .unset, .unset, .unset, .unset, .unset] [])) t := fun t k => P725 t (by
    show Steps p.tables e below (T723.setTop (mkF m 70 #[.val (.int p0), .val (.long p1), .second, .val (.int b670), .val (.int (((p0.toUInt32 >>> ((1 : Int32) &&& 31).toUInt32).toInt32) &&& (7 : Int32))), .val (.ref b672), .unset, .unset, .unset] [])) _
    refine XS.aload X723.here hx rfl (hb hby at_70) rfl rfl ?_
    show Steps p.tables e below (T723.setTop (mkF m 72 #[.val (.int p0), .val (.long p1), .second, .val (.int b670), .val (.int (((p0.toUInt32 >>> ((1 : Int32) &&& 31).toUInt32).toInt32) &&& (7 : Int32))), .val (.ref b672), .unset, .unset, .unset] [(.ref b672)])) _
    refine XS.iconst X723.here hx rfl (hb hby at_72) ?_
    show Steps p.tables e below (T723.setTop (mkF m 73 #[.val (.int p0), .val (.long p1), .second, .val (.int b670), .val (.int (((p0.toUInt32 >>> ((1 : Int32) &&& 31).toUInt32).toInt32) &&& (7 : Int32))), .val (.ref b672), .unset, .unset, .unset] [(.int (4 : Int32)), (.ref b672)])) _
    refine XS.lloadN X723.here hx rfl (hb hby at_73) rfl ?_
    show Steps p.tables e below (T723.setTop (mkF m 74 #[.val (.int p0), .val (.long p1), .second, .val (.int b670), .val (.int (((p0.toUInt32 >>> ((1 : Int32) &&& 31).toUInt32).toInt32) &&& (7 : Int32))), .val (.ref b672), .unset, .unset, .unset] [(.long p1), (.int (4 : Int32)), (.ref b672)])) _
    refine XS.iconst X723.here hx rfl (hb hby at_74) ?_
    show Steps p.tables e below (T723.setTop (mkF m 75 #[.val (.int p0), .val (.long p1), .second, .val (.int b670), .val (.int (((p0.toUInt32 >>> ((1 : Int32) &&& 31).toUInt32).toInt32) &&& (7 : Int32))), .val (.ref b672), .unset, .unset, .unset] [(.int (4 : Int32)), (.long p1), (.int (4 : Int32)), (.ref b672)])) _
    refine XS.bipush X723.here hx rfl (hb hby at_75) ?_
    show Steps p.tables e below (T723.setTop (mkF m 77 #[.val (.int p0), .val (.long p1), .second, .val (.int b670), .val (.int (((p0.toUInt32 >>> ((1 : Int32) &&& 31).toUInt32).toInt32) &&& (7 : Int32))), .val (.ref b672), .unset, .unset, .unset] [(.int (101 : Int32)), (.int (4 : Int32)), (.long p1), (.int (4 : Int32)), (.ref b672)])) _
    exact st733 _ k)
  obtain ⟨cl736, Ar736, q736, S736, N736, H736, G736⟩ := id v724
  obtain ⟨T736, h736, X736, e736, W736, st736⟩ := stC X733 hx hZ e733 Ar736 (j := (4 : Int32)) (inb_of S736 ⟨by decide, by decide⟩) (g := (mkF m 80 #[.val (.int p0), .val (.long p1), .second, .val (.int b670), .val (.int (((p0.toUInt32 >>> ((1 : Int32) &&& 31).toUInt32).toInt32) &&& (7 : Int32))), .val (.ref b672), .unset, .unset, .unset] [(.int (nar .char ((own_raw p1 (4 : Int32) (101 : Int32)).toUInt32.toUInt16.toUInt32.toInt32))), (.int (4 : Int32)), (.ref b672)])) rfl rfl (hb hby at_80)
  have v737 : Arv Z h736 b672 k672 .char (7 : Int32) [(.int (nar .char (nar .char ((own_raw p1 (0 : Int32) (115 : Int32)).toUInt32.toUInt16.toUInt32.toInt32)))), (.int (nar .char (nar .char ((own_raw p1 (1 : Int32) (121 : Int32)).toUInt32.toUInt16.toUInt32.toInt32)))), (.int (nar .char (nar .char ((own_raw p1 (2 : Int32) (115 : Int32)).toUInt32.toUInt16.toUInt32.toInt32)))), (.int (nar .char (nar .char ((own_raw p1 (3 : Int32) (116 : Int32)).toUInt32.toUInt16.toUInt32.toInt32)))), (.int (nar .char (nar .char ((own_raw p1 (4 : Int32) (101 : Int32)).toUInt32.toUInt16.toUInt32.toInt32)))), (.int (0 : Int32)), (.int (0 : Int32))] (.int (0 : Int32)) := Arv.set Ar736 q736 S736 N736 H736 G736 (fits_nar_char _) W736 4 rfl (Nat.le_of_ble_eq_true rfl)
  have P738 : ∀ t, Steps p.tables e below (T736.setTop (mkF m 81 #[.val (.int p0), .val (.long p1), .second, .val (.int b670), .val (.int (((p0.toUInt32 >>> ((1 : Int32) &&& 31).toUInt32).toInt32) &&& (7 : Int32))), .val (.ref b672), .unset, .unset, .unset] [])) t → Steps p.tables e below (s₁.setTop (mkF m 0 #[.val (.int p0), .val (.long p1), .second, .unset, .unset, .unset, .unset, .unset, .unset] [])) t := fun t k => P735 t (by
    show Steps p.tables e below (T733.setTop (mkF m 80 #[.val (.int p0), .val (.long p1), .second, .val (.int b670), .val (.int (((p0.toUInt32 >>> ((1 : Int32) &&& 31).toUInt32).toInt32) &&& (7 : Int32))), .val (.ref b672), .unset, .unset, .unset] [(.int (nar .char ((own_raw p1 (4 : Int32) (101 : Int32)).toUInt32.toUInt16.toUInt32.toInt32))), (.int (4 : Int32)), (.ref b672)])) _
    exact st736 _ k)
  have N739 := Fr.snoc X736 N734 g_b672
  have Z740 : n0 ≤ h736.size := Nat.le_trans Z727 (Keep.of_wr W736).1
  have K741 : Keep h0 h736 [] := K728.wr W736 (Or.inr sz_b672)
  have O742 : Old Z n0 h736 := O729.wr W736 g_b672
  have hk743 : h0.size ≤ h736.size := Nat.le_trans hk730 (Keep.of_wr W736).1
  have C744 : CHr Z own_EL s.vm h723 s.vm h736 := CHr.wr W736 (Safe.arv hZ.alike v724 (by decide)) C731.1
  have R745 : CHr Z own_EL s.vm h0 s.vm h736 := R732.trans C744
  obtain ⟨_, _, ⟨T746, L746, k746, n746⟩, -, X746, ⟨Lc746, hQ746, l746, y746, z746⟩, st746⟩ := Jvm.LawKit.callS X736 hx (y := (⟨"com/example/vervet/vervet/engine/RulesMayJoinPinLaw", "at", "(JII)C"⟩ : MethodName)) hown (mvT hZ (hw _ (List.mem_of_getElem? (i := 1) rfl))) (mvT hZ (hw _ (List.mem_of_getElem? (i := 2) rfl))) (mvT hZ (hw _ (List.mem_of_getElem? (i := 3) rfl))) (mvT hZ (hw _ (List.mem_of_getElem? (i := 4) rfl))) (by decide) (backOf (W := 2) (rm_at l Z a0 hw [] p1 (5 : Int32) (109 : Int32) h736 n0 Z740 ) hZ (hw _ (List.mem_of_getElem? (i := 4) rfl)) (hw _ (List.mem_of_getElem? (i := 3) rfl)) (by decide) (by decide)) (g := (mkF m 88 #[.val (.int p0), .val (.long p1), .second, .val (.int b670), .val (.int (((p0.toUInt32 >>> ((1 : Int32) &&& 31).toUInt32).toInt32) &&& (7 : Int32))), .val (.ref b672), .unset, .unset, .unset] [(.int (109 : Int32)), (.int (5 : Int32)), (.long p1), (.int (5 : Int32)), (.ref b672)])) rfl (by rw [hml]; rfl) (argsL := [(.long p1), (.int (5 : Int32)), (.int (109 : Int32))]) (rest := [(.int (5 : Int32)), (.ref b672)]) (lenOf pd__28JII_29C rfl) rfl (by show 2 * 0 + _ ≤ _; exact Nat.le_of_eq rfl) (hb hby at_88) (fun _ _ => ⟨rfl, e736, (Nat.le_of_ble_eq_true rfl : 1 + 0 ≤ _), (Nat.le_of_ble_eq_true rfl : 7 + 0 ≤ _)⟩)
  dsimp only [Pt.U, Pt.locs, Pt.cells, Pt.slots] at X746 l746 y746 z746 st746 hQ746
  subst l746 y746 z746
  obtain ⟨rfl, Nq746, e746⟩ := hQ746
  have N747 := Fr.app N739 Nq746
  have P748 : ∀ t, Steps p.tables e below (T746.setTop (mkF m 91 #[.val (.int p0), .val (.long p1), .second, .val (.int b670), .val (.int (((p0.toUInt32 >>> ((1 : Int32) &&& 31).toUInt32).toInt32) &&& (7 : Int32))), .val (.ref b672), .unset, .unset, .unset] [(.int (nar .char ((own_raw p1 (5 : Int32) (109 : Int32)).toUInt32.toUInt16.toUInt32.toInt32))), (.int (5 : Int32)), (.ref b672)])) t → Steps p.tables e below (s₁.setTop (mkF m 0 #[.val (.int p0), .val (.long p1), .second, .unset, .unset, .unset, .unset, .unset, .unset] [])) t := fun t k => P738 t (by
    show Steps p.tables e below (T736.setTop (mkF m 81 #[.val (.int p0), .val (.long p1), .second, .val (.int b670), .val (.int (((p0.toUInt32 >>> ((1 : Int32) &&& 31).toUInt32).toInt32) &&& (7 : Int32))), .val (.ref b672), .unset, .unset, .unset] [])) _
    refine XS.aload X736.here hx rfl (hb hby at_81) rfl rfl ?_
    show Steps p.tables e below (T736.setTop (mkF m 83 #[.val (.int p0), .val (.long p1), .second, .val (.int b670), .val (.int (((p0.toUInt32 >>> ((1 : Int32) &&& 31).toUInt32).toInt32) &&& (7 : Int32))), .val (.ref b672), .unset, .unset, .unset] [(.ref b672)])) _
    refine XS.iconst X736.here hx rfl (hb hby at_83) ?_
    show Steps p.tables e below (T736.setTop (mkF m 84 #[.val (.int p0), .val (.long p1), .second, .val (.int b670), .val (.int (((p0.toUInt32 >>> ((1 : Int32) &&& 31).toUInt32).toInt32) &&& (7 : Int32))), .val (.ref b672), .unset, .unset, .unset] [(.int (5 : Int32)), (.ref b672)])) _
    refine XS.lloadN X736.here hx rfl (hb hby at_84) rfl ?_
    show Steps p.tables e below (T736.setTop (mkF m 85 #[.val (.int p0), .val (.long p1), .second, .val (.int b670), .val (.int (((p0.toUInt32 >>> ((1 : Int32) &&& 31).toUInt32).toInt32) &&& (7 : Int32))), .val (.ref b672), .unset, .unset, .unset] [(.long p1), (.int (5 : Int32)), (.ref b672)])) _
    refine XS.iconst X736.here hx rfl (hb hby at_85) ?_
    show Steps p.tables e below (T736.setTop (mkF m 86 #[.val (.int p0), .val (.long p1), .second, .val (.int b670), .val (.int (((p0.toUInt32 >>> ((1 : Int32) &&& 31).toUInt32).toInt32) &&& (7 : Int32))), .val (.ref b672), .unset, .unset, .unset] [(.int (5 : Int32)), (.long p1), (.int (5 : Int32)), (.ref b672)])) _
    refine XS.bipush X736.here hx rfl (hb hby at_86) ?_
    show Steps p.tables e below (T736.setTop (mkF m 88 #[.val (.int p0), .val (.long p1), .second, .val (.int b670), .val (.int (((p0.toUInt32 >>> ((1 : Int32) &&& 31).toUInt32).toInt32) &&& (7 : Int32))), .val (.ref b672), .unset, .unset, .unset] [(.int (109 : Int32)), (.int (5 : Int32)), (.long p1), (.int (5 : Int32)), (.ref b672)])) _
    exact st746 _ k)
  obtain ⟨cl749, Ar749, q749, S749, N749, H749, G749⟩ := id v737
  obtain ⟨T749, h749, X749, e749, W749, st749⟩ := stC X746 hx hZ e746 Ar749 (j := (5 : Int32)) (inb_of S749 ⟨by decide, by decide⟩) (g := (mkF m 91 #[.val (.int p0), .val (.long p1), .second, .val (.int b670), .val (.int (((p0.toUInt32 >>> ((1 : Int32) &&& 31).toUInt32).toInt32) &&& (7 : Int32))), .val (.ref b672), .unset, .unset, .unset] [(.int (nar .char ((own_raw p1 (5 : Int32) (109 : Int32)).toUInt32.toUInt16.toUInt32.toInt32))), (.int (5 : Int32)), (.ref b672)])) rfl rfl (hb hby at_91)
  have v750 : Arv Z h749 b672 k672 .char (7 : Int32) [(.int (nar .char (nar .char ((own_raw p1 (0 : Int32) (115 : Int32)).toUInt32.toUInt16.toUInt32.toInt32)))), (.int (nar .char (nar .char ((own_raw p1 (1 : Int32) (121 : Int32)).toUInt32.toUInt16.toUInt32.toInt32)))), (.int (nar .char (nar .char ((own_raw p1 (2 : Int32) (115 : Int32)).toUInt32.toUInt16.toUInt32.toInt32)))), (.int (nar .char (nar .char ((own_raw p1 (3 : Int32) (116 : Int32)).toUInt32.toUInt16.toUInt32.toInt32)))), (.int (nar .char (nar .char ((own_raw p1 (4 : Int32) (101 : Int32)).toUInt32.toUInt16.toUInt32.toInt32)))), (.int (nar .char (nar .char ((own_raw p1 (5 : Int32) (109 : Int32)).toUInt32.toUInt16.toUInt32.toInt32)))), (.int (0 : Int32))] (.int (0 : Int32)) := Arv.set Ar749 q749 S749 N749 H749 G749 (fits_nar_char _) W749 5 rfl (Nat.le_of_ble_eq_true rfl)
  have P751 : ∀ t, Steps p.tables e below (T749.setTop (mkF m 92 #[.val (.int p0), .val (.long p1), .second, .val (.int b670), .val (.int (((p0.toUInt32 >>> ((1 : Int32) &&& 31).toUInt32).toInt32) &&& (7 : Int32))), .val (.ref b672), .unset, .unset, .unset] [])) t → Steps p.tables e below (s₁.setTop (mkF m 0 #[.val (.int p0), .val (.long p1), .second, .unset, .unset, .unset, .unset, .unset, .unset] [])) t := fun t k => P748 t (by
    show Steps p.tables e below (T746.setTop (mkF m 91 #[.val (.int p0), .val (.long p1), .second, .val (.int b670), .val (.int (((p0.toUInt32 >>> ((1 : Int32) &&& 31).toUInt32).toInt32) &&& (7 : Int32))), .val (.ref b672), .unset, .unset, .unset] [(.int (nar .char ((own_raw p1 (5 : Int32) (109 : Int32)).toUInt32.toUInt16.toUInt32.toInt32))), (.int (5 : Int32)), (.ref b672)])) _
    exact st749 _ k)
  have N752 := Fr.snoc X749 N747 g_b672
  have Z753 : n0 ≤ h749.size := Nat.le_trans Z740 (Keep.of_wr W749).1
  have K754 : Keep h0 h749 [] := K741.wr W749 (Or.inr sz_b672)
  have O755 : Old Z n0 h749 := O742.wr W749 g_b672
  have hk756 : h0.size ≤ h749.size := Nat.le_trans hk743 (Keep.of_wr W749).1
  have C757 : CHr Z own_EL s.vm h736 s.vm h749 := CHr.wr W749 (Safe.arv hZ.alike v737 (by decide)) C744.1
  have R758 : CHr Z own_EL s.vm h0 s.vm h749 := R745.trans C757
  obtain ⟨_, _, ⟨T759, L759, k759, n759⟩, -, X759, ⟨Lc759, hQ759, l759, y759, z759⟩, st759⟩ := Jvm.LawKit.callS X749 hx (y := (⟨"com/example/vervet/vervet/engine/RulesMayJoinPinLaw", "at", "(JII)C"⟩ : MethodName)) hown (mvT hZ (hw _ (List.mem_of_getElem? (i := 1) rfl))) (mvT hZ (hw _ (List.mem_of_getElem? (i := 2) rfl))) (mvT hZ (hw _ (List.mem_of_getElem? (i := 3) rfl))) (mvT hZ (hw _ (List.mem_of_getElem? (i := 4) rfl))) (by decide) (backOf (W := 2) (rm_at l Z a0 hw [] p1 (6 : Int32) (0 : Int32) h749 n0 Z753 ) hZ (hw _ (List.mem_of_getElem? (i := 4) rfl)) (hw _ (List.mem_of_getElem? (i := 3) rfl)) (by decide) (by decide)) (g := (mkF m 100 #[.val (.int p0), .val (.long p1), .second, .val (.int b670), .val (.int (((p0.toUInt32 >>> ((1 : Int32) &&& 31).toUInt32).toInt32) &&& (7 : Int32))), .val (.ref b672), .unset, .unset, .unset] [(.int (0 : Int32)), (.int (6 : Int32)), (.long p1), (.int (6 : Int32)), (.ref b672)])) rfl (by rw [hml]; rfl) (argsL := [(.long p1), (.int (6 : Int32)), (.int (0 : Int32))]) (rest := [(.int (6 : Int32)), (.ref b672)]) (lenOf pd__28JII_29C rfl) rfl (by show 2 * 0 + _ ≤ _; exact Nat.le_of_eq rfl) (hb hby at_100) (fun _ _ => ⟨rfl, e749, (Nat.le_of_ble_eq_true rfl : 1 + 0 ≤ _), (Nat.le_of_ble_eq_true rfl : 7 + 0 ≤ _)⟩)
  dsimp only [Pt.U, Pt.locs, Pt.cells, Pt.slots] at X759 l759 y759 z759 st759 hQ759
  subst l759 y759 z759
  obtain ⟨rfl, Nq759, e759⟩ := hQ759
  have N760 := Fr.app N752 Nq759
  have P761 : ∀ t, Steps p.tables e below (T759.setTop (mkF m 103 #[.val (.int p0), .val (.long p1), .second, .val (.int b670), .val (.int (((p0.toUInt32 >>> ((1 : Int32) &&& 31).toUInt32).toInt32) &&& (7 : Int32))), .val (.ref b672), .unset, .unset, .unset] [(.int (nar .char ((own_raw p1 (6 : Int32) (0 : Int32)).toUInt32.toUInt16.toUInt32.toInt32))), (.int (6 : Int32)), (.ref b672)])) t → Steps p.tables e below (s₁.setTop (mkF m 0 #[.val (.int p0), .val (.long p1), .second, .unset, .unset, .unset, .unset, .unset, .unset] [])) t := fun t k => P751 t (by
    show Steps p.tables e below (T749.setTop (mkF m 92 #[.val (.int p0), .val (.long p1), .second, .val (.int b670), .val (.int (((p0.toUInt32 >>> ((1 : Int32) &&& 31).toUInt32).toInt32) &&& (7 : Int32))), .val (.ref b672), .unset, .unset, .unset] [])) _
    refine XS.aload X749.here hx rfl (hb hby at_92) rfl rfl ?_
    show Steps p.tables e below (T749.setTop (mkF m 94 #[.val (.int p0), .val (.long p1), .second, .val (.int b670), .val (.int (((p0.toUInt32 >>> ((1 : Int32) &&& 31).toUInt32).toInt32) &&& (7 : Int32))), .val (.ref b672), .unset, .unset, .unset] [(.ref b672)])) _
    refine XS.bipush X749.here hx rfl (hb hby at_94) ?_
    show Steps p.tables e below (T749.setTop (mkF m 96 #[.val (.int p0), .val (.long p1), .second, .val (.int b670), .val (.int (((p0.toUInt32 >>> ((1 : Int32) &&& 31).toUInt32).toInt32) &&& (7 : Int32))), .val (.ref b672), .unset, .unset, .unset] [(.int (6 : Int32)), (.ref b672)])) _
    refine XS.lloadN X749.here hx rfl (hb hby at_96) rfl ?_
    show Steps p.tables e below (T749.setTop (mkF m 97 #[.val (.int p0), .val (.long p1), .second, .val (.int b670), .val (.int (((p0.toUInt32 >>> ((1 : Int32) &&& 31).toUInt32).toInt32) &&& (7 : Int32))), .val (.ref b672), .unset, .unset, .unset] [(.long p1), (.int (6 : Int32)), (.ref b672)])) _
    refine XS.bipush X749.here hx rfl (hb hby at_97) ?_
    show Steps p.tables e below (T749.setTop (mkF m 99 #[.val (.int p0), .val (.long p1), .second, .val (.int b670), .val (.int (((p0.toUInt32 >>> ((1 : Int32) &&& 31).toUInt32).toInt32) &&& (7 : Int32))), .val (.ref b672), .unset, .unset, .unset] [(.int (6 : Int32)), (.long p1), (.int (6 : Int32)), (.ref b672)])) _
    refine XS.iconst X749.here hx rfl (hb hby at_99) ?_
    show Steps p.tables e below (T749.setTop (mkF m 100 #[.val (.int p0), .val (.long p1), .second, .val (.int b670), .val (.int (((p0.toUInt32 >>> ((1 : Int32) &&& 31).toUInt32).toInt32) &&& (7 : Int32))), .val (.ref b672), .unset, .unset, .unset] [(.int (0 : Int32)), (.int (6 : Int32)), (.long p1), (.int (6 : Int32)), (.ref b672)])) _
    exact st759 _ k)
  obtain ⟨cl762, Ar762, q762, S762, N762, H762, G762⟩ := id v750
  obtain ⟨T762, h762, X762, e762, W762, st762⟩ := stC X759 hx hZ e759 Ar762 (j := (6 : Int32)) (inb_of S762 ⟨by decide, by decide⟩) (g := (mkF m 103 #[.val (.int p0), .val (.long p1), .second, .val (.int b670), .val (.int (((p0.toUInt32 >>> ((1 : Int32) &&& 31).toUInt32).toInt32) &&& (7 : Int32))), .val (.ref b672), .unset, .unset, .unset] [(.int (nar .char ((own_raw p1 (6 : Int32) (0 : Int32)).toUInt32.toUInt16.toUInt32.toInt32))), (.int (6 : Int32)), (.ref b672)])) rfl rfl (hb hby at_103)
  have v763 : Arv Z h762 b672 k672 .char (7 : Int32) [(.int (nar .char (nar .char ((own_raw p1 (0 : Int32) (115 : Int32)).toUInt32.toUInt16.toUInt32.toInt32)))), (.int (nar .char (nar .char ((own_raw p1 (1 : Int32) (121 : Int32)).toUInt32.toUInt16.toUInt32.toInt32)))), (.int (nar .char (nar .char ((own_raw p1 (2 : Int32) (115 : Int32)).toUInt32.toUInt16.toUInt32.toInt32)))), (.int (nar .char (nar .char ((own_raw p1 (3 : Int32) (116 : Int32)).toUInt32.toUInt16.toUInt32.toInt32)))), (.int (nar .char (nar .char ((own_raw p1 (4 : Int32) (101 : Int32)).toUInt32.toUInt16.toUInt32.toInt32)))), (.int (nar .char (nar .char ((own_raw p1 (5 : Int32) (109 : Int32)).toUInt32.toUInt16.toUInt32.toInt32)))), (.int (nar .char (nar .char ((own_raw p1 (6 : Int32) (0 : Int32)).toUInt32.toUInt16.toUInt32.toInt32))))] (.int (0 : Int32)) := Arv.set Ar762 q762 S762 N762 H762 G762 (fits_nar_char _) W762 6 rfl (Nat.le_of_ble_eq_true rfl)
  have P764 : ∀ t, Steps p.tables e below (T762.setTop (mkF m 104 #[.val (.int p0), .val (.long p1), .second, .val (.int b670), .val (.int (((p0.toUInt32 >>> ((1 : Int32) &&& 31).toUInt32).toInt32) &&& (7 : Int32))), .val (.ref b672), .unset, .unset, .unset] [])) t → Steps p.tables e below (s₁.setTop (mkF m 0 #[.val (.int p0), .val (.long p1), .second, .unset, .unset, .unset, .unset, .unset, .unset] [])) t := fun t k => P761 t (by
    show Steps p.tables e below (T759.setTop (mkF m 103 #[.val (.int p0), .val (.long p1), .second, .val (.int b670), .val (.int (((p0.toUInt32 >>> ((1 : Int32) &&& 31).toUInt32).toInt32) &&& (7 : Int32))), .val (.ref b672), .unset, .unset, .unset] [(.int (nar .char ((own_raw p1 (6 : Int32) (0 : Int32)).toUInt32.toUInt16.toUInt32.toInt32))), (.int (6 : Int32)), (.ref b672)])) _
    exact st762 _ k)
  have N765 := Fr.snoc X762 N760 g_b672
  have Z766 : n0 ≤ h762.size := Nat.le_trans Z753 (Keep.of_wr W762).1
  have K767 : Keep h0 h762 [] := K754.wr W762 (Or.inr sz_b672)
  have O768 : Old Z n0 h762 := O755.wr W762 g_b672
  have hk769 : h0.size ≤ h762.size := Nat.le_trans hk756 (Keep.of_wr W762).1
  have C770 : CHr Z own_EL s.vm h749 s.vm h762 := CHr.wr W762 (Safe.arv hZ.alike v750 (by decide)) C757.1
  have R771 : CHr Z own_EL s.vm h0 s.vm h762 := R758.trans C770
  obtain ⟨d0, hd0⟩ : ∃ z : Int32, z = (nar .char (nar .char ((own_raw p1 (0 : Int32) (115 : Int32)).toUInt32.toUInt16.toUInt32.toInt32))) := ⟨_, rfl⟩
  obtain ⟨d1, hd1⟩ : ∃ z : Int32, z = (nar .char (nar .char ((own_raw p1 (1 : Int32) (121 : Int32)).toUInt32.toUInt16.toUInt32.toInt32))) := ⟨_, rfl⟩
  obtain ⟨d2, hd2⟩ : ∃ z : Int32, z = (nar .char (nar .char ((own_raw p1 (2 : Int32) (115 : Int32)).toUInt32.toUInt16.toUInt32.toInt32))) := ⟨_, rfl⟩
  obtain ⟨d3, hd3⟩ : ∃ z : Int32, z = (nar .char (nar .char ((own_raw p1 (3 : Int32) (116 : Int32)).toUInt32.toUInt16.toUInt32.toInt32))) := ⟨_, rfl⟩
  obtain ⟨d4, hd4⟩ : ∃ z : Int32, z = (nar .char (nar .char ((own_raw p1 (4 : Int32) (101 : Int32)).toUInt32.toUInt16.toUInt32.toInt32))) := ⟨_, rfl⟩
  obtain ⟨d5, hd5⟩ : ∃ z : Int32, z = (nar .char (nar .char ((own_raw p1 (5 : Int32) (109 : Int32)).toUInt32.toUInt16.toUInt32.toInt32))) := ⟨_, rfl⟩
  obtain ⟨d6, hd6⟩ : ∃ z : Int32, z = (nar .char (nar .char ((own_raw p1 (6 : Int32) (0 : Int32)).toUInt32.toUInt16.toUInt32.toInt32))) := ⟨_, rfl⟩
  have Ad : Arv Z h762 b672 k672 .char (7 : Int32) [(.int d0), (.int d1), (.int d2), (.int d3), (.int d4), (.int d5), (.int d6)] (.int (0 : Int32)) := by rw [hd0, hd1, hd2, hd3, hd4, hd5, hd6]; exact v763
  have hbd : ∀ c ∈ ([d0, d1, d2, d3, d4, d5, d6] : List Int32), ¬ c < 0 ∧ ¬ (255 : Int32) < c := by
    intro c hc
    simp only [List.mem_cons, List.not_mem_nil, or_false] at hc
    rcases hc with rfl | rfl | rfl | rfl | rfl | rfl | rfl
    · rw [hd0]; exact own_rawb _ _ _
    · rw [hd1]; exact own_rawb _ _ _
    · rw [hd2]; exact own_rawb _ _ _
    · rw [hd3]; exact own_rawb _ _ _
    · rw [hd4]; exact own_rawb _ _ _
    · rw [hd5]; exact own_rawb _ _ _
    · rw [hd6]; exact own_rawb _ _ _
  obtain ⟨_, _, ⟨T772, L772, k772, n772⟩, -, X772, hs772, hg772, ⟨Lc772, hQ772, l772, y772, z772, cr772⟩, st772⟩ := callSS X762 hx (y := (⟨"com/example/vervet/vervet/engine/RulesMayJoinPinLaw", "make", "(I[C)Ljava/lang/String;"⟩ : MethodName)) hown (mvT hZ (hw _ (List.mem_of_getElem? (i := 5) rfl))) (mvT hZ (hw _ (List.mem_of_getElem? (i := 6) rfl))) (mvT hZ (hw _ (List.mem_of_getElem? (i := 3) rfl))) (mvT hZ (hw _ (List.mem_of_getElem? (i := 7) rfl))) (by decide) (backOfSH (W := 0) (rm_make l Z a0 hw [] (((p0.toUInt32 >>> ((1 : Int32) &&& 31).toUInt32).toInt32) &&& (7 : Int32)) b672 k672 d0 d1 d2 d3 d4 d5 d6 G1 h762 n0 Z766 Sg P5 hbd Ad O768) hZ (hw _ (List.mem_of_getElem? (i := 7) rfl)) (hw _ (List.mem_of_getElem? (i := 3) rfl)) (by decide) (by decide) (own_EW hw) C770.1) (g := (mkF m 108 #[.val (.int p0), .val (.long p1), .second, .val (.int b670), .val (.int (((p0.toUInt32 >>> ((1 : Int32) &&& 31).toUInt32).toInt32) &&& (7 : Int32))), .val (.ref b672), .unset, .unset, .unset] [(.ref b672), (.int (((p0.toUInt32 >>> ((1 : Int32) &&& 31).toUInt32).toInt32) &&& (7 : Int32)))])) rfl (by rw [hml]; rfl) (argsL := [(.int (((p0.toUInt32 >>> ((1 : Int32) &&& 31).toUInt32).toInt32) &&& (7 : Int32))), (.ref b672)]) (rest := []) (lenOf pd__28I_5bC_29Ljava_2flang_2fString_3b rfl) rfl (by show 2 * 0 + _ ≤ _; exact Nat.le_of_eq rfl) (hb hby at_108) (fun _ _ => ⟨rfl, e762, (Nat.le_of_ble_eq_true rfl : 1 + 6 ≤ _), (Nat.le_of_ble_eq_true rfl : 7 + 18 ≤ _)⟩)
  dsimp only [Pt.U, Pt.locs, Pt.cells, Pt.slots] at X772 l772 y772 z772 st772 hQ772 hs772 hg772 cr772
  subst l772 y772 z772
  obtain ⟨s772, t772, k772, cs772, hcs772, rfl, Nq772, sz772, Kk772, Ek772, Fv772, Fc772, Av772, hl772, hb772⟩ := hQ772
  obtain ⟨Xr772, hSr772, hZr772, ho772⟩ := rebS hS0 (by rw [e762]; exact hk769) X772 hs772 hg772 hZ hown
  have N773 := Fr.app N765 Nq772
  have P774 : ∀ t, Steps p.tables e below (T772.setTop (mkF m 111 #[.val (.int p0), .val (.long p1), .second, .val (.int b670), .val (.int (((p0.toUInt32 >>> ((1 : Int32) &&& 31).toUInt32).toInt32) &&& (7 : Int32))), .val (.ref b672), .unset, .unset, .unset] [(.ref s772)])) t → Steps p.tables e below (s₁.setTop (mkF m 0 #[.val (.int p0), .val (.long p1), .second, .unset, .unset, .unset, .unset, .unset, .unset] [])) t := fun t k => P764 t (by
    show Steps p.tables e below (T762.setTop (mkF m 104 #[.val (.int p0), .val (.long p1), .second, .val (.int b670), .val (.int (((p0.toUInt32 >>> ((1 : Int32) &&& 31).toUInt32).toInt32) &&& (7 : Int32))), .val (.ref b672), .unset, .unset, .unset] [])) _
    refine XS.iload X762.here hx rfl (hb hby at_104) rfl ?_
    show Steps p.tables e below (T762.setTop (mkF m 106 #[.val (.int p0), .val (.long p1), .second, .val (.int b670), .val (.int (((p0.toUInt32 >>> ((1 : Int32) &&& 31).toUInt32).toInt32) &&& (7 : Int32))), .val (.ref b672), .unset, .unset, .unset] [(.int (((p0.toUInt32 >>> ((1 : Int32) &&& 31).toUInt32).toInt32) &&& (7 : Int32)))])) _
    refine XS.aload X762.here hx rfl (hb hby at_106) rfl rfl ?_
    show Steps p.tables e below (T762.setTop (mkF m 108 #[.val (.int p0), .val (.long p1), .second, .val (.int b670), .val (.int (((p0.toUInt32 >>> ((1 : Int32) &&& 31).toUInt32).toInt32) &&& (7 : Int32))), .val (.ref b672), .unset, .unset, .unset] [(.ref b672), (.int (((p0.toUInt32 >>> ((1 : Int32) &&& 31).toUInt32).toInt32) &&& (7 : Int32)))])) _
    exact st772.trans k)
  have Z775 : n0 ≤ T772.heap.size := Nat.le_trans Z766 Kk772.1
  have K776 : Keep h0 T772.heap [] := K767.trans Kk772 (all0)
  have O777 : Old Z n0 T772.heap := O768.keep Kk772 all0
  have R778 : CHr Z own_EL s.vm h0 T772.vm T772.heap := R771.trans cr772
  have g_s772 : n0 ≤ s772 := Nat.le_trans Z766 sz772
  have sz_s772 : h0.size ≤ s772 := Nat.le_trans K767.1 sz772
  have P779 : ∀ t, Steps p.tables e below (T772.setTop (mkF m 117 #[.val (.int p0), .val (.long p1), .second, .val (.int b670), .val (.int (((p0.toUInt32 >>> ((1 : Int32) &&& 31).toUInt32).toInt32) &&& (7 : Int32))), .val (.ref b672), .val (.ref s772), .unset, .unset] [(.int (6 : Int32)), (.int (((p0.toUInt32 >>> ((1 : Int32) &&& 31).toUInt32).toInt32) &&& (7 : Int32)))])) t → Steps p.tables e below (s₁.setTop (mkF m 0 #[.val (.int p0), .val (.long p1), .second, .unset, .unset, .unset, .unset, .unset, .unset] [])) t := fun t k => P774 t (by
    show Steps p.tables e below (T772.setTop (mkF m 111 #[.val (.int p0), .val (.long p1), .second, .val (.int b670), .val (.int (((p0.toUInt32 >>> ((1 : Int32) &&& 31).toUInt32).toInt32) &&& (7 : Int32))), .val (.ref b672), .unset, .unset, .unset] [(.ref s772)])) _
    refine XS.astore Xr772.here hx rfl (hb hby at_111) rfl rfl (l' := #[.val (.int p0), .val (.long p1), .second, .val (.int b670), .val (.int (((p0.toUInt32 >>> ((1 : Int32) &&& 31).toUInt32).toInt32) &&& (7 : Int32))), .val (.ref b672), .val (.ref s772), .unset, .unset]) rfl ?_
    show Steps p.tables e below (T772.setTop (mkF m 113 #[.val (.int p0), .val (.long p1), .second, .val (.int b670), .val (.int (((p0.toUInt32 >>> ((1 : Int32) &&& 31).toUInt32).toInt32) &&& (7 : Int32))), .val (.ref b672), .val (.ref s772), .unset, .unset] [])) _
    refine XS.iload Xr772.here hx rfl (hb hby at_113) rfl ?_
    show Steps p.tables e below (T772.setTop (mkF m 115 #[.val (.int p0), .val (.long p1), .second, .val (.int b670), .val (.int (((p0.toUInt32 >>> ((1 : Int32) &&& 31).toUInt32).toInt32) &&& (7 : Int32))), .val (.ref b672), .val (.ref s772), .unset, .unset] [(.int (((p0.toUInt32 >>> ((1 : Int32) &&& 31).toUInt32).toInt32) &&& (7 : Int32)))])) _
    refine XS.bipush Xr772.here hx rfl (hb hby at_115) ?_
    show Steps p.tables e below (T772.setTop (mkF m 117 #[.val (.int p0), .val (.long p1), .second, .val (.int b670), .val (.int (((p0.toUInt32 >>> ((1 : Int32) &&& 31).toUInt32).toInt32) &&& (7 : Int32))), .val (.ref b672), .val (.ref s772), .unset, .unset] [(.int (6 : Int32)), (.int (((p0.toUInt32 >>> ((1 : Int32) &&& 31).toUInt32).toInt32) &&& (7 : Int32)))])) _
    exact k)
  obtain ⟨b782, hb782⟩ : ∃ z : Int32, z = (if (((p0.toUInt32 >>> ((1 : Int32) &&& 31).toUInt32).toInt32) &&& (7 : Int32)) = (6 : Int32) then (if (p1 &&& (281474976710655 : Int64)) = (0 : Int64) then (1 : Int32) else (0 : Int32)) else (0 : Int32)) := ⟨_, rfl⟩
  have P783 : ∀ t, Steps p.tables e below (T772.setTop (mkF m 135 #[.val (.int p0), .val (.long p1), .second, .val (.int b670), .val (.int (((p0.toUInt32 >>> ((1 : Int32) &&& 31).toUInt32).toInt32) &&& (7 : Int32))), .val (.ref b672), .val (.ref s772), .unset, .unset] [(.int b782)])) t → Steps p.tables e below (s₁.setTop (mkF m 0 #[.val (.int p0), .val (.long p1), .second, .unset, .unset, .unset, .unset, .unset, .unset] [])) t := fun t k => P779 t (by
    show Steps p.tables e below (T772.setTop (mkF m 117 #[.val (.int p0), .val (.long p1), .second, .val (.int b670), .val (.int (((p0.toUInt32 >>> ((1 : Int32) &&& 31).toUInt32).toInt32) &&& (7 : Int32))), .val (.ref b672), .val (.ref s772), .unset, .unset] [(.int (6 : Int32)), (.int (((p0.toUInt32 >>> ((1 : Int32) &&& 31).toUInt32).toInt32) &&& (7 : Int32)))])) _
    by_cases q780 : (((p0.toUInt32 >>> ((1 : Int32) &&& 31).toUInt32).toInt32) &&& (7 : Int32)) = (6 : Int32)
    · skip
      refine XS.icmpNo Xr772.here hx rfl (hb hby at_117) rfl (teq (show (((p0.toUInt32 >>> ((1 : Int32) &&& 31).toUInt32).toInt32) &&& (7 : Int32)) = (6 : Int32) from q780)).2 ?_
      show Steps p.tables e below (T772.setTop (mkF m 120 #[.val (.int p0), .val (.long p1), .second, .val (.int b670), .val (.int (((p0.toUInt32 >>> ((1 : Int32) &&& 31).toUInt32).toInt32) &&& (7 : Int32))), .val (.ref b672), .val (.ref s772), .unset, .unset] [])) _
      refine XS.lloadN Xr772.here hx rfl (hb hby at_120) rfl ?_
      show Steps p.tables e below (T772.setTop (mkF m 121 #[.val (.int p0), .val (.long p1), .second, .val (.int b670), .val (.int (((p0.toUInt32 >>> ((1 : Int32) &&& 31).toUInt32).toInt32) &&& (7 : Int32))), .val (.ref b672), .val (.ref s772), .unset, .unset] [(.long p1)])) _
      refine Xr772.ldc2Long hx ho772 (mvT hZr772 (hw _ (List.mem_of_getElem? (i := 55) rfl))) (g := (mkF m 121 #[.val (.int p0), .val (.long p1), .second, .val (.int b670), .val (.int (((p0.toUInt32 >>> ((1 : Int32) &&& 31).toUInt32).toInt32) &&& (7 : Int32))), .val (.ref b672), .val (.ref s772), .unset, .unset] [(.long p1)])) rfl (hb hby at_121) _ ?_
      show Steps p.tables e below (T772.setTop (mkF m 124 #[.val (.int p0), .val (.long p1), .second, .val (.int b670), .val (.int (((p0.toUInt32 >>> ((1 : Int32) &&& 31).toUInt32).toInt32) &&& (7 : Int32))), .val (.ref b672), .val (.ref s772), .unset, .unset] [(.long (281474976710655 : Int64)), (.long p1)])) _
      refine XS.land Xr772.here hx rfl (hb hby at_124) rfl ?_
      show Steps p.tables e below (T772.setTop (mkF m 125 #[.val (.int p0), .val (.long p1), .second, .val (.int b670), .val (.int (((p0.toUInt32 >>> ((1 : Int32) &&& 31).toUInt32).toInt32) &&& (7 : Int32))), .val (.ref b672), .val (.ref s772), .unset, .unset] [(.long (p1 &&& (281474976710655 : Int64)))])) _
      refine XS.lconst Xr772.here hx rfl (hb hby at_125) ?_
      show Steps p.tables e below (T772.setTop (mkF m 126 #[.val (.int p0), .val (.long p1), .second, .val (.int b670), .val (.int (((p0.toUInt32 >>> ((1 : Int32) &&& 31).toUInt32).toInt32) &&& (7 : Int32))), .val (.ref b672), .val (.ref s772), .unset, .unset] [(.long (0 : Int64)), (.long (p1 &&& (281474976710655 : Int64)))])) _
      refine XS.lcmp Xr772.here hx rfl (hb hby at_126) rfl ?_
      show Steps p.tables e below (T772.setTop (mkF m 127 #[.val (.int p0), .val (.long p1), .second, .val (.int b670), .val (.int (((p0.toUInt32 >>> ((1 : Int32) &&& 31).toUInt32).toInt32) &&& (7 : Int32))), .val (.ref b672), .val (.ref s772), .unset, .unset] [(.int (lcmpW (p1 &&& (281474976710655 : Int64)) (0 : Int64)))])) _
      by_cases q781 : (p1 &&& (281474976710655 : Int64)) = (0 : Int64)
      · skip
        refine XS.ifNo Xr772.here hx rfl (hb hby at_127) rfl (XT.ll_ne_f (show (p1 &&& (281474976710655 : Int64)) = (0 : Int64) from q781)) ?_
        show Steps p.tables e below (T772.setTop (mkF m 130 #[.val (.int p0), .val (.long p1), .second, .val (.int b670), .val (.int (((p0.toUInt32 >>> ((1 : Int32) &&& 31).toUInt32).toInt32) &&& (7 : Int32))), .val (.ref b672), .val (.ref s772), .unset, .unset] [])) _
        refine XS.iconst Xr772.here hx rfl (hb hby at_130) ?_
        show Steps p.tables e below (T772.setTop (mkF m 131 #[.val (.int p0), .val (.long p1), .second, .val (.int b670), .val (.int (((p0.toUInt32 >>> ((1 : Int32) &&& 31).toUInt32).toInt32) &&& (7 : Int32))), .val (.ref b672), .val (.ref s772), .unset, .unset] [(.int (1 : Int32))])) _
        refine XS.goto Xr772.here hx rfl (pc0 := 131) (pc' := 135) rfl (hb hby at_131) (by decide) (by decide) ?_
        show Steps p.tables e below (T772.setTop (mkF m 135 #[.val (.int p0), .val (.long p1), .second, .val (.int b670), .val (.int (((p0.toUInt32 >>> ((1 : Int32) &&& 31).toUInt32).toInt32) &&& (7 : Int32))), .val (.ref b672), .val (.ref s772), .unset, .unset] [(.int (1 : Int32))])) _
        have eb782 : b782 = (1 : Int32) := by rw [hb782, if_pos q780, if_pos q781]
        rw [eb782] at k
        exact k
      · skip
        refine XS.ifYes Xr772.here hx rfl (pc0 := 127) (pc' := 134) rfl (hb hby at_127) rfl (XT.ll_ne_t (show ¬ ((p1 &&& (281474976710655 : Int64)) = (0 : Int64)) from q781)) (by decide) (by decide) ?_
        show Steps p.tables e below (T772.setTop (mkF m 134 #[.val (.int p0), .val (.long p1), .second, .val (.int b670), .val (.int (((p0.toUInt32 >>> ((1 : Int32) &&& 31).toUInt32).toInt32) &&& (7 : Int32))), .val (.ref b672), .val (.ref s772), .unset, .unset] [])) _
        refine XS.iconst Xr772.here hx rfl (hb hby at_134) ?_
        show Steps p.tables e below (T772.setTop (mkF m 135 #[.val (.int p0), .val (.long p1), .second, .val (.int b670), .val (.int (((p0.toUInt32 >>> ((1 : Int32) &&& 31).toUInt32).toInt32) &&& (7 : Int32))), .val (.ref b672), .val (.ref s772), .unset, .unset] [(.int (0 : Int32))])) _
        have eb782 : b782 = (0 : Int32) := by rw [hb782, if_pos q780, if_neg q781]
        rw [eb782] at k
        exact k
    · skip
      refine XS.icmpYes Xr772.here hx rfl (pc0 := 117) (pc' := 134) rfl (hb hby at_117) rfl (feq (show ¬ ((((p0.toUInt32 >>> ((1 : Int32) &&& 31).toUInt32).toInt32) &&& (7 : Int32)) = (6 : Int32)) from q780)).2 (by decide) (by decide) ?_
      show Steps p.tables e below (T772.setTop (mkF m 134 #[.val (.int p0), .val (.long p1), .second, .val (.int b670), .val (.int (((p0.toUInt32 >>> ((1 : Int32) &&& 31).toUInt32).toInt32) &&& (7 : Int32))), .val (.ref b672), .val (.ref s772), .unset, .unset] [])) _
      refine XS.iconst Xr772.here hx rfl (hb hby at_134) ?_
      show Steps p.tables e below (T772.setTop (mkF m 135 #[.val (.int p0), .val (.long p1), .second, .val (.int b670), .val (.int (((p0.toUInt32 >>> ((1 : Int32) &&& 31).toUInt32).toInt32) &&& (7 : Int32))), .val (.ref b672), .val (.ref s772), .unset, .unset] [(.int (0 : Int32))])) _
      have eb782 : b782 = (0 : Int32) := by rw [hb782, if_neg q780]
      rw [eb782] at k
      exact k)
  have P784 : ∀ t, Steps p.tables e below (T772.setTop (mkF m 138 #[.val (.int p0), .val (.long p1), .second, .val (.int b670), .val (.int (((p0.toUInt32 >>> ((1 : Int32) &&& 31).toUInt32).toInt32) &&& (7 : Int32))), .val (.ref b672), .val (.ref s772), .val (.int b782), .unset] [(.int b670)])) t → Steps p.tables e below (s₁.setTop (mkF m 0 #[.val (.int p0), .val (.long p1), .second, .unset, .unset, .unset, .unset, .unset, .unset] [])) t := fun t k => P783 t (by
    show Steps p.tables e below (T772.setTop (mkF m 135 #[.val (.int p0), .val (.long p1), .second, .val (.int b670), .val (.int (((p0.toUInt32 >>> ((1 : Int32) &&& 31).toUInt32).toInt32) &&& (7 : Int32))), .val (.ref b672), .val (.ref s772), .unset, .unset] [(.int b782)])) _
    refine XS.istore Xr772.here hx rfl (hb hby at_135) rfl (l' := #[.val (.int p0), .val (.long p1), .second, .val (.int b670), .val (.int (((p0.toUInt32 >>> ((1 : Int32) &&& 31).toUInt32).toInt32) &&& (7 : Int32))), .val (.ref b672), .val (.ref s772), .val (.int b782), .unset]) rfl ?_
    show Steps p.tables e below (T772.setTop (mkF m 137 #[.val (.int p0), .val (.long p1), .second, .val (.int b670), .val (.int (((p0.toUInt32 >>> ((1 : Int32) &&& 31).toUInt32).toInt32) &&& (7 : Int32))), .val (.ref b672), .val (.ref s772), .val (.int b782), .unset] [])) _
    refine XS.iloadN Xr772.here hx rfl (hb hby at_137) rfl ?_
    show Steps p.tables e below (T772.setTop (mkF m 138 #[.val (.int p0), .val (.long p1), .second, .val (.int b670), .val (.int (((p0.toUInt32 >>> ((1 : Int32) &&& 31).toUInt32).toInt32) &&& (7 : Int32))), .val (.ref b672), .val (.ref s772), .val (.int b782), .unset] [(.int b670)])) _
    exact k)
  obtain ⟨b787, hb787⟩ : ∃ z : Int32, z = (if b670 = (0 : Int32) then (if b782 = (0 : Int32) then (1 : Int32) else (0 : Int32)) else (1 : Int32)) := ⟨_, rfl⟩
  have P788 : ∀ t, Steps p.tables e below (T772.setTop (mkF m 151 #[.val (.int p0), .val (.long p1), .second, .val (.int b670), .val (.int (((p0.toUInt32 >>> ((1 : Int32) &&& 31).toUInt32).toInt32) &&& (7 : Int32))), .val (.ref b672), .val (.ref s772), .val (.int b782), .unset] [(.int b787)])) t → Steps p.tables e below (s₁.setTop (mkF m 0 #[.val (.int p0), .val (.long p1), .second, .unset, .unset, .unset, .unset, .unset, .unset] [])) t := fun t k => P784 t (by
    show Steps p.tables e below (T772.setTop (mkF m 138 #[.val (.int p0), .val (.long p1), .second, .val (.int b670), .val (.int (((p0.toUInt32 >>> ((1 : Int32) &&& 31).toUInt32).toInt32) &&& (7 : Int32))), .val (.ref b672), .val (.ref s772), .val (.int b782), .unset] [(.int b670)])) _
    by_cases q785 : b670 = (0 : Int32)
    · skip
      refine XS.ifNo Xr772.here hx rfl (hb hby at_138) rfl ((if0 _ _).trans (teq (show b670 = (0 : Int32) from q785)).2) ?_
      show Steps p.tables e below (T772.setTop (mkF m 141 #[.val (.int p0), .val (.long p1), .second, .val (.int b670), .val (.int (((p0.toUInt32 >>> ((1 : Int32) &&& 31).toUInt32).toInt32) &&& (7 : Int32))), .val (.ref b672), .val (.ref s772), .val (.int b782), .unset] [])) _
      refine XS.iload Xr772.here hx rfl (hb hby at_141) rfl ?_
      show Steps p.tables e below (T772.setTop (mkF m 143 #[.val (.int p0), .val (.long p1), .second, .val (.int b670), .val (.int (((p0.toUInt32 >>> ((1 : Int32) &&& 31).toUInt32).toInt32) &&& (7 : Int32))), .val (.ref b672), .val (.ref s772), .val (.int b782), .unset] [(.int b782)])) _
      by_cases q786 : b782 = (0 : Int32)
      · skip
        refine XS.ifNo Xr772.here hx rfl (hb hby at_143) rfl ((if0 _ _).trans (teq (show b782 = (0 : Int32) from q786)).2) ?_
        show Steps p.tables e below (T772.setTop (mkF m 146 #[.val (.int p0), .val (.long p1), .second, .val (.int b670), .val (.int (((p0.toUInt32 >>> ((1 : Int32) &&& 31).toUInt32).toInt32) &&& (7 : Int32))), .val (.ref b672), .val (.ref s772), .val (.int b782), .unset] [])) _
        refine XS.iconst Xr772.here hx rfl (hb hby at_146) ?_
        show Steps p.tables e below (T772.setTop (mkF m 147 #[.val (.int p0), .val (.long p1), .second, .val (.int b670), .val (.int (((p0.toUInt32 >>> ((1 : Int32) &&& 31).toUInt32).toInt32) &&& (7 : Int32))), .val (.ref b672), .val (.ref s772), .val (.int b782), .unset] [(.int (1 : Int32))])) _
        refine XS.goto Xr772.here hx rfl (pc0 := 147) (pc' := 151) rfl (hb hby at_147) (by decide) (by decide) ?_
        show Steps p.tables e below (T772.setTop (mkF m 151 #[.val (.int p0), .val (.long p1), .second, .val (.int b670), .val (.int (((p0.toUInt32 >>> ((1 : Int32) &&& 31).toUInt32).toInt32) &&& (7 : Int32))), .val (.ref b672), .val (.ref s772), .val (.int b782), .unset] [(.int (1 : Int32))])) _
        have eb787 : b787 = (1 : Int32) := by rw [hb787, if_pos q785, if_pos q786]
        rw [eb787] at k
        exact k
      · skip
        refine XS.ifYes Xr772.here hx rfl (pc0 := 143) (pc' := 150) rfl (hb hby at_143) rfl ((if0 _ _).trans (feq (show ¬ (b782 = (0 : Int32)) from q786)).2) (by decide) (by decide) ?_
        show Steps p.tables e below (T772.setTop (mkF m 150 #[.val (.int p0), .val (.long p1), .second, .val (.int b670), .val (.int (((p0.toUInt32 >>> ((1 : Int32) &&& 31).toUInt32).toInt32) &&& (7 : Int32))), .val (.ref b672), .val (.ref s772), .val (.int b782), .unset] [])) _
        refine XS.iconst Xr772.here hx rfl (hb hby at_150) ?_
        show Steps p.tables e below (T772.setTop (mkF m 151 #[.val (.int p0), .val (.long p1), .second, .val (.int b670), .val (.int (((p0.toUInt32 >>> ((1 : Int32) &&& 31).toUInt32).toInt32) &&& (7 : Int32))), .val (.ref b672), .val (.ref s772), .val (.int b782), .unset] [(.int (0 : Int32))])) _
        have eb787 : b787 = (0 : Int32) := by rw [hb787, if_pos q785, if_neg q786]
        rw [eb787] at k
        exact k
    · skip
      refine XS.ifYes Xr772.here hx rfl (pc0 := 138) (pc' := 146) rfl (hb hby at_138) rfl ((if0 _ _).trans (feq (show ¬ (b670 = (0 : Int32)) from q785)).2) (by decide) (by decide) ?_
      show Steps p.tables e below (T772.setTop (mkF m 146 #[.val (.int p0), .val (.long p1), .second, .val (.int b670), .val (.int (((p0.toUInt32 >>> ((1 : Int32) &&& 31).toUInt32).toInt32) &&& (7 : Int32))), .val (.ref b672), .val (.ref s772), .val (.int b782), .unset] [])) _
      refine XS.iconst Xr772.here hx rfl (hb hby at_146) ?_
      show Steps p.tables e below (T772.setTop (mkF m 147 #[.val (.int p0), .val (.long p1), .second, .val (.int b670), .val (.int (((p0.toUInt32 >>> ((1 : Int32) &&& 31).toUInt32).toInt32) &&& (7 : Int32))), .val (.ref b672), .val (.ref s772), .val (.int b782), .unset] [(.int (1 : Int32))])) _
      refine XS.goto Xr772.here hx rfl (pc0 := 147) (pc' := 151) rfl (hb hby at_147) (by decide) (by decide) ?_
      show Steps p.tables e below (T772.setTop (mkF m 151 #[.val (.int p0), .val (.long p1), .second, .val (.int b670), .val (.int (((p0.toUInt32 >>> ((1 : Int32) &&& 31).toUInt32).toInt32) &&& (7 : Int32))), .val (.ref b672), .val (.ref s772), .val (.int b782), .unset] [(.int (1 : Int32))])) _
      have eb787 : b787 = (1 : Int32) := by rw [hb787, if_neg q785]
      rw [eb787] at k
      exact k)
  obtain ⟨_, _, ⟨T789, L789, k789, n789⟩, -, X789, hs789, hg789, ⟨Lc789, hQ789, l789, y789, z789, cr789⟩, st789⟩ := callSS Xr772 hx (y := (⟨"com/example/vervet/vervet/engine/Rules", "mayJoin", "(ZLjava/lang/String;)Z"⟩ : MethodName)) ho772 (mvT hZr772 (hw _ (List.mem_of_getElem? (i := 29) rfl))) (mvT hZr772 (hw _ (List.mem_of_getElem? (i := 30) rfl))) (mvT hZr772 (hw _ (List.mem_of_getElem? (i := 31) rfl))) (mvT hZr772 (hw _ (List.mem_of_getElem? (i := 32) rfl))) (by decide) (backOfSH (W := 0) (rm_may l Z a0 hw [] b670 s772 t772 k772 cs772 G1 T772.heap n0 Z775 Sg P5 Ek772 Fv772 Fc772 Av772 hl772 hb772 O777) hZr772 (hw _ (List.mem_of_getElem? (i := 32) rfl)) (hw _ (List.mem_of_getElem? (i := 31) rfl)) (by decide) (by decide) (own_EW hw) cr772.1) (g := (mkF m 156 #[.val (.int p0), .val (.long p1), .second, .val (.int b670), .val (.int (((p0.toUInt32 >>> ((1 : Int32) &&& 31).toUInt32).toInt32) &&& (7 : Int32))), .val (.ref b672), .val (.ref s772), .val (.int b782), .val (.int b787)] [(.ref s772), (.int b670)])) rfl (by rw [hml]; rfl) (argsL := [(.int b670), (.ref s772)]) (rest := []) (lenOf pd__28ZLjava_2flang_2fString_3b_29Z rfl) rfl (by show 2 * 0 + _ ≤ _; exact Nat.le_of_eq rfl) (hb hby at_156) (fun _ _ => ⟨rfl, rfl, (Nat.le_of_ble_eq_true rfl : 7 + 2 ≤ _), (Nat.le_of_ble_eq_true rfl : 25 + 28 ≤ _)⟩)
  dsimp only [Pt.U, Pt.locs, Pt.cells, Pt.slots] at X789 l789 y789 z789 st789 hQ789 hs789 hg789 cr789
  subst l789 y789 z789
  obtain ⟨rfl, Nq789, Kk789⟩ := hQ789
  obtain ⟨Xr789, hSr789, hZr789, ho789⟩ := rebS hSr772 (Nat.le_refl _) X789 hs789 hg789 hZr772 ho772
  have N790 := Fr.app N773 Nq789
  have P791 : ∀ t, Steps p.tables e below (T789.setTop (mkF m 159 #[.val (.int p0), .val (.long p1), .second, .val (.int b670), .val (.int (((p0.toUInt32 >>> ((1 : Int32) &&& 31).toUInt32).toInt32) &&& (7 : Int32))), .val (.ref b672), .val (.ref s772), .val (.int b782), .val (.int b787)] [(.int (if b670 = (0 : Int32) ∧ cs772 = own_sys then 0 else 1))])) t → Steps p.tables e below (s₁.setTop (mkF m 0 #[.val (.int p0), .val (.long p1), .second, .unset, .unset, .unset, .unset, .unset, .unset] [])) t := fun t k => P788 t (by
    show Steps p.tables e below (T772.setTop (mkF m 151 #[.val (.int p0), .val (.long p1), .second, .val (.int b670), .val (.int (((p0.toUInt32 >>> ((1 : Int32) &&& 31).toUInt32).toInt32) &&& (7 : Int32))), .val (.ref b672), .val (.ref s772), .val (.int b782), .unset] [(.int b787)])) _
    refine XS.istore Xr772.here hx rfl (hb hby at_151) rfl (l' := #[.val (.int p0), .val (.long p1), .second, .val (.int b670), .val (.int (((p0.toUInt32 >>> ((1 : Int32) &&& 31).toUInt32).toInt32) &&& (7 : Int32))), .val (.ref b672), .val (.ref s772), .val (.int b782), .val (.int b787)]) rfl ?_
    show Steps p.tables e below (T772.setTop (mkF m 153 #[.val (.int p0), .val (.long p1), .second, .val (.int b670), .val (.int (((p0.toUInt32 >>> ((1 : Int32) &&& 31).toUInt32).toInt32) &&& (7 : Int32))), .val (.ref b672), .val (.ref s772), .val (.int b782), .val (.int b787)] [])) _
    refine XS.iloadN Xr772.here hx rfl (hb hby at_153) rfl ?_
    show Steps p.tables e below (T772.setTop (mkF m 154 #[.val (.int p0), .val (.long p1), .second, .val (.int b670), .val (.int (((p0.toUInt32 >>> ((1 : Int32) &&& 31).toUInt32).toInt32) &&& (7 : Int32))), .val (.ref b672), .val (.ref s772), .val (.int b782), .val (.int b787)] [(.int b670)])) _
    refine XS.aload Xr772.here hx rfl (hb hby at_154) rfl rfl ?_
    show Steps p.tables e below (T772.setTop (mkF m 156 #[.val (.int p0), .val (.long p1), .second, .val (.int b670), .val (.int (((p0.toUInt32 >>> ((1 : Int32) &&& 31).toUInt32).toInt32) &&& (7 : Int32))), .val (.ref b672), .val (.ref s772), .val (.int b782), .val (.int b787)] [(.ref s772), (.int b670)])) _
    exact st789.trans k)
  have Z792 : n0 ≤ T789.heap.size := Nat.le_trans Z775 Kk789.1
  have K793 : Keep h0 T789.heap [] := K776.trans Kk789 (all0)
  have O794 : Old Z n0 T789.heap := O777.keep Kk789 all0
  have R795 : CHr Z own_EL s.vm h0 T789.vm T789.heap := R778.trans cr789
  have hfin : (if b670 = (0 : Int32) ∧ cs772 = own_sys then 0 else 1) = b787 := own_final p0 p1 b670 b782 b787 cs772 hb670 hb782 hb787 (by rw [hcs772]; exact own_cskey _ p1 (by rw [hd0]; exact own_rawe _ _ _) (by rw [hd1]; exact own_rawe _ _ _) (by rw [hd2]; exact own_rawe _ _ _) (by rw [hd3]; exact own_rawe _ _ _) (by rw [hd4]; exact own_rawe _ _ _) (by rw [hd5]; exact own_rawe _ _ _))
  obtain ⟨fs796, hr796, hrun796, hended796, hRW796⟩ := Xr789.leaveW (v := some (.int (1 : Int32))) hSr789 (Nat.le_refl _) (fun h => by rw [Bd.returns] at h; cases h)
  have hce796 : CHr Z own_EL s.vm s.heap T789.vm T789.heap := by
    rw [hh]
    exact R795.trans (CHv.at Xr789 hZr789 (own_EW hw) cr789.1)
  refine ⟨_, _, pre0 _ (P791 _ ?_), hrun796, hended796, _, _, rfl, ?_, hce796, ⟨hRW796.1, hRW796.2.1, hRW796.2.2.1, hRW796.2.2.2.mono (Nat.le_of_ble_eq_true rfl) (Nat.le_of_ble_eq_true rfl)⟩⟩
  · show Steps p.tables e below (T789.setTop (mkF m 159 #[.val (.int p0), .val (.long p1), .second, .val (.int b670), .val (.int (((p0.toUInt32 >>> ((1 : Int32) &&& 31).toUInt32).toInt32) &&& (7 : Int32))), .val (.ref b672), .val (.ref s772), .val (.int b782), .val (.int b787)] [(.int (if b670 = (0 : Int32) ∧ cs772 = own_sys then 0 else 1))])) _
    refine XS.iload Xr789.here hx rfl (hb hby at_159) rfl ?_
    show Steps p.tables e below (T789.setTop (mkF m 161 #[.val (.int p0), .val (.long p1), .second, .val (.int b670), .val (.int (((p0.toUInt32 >>> ((1 : Int32) &&& 31).toUInt32).toInt32) &&& (7 : Int32))), .val (.ref b672), .val (.ref s772), .val (.int b782), .val (.int b787)] [(.int b787), (.int (if b670 = (0 : Int32) ∧ cs772 = own_sys then 0 else 1))])) _
    refine XS.icmpNo Xr789.here hx rfl (hb hby at_161) rfl (teq (show (if b670 = (0 : Int32) ∧ cs772 = own_sys then 0 else 1) = b787 from hfin)).2 ?_
    show Steps p.tables e below (T789.setTop (mkF m 164 #[.val (.int p0), .val (.long p1), .second, .val (.int b670), .val (.int (((p0.toUInt32 >>> ((1 : Int32) &&& 31).toUInt32).toInt32) &&& (7 : Int32))), .val (.ref b672), .val (.ref s772), .val (.int b782), .val (.int b787)] [])) _
    refine XS.iconst Xr789.here hx rfl (hb hby at_164) ?_
    show Steps p.tables e below (T789.setTop (mkF m 165 #[.val (.int p0), .val (.long p1), .second, .val (.int b670), .val (.int (((p0.toUInt32 >>> ((1 : Int32) &&& 31).toUInt32).toInt32) &&& (7 : Int32))), .val (.ref b672), .val (.ref s772), .val (.int b782), .val (.int b787)] [(.int (1 : Int32))])) _
    refine XS.goto Xr789.here hx rfl (pc0 := 165) (pc' := 169) rfl (hb hby at_165) (by decide) (by decide) ?_
    show Steps p.tables e below (T789.setTop (mkF m 169 #[.val (.int p0), .val (.long p1), .second, .val (.int b670), .val (.int (((p0.toUInt32 >>> ((1 : Int32) &&& 31).toUInt32).toInt32) &&& (7 : Int32))), .val (.ref b672), .val (.ref s772), .val (.int b782), .val (.int b787)] [(.int (1 : Int32))])) _
    exact retN Xr789 hx (t := .boolean) Bd.returns (by simp) (hb hby at_169) hr796
  · show Q_law  h0 n0 _ T789.heap _
    exact ⟨rfl, N790⟩

set_option maxRecDepth 65536 in
set_option maxHeartbeats 40000000 in
theorem comes_1 {Post : Tables → Env → Array Value → State → Outcome → State → Prop} (hpost : ∀ tb e args s v u, (limb_1_1.after args s (.returned v) u = true ∧ limb_1_2.after args s (.returned v) u = true ∧ True) → ReturnedEndW s (.returned v) u (Jvm.fieldLocs frame_1_writes args s ++ Jvm.arrayLocs frame_1_arrays args s ++ Jvm.staticLocs frame_1_statics s) 24 2176 → Post tb e args s (.returned v) u) :
    ArmFor flags0 classFile x code maxLocals ret World_1 tables_1 room_1 Calls_1 rest_1 Pre_1 Post := by
  intro l hfl _ _ p e ha hc hk s m args below hf hA hF happ hP
  obtain ⟨hcalls, hrest, hpre⟩ := hP
  obtain ⟨-, -, -, hnamed, -, -, -, hat⟩ := (Spec.applies_iff hf).mp happ
  obtain ⟨hg, hn⟩ := and_e (Cond.before_iff.mp (show (Jvm.Cond.and given_1 narrow_1).before args s = true from hpre))
  obtain ⟨hcnt, hg0⟩ := and_e hg
  obtain ⟨ga0, hg1⟩ := and_e hg0
  obtain ⟨w0, w1, rfl⟩ : ∃ w0 w1 : Value, args = #[w0, w1] := by
    have hs : args.size = 2 := by simpa [Cond.value, given_1] using hcnt
    obtain ⟨L⟩ := args
    match L, hs with
    | [w0, w1], _ => exact ⟨w0, w1, rfl⟩
  have hw := fun d (hd : d ∈ tables_1) => atoms_spec (ws := Jvm.Cond.code x code maxLocals ret :: tables_1) hat d (List.mem_cons_of_mem _ hd)
  have hfit : Fit s := fun {y c} hc i hi => by
    obtain ⟨ha, rfl⟩ := Array.getElem?_eq_some_iff.mp hc
    have q := List.all_eq_true.mp ((Array.all_eq_true_iff_forall_mem.mp hF) _ (Array.getElem_mem ha)) i (List.mem_range.mpr hi)
    simpa [Array.getElem?_eq_getElem hi] using q
  obtain ⟨i0, ei0⟩ := is_v ga0
  obtain rfl : w0 = (.int i0) := Option.some.inj ei0
  obtain ⟨i1, ei1⟩ := isL_v hg1
  obtain rfl : w1 = (.long i1) := Option.some.inj ei1
  obtain ⟨hsets, hown0⟩ := atoms_of _ (rest_1_c_eq ▸ (show rest_1_c.before _ s = true from hrest))
  obtain ⟨G1, eG1⟩ := is_v (Cond.before_iff.mp (hsets _ (List.mem_of_getElem? (i := 1) rfl)))
  have Sg : Sta s s.heap "java/lang/String" "COMPACT_STRINGS" "Z" (.int G1) := Sta.start eG1 (Or.inl (hsets _ (List.mem_of_getElem? (i := 0) rfl)))
  have P5 : ¬ (G1 = (0 : Int32)) := gotF (Cond.eq_ints eG1 (Term.int_eval (0))) (not_v (Cond.before_iff.mp (hsets _ (List.mem_of_getElem? (i := 2) rfl))))
  have hCH : CHv s own_EL s.vm s.heap := CHv.start (own_EW hw) (fun p hp => hcalls.1 p hp) (hsets _ (List.mem_of_getElem? (i := 2) rfl)) (hw _ (List.mem_of_getElem? (i := 22) rfl)) (hw _ (List.mem_of_getElem? (i := 9) rfl))
  obtain ⟨n, o, h1, h2, h3, _, L, rfl, ⟨rfl, N⟩, hcr, hq⟩ := rm_law l s _ hw tables_1 i0 i1 G1  s.heap s.heap.size (Nat.le_refl _) Sg P5 (Old.start s)  p e ha hc hk s m _ below hf ((Spec.applies_iff_loose hf).mp happ).1 ⟨rfl, State.Warmed39.refl s, rfl, hCH⟩ trivial
  refine ⟨n, _, h1, h2, h3, hpost _ _ _ _ _ _ ⟨Cond.after_iff.mpr rfl, Cond.after_iff.mpr (eq_i res_at (Term.int_eval (1)) rfl), trivial⟩ ⟨hq.1, hq.2.1, hq.2.2.1, (hq.2.2.2.sift fun y hy => Or.inr (N y hy)).mono (Nat.le_of_ble_eq_true rfl) (Nat.le_of_ble_eq_true rfl)⟩⟩
theorem main_1_1 : Claimed_1_1 := comes_1 fun _ _ _ _ _ _ h hF => ⟨h.1, hF⟩
theorem main_1_2 : Claimed_1_2 := comes_1 fun _ _ _ _ _ _ h hF => ⟨h.2.1, hF⟩

end Jvm.Pilot.@@N@@
namespace Jvm.Pilot.@@N@@
open Jvm Jvm.ClassFile Sem Op Lib Jvm.Free Jvm.Stand Jvm.Pilot.@@N@@.Jvm.D
/-! MADE BY PROGRAM (witnessworld.py) out of the Statement's table words and the real class files: 20 classes; the members and pool entries that the words name. The judged class is class 1, her method 3. -/
namespace start1
open Jvm.ClassFile
def u (s : String) : CpInfo := .utf8 (stringToUtf16 s)
/-- a pool by its gaps: so many unusable entries, then the entry; so many at the end -/
def gap : Nat → List CpInfo → List CpInfo
  | 0, r => r
  | n + 1, r => .unusable :: gap n r
def poolList (es : List (Nat × CpInfo)) (last : Nat) : List CpInfo := es.foldr (fun e r => gap e.1 (e.2 :: r)) (gap last [])
def pool (es : List (Nat × CpInfo)) (last : Nat) : Array CpInfo := ⟨poolList es last⟩
def fileOf (pool : Array CpInfo) (this : Nat) (attrs : Array Attribute := #[]) (ms : Array MethodInfo := #[]) (fl : Nat := 33) (sup : Nat := 0) (ifs : Array Nat := #[]) (fds : Array FieldInfo := #[]) : ClassFile where
  minorVersion := 0
  majorVersion := 65
  constantPool := pool
  accessFlags := fl
  thisClass := this
  superClass := sup
  interfaces := ifs
  fields := fds
  methods := ms
  attributes := attrs
def plain (name : String) (sup : Option ClassId) : Class where
  name := name
  kind := .ordinary
  loader := none
  accessFlags := 33
  super := sup
  interfaces := #[]
  cf := none
  fields := #[]
  methods := #[]
  instanceTypes := #[]
  staticTypes := #[]
  resolved := #[]
  callSites := []
  init := .initialized
  statics := none
  mirror := none

def pool0 : Array CpInfo := pool [(5, u "<init>"), (0, u "()V"), (1, .class_ 10), (1, u "java/lang/Object")] 113

def k0c0 : Code := { maxStack := 0, maxLocals := 1, code := object_method_1_code, exceptionTable := #[], attributes := #[] }
def k0m0 : Method := { name := "<init>", desc := "()V", sig := { parameters := [], returnType := none }, accessFlags := 1, code := some k0c0 }
/-- java/lang/Object -/
def k0 : Class := { plain "java/lang/Object" none with
  accessFlags := 33
  interfaces := #[]
  cf := some (fileOf pool0 8 #[] #[{ accessFlags := 1, nameIndex := 5, descriptorIndex := 6, attributes := #[] }] 33 0 #[] #[])
  fields := #[]
  methods := #[k0m0]
  instanceTypes := #[]
  staticTypes := #[]
  resolved := Array.replicate 124 none
  statics := none }

def pool1 : Array CpInfo := pool [(2, .class_ 4), (1, u "java/lang/Object"), (0, u "<init>"), (0, u "()V"), (0, .class_ 8), (0, u "java/lang/String"), (0, .methodref 7 10), (0, .nameAndType 5 11), (0, u "([C)V"), (0, .methodref 13 14), (0, .class_ 15), (0, .nameAndType 16 17), (0, u "com/example/vervet/vervet/engine/RulesMayJoinPinLaw"), (0, u "at"), (0, u "(JII)C"), (0, .methodref 13 19), (0, .nameAndType 20 21), (0, u "make"), (0, u "(I[C)Ljava/lang/String;"), (0, .long 281474976710655), (1, .methodref 25 26), (0, .class_ 27), (0, .nameAndType 28 29), (0, u "com/example/vervet/vervet/engine/Rules"), (0, u "mayJoin"), (0, u "(ZLjava/lang/String;)Z"), (3, u "law"), (0, u "(IJ)Z")] 4

def k1m0 : Method := { name := "<init>", desc := "()V", sig := { parameters := [], returnType := none }, accessFlags := 2, code := none }
def k1c1 : Code := { maxStack := 4, maxLocals := 4, code := method_2_code, exceptionTable := #[], attributes := #[] }
def k1m1 : Method := { name := "at", desc := "(JII)C", sig := { parameters := [.long, .int, .int], returnType := some .char }, accessFlags := 10, code := some k1c1 }
def k1c2 : Code := { maxStack := 7, maxLocals := 2, code := method_3_code, exceptionTable := #[], attributes := #[] }
def k1m2 : Method := { name := "make", desc := "(I[C)Ljava/lang/String;", sig := { parameters := [.int, (.array .char)], returnType := some (.object "java/lang/String") }, accessFlags := 10, code := some k1c2 }
def k1c3 : Code := { maxStack := 6, maxLocals := 9, code := code, exceptionTable := #[], attributes := #[] }
def k1m3 : Method := { name := "law", desc := "(IJ)Z", sig := { parameters := [.int, .long], returnType := some .boolean }, accessFlags := 9, code := some k1c3 }
/-- com/example/vervet/vervet/engine/RulesMayJoinPinLaw -/
def k1 : Class := { plain "com/example/vervet/vervet/engine/RulesMayJoinPinLaw" (some 0) with
  accessFlags := 49
  interfaces := #[]
  cf := some (fileOf pool1 13 #[] #[{ accessFlags := 2, nameIndex := 5, descriptorIndex := 6, attributes := #[] }, { accessFlags := 10, nameIndex := 16, descriptorIndex := 17, attributes := #[] }, { accessFlags := 10, nameIndex := 20, descriptorIndex := 21, attributes := #[] }, { accessFlags := 9, nameIndex := 33, descriptorIndex := 34, attributes := #[] }] 49 2 #[] #[])
  fields := #[]
  methods := #[k1m0, k1m1, k1m2, k1m3]
  instanceTypes := #[]
  staticTypes := #[]
  resolved := Array.replicate 39 none
  statics := none }

def pool2 : Array CpInfo := pool [(1, .class_ 2), (0, u "java/io/Serializable"), (0, .class_ 4), (0, u "java/lang/Object")] 2

/-- java/io/Serializable -/
def k2 : Class := { plain "java/io/Serializable" (some 0) with
  accessFlags := 1537
  interfaces := #[]
  cf := some (fileOf pool2 1 #[] #[] 1537 3 #[] #[])
  fields := #[]
  methods := #[]
  instanceTypes := #[]
  staticTypes := #[]
  resolved := Array.replicate 7 none
  statics := none }

def pool3 : Array CpInfo := pool [(1, .class_ 2), (0, u "java/lang/Comparable"), (0, .class_ 4), (0, u "java/lang/Object")] 7

/-- java/lang/Comparable -/
def k3 : Class := { plain "java/lang/Comparable" (some 0) with
  accessFlags := 1537
  interfaces := #[]
  cf := some (fileOf pool3 1 #[] #[] 1537 3 #[] #[])
  fields := #[]
  methods := #[]
  instanceTypes := #[]
  staticTypes := #[]
  resolved := Array.replicate 12 none
  statics := none }

def pool4 : Array CpInfo := pool [(2, .class_ 4), (1, u "java/lang/CharSequence"), (42, .class_ 48), (0, u "java/lang/CharSequence$1CodePointIterator"), (10, .class_ 60), (0, u "java/lang/CharSequence$1CharIterator"), (5, .class_ 67), (0, u "java/lang/Object")] 63

/-- java/lang/CharSequence -/
def k4 : Class := { plain "java/lang/CharSequence" (some 0) with
  accessFlags := 1537
  interfaces := #[]
  cf := some (fileOf pool4 2 #[.nestMembers #[47, 59]] #[] 1537 66 #[] #[])
  fields := #[]
  methods := #[]
  instanceTypes := #[]
  staticTypes := #[]
  resolved := Array.replicate 131 none
  statics := none }

def pool5 : Array CpInfo := pool [(1, .class_ 2), (0, u "java/lang/constant/Constable"), (0, .class_ 4), (0, u "java/lang/Object")] 6

/-- java/lang/constant/Constable -/
def k5 : Class := { plain "java/lang/constant/Constable" (some 0) with
  accessFlags := 1537
  interfaces := #[]
  cf := some (fileOf pool5 1 #[] #[] 1537 3 #[] #[])
  fields := #[]
  methods := #[]
  instanceTypes := #[]
  staticTypes := #[]
  resolved := Array.replicate 11 none
  statics := none }

def pool6 : Array CpInfo := pool [(1, .class_ 2), (0, u "java/lang/constant/ConstantDesc"), (0, .class_ 4), (0, u "java/lang/Object")] 32

/-- java/lang/constant/ConstantDesc -/
def k6 : Class := { plain "java/lang/constant/ConstantDesc" (some 0) with
  accessFlags := 1537
  interfaces := #[]
  cf := some (fileOf pool6 1 #[] #[] 1537 3 #[] #[])
  fields := #[]
  methods := #[]
  instanceTypes := #[]
  staticTypes := #[]
  resolved := Array.replicate 37 none
  statics := none }

def pool7 : Array CpInfo := pool [(1, .methodref 2 3), (0, .class_ 4), (0, .nameAndType 5 6), (0, u "java/lang/Object"), (0, u "<init>"), (0, u "()V"), (0, .string 8), (0, u ""), (0, .fieldref 10 11), (0, .class_ 12), (0, .nameAndType 13 14), (0, u "java/lang/String"), (0, u "value"), (0, u "[B"), (0, .fieldref 10 16), (0, .nameAndType 17 18), (0, u "coder"), (0, u "B"), (2, u "hash"), (0, u "I"), (2, u "hashIsZero"), (0, u "Z"), (0, .methodref 10 28), (0, .nameAndType 5 29), (0, u "([CIILjava/lang/Void;)V"), (8, .fieldref 10 39), (0, .nameAndType 40 26), (0, u "COMPACT_STRINGS"), (1, .class_ 44), (1, u "java/lang/StringUTF16"), (0, u "compress"), (1, .methodref 42 48), (0, .nameAndType 49 50), (0, u "coderFromArrayLen"), (0, u "([BI)B"), (56, .class_ 109), (1, u "java/lang/StringLatin1"), (67, .methodref 42 178), (0, .nameAndType 45 179), (0, u "([CII)[B"), (361, .methodref 107 542), (0, .nameAndType 543 544), (0, u "equals"), (0, u "([B[B)Z"), (28, u "(Ljava/lang/Object;)Z"), (1, .class_ 576), (0, u "java/lang/CharSequence"), (22, u "CASE_INSENSITIVE_ORDER"), (0, u "Ljava/util/Comparator;"), (409, u "([C)V"), (90, u "serialPersistentFields"), (0, u "[Ljava/io/ObjectStreamField;"), (0, .class_ 1104), (0, u "java/lang/String$CaseInsensitiveComparator"), (1, .class_ 1107), (0, u "java/io/Serializable"), (0, .class_ 1109), (0, u "java/lang/Comparable"), (0, .class_ 1111), (0, u "java/lang/constant/Constable"), (0, .class_ 1113), (0, u "java/lang/constant/ConstantDesc"), (2, u "serialVersionUID"), (0, u "J"), (3, u "REPL"), (0, u "C"), (2, u "LATIN1"), (1, u "UTF16")] 323

def k7m0 : Method := { name := "<init>", desc := "()V", sig := { parameters := [], returnType := none }, accessFlags := 1, code := none }
def k7c1 : Code := { maxStack := 5, maxLocals := 2, code := jdk_42_method_3_code, exceptionTable := #[], attributes := #[] }
def k7m1 : Method := { name := "<init>", desc := "([C)V", sig := { parameters := [(.array .char)], returnType := none }, accessFlags := 1, code := some k7c1 }
def k7c2 : Code := { maxStack := 2, maxLocals := 3, code := jdk_42_method_66_code, exceptionTable := #[], attributes := #[] }
def k7m2 : Method := { name := "equals", desc := "(Ljava/lang/Object;)Z", sig := { parameters := [(.object "java/lang/Object")], returnType := some .boolean }, accessFlags := 1, code := some k7c2 }
def k7c3 : Code := { maxStack := 4, maxLocals := 6, code := jdk_42_method_149_code, exceptionTable := #[], attributes := #[] }
def k7m3 : Method := { name := "<init>", desc := "([CIILjava/lang/Void;)V", sig := { parameters := [(.array .char), .int, .int, (.object "java/lang/Void")], returnType := none }, accessFlags := 2, code := some k7c3 }
/-- java/lang/String -/
def k7 : Class := { plain "java/lang/String" (some 0) with
  accessFlags := 49
  interfaces := #[2, 3, 4, 5, 6]
  cf := some (fileOf pool7 10 #[.nestMembers #[1103]] #[{ accessFlags := 1, nameIndex := 5, descriptorIndex := 6, attributes := #[] }, { accessFlags := 1, nameIndex := 5, descriptorIndex := 1010, attributes := #[] }, { accessFlags := 1, nameIndex := 543, descriptorIndex := 573, attributes := #[] }, { accessFlags := 2, nameIndex := 5, descriptorIndex := 29, attributes := #[] }] 49 2 #[1106, 1108, 575, 1110, 1112] #[{ accessFlags := 18, nameIndex := 13, descriptorIndex := 14, attributes := #[] }, { accessFlags := 18, nameIndex := 17, descriptorIndex := 18, attributes := #[] }, { accessFlags := 2, nameIndex := 21, descriptorIndex := 22, attributes := #[] }, { accessFlags := 2, nameIndex := 25, descriptorIndex := 26, attributes := #[] }, { accessFlags := 26, nameIndex := 1116, descriptorIndex := 1117, attributes := #[] }, { accessFlags := 24, nameIndex := 40, descriptorIndex := 26, attributes := #[] }, { accessFlags := 26, nameIndex := 1101, descriptorIndex := 1102, attributes := #[] }, { accessFlags := 26, nameIndex := 1121, descriptorIndex := 1122, attributes := #[] }, { accessFlags := 25, nameIndex := 599, descriptorIndex := 600, attributes := #[] }, { accessFlags := 24, nameIndex := 1125, descriptorIndex := 18, attributes := #[] }, { accessFlags := 24, nameIndex := 1127, descriptorIndex := 18, attributes := #[] }])
  fields := #[{ name := "value", type := (.array .byte), accessFlags := 18, slot := 0, constantValue := 0 }, { name := "coder", type := .byte, accessFlags := 18, slot := 1, constantValue := 0 }, { name := "hash", type := .int, accessFlags := 2, slot := 2, constantValue := 0 }, { name := "hashIsZero", type := .boolean, accessFlags := 2, slot := 3, constantValue := 0 }, { name := "serialVersionUID", type := .long, accessFlags := 26, slot := 0, constantValue := 0 }, { name := "COMPACT_STRINGS", type := .boolean, accessFlags := 24, slot := 1, constantValue := 0 }, { name := "serialPersistentFields", type := (.array (.object "java/io/ObjectStreamField")), accessFlags := 26, slot := 2, constantValue := 0 }, { name := "REPL", type := .char, accessFlags := 26, slot := 3, constantValue := 0 }, { name := "CASE_INSENSITIVE_ORDER", type := (.object "java/util/Comparator"), accessFlags := 25, slot := 4, constantValue := 0 }, { name := "LATIN1", type := .byte, accessFlags := 24, slot := 5, constantValue := 0 }, { name := "UTF16", type := .byte, accessFlags := 24, slot := 6, constantValue := 0 }]
  methods := #[k7m0, k7m1, k7m2, k7m3]
  instanceTypes := #[(.array .byte), .byte, .int, .boolean]
  staticTypes := #[.long, .boolean, (.array (.object "java/io/ObjectStreamField")), .char, (.object "java/util/Comparator"), .byte, .byte]
  resolved := Array.replicate 1451 none
  statics := some 0 }

def pool8 : Array CpInfo := pool [(2, .class_ 4), (1, u "java/lang/Object"), (0, u "<init>"), (0, u "()V"), (1, .class_ 10), (1, u "com/example/vervet/vervet/engine/Rules"), (96, .methodref 108 109), (0, .class_ 110), (0, .nameAndType 111 112), (0, u "java/lang/String"), (0, u "equals"), (0, u "(Ljava/lang/Object;)Z"), (22, u "OUTSIDERS_VIEW"), (0, u "Z"), (51, .class_ 190), (1, u "com/example/vervet/vervet/engine/Rules$Role"), (33, .string 225), (0, u "system"), (30, u "HOLDERS_ONLY"), (0, u "Ljava/util/Set;"), (60, .class_ 320), (1, u "com/example/vervet/vervet/engine/Rules$1"), (158, u "mayJoin"), (0, u "(ZLjava/lang/String;)Z")] 63

def k8m0 : Method := { name := "<init>", desc := "()V", sig := { parameters := [], returnType := none }, accessFlags := 2, code := none }
def k8c1 : Code := { maxStack := 2, maxLocals := 2, code := prog_10_method_34_code, exceptionTable := #[], attributes := #[] }
def k8m1 : Method := { name := "mayJoin", desc := "(ZLjava/lang/String;)Z", sig := { parameters := [.boolean, (.object "java/lang/String")], returnType := some .boolean }, accessFlags := 8, code := some k8c1 }
/-- com/example/vervet/vervet/engine/Rules -/
def k8 : Class := { plain "com/example/vervet/vervet/engine/Rules" (some 0) with
  accessFlags := 48
  interfaces := #[]
  cf := some (fileOf pool8 8 #[.nestMembers #[318, 188]] #[{ accessFlags := 2, nameIndex := 5, descriptorIndex := 6, attributes := #[] }, { accessFlags := 8, nameIndex := 479, descriptorIndex := 480, attributes := #[] }] 48 2 #[] #[{ accessFlags := 26, nameIndex := 256, descriptorIndex := 257, attributes := #[] }, { accessFlags := 26, nameIndex := 135, descriptorIndex := 136, attributes := #[] }])
  fields := #[{ name := "HOLDERS_ONLY", type := (.object "java/util/Set"), accessFlags := 26, slot := 0, constantValue := 0 }, { name := "OUTSIDERS_VIEW", type := .boolean, accessFlags := 26, slot := 1, constantValue := 0 }]
  methods := #[k8m0, k8m1]
  instanceTypes := #[]
  staticTypes := #[(.object "java/util/Set"), .boolean]
  resolved := Array.replicate 544 none
  statics := none }

def pool9 : Array CpInfo := pool [(4, .class_ 6), (1, u "java/lang/Object"), (0, u "<init>"), (0, u "()V"), (5, .class_ 16), (1, u "java/lang/StringLatin1"), (104, u "$assertionsDisabled"), (0, u "Z"), (98, .class_ 223), (1, u "java/lang/StringLatin1$LinesSpliterator"), (57, u "equals"), (0, u "([B[B)Z"), (107, .class_ 391), (0, u "java/lang/StringLatin1$CharsSpliterator")] 3

def k9m0 : Method := { name := "<init>", desc := "()V", sig := { parameters := [], returnType := none }, accessFlags := 0, code := none }
def k9c1 : Code := { maxStack := 3, maxLocals := 3, code := jdk_43_method_13_code, exceptionTable := #[], attributes := #[] }
def k9m1 : Method := { name := "equals", desc := "([B[B)Z", sig := { parameters := [(.array .byte), (.array .byte)], returnType := some .boolean }, accessFlags := 9, code := some k9c1 }
/-- java/lang/StringLatin1 -/
def k9 : Class := { plain "java/lang/StringLatin1" (some 0) with
  accessFlags := 48
  interfaces := #[]
  cf := some (fileOf pool9 14 #[.nestMembers #[390, 221]] #[{ accessFlags := 0, nameIndex := 7, descriptorIndex := 8, attributes := #[] }, { accessFlags := 9, nameIndex := 281, descriptorIndex := 282, attributes := #[] }] 48 4 #[] #[{ accessFlags := 4120, nameIndex := 121, descriptorIndex := 122, attributes := #[] }])
  fields := #[{ name := "$assertionsDisabled", type := .boolean, accessFlags := 4120, slot := 0, constantValue := 0 }]
  methods := #[k9m0, k9m1]
  instanceTypes := #[]
  staticTypes := #[.boolean]
  resolved := Array.replicate 395 none
  statics := none }

def pool10 : Array CpInfo := pool [(6, .class_ 8), (1, u "java/lang/Object"), (0, u "<init>"), (0, u "()V"), (1, .class_ 14), (1, u "java/lang/StringUTF16"), (31, u "$assertionsDisabled"), (0, u "Z"), (13, u "HI_BYTE_SHIFT"), (0, u "I"), (2, u "LO_BYTE_SHIFT"), (49, .methodref 12 116), (0, .nameAndType 117 118), (0, u "compress"), (0, u "([CI[BII)I"), (3, u "([CII)[B"), (138, u "coderFromArrayLen"), (0, u "([BI)B"), (106, .class_ 371), (1, u "java/lang/StringUTF16$LinesSpliterator"), (58, u "MAX_LENGTH"), (196, .class_ 628), (0, u "java/lang/StringUTF16$CodePointsSpliterator"), (0, .class_ 630), (0, u "java/lang/StringUTF16$CharsSpliterator")] 4

def k10m0 : Method := { name := "<init>", desc := "()V", sig := { parameters := [], returnType := none }, accessFlags := 0, code := none }
def k10c1 : Code := { maxStack := 2, maxLocals := 2, code := jdk_52_method_15_code, exceptionTable := #[], attributes := #[] }
def k10m1 : Method := { name := "coderFromArrayLen", desc := "([BI)B", sig := { parameters := [(.array .byte), .int], returnType := some .byte }, accessFlags := 8, code := some k10c1 }
def k10c2 : Code := { maxStack := 5, maxLocals := 6, code := jdk_52_method_16_code, exceptionTable := #[], attributes := #[] }
def k10m2 : Method := { name := "compress", desc := "([CII)[B", sig := { parameters := [(.array .char), .int, .int], returnType := some (.array .byte) }, accessFlags := 9, code := some k10c2 }
def k10c3 : Code := { maxStack := 3, maxLocals := 7, code := jdk_52_method_21_code, exceptionTable := #[], attributes := #[] }
def k10m3 : Method := { name := "compress", desc := "([CI[BII)I", sig := { parameters := [(.array .char), .int, (.array .byte), .int, .int], returnType := some .int }, accessFlags := 9, code := some k10c3 }
/-- java/lang/StringUTF16 -/
def k10 : Class := { plain "java/lang/StringUTF16" (some 0) with
  accessFlags := 48
  interfaces := #[]
  cf := some (fileOf pool10 12 #[.nestMembers #[627, 629, 369]] #[{ accessFlags := 0, nameIndex := 9, descriptorIndex := 10, attributes := #[] }, { accessFlags := 8, nameIndex := 261, descriptorIndex := 262, attributes := #[] }, { accessFlags := 9, nameIndex := 117, descriptorIndex := 122, attributes := #[] }, { accessFlags := 9, nameIndex := 117, descriptorIndex := 118, attributes := #[] }] 48 6 #[] #[{ accessFlags := 26, nameIndex := 61, descriptorIndex := 62, attributes := #[] }, { accessFlags := 26, nameIndex := 65, descriptorIndex := 62, attributes := #[] }, { accessFlags := 24, nameIndex := 430, descriptorIndex := 62, attributes := #[] }, { accessFlags := 4120, nameIndex := 46, descriptorIndex := 47, attributes := #[] }])
  fields := #[{ name := "HI_BYTE_SHIFT", type := .int, accessFlags := 26, slot := 0, constantValue := 0 }, { name := "LO_BYTE_SHIFT", type := .int, accessFlags := 26, slot := 1, constantValue := 0 }, { name := "MAX_LENGTH", type := .int, accessFlags := 24, slot := 2, constantValue := 0 }, { name := "$assertionsDisabled", type := .boolean, accessFlags := 4120, slot := 3, constantValue := 0 }]
  methods := #[k10m0, k10m1, k10m2, k10m3]
  instanceTypes := #[]
  staticTypes := #[.int, .int, .int, .boolean]
  resolved := Array.replicate 635 none
  statics := none }

def pool11 : Array CpInfo := pool [(2, .class_ 4), (1, u "java/lang/Object"), (0, u "<init>"), (0, u "()V"), (17, .class_ 26), (1, u "jdk/internal/util/Preconditions"), (28, .class_ 56), (0, u "jdk/internal/util/Preconditions$4"), (57, .class_ 115), (0, u "jdk/internal/util/Preconditions$1"), (7, u "SIOOBE_FORMATTER"), (0, u "Ljava/util/function/BiFunction;"), (0, .class_ 126), (0, u "jdk/internal/util/Preconditions$2"), (3, u "AIOOBE_FORMATTER"), (0, .class_ 132), (0, u "jdk/internal/util/Preconditions$3"), (3, u "IOOBE_FORMATTER")] 57

def k11m0 : Method := { name := "<init>", desc := "()V", sig := { parameters := [], returnType := none }, accessFlags := 1, code := none }
/-- jdk/internal/util/Preconditions -/
def k11 : Class := { plain "jdk/internal/util/Preconditions" (some 0) with
  accessFlags := 33
  interfaces := #[]
  cf := some (fileOf pool11 24 #[.nestMembers #[55, 131, 125, 114]] #[{ accessFlags := 1, nameIndex := 5, descriptorIndex := 6, attributes := #[] }] 33 2 #[] #[{ accessFlags := 25, nameIndex := 123, descriptorIndex := 124, attributes := #[] }, { accessFlags := 25, nameIndex := 130, descriptorIndex := 124, attributes := #[] }, { accessFlags := 25, nameIndex := 136, descriptorIndex := 124, attributes := #[] }])
  fields := #[{ name := "SIOOBE_FORMATTER", type := (.object "java/util/function/BiFunction"), accessFlags := 25, slot := 0, constantValue := 0 }, { name := "AIOOBE_FORMATTER", type := (.object "java/util/function/BiFunction"), accessFlags := 25, slot := 1, constantValue := 0 }, { name := "IOOBE_FORMATTER", type := (.object "java/util/function/BiFunction"), accessFlags := 25, slot := 2, constantValue := 0 }]
  methods := #[k11m0]
  instanceTypes := #[]
  staticTypes := #[(.object "java/util/function/BiFunction"), (.object "java/util/function/BiFunction"), (.object "java/util/function/BiFunction")]
  resolved := Array.replicate 194 none
  statics := some 1 }

def pool12 : Array CpInfo := pool [(9, u "<init>"), (6, .class_ 18), (1, u "java/lang/Object"), (0, u "()V"), (1, .class_ 23), (1, u "jdk/internal/util/ArraysSupport"), (0, u "LOG2_ARRAY_LONG_INDEX_SCALE"), (0, u "I"), (2, u "U"), (0, u "Ljdk/internal/misc/Unsafe;"), (8, u "BIG_ENDIAN"), (0, u "Z"), (8, u "LOG2_BYTE_BIT_SIZE"), (4, u "LOG2_ARRAY_INT_INDEX_SCALE"), (54, u "JLA"), (0, u "Ljdk/internal/access/JavaLangAccess;"), (11, u "LOG2_ARRAY_BOOLEAN_INDEX_SCALE"), (9, u "LOG2_ARRAY_BYTE_INDEX_SCALE"), (5, u "LOG2_ARRAY_CHAR_INDEX_SCALE"), (5, u "LOG2_ARRAY_SHORT_INDEX_SCALE"), (18, u "LOG2_ARRAY_FLOAT_INDEX_SCALE"), (24, u "LOG2_ARRAY_DOUBLE_INDEX_SCALE"), (89, u "T_BOOLEAN"), (2, u "T_CHAR"), (1, u "T_FLOAT"), (1, u "T_DOUBLE"), (1, u "T_BYTE"), (1, u "T_SHORT"), (1, u "T_INT"), (1, u "T_LONG"), (1, u "SOFT_MAX_ARRAY_LENGTH")] 83

def k12m0 : Method := { name := "<init>", desc := "()V", sig := { parameters := [], returnType := none }, accessFlags := 2, code := none }
/-- jdk/internal/util/ArraysSupport -/
def k12 : Class := { plain "jdk/internal/util/ArraysSupport" (some 0) with
  accessFlags := 33
  interfaces := #[]
  cf := some (fileOf pool12 21 #[] #[{ accessFlags := 2, nameIndex := 9, descriptorIndex := 19, attributes := #[] }] 33 16 #[] #[{ accessFlags := 24, nameIndex := 28, descriptorIndex := 29, attributes := #[] }, { accessFlags := 26, nameIndex := 38, descriptorIndex := 39, attributes := #[] }, { accessFlags := 25, nameIndex := 121, descriptorIndex := 25, attributes := #[] }, { accessFlags := 25, nameIndex := 131, descriptorIndex := 25, attributes := #[] }, { accessFlags := 25, nameIndex := 137, descriptorIndex := 25, attributes := #[] }, { accessFlags := 25, nameIndex := 143, descriptorIndex := 25, attributes := #[] }, { accessFlags := 25, nameIndex := 53, descriptorIndex := 25, attributes := #[] }, { accessFlags := 25, nameIndex := 24, descriptorIndex := 25, attributes := #[] }, { accessFlags := 25, nameIndex := 162, descriptorIndex := 25, attributes := #[] }, { accessFlags := 25, nameIndex := 187, descriptorIndex := 25, attributes := #[] }, { accessFlags := 26, nameIndex := 48, descriptorIndex := 25, attributes := #[] }, { accessFlags := 25, nameIndex := 277, descriptorIndex := 25, attributes := #[] }, { accessFlags := 25, nameIndex := 280, descriptorIndex := 25, attributes := #[] }, { accessFlags := 25, nameIndex := 282, descriptorIndex := 25, attributes := #[] }, { accessFlags := 25, nameIndex := 284, descriptorIndex := 25, attributes := #[] }, { accessFlags := 25, nameIndex := 286, descriptorIndex := 25, attributes := #[] }, { accessFlags := 25, nameIndex := 288, descriptorIndex := 25, attributes := #[] }, { accessFlags := 25, nameIndex := 290, descriptorIndex := 25, attributes := #[] }, { accessFlags := 25, nameIndex := 292, descriptorIndex := 25, attributes := #[] }, { accessFlags := 26, nameIndex := 108, descriptorIndex := 109, attributes := #[] }, { accessFlags := 25, nameIndex := 294, descriptorIndex := 25, attributes := #[] }])
  fields := #[{ name := "U", type := (.object "jdk/internal/misc/Unsafe"), accessFlags := 24, slot := 0, constantValue := 0 }, { name := "BIG_ENDIAN", type := .boolean, accessFlags := 26, slot := 1, constantValue := 0 }, { name := "LOG2_ARRAY_BOOLEAN_INDEX_SCALE", type := .int, accessFlags := 25, slot := 2, constantValue := 0 }, { name := "LOG2_ARRAY_BYTE_INDEX_SCALE", type := .int, accessFlags := 25, slot := 3, constantValue := 0 }, { name := "LOG2_ARRAY_CHAR_INDEX_SCALE", type := .int, accessFlags := 25, slot := 4, constantValue := 0 }, { name := "LOG2_ARRAY_SHORT_INDEX_SCALE", type := .int, accessFlags := 25, slot := 5, constantValue := 0 }, { name := "LOG2_ARRAY_INT_INDEX_SCALE", type := .int, accessFlags := 25, slot := 6, constantValue := 0 }, { name := "LOG2_ARRAY_LONG_INDEX_SCALE", type := .int, accessFlags := 25, slot := 7, constantValue := 0 }, { name := "LOG2_ARRAY_FLOAT_INDEX_SCALE", type := .int, accessFlags := 25, slot := 8, constantValue := 0 }, { name := "LOG2_ARRAY_DOUBLE_INDEX_SCALE", type := .int, accessFlags := 25, slot := 9, constantValue := 0 }, { name := "LOG2_BYTE_BIT_SIZE", type := .int, accessFlags := 26, slot := 10, constantValue := 0 }, { name := "T_BOOLEAN", type := .int, accessFlags := 25, slot := 11, constantValue := 0 }, { name := "T_CHAR", type := .int, accessFlags := 25, slot := 12, constantValue := 0 }, { name := "T_FLOAT", type := .int, accessFlags := 25, slot := 13, constantValue := 0 }, { name := "T_DOUBLE", type := .int, accessFlags := 25, slot := 14, constantValue := 0 }, { name := "T_BYTE", type := .int, accessFlags := 25, slot := 15, constantValue := 0 }, { name := "T_SHORT", type := .int, accessFlags := 25, slot := 16, constantValue := 0 }, { name := "T_INT", type := .int, accessFlags := 25, slot := 17, constantValue := 0 }, { name := "T_LONG", type := .int, accessFlags := 25, slot := 18, constantValue := 0 }, { name := "JLA", type := (.object "jdk/internal/access/JavaLangAccess"), accessFlags := 26, slot := 19, constantValue := 0 }, { name := "SOFT_MAX_ARRAY_LENGTH", type := .int, accessFlags := 25, slot := 20, constantValue := 0 }]
  methods := #[k12m0]
  instanceTypes := #[]
  staticTypes := #[(.object "jdk/internal/misc/Unsafe"), .boolean, .int, .int, .int, .int, .int, .int, .int, .int, .int, .int, .int, .int, .int, .int, .int, .int, .int, (.object "jdk/internal/access/JavaLangAccess"), .int]
  resolved := Array.replicate 378 none
  statics := none }

def pool13 : Array CpInfo := pool [(1, u "java/lang/Cloneable"), (0, .class_ 1), (0, u "java/lang/Object"), (0, .class_ 3)] 3

/-- java/lang/Cloneable -/
def k13 : Class := { plain "java/lang/Cloneable" (some 0) with
  accessFlags := 1537
  interfaces := #[]
  cf := some (fileOf pool13 2 #[] #[] 1537 4 #[] #[])
  fields := #[]
  methods := #[]
  instanceTypes := #[]
  staticTypes := #[]
  resolved := Array.replicate 8 none
  statics := none }

/-- the primitive byte -/
def k14 : Class := { plain "byte" none with kind := .primitive 'B', accessFlags := 0x411 }
/-- [B -/
def k15 : Class := { plain "[B" (some 0) with kind := .array 14 .byte, interfaces := #[13, 2], accessFlags := 1041 }

/-- the primitive char -/
def k16 : Class := { plain "char" none with kind := .primitive 'C', accessFlags := 0x411 }
/-- [C -/
def k17 : Class := { plain "[C" (some 0) with kind := .array 16 .char, interfaces := #[13, 2], accessFlags := 1041 }

/-- the primitive int -/
def k18 : Class := { plain "int" none with kind := .primitive 'I', accessFlags := 0x411 }
/-- [I -/
def k19 : Class := { plain "[I" (some 0) with kind := .array 18 .int, interfaces := #[13, 2], accessFlags := 1041 }

def heap : Heap := #[{ cls := 7, slots := #[.long 0, .int 1, .null, .int 0, .null, .int 0, .int 0], vm := .statics 7 },
  { cls := 11, slots := #[.null, .null, .null], vm := .statics 11 }]
def classes : Array Class := #[k0, k1, k2, k3, k4, k5, k6, k7, k8, k9, k10, k11, k12, k13, k14, k15, k16, k17, k18, k19]
def interned : List (Array UInt16 × Addr) := []
def slotsUsed : Nat := 10
def theMethod : MethodId := ⟨1, 3⟩
def args0 : Array Value := #[.int 1, .long 2]
def aboutOver (below : List Frame) : State where
  vm := { classes := classes, interned := interned.toArray }
  heap := heap
  slotsUsed := slotsUsed
  threads := #[{ frames := .invoking theMethod args0 :: below }]
def below0 : List Frame := [.native { method := ⟨0, 0⟩, args := #[] }]
def about1 : State := aboutOver below0
def p0 : Program := .bare "" "" ""
def e0 : Env := launch0.env 0 0 0
theorem w_frames : about1.frames = Frame.invoking theMethod args0 :: below0 := rfl
set_option maxRecDepth 65536 in
theorem w_args : argsFit about1.vm theMethod args0 = true := by decide +kernel
set_option maxRecDepth 65536 in
theorem w_heap : heapFits about1 = true := by decide +kernel
set_option maxRecDepth 65536 in
theorem w_runnable : about1.curStatus? = some .runnable := by decide +kernel
set_option maxRecDepth 65536 in
theorem w_alone : about1.alone = true := by decide +kernel
set_option maxRecDepth 65536 in
theorem w_named : about1.methodNamed? x = some theMethod := by decide +kernel
set_option maxRecDepth 65536 in
theorem w_hears : about1.hears theMethod below0 = true := by decide +kernel
set_option maxRecDepth 65536 in
theorem w_ripe : about1.ripe theMethod args0 below0 = true := by decide +kernel
theorem w_running : about1.status = .running := rfl
set_option maxRecDepth 65536 in
theorem w_room : about1.hasRoom e0.platform room_1 = true :=
  launch0.hasRoom_least _ room_1 (by decide +kernel) (by decide +kernel) (by decide +kernel) (by decide +kernel) (by decide +kernel) (by decide +kernel)
theorem allAtoms_all (ts : List Jvm.Cond) (a : Array Jvm.Value) (st : Jvm.State) : (allAtoms ts).before a st = ts.all (fun c => c.before a st) := by
  induction ts with
  | nil => rfl
  | cons c t ih =>
    show (Jvm.Cond.and c (allAtoms t)).before a st = _
    rw [Jvm.Cond.before_and, ih, List.all_cons]
def words1 : List Jvm.Cond := Jvm.Cond.code x code maxLocals ret :: tables_1
/-- a 'code' word, met by the world's own term for the bytes: nothing is compared byte by byte -/
theorem code_word {y : MethodName} {bytes : ByteArray} {mx : Nat} {rt : Option FieldType} {a : Array Value} {s : State} {m : MethodId} {meth : Method} {c : Code} (h1 : s.methodNamed? y = some m) (h2 : s.vm.method? m = some meth) (h3 : meth.code = some c) (h4 : c.code = bytes)
    (h5 : (c.maxLocals == mx && c.exceptionTable.isEmpty && decide (c.maxStack ≤ mostOperands) && decide (meth.sig.returnType = rt) && !meth.locks && decide (parseMethodDescriptor y.desc = some meth.sig)) = true) : (Jvm.Cond.code y bytes mx rt).before a s = true := by
  simp only [Bool.and_eq_true, beq_iff_eq, Bool.not_eq_true', decide_eq_true_eq] at h5
  obtain ⟨⟨⟨⟨⟨g1, g2⟩, g3⟩, g4⟩, g5⟩, g6⟩ := h5
  simp [Cond.before, Cond.holds, Cond.value, h1, h2, h3, h4, g1, g2, g3, g4, g5, g6]
def isCode : Jvm.Cond → Bool
  | .code _ _ _ _ => true
  | _ => false
theorem all_split {L : List Jvm.Cond} {P : Jvm.Cond → Bool} (h1 : L.all (fun c => isCode c || P c) = true) (h2 : ∀ c ∈ L.filter isCode, P c = true) : L.all P = true := by
  refine List.all_eq_true.mpr fun c hc => ?_
  have h := List.all_eq_true.mp h1 c hc
  rcases Bool.eq_false_or_eq_true (isCode c) with hi | hi
  · exact h2 c (List.mem_filter.mpr ⟨hc, hi⟩)
  · simpa [hi] using h
set_option maxRecDepth 65536 in
theorem w_c0 : (Jvm.Cond.code x code maxLocals ret).before args0 about1 = true := code_word (m := ⟨1, 3⟩) (meth := k1m3) (c := k1c3) (by decide +kernel) rfl rfl rfl (by decide +kernel)
set_option maxRecDepth 65536 in
theorem w_c1 : (Jvm.Cond.code ({ cls := "com/example/vervet/vervet/engine/RulesMayJoinPinLaw", name := "at", desc := "(JII)C" } : Jvm.MethodName) method_2_code (4 : Nat) (Option.some Jvm.ClassFile.FieldType.char)).before args0 about1 = true := code_word (m := ⟨1, 1⟩) (meth := k1m1) (c := k1c1) (by decide +kernel) rfl rfl rfl (by decide +kernel)
set_option maxRecDepth 65536 in
theorem w_c2 : (Jvm.Cond.code ({ cls := "com/example/vervet/vervet/engine/RulesMayJoinPinLaw", name := "make", desc := "(I[C)Ljava/lang/String;" } : Jvm.MethodName) method_3_code (2 : Nat) (Option.some (Jvm.ClassFile.FieldType.object "java/lang/String"))).before args0 about1 = true := code_word (m := ⟨1, 2⟩) (meth := k1m2) (c := k1c2) (by decide +kernel) rfl rfl rfl (by decide +kernel)
set_option maxRecDepth 65536 in
theorem w_c3 : (Jvm.Cond.code ({ cls := "java/lang/String", name := "<init>", desc := "([C)V" } : Jvm.MethodName) jdk_42_method_3_code (2 : Nat) (Option.none : Option Jvm.ClassFile.FieldType)).before args0 about1 = true := code_word (m := ⟨7, 1⟩) (meth := k7m1) (c := k7c1) (by decide +kernel) rfl rfl rfl (by decide +kernel)
set_option maxRecDepth 65536 in
theorem w_c4 : (Jvm.Cond.code ({ cls := "java/lang/String", name := "<init>", desc := "([CIILjava/lang/Void;)V" } : Jvm.MethodName) jdk_42_method_149_code (6 : Nat) (Option.none : Option Jvm.ClassFile.FieldType)).before args0 about1 = true := code_word (m := ⟨7, 3⟩) (meth := k7m3) (c := k7c3) (by decide +kernel) rfl rfl rfl (by decide +kernel)
set_option maxRecDepth 65536 in
theorem w_c5 : (Jvm.Cond.code ({ cls := "java/lang/Object", name := "<init>", desc := "()V" } : Jvm.MethodName) object_method_1_code (1 : Nat) (Option.none : Option Jvm.ClassFile.FieldType)).before args0 about1 = true := code_word (m := ⟨0, 0⟩) (meth := k0m0) (c := k0c0) (by decide +kernel) rfl rfl rfl (by decide +kernel)
set_option maxRecDepth 65536 in
theorem w_c6 : (Jvm.Cond.code ({ cls := "com/example/vervet/vervet/engine/Rules", name := "mayJoin", desc := "(ZLjava/lang/String;)Z" } : Jvm.MethodName) prog_10_method_34_code (2 : Nat) (Option.some Jvm.ClassFile.FieldType.boolean)).before args0 about1 = true := code_word (m := ⟨8, 1⟩) (meth := k8m1) (c := k8c1) (by decide +kernel) rfl rfl rfl (by decide +kernel)
set_option maxRecDepth 65536 in
theorem w_c7 : (Jvm.Cond.code ({ cls := "java/lang/String", name := "equals", desc := "(Ljava/lang/Object;)Z" } : Jvm.MethodName) jdk_42_method_66_code (3 : Nat) (Option.some Jvm.ClassFile.FieldType.boolean)).before args0 about1 = true := code_word (m := ⟨7, 2⟩) (meth := k7m2) (c := k7c2) (by decide +kernel) rfl rfl rfl (by decide +kernel)
set_option maxRecDepth 65536 in
theorem w_c8 : (Jvm.Cond.code ({ cls := "java/lang/StringLatin1", name := "equals", desc := "([B[B)Z" } : Jvm.MethodName) jdk_43_method_13_code (3 : Nat) (Option.some Jvm.ClassFile.FieldType.boolean)).before args0 about1 = true := code_word (m := ⟨9, 1⟩) (meth := k9m1) (c := k9c1) (by decide +kernel) rfl rfl rfl (by decide +kernel)
set_option maxRecDepth 65536 in
theorem w_c9 : (Jvm.Cond.code ({ cls := "java/lang/StringUTF16", name := "compress", desc := "([CII)[B" } : Jvm.MethodName) jdk_52_method_16_code (6 : Nat) (Option.some (Jvm.ClassFile.FieldType.array Jvm.ClassFile.FieldType.byte))).before args0 about1 = true := code_word (m := ⟨10, 2⟩) (meth := k10m2) (c := k10c2) (by decide +kernel) rfl rfl rfl (by decide +kernel)
set_option maxRecDepth 65536 in
theorem w_c10 : (Jvm.Cond.code ({ cls := "java/lang/StringUTF16", name := "compress", desc := "([CI[BII)I" } : Jvm.MethodName) jdk_52_method_21_code (7 : Nat) (Option.some Jvm.ClassFile.FieldType.int)).before args0 about1 = true := code_word (m := ⟨10, 3⟩) (meth := k10m3) (c := k10c3) (by decide +kernel) rfl rfl rfl (by decide +kernel)
set_option maxRecDepth 65536 in
theorem w_c11 : (Jvm.Cond.code ({ cls := "java/lang/StringUTF16", name := "coderFromArrayLen", desc := "([BI)B" } : Jvm.MethodName) jdk_52_method_15_code (2 : Nat) (Option.some Jvm.ClassFile.FieldType.byte)).before args0 about1 = true := code_word (m := ⟨10, 1⟩) (meth := k10m1) (c := k10c1) (by decide +kernel) rfl rfl rfl (by decide +kernel)
def codes1 : List Jvm.Cond := [Jvm.Cond.code x code maxLocals ret, Jvm.Cond.code ({ cls := "com/example/vervet/vervet/engine/RulesMayJoinPinLaw", name := "at", desc := "(JII)C" } : Jvm.MethodName) method_2_code (4 : Nat) (Option.some Jvm.ClassFile.FieldType.char), Jvm.Cond.code ({ cls := "com/example/vervet/vervet/engine/RulesMayJoinPinLaw", name := "make", desc := "(I[C)Ljava/lang/String;" } : Jvm.MethodName) method_3_code (2 : Nat) (Option.some (Jvm.ClassFile.FieldType.object "java/lang/String")), Jvm.Cond.code ({ cls := "java/lang/String", name := "<init>", desc := "([C)V" } : Jvm.MethodName) jdk_42_method_3_code (2 : Nat) (Option.none : Option Jvm.ClassFile.FieldType), Jvm.Cond.code ({ cls := "java/lang/String", name := "<init>", desc := "([CIILjava/lang/Void;)V" } : Jvm.MethodName) jdk_42_method_149_code (6 : Nat) (Option.none : Option Jvm.ClassFile.FieldType), Jvm.Cond.code ({ cls := "java/lang/Object", name := "<init>", desc := "()V" } : Jvm.MethodName) object_method_1_code (1 : Nat) (Option.none : Option Jvm.ClassFile.FieldType), Jvm.Cond.code ({ cls := "com/example/vervet/vervet/engine/Rules", name := "mayJoin", desc := "(ZLjava/lang/String;)Z" } : Jvm.MethodName) prog_10_method_34_code (2 : Nat) (Option.some Jvm.ClassFile.FieldType.boolean), Jvm.Cond.code ({ cls := "java/lang/String", name := "equals", desc := "(Ljava/lang/Object;)Z" } : Jvm.MethodName) jdk_42_method_66_code (3 : Nat) (Option.some Jvm.ClassFile.FieldType.boolean), Jvm.Cond.code ({ cls := "java/lang/StringLatin1", name := "equals", desc := "([B[B)Z" } : Jvm.MethodName) jdk_43_method_13_code (3 : Nat) (Option.some Jvm.ClassFile.FieldType.boolean), Jvm.Cond.code ({ cls := "java/lang/StringUTF16", name := "compress", desc := "([CII)[B" } : Jvm.MethodName) jdk_52_method_16_code (6 : Nat) (Option.some (Jvm.ClassFile.FieldType.array Jvm.ClassFile.FieldType.byte)), Jvm.Cond.code ({ cls := "java/lang/StringUTF16", name := "compress", desc := "([CI[BII)I" } : Jvm.MethodName) jdk_52_method_21_code (7 : Nat) (Option.some Jvm.ClassFile.FieldType.int), Jvm.Cond.code ({ cls := "java/lang/StringUTF16", name := "coderFromArrayLen", desc := "([BI)B" } : Jvm.MethodName) jdk_52_method_15_code (2 : Nat) (Option.some Jvm.ClassFile.FieldType.byte)]
set_option maxRecDepth 65536 in
theorem codes_eq : words1.filter isCode = codes1 := rfl
theorem w_codes : ∀ c ∈ words1.filter isCode, c.before args0 about1 = true := by
  rw [codes_eq]
  intro c hc
  simp only [codes1, List.mem_cons, List.not_mem_nil, or_false] at hc
  rcases hc with rfl | rfl | rfl | rfl | rfl | rfl | rfl | rfl | rfl | rfl | rfl | rfl
  · exact w_c0
  · exact w_c1
  · exact w_c2
  · exact w_c3
  · exact w_c4
  · exact w_c5
  · exact w_c6
  · exact w_c7
  · exact w_c8
  · exact w_c9
  · exact w_c10
  · exact w_c11
set_option maxRecDepth 65536 in
theorem w_t1 : (words1.take 24).all (fun c => isCode c || c.before args0 about1) = true := by decide +kernel
set_option maxRecDepth 65536 in
theorem w_t2 : ((words1.drop 24).take 24).all (fun c => isCode c || c.before args0 about1) = true := by decide +kernel
set_option maxRecDepth 65536 in
theorem w_t3 : ((words1.drop 24).drop 24).all (fun c => isCode c || c.before args0 about1) = true := by decide +kernel
theorem w_tables : (allAtoms (Jvm.Cond.code x code maxLocals ret :: tables_1)).before args0 about1 = true := by
  rw [allAtoms_all]
  show words1.all (fun c => c.before args0 about1) = true
  refine all_split ?_ w_codes
  rw [← List.take_append_drop 24 words1, List.all_append, w_t1, ← List.take_append_drop 24 (words1.drop 24), List.all_append, w_t2, w_t3]
  rfl
set_option maxRecDepth 65536 in
theorem w_rest : rest_1_c.before args0 about1 = true := by decide +kernel
set_option maxRecDepth 65536 in
theorem w_case : (Jvm.Cond.and given_1 narrow_1).before args0 about1 = true := by decide +kernel
set_option maxRecDepth 65536 in
theorem w_consts : constsHeld consts_1 about1 := Jvm.Lit.constsHeldB_iff.mp (by decide +kernel)
theorem w_applies : (headSpec (Jvm.Cond.code x code maxLocals ret :: tables_1) room_1).applies x e0.platform about1 = true :=
  (Spec.applies_iff w_frames).mpr ⟨w_running, w_runnable, w_alone, w_named, w_hears, w_ripe, w_room, w_tables⟩
theorem atStart : AtStart classFile x code maxLocals ret World_1 tables_1 room_1 Calls_1 rest_1 Pre_1 launch0 p0 e0 about1 theMethod args0 below0 :=
  ⟨lists_1, trivial, launch0.admits_env _ _ _, launch0.least_env, fairChoices_fair.cas, fairChoices_fair.clock, w_frames, w_args, w_heap, w_applies, ⟨w_consts, trivial⟩, w_rest, w_case⟩
end start1
theorem witness_1 : WitnessClaimed_1 := ⟨start1.p0, start1.e0, start1.about1, start1.theMethod, start1.args0, start1.below0, start1.atStart⟩
end Jvm.Pilot.@@N@@
