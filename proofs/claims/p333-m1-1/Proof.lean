import JvmDerived
import JvmDerived.Pilot.@@N@@Statement
import JvmDerived.Pilot.@@N@@Code
set_option linter.unusedVariables false
set_option linter.unusedSimpArgs false
namespace Jvm.RoadKit
open Sem ClassFile Op Lib Jvm.Stand Jvm.Free Jvm.LawKit
section New
variable {p : Program} {l : Launch} {e : Env} {R : Room} {s : State} {m : MethodId} {args : Array Value} {below : List Frame} {meth : Method} {c : Code} {T : State} {locs : List Loc} {cells slots : Nat}
theorem retI (X : Stand p l e R s m args below meth c T locs cells slots) (hx : p.tables.exec = Jvm.exec) {pc : Nat} {Ls : Array Slot} {z : Int32} {rest : List Value} (hret : meth.sig.returnType = some .int) (hd : decode c.code pc = .ok (.ireturn, 1)) {fs : List Frame}
    (hl : ∀ (f : JFrame) (acts : List Action), f.method = m → f.locked = none → f.entered = [] → (doReturn e (T.setTop f) acts (some (.int z))).1 = T.setFrames fs) : Steps p.tables e below (T.setTop (mkF m pc Ls (.int z :: rest))) (T.setFrames fs) :=
  retOut X hx hret rfl (Or.inl ⟨rfl, Or.inl rfl, _, rfl⟩) hd hl
theorem fitsRef {C : String} {v : Value} (h : v.isRef = true) : fits (.object C) v = true := by
  rcases ref_cases h with rfl | ⟨_, rfl⟩ <;> rfl
end New
end Jvm.RoadKit

/- laws to paste: Road.backV (cut by pick.py; bodies as the Statement names them) -/
namespace Jvm.Pilot.@@N@@
namespace StrChars
open Jvm Sem ClassFile Op Lib Jvm.Stand Jvm.Free.XT Jvm.Free.ALB Jvm.Free.JM Jvm.Free
open Jvm.Lib.Cold (StaticIs)
/-- a char array whose places are chars -/
def Ch (a : Addr) (A : Cell) (U : State) : Prop := Arr .char a A U ∧ Typed .char A
theorem Ch.mv {a : Addr} {A : Cell} {U U' : State} (h : Ch a A U) (hal : U.vm.Alike U'.vm) (hh : U'.heap = U.heap) : Ch a A U' := ⟨h.1.mv hal hh, h.2⟩
theorem Ch.keep {a : Addr} {A : Cell} {U U' : State} (h : Ch a A U) (hal : U.vm.Alike U'.vm) (hk : U'.heap[a]? = some A) : Ch a A U' := ⟨h.1.keep hal hk, h.2⟩
/-- what place i of a char[]'s cell holds -/
def cv (A : Cell) (i : Nat) : Int32 := match A.slots[i]? with | some (.int x) => x | _ => 0
theorem Ch.get {a : Addr} {A : Cell} {U : State} (h : Ch a A U) {i : Nat} (hi : i < A.slots.size) : A.slots[i]? = some (.int (cv A i)) := by
  have e := Array.getElem?_eq_getElem hi
  have f := h.2 i _ e
  unfold cv; rw [e]
  generalize A.slots[i] = v at f
  cases v <;> simp [fits] at f ⊢
/-- the byte that i2b leaves of a char -/
def lo8 (x : Int32) : Int32 := x.toInt8.toInt32
theorem fits_lo8 (y : Int32) : fits .byte (.int (lo8 y)) = true := by
  have h1 := y.toInt8.le_toInt
  have h2 := y.toInt8.toInt_lt
  simp only [lo8, fits, Bool.and_eq_true, decide_eq_true_eq, Int32.le_iff_toInt_le, Int8.toInt_toInt32, show (-128 : Int32).toInt = -128 from by decide, show (127 : Int32).toInt = 127 from by decide]
  omega
/-- A' is A but that each place j of lo .. hi - 1 holds f j -/
def Laid (A A' : Cell) (lo hi : Nat) (f : Nat → Value) : Prop := A'.cls = A.cls ∧ A'.vm = A.vm ∧ A'.slots.size = A.slots.size ∧ ∀ i, A'.slots[i]? = if lo ≤ i ∧ i < hi then some (f i) else A.slots[i]?
theorem Laid.zero (A : Cell) (lo : Nat) (f : Nat → Value) : Laid A A lo (lo + 0) f := ⟨rfl, rfl, rfl, fun i => by rw [if_neg (by omega)]⟩
theorem Laid.step {A Ak : Cell} {lo k : Nat} {f : Nat → Value} {v : Value} (h : Laid A Ak lo k f) (hlo : lo ≤ k) (hk : k < Ak.slots.size) (hv : v = f k) : Laid A (Ak.setSlot k v) lo (k + 1) f := by
  refine ⟨h.1, h.2.1, by simpa [Cell.setSlot] using h.2.2.1, fun i => ?_⟩
  by_cases e : k = i
  · subst e; rw [Cell.slots_setSlot_self v hk, if_pos (by omega), hv]
  · rw [Cell.slots_setSlot_ne v e, h.2.2.2 i]
    by_cases q : lo ≤ i ∧ i < k
    · rw [if_pos q, if_pos (by omega)]
    · rw [if_neg q, if_neg (by omega)]
def U16 : String := "java/lang/StringUTF16"
namespace Cmp5
def yN : MethodName := ⟨"java/lang/StringUTF16", "compress", "([CI[BII)I"⟩
abbrev yB : ByteArray := jdk_52_method_21_code
theorem d0 : decode yB 0 = .ok (.iconst 0, 1) := by decide +kernel
theorem d1 : decode yB 1 = .ok (.istore 5, 2) := by decide +kernel
theorem d3 : decode yB 3 = .ok (.iload 5, 2) := by decide +kernel
theorem d5 : decode yB 5 = .ok (.iload 4, 2) := by decide +kernel
theorem d7 : decode yB 7 = .ok (.if_icmp (.ge) 37, 3) := by decide +kernel
theorem d10 : decode yB 10 = .ok (.aload_n 0, 1) := by decide +kernel
theorem d11 : decode yB 11 = .ok (.iload_n 1, 1) := by decide +kernel
theorem d12 : decode yB 12 = .ok (.caload, 1) := by decide +kernel
theorem d13 : decode yB 13 = .ok (.istore 6, 2) := by decide +kernel
theorem d15 : decode yB 15 = .ok (.iload 6, 2) := by decide +kernel
theorem d17 : decode yB 17 = .ok (.sipush 255, 3) := by decide +kernel
theorem d20 : decode yB 20 = .ok (.if_icmp (.le) 6, 3) := by decide +kernel
theorem d26 : decode yB 26 = .ok (.aload_n 2, 1) := by decide +kernel
theorem d27 : decode yB 27 = .ok (.iload_n 3, 1) := by decide +kernel
theorem d28 : decode yB 28 = .ok (.iload 6, 2) := by decide +kernel
theorem d30 : decode yB 30 = .ok (.i2b, 1) := by decide +kernel
theorem d31 : decode yB 31 = .ok (.bastore, 1) := by decide +kernel
theorem d32 : decode yB 32 = .ok (.iinc 1 1, 3) := by decide +kernel
theorem d35 : decode yB 35 = .ok (.iinc 3 1, 3) := by decide +kernel
theorem d38 : decode yB 38 = .ok (.iinc 5 1, 3) := by decide +kernel
theorem d41 : decode yB 41 = .ok (.goto (-38), 3) := by decide +kernel
theorem d44 : decode yB 44 = .ok (.iload 4, 2) := by decide +kernel
theorem d46 : decode yB 46 = .ok (.ireturn, 1) := by decide +kernel
def site : List Cond := []
def tab : Cond := tabOf yN yB 7 (some .int) site
def P (b : Addr) (A : Cell) (d : Addr) (B : Cell) (o q len : Nat) (args : Array Value) (s : State) : Prop := args = #[.ref b, .int (Int32.ofNat o), .ref d, .int (Int32.ofNat q), .int (Int32.ofNat len)] ∧ Ch b A s ∧ Arr .byte d B s ∧ b ≠ d ∧ o + len ≤ A.slots.size ∧ q + len ≤ B.slots.size ∧ ∀ i, i < len → ¬ 255 < cv A (o + i)
def E (b : Addr) (A : Cell) (d : Addr) (B : Cell) (o q len : Nat) (r : Option Value) (s u : State) : Prop := r = some (.int (Int32.ofNat len)) ∧ ∃ B', Put d B' s u ∧ Laid B B' q (q + len) (fun j => Value.int (lo8 (cv A (o + (j - q)))))
/-- no char of the range above 255: len; the places written hold each char's low byte -/
theorem law (l : Launch) (b : Addr) (A : Cell) (d : Addr) (B : Cell) (o q len : Nat) : Law l yN 5 5 0 0 yB 7 (some .int) site (P b A d B o q len) (E b A d B o q len) (copyLocs d q len) 0 0 := by
  refine Law.of_walk (plainFor_of_name (by decide +kernel)) (by decide +kernel) (by decide +kernel) (by decide) (fun _ _ h => by rw [h.1]; rfl) (fun _ U U' hal hh h => ⟨h.1, h.2.1.mv hal hh, h.2.2.1.mv hal hh, h.2.2.2⟩) (fun r U U' V V' h1 hal h2 h => ⟨h.1, h.2.elim fun B' q => ⟨B', q.1.mv h1 h2, q.2⟩⟩) ?_
  intro p e s m args below meth c s₁ X0 hexec hbytes hml hret hlk hnm hown hh0 W hP
  obtain ⟨rfl, hA, hB, hne, l1, l2, hp⟩ := hP
  have c1 : Steps p.tables e below (s₁.setTop (entryFrame m #[.ref b, .int (Int32.ofNat o), .ref d, .int (Int32.ofNat q), .int (Int32.ofNat len)] 7)) (s₁.setTop (mkF m 0 #[.val (.ref b), .val (.int (Int32.ofNat o)), .val (.ref d), .val (.int (Int32.ofNat q)), .val (.int (Int32.ofNat len)), .unset, .unset] [])) := entry rfl
  have hA0 := hA.1.mv X0.warmed.alike hh0
  have hB0 := hB.mv X0.warmed.alike hh0
  have a31 := hA.1.2.2.2
  have c2 : Steps p.tables e below (s₁.setTop (entryFrame m #[.ref b, .int (Int32.ofNat o), .ref d, .int (Int32.ofNat q), .int (Int32.ofNat len)] 7)) (s₁.setTop (mkF m 3 #[.val (.ref b), .val (.int (Int32.ofNat o)), .val (.ref d), .val (.int (Int32.ofNat q)), .val (.int (Int32.ofNat len)), .val (.int 0), .unset] [])) := c1.trans (by
    refine iconstV X0.here hexec rfl 0 (hb hbytes d0) (by decide) ?_
    refine XS.istore X0.here hexec rfl (hb hbytes d1) rfl rfl ?_
    exact Steps.refl _)
  have loop : ∀ (r i : Nat), i + r = len → ∀ (z : Slot), (z = .unset ∨ ∃ w, z = .val w ∧ w.category = 1) → ∀ (Tl : State) (Bk : Cell), Stand p l e { frames := 0, locals := 0, cells := 0, slots := 0 } s m #[.ref b, .int (Int32.ofNat o), .ref d, .int (Int32.ofNat q), .int (Int32.ofNat len)] below meth c Tl ([] ++ copyLocs d q i) 0 0 → Put d Bk s₁ Tl → Laid B Bk q (q + i) (fun j => Value.int (lo8 (cv A (o + (j - q))))) →
      Steps p.tables e below (s₁.setTop (entryFrame m #[.ref b, .int (Int32.ofNat o), .ref d, .int (Int32.ofNat q), .int (Int32.ofNat len)] 7)) (Tl.setTop (mkF m 3 #[.val (.ref b), .val (.int (Int32.ofNat (o + i))), .val (.ref d), .val (.int (Int32.ofNat (q + i))), .val (.int (Int32.ofNat len)), .val (.int (Int32.ofNat i)), z] [])) → ∃ (T' : State) (B' : Cell) (z' : Slot), Stand p l e { frames := 0, locals := 0, cells := 0, slots := 0 } s m #[.ref b, .int (Int32.ofNat o), .ref d, .int (Int32.ofNat q), .int (Int32.ofNat len)] below meth c T' ([] ++ copyLocs d q len) 0 0 ∧ Put d B' s₁ T' ∧ Laid B B' q (q + len) (fun j => Value.int (lo8 (cv A (o + (j - q))))) ∧
      Steps p.tables e below (s₁.setTop (entryFrame m #[.ref b, .int (Int32.ofNat o), .ref d, .int (Int32.ofNat q), .int (Int32.ofNat len)] 7)) (T'.setTop (mkF m 3 #[.val (.ref b), .val (.int (Int32.ofNat (o + len))), .val (.ref d), .val (.int (Int32.ofNat (q + len))), .val (.int (Int32.ofNat len)), .val (.int (Int32.ofNat len)), z'] [])) := by
    intro r
    induction r with
    | zero =>
      intro i hi z hz Tl Bk Xl pl fl cl
      have hil : i = len := by omega
      rw [hil] at Xl fl cl
      exact ⟨Tl, Bk, z, Xl, pl, fl, cl⟩
    | succ r ih =>
      intro i hi z hz Tl Bk Xl pl fl cl
      have all := X0.warmed.alike.symm.trans Xl.warmed.alike
      have hAl := hA0.keep all (pl.other hne hA0.1)
      have hBk := hB0.like all pl.1 fl.1 fl.2.1 fl.2.2.1
      have hlt : q + i < Bk.slots.size := by rw [fl.2.2.1]; omega
      have c3 : Steps p.tables e below (s₁.setTop (entryFrame m #[.ref b, .int (Int32.ofNat o), .ref d, .int (Int32.ofNat q), .int (Int32.ofNat len)] 7)) (Tl.setTop (mkF m 12 #[.val (.ref b), .val (.int (Int32.ofNat (o + i))), .val (.ref d), .val (.int (Int32.ofNat (q + i))), .val (.int (Int32.ofNat len)), .val (.int (Int32.ofNat i)), z] [.int (Int32.ofNat (o + i)), .ref b])) := cl.trans (by
        refine XS.iload Xl.here hexec rfl (hb hbytes d3) rfl ?_
        refine XS.iload Xl.here hexec rfl (hb hbytes d5) rfl ?_
        refine XS.icmpNo Xl.here hexec rfl (hb hbytes d7) rfl (ii_ge_f (lt32 (by omega) (by omega))) ?_
        refine XS.aloadN Xl.here hexec rfl (hb hbytes d10) rfl rfl ?_
        refine XS.iloadN Xl.here hexec rfl (hb hbytes d11) rfl ?_
        exact Steps.refl _)
      have c4 : Steps p.tables e below (s₁.setTop (entryFrame m #[.ref b, .int (Int32.ofNat o), .ref d, .int (Int32.ofNat q), .int (Int32.ofNat len)] 7)) (Tl.setTop (mkF m 13 #[.val (.ref b), .val (.int (Int32.ofNat (o + i))), .val (.ref d), .val (.int (Int32.ofNat (q + i))), .val (.int (Int32.ofNat len)), .val (.int (Int32.ofNat i)), z] [.int (cv A (o + i))])) := c3.trans (by
        refine Xl.aget hexec hAl rfl (hA.get (i := o + i) (by omega)) rfl rfl (hb hbytes d12) ?_
        exact Steps.refl _)
      have c5 : Steps p.tables e below (s₁.setTop (entryFrame m #[.ref b, .int (Int32.ofNat o), .ref d, .int (Int32.ofNat q), .int (Int32.ofNat len)] 7)) (Tl.setTop (mkF m 15 #[.val (.ref b), .val (.int (Int32.ofNat (o + i))), .val (.ref d), .val (.int (Int32.ofNat (q + i))), .val (.int (Int32.ofNat len)), .val (.int (Int32.ofNat i)), .val (.int (cv A (o + i)))] [])) := c4.trans (by
        refine XS.istoreS Xl.here hexec rfl (hb hbytes d13) rfl rfl hz ?_
        exact Steps.refl _)
      have c6 : Steps p.tables e below (s₁.setTop (entryFrame m #[.ref b, .int (Int32.ofNat o), .ref d, .int (Int32.ofNat q), .int (Int32.ofNat len)] 7)) (Tl.setTop (mkF m 31 #[.val (.ref b), .val (.int (Int32.ofNat (o + i))), .val (.ref d), .val (.int (Int32.ofNat (q + i))), .val (.int (Int32.ofNat len)), .val (.int (Int32.ofNat i)), .val (.int (cv A (o + i)))] [.int (lo8 (cv A (o + i))), .int (Int32.ofNat (q + i)), .ref d])) := c5.trans (by
        refine XS.iload Xl.here hexec rfl (hb hbytes d15) rfl ?_
        refine sipushV Xl.here hexec rfl 255 (hb hbytes d17) (by decide) ?_
        refine XS.icmpYes Xl.here hexec rfl (pc0 := 20) rfl (hb hbytes d20) rfl (ii_le_t (hp i (by omega))) (by decide) rfl ?_
        refine XS.aloadN Xl.here hexec rfl (hb hbytes d26) rfl rfl ?_
        refine XS.iloadN Xl.here hexec rfl (hb hbytes d27) rfl ?_
        refine XS.iload Xl.here hexec rfl (hb hbytes d28) rfl ?_
        refine i2b Xl.here hexec rfl (hb hbytes d30) rfl ?_
        exact Steps.refl _)
      obtain ⟨T7, X7, p7, st7⟩ := Xl.aput hexec hBk rfl hlt rfl (fits_lo8 (cv A (o + i))) (g := (mkF m 31 #[.val (.ref b), .val (.int (Int32.ofNat (o + i))), .val (.ref d), .val (.int (Int32.ofNat (q + i))), .val (.int (Int32.ofNat len)), .val (.int (Int32.ofNat i)), .val (.int (cv A (o + i)))] [.int (lo8 (cv A (o + i))), .int (Int32.ofNat (q + i)), .ref d])) rfl (rest := []) rfl (hb hbytes d31)
      have c8 : Steps p.tables e below (s₁.setTop (entryFrame m #[.ref b, .int (Int32.ofNat o), .ref d, .int (Int32.ofNat q), .int (Int32.ofNat len)] 7)) (T7.setTop (mkF m 32 #[.val (.ref b), .val (.int (Int32.ofNat (o + i))), .val (.ref d), .val (.int (Int32.ofNat (q + i))), .val (.int (Int32.ofNat len)), .val (.int (Int32.ofNat i)), .val (.int (cv A (o + i)))] [])) := c6.trans (st7 _ (Steps.refl _))
      have c9 : Steps p.tables e below (s₁.setTop (entryFrame m #[.ref b, .int (Int32.ofNat o), .ref d, .int (Int32.ofNat q), .int (Int32.ofNat len)] 7)) (T7.setTop (mkF m 3 #[.val (.ref b), .val (.int (Int32.ofNat (o + i) + 1)), .val (.ref d), .val (.int (Int32.ofNat (q + i) + 1)), .val (.int (Int32.ofNat len)), .val (.int (Int32.ofNat i + 1)), .val (.int (cv A (o + i)))] [])) := c8.trans (by
        refine iincV X7.here hexec rfl 1 (hb hbytes d32) (by decide) rfl rfl ?_
        refine iincV X7.here hexec rfl 1 (hb hbytes d35) (by decide) rfl rfl ?_
        refine iincV X7.here hexec rfl 1 (hb hbytes d38) (by decide) rfl rfl ?_
        refine XS.goto X7.here hexec rfl (pc0 := 41) rfl (hb hbytes d41) (by decide) rfl ?_
        exact Steps.refl _)
      have c10 : Steps p.tables e below (s₁.setTop (entryFrame m #[.ref b, .int (Int32.ofNat o), .ref d, .int (Int32.ofNat q), .int (Int32.ofNat len)] 7)) (T7.setTop (mkF m 3 #[.val (.ref b), .val (.int (Int32.ofNat (o + (i + 1)))), .val (.ref d), .val (.int (Int32.ofNat (q + (i + 1)))), .val (.int (Int32.ofNat len)), .val (.int (Int32.ofNat (i + 1))), .val (.int (cv A (o + i)))] [])) := by
        have := c9
        rw [succ32, succ32, succ32] at this
        exact this
      exact ih (i + 1) (by omega) _ (Or.inr ⟨_, rfl, rfl⟩) T7 _ (by rw [copyLocs_step, ← List.append_assoc]; exact X7) (pl.trans p7) (fl.step (by omega) hlt (by simp)) c10
  obtain ⟨T9, B9, z9, X9, p9, f9, g9⟩ := loop len 0 (by omega) .unset (Or.inl rfl) s₁ B (by simpa [copyLocs] using X0) ⟨hB0.1, fun _ _ => rfl, rfl⟩ (Laid.zero _ _ _) c2
  have c11 : Steps p.tables e below (s₁.setTop (entryFrame m #[.ref b, .int (Int32.ofNat o), .ref d, .int (Int32.ofNat q), .int (Int32.ofNat len)] 7)) (T9.setTop (mkF m 46 #[.val (.ref b), .val (.int (Int32.ofNat (o + len))), .val (.ref d), .val (.int (Int32.ofNat (q + len))), .val (.int (Int32.ofNat len)), .val (.int (Int32.ofNat len)), z9] [.int (Int32.ofNat len)])) := g9.trans (by
    refine XS.iload X9.here hexec rfl (hb hbytes d3) rfl ?_
    refine XS.iload X9.here hexec rfl (hb hbytes d5) rfl ?_
    refine XS.icmpYes X9.here hexec rfl (pc0 := 7) rfl (hb hbytes d7) rfl (ii_ge_t (nlt32 (by omega) (Nat.le_refl _))) (by decide) rfl ?_
    refine XS.iload X9.here hexec rfl (hb hbytes d44) rfl ?_
    exact Steps.refl _)
  exact ⟨T9, some (.int (Int32.ofNat len)), _, _, _, X9, by simp, rfl, rfl, (fun h => by cases h), ⟨rfl, B9, p9.from hh0, f9⟩, fun fs hl => c11.trans (X9.ireturnOut hexec hret rfl (Or.inl rfl) (hb hbytes d46) hl)⟩
end Cmp5
namespace Cmp3
def yN : MethodName := ⟨"java/lang/StringUTF16", "compress", "([CII)[B"⟩
abbrev yB : ByteArray := jdk_52_method_16_code
theorem d0 : decode yB 0 = .ok (.iload_n 2, 1) := by decide +kernel
theorem d1 : decode yB 1 = .ok (.newarray .byte, 2) := by decide +kernel
theorem d3 : decode yB 3 = .ok (.astore_n 3, 1) := by decide +kernel
theorem d4 : decode yB 4 = .ok (.aload_n 0, 1) := by decide +kernel
theorem d5 : decode yB 5 = .ok (.iload_n 1, 1) := by decide +kernel
theorem d6 : decode yB 6 = .ok (.aload_n 3, 1) := by decide +kernel
theorem d7 : decode yB 7 = .ok (.iconst 0, 1) := by decide +kernel
theorem d8 : decode yB 8 = .ok (.iload_n 2, 1) := by decide +kernel
theorem d9 : decode yB 9 = .ok (.invokestatic 115, 3) := by decide +kernel
theorem d12 : decode yB 12 = .ok (.istore 4, 2) := by decide +kernel
theorem d14 : decode yB 14 = .ok (.iload 4, 2) := by decide +kernel
theorem d16 : decode yB 16 = .ok (.iload_n 2, 1) := by decide +kernel
theorem d17 : decode yB 17 = .ok (.if_icmp (.eq) 40, 3) := by decide +kernel
theorem d57 : decode yB 57 = .ok (.aload_n 3, 1) := by decide +kernel
theorem d58 : decode yB 58 = .ok (.areturn, 1) := by decide +kernel
def site : List Cond := [.arrayClass .byte, Cmp5.tab] ++ staticW U16 115 Cmp5.yN
def tab : Cond := tabOf yN yB 6 (some (.array .byte)) site
def P (b : Addr) (A : Cell) (o len : Nat) (args : Array Value) (s : State) : Prop := args = #[.ref b, .int (Int32.ofNat o), .int (Int32.ofNat len)] ∧ Ch b A s ∧ o + len ≤ A.slots.size ∧ len ≤ 536870912 ∧ ∀ i, i < len → ¬ 255 < cv A (o + i)
def E (b : Addr) (A : Cell) (o len : Nat) (r : Option Value) (s u : State) : Prop := NewArr .byte "[B" len (fun j => .int (lo8 (cv A (o + j)))) r s u ∧ u.heap.size = s.heap.size + 1
/-- no char of the range above 255: a new byte[] of their low bytes -/
theorem law (l : Launch) (b : Addr) (A : Cell) (o len : Nat) : Law l yN 3 3 1 18 yB 6 (some (.array .byte)) site (P b A o len) (E b A o len) [] 1 len := by
  refine Law.of_walk (plainFor_of_name (by decide +kernel)) (by decide +kernel) (by decide +kernel) (by decide) (fun _ _ h => by rw [h.1]; rfl) (fun _ U U' hal hh h => ⟨h.1, h.2.1.mv hal hh, h.2.2⟩) (fun r U U' V V' h1 hal h2 h => ⟨NewArr.mv r U U' V V' h1 hal h2 h.1, by rw [h1, h2]; exact h.2⟩) ?_
  intro p e s m args below meth c s₁ X0 hexec hbytes hml hret hlk hnm hown hh0 W hP
  obtain ⟨rfl, hA, l1, l2, hp⟩ := hP
  have a31 := hA.1.2.2.2
  have c1 : Steps p.tables e below (s₁.setTop (entryFrame m #[.ref b, .int (Int32.ofNat o), .int (Int32.ofNat len)] 6)) (s₁.setTop (mkF m 0 #[.val (.ref b), .val (.int (Int32.ofNat o)), .val (.int (Int32.ofNat len)), .unset, .unset, .unset] [])) := entry rfl
  have c2 : Steps p.tables e below (s₁.setTop (entryFrame m #[.ref b, .int (Int32.ofNat o), .int (Int32.ofNat len)] 6)) (s₁.setTop (mkF m 1 #[.val (.ref b), .val (.int (Int32.ofNat o)), .val (.int (Int32.ofNat len)), .unset, .unset, .unset] [.int (Int32.ofNat len)])) := c1.trans (by
    refine XS.iloadN X0.here hexec rfl (hb hbytes d0) rfl ?_
    exact Steps.refl _)
  obtain ⟨T3, B3, X3, ba3, bs3, bv3, bh3, bf3, st3⟩ := X0.anew hexec (atype := .byte) (wk W (.arrayClass .byte)) rfl (by show len * 1 ≤ _; omega) (by omega) (g := (mkF m 1 #[.val (.ref b), .val (.int (Int32.ofNat o)), .val (.int (Int32.ofNat len)), .unset, .unset, .unset] [.int (Int32.ofNat len)])) rfl (hb hbytes d1) (rest := []) rfl (Nat.le_refl _) (by show 0 + len ≤ len; omega)
  rw [hh0] at ba3 st3
  have kp3 : XT.Kept s T3 := (XT.Kept.of_eq hh0).push bh3
  have hA3 := hA.keep X3.warmed.alike (kp3 _ _ hA.1.1)
  have hne : b ≠ s.heap.size := hA.1.ne
  have c4 : Steps p.tables e below (s₁.setTop (entryFrame m #[.ref b, .int (Int32.ofNat o), .int (Int32.ofNat len)] 6)) (T3.setTop (mkF m 3 #[.val (.ref b), .val (.int (Int32.ofNat o)), .val (.int (Int32.ofNat len)), .unset, .unset, .unset] [.ref s.heap.size])) := c2.trans (st3 _ (Steps.refl _))
  have c5 : Steps p.tables e below (s₁.setTop (entryFrame m #[.ref b, .int (Int32.ofNat o), .int (Int32.ofNat len)] 6)) (T3.setTop (mkF m 9 #[.val (.ref b), .val (.int (Int32.ofNat o)), .val (.int (Int32.ofNat len)), .val (.ref s.heap.size), .unset, .unset] [.int (Int32.ofNat len), .int 0, .ref s.heap.size, .int (Int32.ofNat o), .ref b])) := c4.trans (by
    refine XS.astoreN X3.here hexec rfl (hb hbytes d3) rfl rfl rfl ?_
    refine XS.aloadN X3.here hexec rfl (hb hbytes d4) rfl rfl ?_
    refine XS.iloadN X3.here hexec rfl (hb hbytes d5) rfl ?_
    refine XS.aloadN X3.here hexec rfl (hb hbytes d6) rfl rfl ?_
    refine iconstV X3.here hexec rfl 0 (hb hbytes d7) (by decide) ?_
    refine XS.iloadN X3.here hexec rfl (hb hbytes d8) rfl ?_
    exact Steps.refl _)
  obtain ⟨v6, T6, X6, E6, g6⟩ := X3.callS hexec (Cmp5.law l b A s.heap.size B3 o 0 len) hown (wks W (staticW U16 115 Cmp5.yN)) (wk W Cmp5.tab) (W := 0) (Nat.le_of_ble_eq_true rfl) (Nat.le_of_ble_eq_true rfl) (Nat.le_refl _) (by show 0 + len + 0 ≤ len; omega) (g := (mkF m 9 #[.val (.ref b), .val (.int (Int32.ofNat o)), .val (.int (Int32.ofNat len)), .val (.ref s.heap.size), .unset, .unset] [.int (Int32.ofNat len), .int (Int32.ofNat 0), .ref s.heap.size, .int (Int32.ofNat o), .ref b])) rfl (by rw [hml]; rfl) c5 (argsL := [.ref b, .int (Int32.ofNat o), .ref s.heap.size, .int (Int32.ofNat 0), .int (Int32.ofNat len)]) (rest := []) rfl rfl (by show 2 * 0 + 0 ≤ _; decide) (hb hbytes d9) (⟨rfl, hA3, ba3, hne, l1, by rw [bs3]; simp, hp⟩)
  obtain ⟨rfl, B6, p6, f6⟩ := E6
  have c7 : Steps p.tables e below (s₁.setTop (entryFrame m #[.ref b, .int (Int32.ofNat o), .int (Int32.ofNat len)] 6)) (T6.setTop (mkF m 12 #[.val (.ref b), .val (.int (Int32.ofNat o)), .val (.int (Int32.ofNat len)), .val (.ref s.heap.size), .unset, .unset] [.int (Int32.ofNat len)])) := g6
  have c8 : Steps p.tables e below (s₁.setTop (entryFrame m #[.ref b, .int (Int32.ofNat o), .int (Int32.ofNat len)] 6)) (T6.setTop (mkF m 58 #[.val (.ref b), .val (.int (Int32.ofNat o)), .val (.int (Int32.ofNat len)), .val (.ref s.heap.size), .val (.int (Int32.ofNat len)), .unset] [.ref s.heap.size])) := c7.trans (by
    refine XS.istore X6.here hexec rfl (hb hbytes d12) rfl rfl ?_
    refine XS.iload X6.here hexec rfl (hb hbytes d14) rfl ?_
    refine XS.iloadN X6.here hexec rfl (hb hbytes d16) rfl ?_
    refine XS.icmpYes X6.here hexec rfl (pc0 := 17) rfl (hb hbytes d17) rfl (ii_eq_t rfl) (by decide) rfl ?_
    refine XS.aloadN X6.here hexec rfl (hb hbytes d57) rfl rfl ?_
    exact Steps.refl _)
  have X8 := X6.wide (L' := []) (cells' := 1) (slots' := len) (fun x hx hlt => by
    simp only [List.nil_append, copyLocs, List.mem_map, List.mem_range] at hx
    obtain ⟨i, -, rfl⟩ := hx
    exact absurd hlt (Nat.lt_irrefl _)) (Nat.le_refl _) (by omega)
  exact ⟨T6, some (.ref s.heap.size), _, _, _, X8, rfl, rfl, rfl, (fun h => by cases h), ⟨⟨rfl, B6, ba3.like (X3.warmed.alike.symm.trans X6.warmed.alike) p6.1 f6.1 f6.2.1 f6.2.2.1, f6.2.1.trans bv3, by rw [X6.warmed.alike.findClass, f6.1]; exact bf3, by rw [f6.2.2.1, bs3]; simp, fun j hj => by rw [f6.2.2.2 j, if_pos (by omega)]; rfl, kp3.put p6 (Nat.le_refl _)⟩, by rw [p6.2.2, bh3, hh0]; simp⟩, fun fs hl => c8.trans (X8.areturnOut hexec rfl hret rfl (hb hbytes d58) hl)⟩
end Cmp3
namespace CodL
def yN : MethodName := ⟨"java/lang/StringUTF16", "coderFromArrayLen", "([BI)B"⟩
abbrev yB : ByteArray := jdk_52_method_15_code
theorem d0 : decode yB 0 = .ok (.iload_n 1, 1) := by decide +kernel
theorem d1 : decode yB 1 = .ok (.aload_n 0, 1) := by decide +kernel
theorem d2 : decode yB 2 = .ok (.arraylength, 1) := by decide +kernel
theorem d3 : decode yB 3 = .ok (.isub, 1) := by decide +kernel
theorem d4 : decode yB 4 = .ok (.bipush 31, 2) := by decide +kernel
theorem d6 : decode yB 6 = .ok (.iushr, 1) := by decide +kernel
theorem d7 : decode yB 7 = .ok (.i2b, 1) := by decide +kernel
theorem d8 : decode yB 8 = .ok (.ireturn, 1) := by decide +kernel
def site : List Cond := []
def tab : Cond := tabOf yN yB 2 (some .byte) site
def P (d : Addr) (B : Cell) (args : Array Value) (s : State) : Prop := args = #[.ref d, .int (Int32.ofNat B.slots.size)] ∧ Arr .byte d B s
def E (r : Option Value) (s u : State) : Prop := XT.PureE (some (.int 0)) r s u
/-- an array as long as the number of chars: LATIN1 -/
theorem law (l : Launch) (d : Addr) (B : Cell) : Law l yN 2 2 0 0 yB 2 (some .byte) site (P d B) E [] 0 0 := by
  refine Law.of_walk (plainFor_of_name (by decide +kernel)) (by decide +kernel) (by decide +kernel) (by decide) (fun _ _ h => by rw [h.1]; rfl) (fun _ U U' hal hh h => ⟨h.1, h.2.mv hal hh⟩) (fun r U U' V V' h1 hal h2 h => XT.PureE.mv r U U' V V' h1 hal h2 h) ?_
  intro p e s m args below meth c s₁ X0 hexec hbytes hml hret hlk hnm hown hh0 W hP
  obtain ⟨rfl, hB⟩ := hP
  have hB0 := hB.mv X0.warmed.alike hh0
  have c1 : Steps p.tables e below (s₁.setTop (entryFrame m #[.ref d, .int (Int32.ofNat B.slots.size)] 2)) (s₁.setTop (mkF m 0 #[.val (.ref d), .val (.int (Int32.ofNat B.slots.size))] [])) := entry rfl
  have c2 : Steps p.tables e below (s₁.setTop (entryFrame m #[.ref d, .int (Int32.ofNat B.slots.size)] 2)) (s₁.setTop (mkF m 2 #[.val (.ref d), .val (.int (Int32.ofNat B.slots.size))] [.ref d, .int (Int32.ofNat B.slots.size)])) := c1.trans (by
    refine XS.iloadN X0.here hexec rfl (hb hbytes d0) rfl ?_
    refine XS.aloadN X0.here hexec rfl (hb hbytes d1) rfl rfl ?_
    exact Steps.refl _)
  have c3 : Steps p.tables e below (s₁.setTop (entryFrame m #[.ref d, .int (Int32.ofNat B.slots.size)] 2)) (s₁.setTop (mkF m 8 #[.val (.ref d), .val (.int (Int32.ofNat B.slots.size))] [.int (lo8 (ushr (Int32.ofNat B.slots.size - Int32.ofNat B.slots.size) 31))])) := c2.trans (by
    refine X0.alen hexec hB0 rfl rfl (hb hbytes d2) ?_
    refine XS.isub X0.here hexec rfl (hb hbytes d3) rfl ?_
    refine bipushV X0.here hexec rfl 31 (hb hbytes d4) (by decide) ?_
    refine iushr X0.here hexec rfl (hb hbytes d6) rfl ?_
    refine i2b X0.here hexec rfl (hb hbytes d7) rfl ?_
    exact Steps.refl _)
  have e0 : lo8 (ushr (Int32.ofNat B.slots.size - Int32.ofNat B.slots.size) 31) = 0 := by rw [Int32.sub_self]; decide
  rw [e0] at c3
  exact ⟨s₁, some (.int 0), _, _, _, X0, rfl, rfl, rfl, (fun h => by cases h), ⟨rfl, hh0⟩, fun fs hl => c3.trans (X0.ireturnOut hexec hret rfl (Or.inr (Or.inr (Or.inl rfl))) (hb hbytes d8) hl)⟩
end CodL
/-- the String at a is Latin-1 over a new byte[] (the heap's one new cell): the low bytes of the len chars of A from o on; every cell but a is kept -/
def Got (a : Addr) (D : Cell) (fV fC : Field) (A : Cell) (o len : Nat) (r : Option Value) (s u : State) : Prop := r = none ∧ ∃ D' V : Cell, Blank "java/lang/String" a D' u ∧ Same D D' [fV.slot, fC.slot] ∧ D'.slots[fV.slot]? = some (.ref s.heap.size) ∧ D'.slots[fC.slot]? = some (.int 0) ∧ Arr .byte s.heap.size V u ∧ V.vm = .none ∧ u.vm.findClass "[B" = some V.cls ∧ V.slots.size = len ∧ (∀ j, j < len → V.slots[j]? = some (.int (lo8 (cv A (o + j))))) ∧ (∀ (y : Addr) (c : Cell), y ≠ a → s.heap[y]? = some c → u.heap[y]? = some c) ∧ u.heap.size = s.heap.size + 1
theorem Got.mv {a : Addr} {D A : Cell} {fV fC : Field} {o len : Nat} : ∀ r (U U' V V' : State), U'.heap = U.heap → V.vm.Alike V'.vm → V'.heap = V.heap → Got a D fV fC A o len r U V → Got a D fV fC A o len r U' V' :=
  fun r U U' V V' h1 hal h2 ⟨e0, D', X, a1, a2, a3, a4, a5, a6, a7, a8, a9, a10, a11⟩ => ⟨e0, D', X, a1.mv hal h2, a2, by rw [h1]; exact a3, a4, by rw [h1]; exact a5.mv hal h2, a6, by rw [hal.findClass]; exact a7, a8, a9, by rw [h1, h2]; exact a10, by rw [h1, h2]; exact a11⟩
namespace New4
def yN : MethodName := ⟨"java/lang/String", "<init>", "([CIILjava/lang/Void;)V"⟩
abbrev yB : ByteArray := jdk_42_method_149_code
theorem d0 : decode yB 0 = .ok (.aload_n 0, 1) := by decide +kernel
theorem d1 : decode yB 1 = .ok (.invokespecial 1, 3) := by decide +kernel
theorem d4 : decode yB 4 = .ok (.iload_n 3, 1) := by decide +kernel
theorem d5 : decode yB 5 = .ok (.ifCond (.ne) 22, 3) := by decide +kernel
theorem d27 : decode yB 27 = .ok (.getstatic 38, 3) := by decide +kernel
theorem d30 : decode yB 30 = .ok (.ifCond (.eq) 28, 3) := by decide +kernel
theorem d33 : decode yB 33 = .ok (.aload_n 1, 1) := by decide +kernel
theorem d34 : decode yB 34 = .ok (.iload_n 2, 1) := by decide +kernel
theorem d35 : decode yB 35 = .ok (.iload_n 3, 1) := by decide +kernel
theorem d36 : decode yB 36 = .ok (.invokestatic 177, 3) := by decide +kernel
theorem d39 : decode yB 39 = .ok (.astore 5, 2) := by decide +kernel
theorem d41 : decode yB 41 = .ok (.aload_n 0, 1) := by decide +kernel
theorem d42 : decode yB 42 = .ok (.aload 5, 2) := by decide +kernel
theorem d44 : decode yB 44 = .ok (.iload_n 3, 1) := by decide +kernel
theorem d45 : decode yB 45 = .ok (.invokestatic 47, 3) := by decide +kernel
theorem d48 : decode yB 48 = .ok (.putfield 15, 3) := by decide +kernel
theorem d51 : decode yB 51 = .ok (.aload_n 0, 1) := by decide +kernel
theorem d52 : decode yB 52 = .ok (.aload 5, 2) := by decide +kernel
theorem d54 : decode yB 54 = .ok (.putfield 9, 3) := by decide +kernel
theorem d57 : decode yB 57 = .ok (.return_, 1) := by decide +kernel
def site : List Cond := [.fieldLink "java/lang/String" 38 "java/lang/String" "COMPACT_STRINGS" "Z", Cmp3.tab, CodL.tab, .laysFinal "java/lang/String" "java/lang/String" "value" "[B", .fieldLink "java/lang/String" 9 "java/lang/String" "value" "[B", .laysFinal "java/lang/String" "java/lang/String" "coder" "B", .fieldLink "java/lang/String" 15 "java/lang/String" "coder" "B"] ++ objW "java/lang/String" 1 ++ staticW "java/lang/String" 177 Cmp3.yN ++ staticW "java/lang/String" 47 CodL.yN
def tab : Cond := tabOf yN yB 6 none site
def P (a : Addr) (D : Cell) (fV fC : Field) (b : Addr) (A : Cell) (z : Int32) (o len : Nat) (args : Array Value) (s : State) : Prop := args = #[.ref a, .ref b, .int (Int32.ofNat o), .int (Int32.ofNat len), .null] ∧ Blank "java/lang/String" a D s ∧ Found "java/lang/String" "value" "[B" fV s ∧ Found "java/lang/String" "coder" "B" fC s ∧ Ch b A s ∧ StaticIs s "java/lang/String" "COMPACT_STRINGS" "Z" (.int z) ∧ ¬ z = 0 ∧ 0 < len ∧ o + len ≤ A.slots.size ∧ len ≤ 536870912 ∧ ∀ i, i < len → ¬ 255 < cv A (o + i)
def E (a : Addr) (D : Cell) (fV fC : Field) (A : Cell) (o len : Nat) (r : Option Value) (s u : State) : Prop := Got a D fV fC A o len r s u
/-- len > 0, no char of the range above 255: a Latin-1 String of their low bytes -/
theorem law (l : Launch) (a : Addr) (D : Cell) (fV fC : Field) (b : Addr) (A : Cell) (z : Int32) (o len : Nat) : Law l yN 5 4 2 35 yB 6 none site (P a D fV fC b A z o len) (E a D fV fC A o len) [⟨a, fC.slot⟩, ⟨a, fV.slot⟩] 1 len := by
  refine Law.of_walk (plainFor_of_name (by decide +kernel)) (by decide +kernel) (by decide +kernel) (by decide) (fun _ _ h => by rw [h.1]; rfl) (fun _ U U' hal hh h => ⟨h.1, h.2.1.mv hal hh, h.2.2.1.al hal, h.2.2.2.1.al hal, h.2.2.2.2.1.mv hal hh, h.2.2.2.2.2.1.there hal hh, h.2.2.2.2.2.2⟩) (fun r U U' V V' h1 hal h2 h => Got.mv r U U' V V' h1 hal h2 h) ?_
  intro p e s m args below meth c s₁ X0 hexec hbytes hml hret hlk hnm hown hh0 W hP
  obtain ⟨rfl, hB, f1, f2, hA, s1, hz, l0, l1, l2, hp⟩ := hP
  have a31 := hA.1.2.2.2
  have c1 : Steps p.tables e below (s₁.setTop (entryFrame m #[.ref a, .ref b, .int (Int32.ofNat o), .int (Int32.ofNat len), .null] 6)) (s₁.setTop (mkF m 0 #[.val (.ref a), .val (.ref b), .val (.int (Int32.ofNat o)), .val (.int (Int32.ofNat len)), .val .null, .unset] [])) := entry rfl
  have c2 : Steps p.tables e below (s₁.setTop (entryFrame m #[.ref a, .ref b, .int (Int32.ofNat o), .int (Int32.ofNat len), .null] 6)) (s₁.setTop (mkF m 1 #[.val (.ref a), .val (.ref b), .val (.int (Int32.ofNat o)), .val (.int (Int32.ofNat len)), .val .null, .unset] [.ref a])) := c1.trans (by
    refine XS.aloadN X0.here hexec rfl (hb hbytes d0) rfl rfl ?_
    exact Steps.refl _)
  obtain ⟨T3, X3, q3, st3⟩ := X0.oinit hexec hown (wks W (objW "java/lang/String" 1)) (g := (mkF m 1 #[.val (.ref a), .val (.ref b), .val (.int (Int32.ofNat o)), .val (.int (Int32.ofNat len)), .val .null, .unset] [.ref a])) rfl (by rw [hml]; rfl) (rest := []) rfl (hb hbytes d1) (W := 0) (by show 2 * 0 + 0 ≤ _; decide) (Nat.le_of_ble_eq_true rfl) (Nat.le_of_ble_eq_true rfl)
  have hh3 := q3.trans hh0
  have c4 : Steps p.tables e below (s₁.setTop (entryFrame m #[.ref a, .ref b, .int (Int32.ofNat o), .int (Int32.ofNat len), .null] 6)) (T3.setTop (mkF m 27 #[.val (.ref a), .val (.ref b), .val (.int (Int32.ofNat o)), .val (.int (Int32.ofNat len)), .val .null, .unset] [])) := (c2.trans (st3 _ (Steps.refl _))).trans (by
    refine XS.iloadN X3.here hexec rfl (hb hbytes d4) rfl ?_
    refine XS.ifYes X3.here hexec rfl (pc0 := 5) rfl (hb hbytes d5) rfl (i0_ne_t (nz32 (by omega) l0)) (by decide) rfl ?_
    exact Steps.refl _)
  obtain ⟨T5, X5, q5, st5⟩ := X3.sget hexec hown (wk W (.fieldLink "java/lang/String" 38 "java/lang/String" "COMPACT_STRINGS" "Z")) s1 (fun _ _ h => by rw [hh3]; exact h) (g := (mkF m 27 #[.val (.ref a), .val (.ref b), .val (.int (Int32.ofNat o)), .val (.int (Int32.ofNat len)), .val .null, .unset] [])) rfl (hb hbytes d27)
  have hh5 := q5.trans hh3
  have c6 : Steps p.tables e below (s₁.setTop (entryFrame m #[.ref a, .ref b, .int (Int32.ofNat o), .int (Int32.ofNat len), .null] 6)) (T5.setTop (mkF m 30 #[.val (.ref a), .val (.ref b), .val (.int (Int32.ofNat o)), .val (.int (Int32.ofNat len)), .val .null, .unset] [.int z])) := c4.trans (st5 _ (Steps.refl _))
  have c7 : Steps p.tables e below (s₁.setTop (entryFrame m #[.ref a, .ref b, .int (Int32.ofNat o), .int (Int32.ofNat len), .null] 6)) (T5.setTop (mkF m 36 #[.val (.ref a), .val (.ref b), .val (.int (Int32.ofNat o)), .val (.int (Int32.ofNat len)), .val .null, .unset] [.int (Int32.ofNat len), .int (Int32.ofNat o), .ref b])) := c6.trans (by
    refine XS.ifNo X5.here hexec rfl (hb hbytes d30) rfl (i0_eq_f hz) ?_
    refine XS.aloadN X5.here hexec rfl (hb hbytes d33) rfl rfl ?_
    refine XS.iloadN X5.here hexec rfl (hb hbytes d34) rfl ?_
    refine XS.iloadN X5.here hexec rfl (hb hbytes d35) rfl ?_
    exact Steps.refl _)
  obtain ⟨v8, T8, X8, E8, g8⟩ := X5.callS hexec (Cmp3.law l b A o len) hown (wks W (staticW "java/lang/String" 177 Cmp3.yN)) (wk W Cmp3.tab) (W := 0) (Nat.le_of_ble_eq_true rfl) (Nat.le_of_ble_eq_true rfl) (Nat.le_refl _) (by show 0 + len ≤ len; omega) (g := (mkF m 36 #[.val (.ref a), .val (.ref b), .val (.int (Int32.ofNat o)), .val (.int (Int32.ofNat len)), .val .null, .unset] [.int (Int32.ofNat len), .int (Int32.ofNat o), .ref b])) rfl (by rw [hml]; rfl) c7 (argsL := [.ref b, .int (Int32.ofNat o), .int (Int32.ofNat len)]) (rest := []) rfl rfl (by show 2 * 0 + 0 ≤ _; decide) (hb hbytes d36) (⟨rfl, hA.mv X5.warmed.alike hh5, l1, l2, hp⟩)
  obtain ⟨e8, z8⟩ := E8
  obtain ⟨rfl, N, n1, n2, n3, n4, n5, n6⟩ := NewArr.mv _ T5 s _ _ hh5.symm (Vm.Alike.refl _) rfl e8
  rw [hh5] at z8
  have hB1 := hB.keep X8.warmed.alike (n6 _ _ hB.1)
  have hne : s.heap.size ≠ a := (Nat.ne_of_lt (Array.getElem?_eq_some_iff.mp hB.1).1).symm
  have c9 : Steps p.tables e below (s₁.setTop (entryFrame m #[.ref a, .ref b, .int (Int32.ofNat o), .int (Int32.ofNat len), .null] 6)) (T8.setTop (mkF m 39 #[.val (.ref a), .val (.ref b), .val (.int (Int32.ofNat o)), .val (.int (Int32.ofNat len)), .val .null, .unset] [.ref s.heap.size])) := g8
  have c10 : Steps p.tables e below (s₁.setTop (entryFrame m #[.ref a, .ref b, .int (Int32.ofNat o), .int (Int32.ofNat len), .null] 6)) (T8.setTop (mkF m 45 #[.val (.ref a), .val (.ref b), .val (.int (Int32.ofNat o)), .val (.int (Int32.ofNat len)), .val .null, .val (.ref s.heap.size)] [.int (Int32.ofNat N.slots.size), .ref s.heap.size, .ref a])) := by
    have hc : Steps p.tables e below (s₁.setTop (entryFrame m #[.ref a, .ref b, .int (Int32.ofNat o), .int (Int32.ofNat len), .null] 6)) (T8.setTop (mkF m 45 #[.val (.ref a), .val (.ref b), .val (.int (Int32.ofNat o)), .val (.int (Int32.ofNat len)), .val .null, .val (.ref s.heap.size)] [.int (Int32.ofNat len), .ref s.heap.size, .ref a])) := c9.trans (by
      refine XS.astore X8.here hexec rfl (hb hbytes d39) rfl rfl rfl ?_
      refine XS.aloadN X8.here hexec rfl (hb hbytes d41) rfl rfl ?_
      refine XS.aload X8.here hexec rfl (hb hbytes d42) rfl rfl ?_
      refine XS.iloadN X8.here hexec rfl (hb hbytes d44) rfl ?_
      exact Steps.refl _)
    rw [n4]; exact hc
  obtain ⟨v11, T11, X11, E11, g11⟩ := X8.callS hexec (CodL.law l s.heap.size N) hown (wks W (staticW "java/lang/String" 47 CodL.yN)) (wk W CodL.tab) (W := 1) (Nat.le_of_ble_eq_true rfl) (Nat.le_of_ble_eq_true rfl) (Nat.le_refl _) (by show 0 + len + 0 ≤ len; omega) (g := (mkF m 45 #[.val (.ref a), .val (.ref b), .val (.int (Int32.ofNat o)), .val (.int (Int32.ofNat len)), .val .null, .val (.ref s.heap.size)] [.int (Int32.ofNat N.slots.size), .ref s.heap.size, .ref a])) rfl (by rw [hml]; rfl) c10 (argsL := [.ref s.heap.size, .int (Int32.ofNat N.slots.size)]) (rest := [.ref a]) rfl rfl (by show 2 * 0 + (1 + 0) ≤ _; decide) (hb hbytes d45) (⟨rfl, n1⟩)
  obtain ⟨rfl, q11⟩ := E11
  have hB11 := hB1.mv (X8.warmed.alike.symm.trans X11.warmed.alike) q11
  have c12 : Steps p.tables e below (s₁.setTop (entryFrame m #[.ref a, .ref b, .int (Int32.ofNat o), .int (Int32.ofNat len), .null] 6)) (T11.setTop (mkF m 48 #[.val (.ref a), .val (.ref b), .val (.int (Int32.ofNat o)), .val (.int (Int32.ofNat len)), .val .null, .val (.ref s.heap.size)] [.int 0, .ref a])) := g11
  obtain ⟨T13, X13, p13, bl13, sl13, st13⟩ := X11.finit hexec hown (wk W (.fieldLink "java/lang/String" 15 "java/lang/String" "coder" "B")) (Or.inr ⟨_, (wk W (.laysFinal "java/lang/String" "java/lang/String" "coder" "B"))⟩) (Or.inl ⟨rfl, hnm⟩) f2 (Or.inl rfl) hB11 (t := .byte) (by decide +kernel) rfl (g := (mkF m 48 #[.val (.ref a), .val (.ref b), .val (.int (Int32.ofNat o)), .val (.int (Int32.ofNat len)), .val .null, .val (.ref s.heap.size)] [.int 0, .ref a])) rfl (rest := []) rfl (hb hbytes d48)
  have c14 : Steps p.tables e below (s₁.setTop (entryFrame m #[.ref a, .ref b, .int (Int32.ofNat o), .int (Int32.ofNat len), .null] 6)) (T13.setTop (mkF m 54 #[.val (.ref a), .val (.ref b), .val (.int (Int32.ofNat o)), .val (.int (Int32.ofNat len)), .val .null, .val (.ref s.heap.size)] [.ref s.heap.size, .ref a])) := (c12.trans (st13 _ (Steps.refl _))).trans (by
    refine XS.aloadN X13.here hexec rfl (hb hbytes d51) rfl rfl ?_
    refine XS.aload X13.here hexec rfl (hb hbytes d52) rfl rfl ?_
    exact Steps.refl _)
  obtain ⟨T15, X15, p15, bl15, sl15, st15⟩ := X13.finit hexec hown (wk W (.fieldLink "java/lang/String" 9 "java/lang/String" "value" "[B")) (Or.inr ⟨_, (wk W (.laysFinal "java/lang/String" "java/lang/String" "value" "[B"))⟩) (Or.inl ⟨rfl, hnm⟩) f1 (Or.inl rfl) bl13 (t := (.array .byte)) (by decide +kernel) rfl (g := (mkF m 54 #[.val (.ref a), .val (.ref b), .val (.int (Int32.ofNat o)), .val (.int (Int32.ofNat len)), .val .null, .val (.ref s.heap.size)] [.ref s.heap.size, .ref a])) rfl (rest := []) rfl (hb hbytes d54)
  have c16 : Steps p.tables e below (s₁.setTop (entryFrame m #[.ref a, .ref b, .int (Int32.ofNat o), .int (Int32.ofNat len), .null] 6)) (T15.setTop (mkF m 57 #[.val (.ref a), .val (.ref b), .val (.int (Int32.ofNat o)), .val (.int (Int32.ofNat len)), .val .null, .val (.ref s.heap.size)] [])) := c14.trans (st15 _ (Steps.refl _))
  have ap := apart (Or.inr ⟨_, (wk W (.laysFinal "java/lang/String" "java/lang/String" "value" "[B"))⟩) (Or.inr ⟨_, (wk W (.laysFinal "java/lang/String" "java/lang/String" "coder" "B"))⟩) f1 f2 (t₁ := .array .byte) (t₂ := .byte) (by decide +kernel) (by decide +kernel) (by decide)
  have al := X8.warmed.alike.symm.trans X15.warmed.alike
  have n7 : T11.heap[s.heap.size]? = some N := by rw [q11]; exact n1.1
  exact ⟨T15, none, _, _, _, X15, by simp, rfl, by omega, (fun _ => rfl), ⟨rfl, _, N, bl15, ((Same.refl D _).set _ (by simp)).set _ (by simp), sl15, (Cell.slots_setSlot_ne _ ap).trans sl13, n1.keep al (p15.other hne (p13.other hne n7)), n2, by rw [al.findClass]; exact n3, n4, n5, fun y c h1 h2 => p15.other h1 (p13.other h1 (by rw [q11]; exact n6 y c h2)), by rw [p15.2.2, p13.2.2, q11]; exact z8⟩, fun fs hl => c16.trans (X15.returnOut hexec hret (hb hbytes d57) hl)⟩
end New4
namespace New1
def yN : MethodName := ⟨"java/lang/String", "<init>", "([C)V"⟩
abbrev yB : ByteArray := jdk_42_method_3_code
theorem d0 : decode yB 0 = .ok (.aload_n 0, 1) := by decide +kernel
theorem d1 : decode yB 1 = .ok (.aload_n 1, 1) := by decide +kernel
theorem d2 : decode yB 2 = .ok (.iconst 0, 1) := by decide +kernel
theorem d3 : decode yB 3 = .ok (.aload_n 1, 1) := by decide +kernel
theorem d4 : decode yB 4 = .ok (.arraylength, 1) := by decide +kernel
theorem d5 : decode yB 5 = .ok (.aconst_null, 1) := by decide +kernel
theorem d6 : decode yB 6 = .ok (.invokespecial 27, 3) := by decide +kernel
theorem d9 : decode yB 9 = .ok (.return_, 1) := by decide +kernel
def site : List Cond := [New4.tab] ++ initW "java/lang/String" 27 New4.yN
def tab : Cond := tabOf yN yB 2 none site
def P (a : Addr) (D : Cell) (fV fC : Field) (b : Addr) (A : Cell) (z : Int32) (args : Array Value) (s : State) : Prop := args = #[.ref a, .ref b] ∧ Blank "java/lang/String" a D s ∧ Found "java/lang/String" "value" "[B" fV s ∧ Found "java/lang/String" "coder" "B" fC s ∧ Ch b A s ∧ StaticIs s "java/lang/String" "COMPACT_STRINGS" "Z" (.int z) ∧ ¬ z = 0 ∧ 0 < A.slots.size ∧ A.slots.size ≤ 536870912 ∧ ∀ i, i < A.slots.size → ¬ 255 < cv A i
def E (a : Addr) (D : Cell) (fV fC : Field) (A : Cell) (r : Option Value) (s u : State) : Prop := Got a D fV fC A 0 A.slots.size r s u
/-- new String(chars), not empty, no char above 255: a Latin-1 String of their low bytes -/
theorem law (l : Launch) (a : Addr) (D : Cell) (fV fC : Field) (b : Addr) (A : Cell) (z : Int32) : Law l yN 2 1 3 52 yB 2 none site (P a D fV fC b A z) (E a D fV fC A) [⟨a, fC.slot⟩, ⟨a, fV.slot⟩] 1 A.slots.size := by
  refine Law.of_walk (plainFor_of_name (by decide +kernel)) (by decide +kernel) (by decide +kernel) (by decide) (fun _ _ h => by rw [h.1]; rfl) (fun _ U U' hal hh h => ⟨h.1, h.2.1.mv hal hh, h.2.2.1.al hal, h.2.2.2.1.al hal, h.2.2.2.2.1.mv hal hh, h.2.2.2.2.2.1.there hal hh, h.2.2.2.2.2.2⟩) (fun r U U' V V' h1 hal h2 h => Got.mv r U U' V V' h1 hal h2 h) ?_
  intro p e s m args below meth c s₁ X0 hexec hbytes hml hret hlk hnm hown hh0 W hP
  obtain ⟨rfl, hB, f1, f2, hA, s1, hz, l0, l2, hp⟩ := hP
  have c1 : Steps p.tables e below (s₁.setTop (entryFrame m #[.ref a, .ref b] 2)) (s₁.setTop (mkF m 0 #[.val (.ref a), .val (.ref b)] [])) := entry rfl
  have c2 : Steps p.tables e below (s₁.setTop (entryFrame m #[.ref a, .ref b] 2)) (s₁.setTop (mkF m 6 #[.val (.ref a), .val (.ref b)] [.null, .int (Int32.ofNat A.slots.size), .int 0, .ref b, .ref a])) := c1.trans (by
    refine XS.aloadN X0.here hexec rfl (hb hbytes d0) rfl rfl ?_
    refine XS.aloadN X0.here hexec rfl (hb hbytes d1) rfl rfl ?_
    refine iconstV X0.here hexec rfl 0 (hb hbytes d2) (by decide) ?_
    refine XS.aloadN X0.here hexec rfl (hb hbytes d3) rfl rfl ?_
    refine X0.alen hexec (hA.1.mv X0.warmed.alike hh0) rfl rfl (hb hbytes d4) ?_
    refine XS.aconstNull X0.here hexec rfl (hb hbytes d5) ?_
    exact Steps.refl _)
  obtain ⟨v3, T3, X3, E3, g3⟩ := X0.callN hexec (New4.law l a D fV fC b A z 0 A.slots.size) rfl hown (wks W (initW "java/lang/String" 27 New4.yN)) (W New4.tab (by simp only [site, List.mem_cons, List.mem_append, true_or, or_true])) (W := 0) (Nat.le_of_ble_eq_true rfl) (Nat.le_of_ble_eq_true rfl) (Nat.le_refl _) (by show 0 + A.slots.size ≤ A.slots.size; omega) (g := (mkF m 6 #[.val (.ref a), .val (.ref b)] [.null, .int (Int32.ofNat A.slots.size), .int (Int32.ofNat 0), .ref b, .ref a])) rfl (by rw [hml]; rfl) c2 (argsL := [.ref b, .int (Int32.ofNat 0), .int (Int32.ofNat A.slots.size), .null]) (rest := []) rfl rfl (by show 2 * 0 + 0 ≤ _; decide) (hb hbytes d6) (⟨rfl, hB.mv X0.warmed.alike hh0, f1.al X0.warmed.alike, f2.al X0.warmed.alike, hA.mv X0.warmed.alike hh0, s1.there X0.warmed.alike hh0, hz, l0, by omega, l2, fun i hi => by rw [Nat.zero_add]; exact hp i hi⟩)
  have e0 := Got.mv _ s₁ s _ _ hh0.symm (Vm.Alike.refl _) rfl E3
  obtain rfl := e0.1
  have c4 : Steps p.tables e below (s₁.setTop (entryFrame m #[.ref a, .ref b] 2)) (T3.setTop (mkF m 9 #[.val (.ref a), .val (.ref b)] [])) := g3
  exact ⟨T3, none, _, _, _, X3, by simp, rfl, by omega, (fun _ => rfl), e0, fun fs hl => c4.trans (X3.returnOut hexec hret (hb hbytes d9) hl)⟩
theorem pays {l : Launch} {R : Room} {p : Program} {e : Env} {below : List Frame} {s : State} {sargs : Array Value} {len W : Nat} (a : Addr) (D : Cell) (fV fC : Field) (b : Addr) (A : Cell) (z : Int32) (htab : tab.before sargs s = true) (hfr : 4 ≤ R.frames) (hlo : W + 65 ≤ R.locals) :
    Back l R p e below s sargs yN len W (fun A₁ a₁ => A₁.cells + 1 ≤ R.cells ∧ A₁.slots + A.slots.size ≤ R.slots ∧ P a D fV fC b A z a₁ A₁.U) (fun A₁ _ v₁ B₁ => E a D fV fC A v₁ A₁.U B₁.U ∧ B₁.locs = A₁.locs ++ [⟨a, fC.slot⟩, ⟨a, fV.slot⟩] ∧ B₁.cells = A₁.cells + 1 ∧ B₁.slots = A₁.slots + A.slots.size) :=
  (law l a D fV fC b A z).pays htab hfr (by omega)
end New1
end StrChars
namespace StrChars.Road
open Jvm Sem ClassFile Op Lib Jvm.Stand Jvm.Free Jvm.Free.XT
open Jvm.Lib.Cold (StaticIs)
abbrev ST : String := "java/lang/String"
/-- every table word that New1's law asks, flat -/
abbrev words : List Jvm.Cond := [.code New1.yN New1.yB 2 none, .initialized ST, .methodLink ST 27 New4.yN, .instanceMethod New4.yN,
  .code New4.yN New4.yB 6 none, .fieldLink ST 38 ST "COMPACT_STRINGS" "Z", .laysFinal ST ST "value" "[B", .fieldLink ST 9 ST "value" "[B", .laysFinal ST ST "coder" "B", .fieldLink ST 15 ST "coder" "B",
  .methodLink ST 1 Lib.objectInit, .instanceMethod Lib.objectInit, .code Lib.objectInit ⟨#[0xb1]⟩ 1 none, .methodLink ST 177 Cmp3.yN, .static Cmp3.yN, .methodLink ST 47 CodL.yN, .static CodL.yN,
  .code Cmp3.yN Cmp3.yB 6 (some (.array .byte)), .initialized U16, .arrayClass .byte, .methodLink U16 115 Cmp5.yN, .static Cmp5.yN, .code Cmp5.yN Cmp5.yB 7 (some .int), .code CodL.yN CodL.yB 2 (some .byte)]
theorem tab_of {a : Array Value} {s : State} (h : ∀ w ∈ words, w.before a s = true) : New1.tab.before a s = true := by
  have h5 : Cmp5.tab.before a s = true := unparts (wk h (.code Cmp5.yN Cmp5.yB 7 (some .int))) (wks h (.initialized Cmp5.yN.cls :: Cmp5.site))
  have hc : CodL.tab.before a s = true := unparts (wk h (.code CodL.yN CodL.yB 2 (some .byte))) (wks h (.initialized CodL.yN.cls :: CodL.site))
  have q5 : ∀ w ∈ Cmp5.tab :: words, w.before a s = true := fun w hw => (List.mem_cons.mp hw).elim (fun e => e ▸ h5) (h w)
  have h3 : Cmp3.tab.before a s = true := unparts (wk q5 (.code Cmp3.yN Cmp3.yB 6 (some (.array .byte)))) (wks q5 (.initialized Cmp3.yN.cls :: Cmp3.site))
  have q3 : ∀ w ∈ Cmp3.tab :: CodL.tab :: words, w.before a s = true := fun w hw => (List.mem_cons.mp hw).elim (fun e => e ▸ h3) fun hw => (List.mem_cons.mp hw).elim (fun e => e ▸ hc) (h w)
  have h4 : New4.tab.before a s = true := unparts (wk q3 (.code New4.yN New4.yB 6 none)) (wks q3 (.initialized New4.yN.cls :: New4.site))
  have q4 : ∀ w ∈ New4.tab :: words, w.before a s = true := fun w hw => (List.mem_cons.mp hw).elim (fun e => e ▸ h4) (h w)
  exact unparts (wk q4 (.code New1.yN New1.yB 2 none)) (wks q4 (.initialized New1.yN.cls :: New1.site))
/-- the words ride from the start Z to the walk's own state -/
theorem moved {Z s : State} {a0 args : Array Value} (hZ : Z.Warmed39 s.vm) (hw : ∀ d ∈ words, d.before a0 Z = true) : ∀ d ∈ words, d.before args s = true := fun d hd => by
  have q := hw d hd
  have t : ∀ d ∈ words, d = .arrayClass .byte ∨ (d.onTables && d.keepsFace) = true := by decide +kernel
  rcases t d hd with rfl | t
  · exact RoadKit.mvA hZ q
  · exact RoadKit.mv hZ q t
/-- WHAT COMES BACK, over the tables of the start Z: h the heap at the call, h' behind it -/
def Q (Z : State) (x : Addr) (A : Cell) (h : Heap) (v : Option Value) (h' : Heap) (L : List Loc) : Prop := v = none ∧ (∀ y ∈ L, y.base = x) ∧ RoadKit.Keep h h' [x] ∧ h'.size = h.size + 1 ∧ RoadKit.Exa Z h' x ST ∧ RoadKit.Fld Z h' x ST "value" "[B" (.ref h.size) ∧ RoadKit.Fld Z h' x ST "coder" "B" (.int 0) ∧
  (∃ V : Cell, RoadKit.Arr Z h' h.size V .byte ∧ V.vm = .none ∧ Z.vm.findClass "[B" = some V.cls ∧ V.slots.size = A.slots.size ∧ ∀ j, j < A.slots.size → V.slots[j]? = some (.int (lo8 (cv A j)))) ∧
  ∀ (O n d : String) (w : Value), RoadKit.Fld Z h x O n d w → RoadKit.slotOf Z O n d ≠ RoadKit.slotOf Z ST "value" "[B" → RoadKit.slotOf Z O n d ≠ RoadKit.slotOf Z ST "coder" "B" → RoadKit.Fld Z h' x O n d w
/-- **new String(chars) AT A CALL, IN THE ROAD'S FORM**: for specialBack behind newO: x the fresh String, b the char[] with the cell A -/
theorem back {p : Program} {l : Launch} {e : Env} {R : Room} {s : State} {args : Array Value} {below : List Frame} {len W : Nat} {Z : State} {a0 : Array Value} {h : Heap} (hZ : Z.Warmed39 s.vm) (hw : ∀ d ∈ words, d.before a0 Z = true) {kI : Nat} (wi : (Jvm.Cond.instantiable ST kI).before a0 Z = true)
    {x b : Addr} {A : Cell} {z : Int32} {v0 c0 : Value} (E : RoadKit.Exa Z h x ST) (V : RoadKit.Fld Z h x ST "value" "[B" v0) (C : RoadKit.Fld Z h x ST "coder" "B" c0) (K : RoadKit.Arr Z h b A .char) (hty : Typed .char A) (S : RoadKit.Sta Z h ST "COMPACT_STRINGS" "Z" (.int z)) (hz : ¬ z = 0)
    (l0 : 0 < A.slots.size) (l2 : A.slots.size ≤ 536870912) (hp : ∀ i, i < A.slots.size → ¬ 255 < cv A i) (hfr : 4 ≤ R.frames) (hlo : W + 65 ≤ R.locals) :
    Back l R p e below s args New1.yN len W (fun P a => a = #[.ref x, .ref b] ∧ P.U.heap = h ∧ P.cells + 1 ≤ R.cells ∧ P.slots + A.slots.size ≤ R.slots)
      (fun P _ v B => ∃ L, Q Z x A h v B.U.heap L ∧ B.locs = P.locs ++ L ∧ B.cells = P.cells + 1 ∧ B.slots = P.slots + A.slots.size) := by
  intro m meth c P g ig mk a X hg hsize hdg hW hn hp'
  obtain ⟨rfl, rfl, r1, r2⟩ := hp'
  have al : Z.vm.Alike P.U.vm := hZ.alike.trans X.warmed.alike
  obtain ⟨D, cfV, kV, iV, fV, hD, gV, stV, knV, obV, asV, slV⟩ := id V
  obtain ⟨D', cfC, kC, iC, fC, hD', gC, stC, -, -, asC, slC⟩ := id C
  cases hD.symm.trans hD'
  obtain ⟨D2, kD, e1, e2, e3, e4, e5⟩ := id E
  cases hD.symm.trans e1
  obtain ⟨c2, k2, i1, i2, i3, -⟩ := Cond.instantiable_spec wi
  cases e2.symm.trans i1
  cases e3.symm.trans i2
  obtain ⟨kU, u1, u2⟩ := al.2.2 _ _ e3
  have hB : Blank ST x D P.U := ⟨hD, ⟨knV, fun q hq => by rw [hq] at obV; cases obV⟩, by rw [al.findClass]; exact e2, kU, u1, by rw [u2]; exact i3, by rw [u2]; exact e5 i3⟩
  have F1 : Found ST "value" "[B" fV P.U := ⟨SBG.found_only al ⟨cfV, kV, iV, gV⟩, stV⟩
  have F2 : Found ST "coder" "B" fC P.U := ⟨SBG.found_only al ⟨cfC, kC, iC, gC⟩, stC⟩
  have hA : Ch b A P.U := ⟨⟨K.1, State.isArrayOf_alike al K.2.1, K.2.2, by omega⟩, hty⟩
  have hS : StaticIs P.U ST "COMPACT_STRINGS" "Z" (.int z) := by
    obtain ⟨cfS, iS, kS, fS, st, cS, t1, t2, t3, t4, t5, t6, t7⟩ := S
    exact StaticIs.there (s := { Z with heap := P.U.heap }) ⟨cfS, iS, kS, fS, st, cS, t1, t2, t3, t4, t5, (fun q => by rw [q] at t6; cases t6), t7⟩ al rfl
  obtain ⟨v, B, X', ⟨⟨hv, E', V', q1, q2, q3, q4, q5, q6, q7, q8, q9, q10, q11⟩, hl, hc, hs⟩, st⟩ := New1.pays x D fV fC b A z (tab_of (moved hZ hw)) hfr hlo m meth c P g ig mk _ X hg hsize hdg hW hn ⟨r1, r2, rfl, hB, F1, F2, hA, hS, hz, l0, l2, hp⟩
  have al' : Z.vm.Alike B.U.vm := hZ.alike.trans X'.warmed.alike
  have hsz : E'.slots.size = D.slots.size := by
    obtain ⟨-, -, -, kB, w1, w2, w3⟩ := q1
    obtain ⟨kB', y1, y2⟩ := al'.2.2 _ _ e3
    rw [q2.2.1] at w1
    cases w1.symm.trans y1
    rw [w3, e5 i3, y2]
  refine ⟨v, B, X', ⟨_, ⟨hv, ?_, ⟨by omega, fun y cy hy hn' => q10 y cy (by simpa using hn') hy, fun y cy hy => ?_⟩, q11, ⟨E', _, q1.1, by rw [q2.2.1]; exact e2, by rw [q2.2.1]; exact e3, by rw [q2.1]; exact obV, fun _ => by rw [hsz]; exact e5 i3⟩,
    ⟨E', cfV, kV, iV, fV, q1.1, gV, stV, by rw [q2.1]; exact knV, by rw [q2.1]; exact obV, by rw [q2.2.1]; exact asV, q3⟩, ⟨E', cfC, kC, iC, fC, q1.1, gC, stC, by rw [q2.1]; exact knV, by rw [q2.1]; exact obV, by rw [q2.2.1]; exact asC, q4⟩,
    ⟨V', ⟨q5.1, State.isArrayOf_alike al'.symm q5.2.1, q5.2.2.1⟩, q6, by rw [← al'.findClass]; exact q7, q8, fun j hj => by have := q9 j hj; rwa [Nat.zero_add] at this⟩, fun O n d w F n1 n2 => ?_⟩, hl, hc, hs⟩, st⟩
  · intro y hy
    simp only [List.mem_cons, List.not_mem_nil, or_false] at hy
    rcases hy with rfl | rfl <;> rfl
  · by_cases q : y = x
    · subst q
      cases hD.symm.trans hy
      exact ⟨E', q1.1, q2.2.1, q2.1, hsz⟩
    · exact ⟨cy, q10 y cy q hy, rfl, rfl, rfl⟩
  · obtain ⟨D3, cf, k, i, f, g1, g2, g3, g4, g5, g6, g7⟩ := F
    cases hD.symm.trans g1
    simp only [RoadKit.slotOf, g2, gV, gC, Option.map_some, Option.getD_some] at n1 n2
    exact ⟨E', cf, k, i, f, q1.1, g2, g3, by rw [q2.1]; exact g4, by rw [q2.1]; exact g5, by rw [q2.2.1]; exact g6, by rw [q2.2.2 f.slot (by simp [n1, n2])]; exact g7⟩
end StrChars.Road
namespace StrChars.Road
open Jvm Sem ClassFile Op Lib Jvm.Stand Jvm.Free Jvm.Free.XT
/-- WHAT COMES BACK, the byte[] as a list of values -/
def QA (Z : State) (x : Addr) (zn : Int32) (cs : List Int32) (h : Heap) (v : Option Value) (h' : Heap) (L : List Loc) : Prop := v = none ∧ (∀ y ∈ L, y.base = x) ∧ RoadKit.Keep h h' [x] ∧ h'.size = h.size + 1 ∧ RoadKit.Exa Z h' x ST ∧ RoadKit.Fld Z h' x ST "value" "[B" (.ref h.size) ∧ RoadKit.Fld Z h' x ST "coder" "B" (.int 0) ∧
  (∃ kb, Z.vm.findClass "[B" = some kb ∧ RoadKit.Arv Z h' h.size kb .byte zn (cs.map fun c => .int (lo8 c)) (.int 0)) ∧
  ∀ (O n d : String) (w : Value), RoadKit.Fld Z h x O n d w → RoadKit.slotOf Z O n d ≠ RoadKit.slotOf Z ST "value" "[B" → RoadKit.slotOf Z O n d ≠ RoadKit.slotOf Z ST "coder" "B" → RoadKit.Fld Z h' x O n d w
/-- **new String(chars) AT A CALL, THE ARRAYS AS LISTS**: the char[] at b holds cs, not empty, no char above 255 -/
theorem backArv {p : Program} {l : Launch} {e : Env} {R : Room} {s : State} {args : Array Value} {below : List Frame} {len W : Nat} {Z : State} {a0 : Array Value} {h : Heap} (hZ : Z.Warmed39 s.vm) (hw : ∀ d ∈ words, d.before a0 Z = true) {kI : Nat} (wi : (Jvm.Cond.instantiable ST kI).before a0 Z = true)
    {x b : Addr} {k : ClassId} {zn z : Int32} {cs : List Int32} {dv v0 c0 : Value} (E : RoadKit.Exa Z h x ST) (V : RoadKit.Fld Z h x ST "value" "[B" v0) (C : RoadKit.Fld Z h x ST "coder" "B" c0) (K : RoadKit.Arv Z h b k .char zn (cs.map Value.int) dv) (S : RoadKit.Sta Z h ST "COMPACT_STRINGS" "Z" (.int z)) (hz : ¬ z = 0)
    (hlen : zn.toNatClampNeg = cs.length) (h0 : 0 < cs.length) (hbig : cs.length ≤ 536870912) (hall : ∀ c ∈ cs, ¬ 255 < c) (hfr : 4 ≤ R.frames) (hlo : W + 65 ≤ R.locals) :
    Back l R p e below s args New1.yN len W (fun P a => a = #[.ref x, .ref b] ∧ P.U.heap = h ∧ P.cells + 1 ≤ R.cells ∧ P.slots + cs.length ≤ R.slots)
      (fun P _ v B => ∃ L, QA Z x zn cs h v B.U.heap L ∧ B.locs = P.locs ++ L ∧ B.cells = P.cells + 1 ∧ B.slots = P.slots + cs.length) := by
  obtain ⟨A, K1, K2, K3, K4, K5, K6⟩ := K
  have e : A.slots.size = cs.length := K3.trans hlen
  have hat : ∀ (i : Nat) (hi : i < cs.length), A.slots[i]? = some (.int cs[i]) := fun i hi => by rw [K5 i (by omega)]; simp [List.getD_eq_getElem?_getD, hi]
  have hcv : ∀ (i : Nat) (hi : i < cs.length), cv A i = cs[i] := fun i hi => by unfold cv; rw [hat i hi]
  have hty : Typed .char A := fun i v hv => by
    have hi : i < A.slots.size := (Array.getElem?_eq_some_iff.mp hv).1
    have q := K5 i hi
    rw [hv] at q
    rw [Option.some.inj q]
    exact K6 i hi
  refine Back.mono (back hZ hw wi E V C K1 hty S hz (by omega) (by omega) (fun i hi => by rw [hcv i (by omega)]; exact hall _ (List.getElem_mem _)) hfr hlo) (fun P a hp => ⟨hp.1, hp.2.1, hp.2.2.1, by rw [e]; exact hp.2.2.2⟩) (fun P a v B hp hq => ?_)
  obtain ⟨L, ⟨q1, q2, q3, q4, q5, q6, q7, ⟨V', v1, v2, v3, v4, v5⟩, q9⟩, hl, hc, hs⟩ := hq
  refine ⟨L, ⟨q1, q2, q3, q4, q5, q6, q7, ⟨V'.cls, v3, V', v1, rfl, by rw [v4, e, hlen], K4, fun i hi => ?_, fun i hi => ?_⟩, q9⟩, hl, hc, by rw [hs, e]⟩
  · have hi' : i < cs.length := by omega
    rw [v5 i (by omega), hcv i hi']; simp [List.getD_eq_getElem?_getD, hi']
  · have hi' : i < cs.length := by omega
    simp only [List.getD_eq_getElem?_getD, List.getElem?_map, List.getElem?_eq_getElem hi', Option.map_some, Option.getD_some]
    exact fits_lo8 _
end StrChars.Road
namespace StrChars.Road
open Jvm Sem ClassFile Op Lib Jvm.Stand Jvm.Free Jvm.Free.XT
/-- WHAT COMES BACK, in the writer's own shape -/
def QV (Z : State) (x : Addr) (N : Int32) (bs : List Int32) (h : Heap) (n0 : Nat) (v : Option Value) (h' : Heap) (L : List Loc) : Prop := v = none ∧ RoadKit.Fr n0 L ∧ RoadKit.Keep h h' [x] ∧ RoadKit.Exa Z h' x ST ∧ RoadKit.Fld Z h' x ST "coder" "B" (.int 0) ∧
  ∃ (t : Addr) (kb : ClassId), n0 ≤ t ∧ h.size ≤ t ∧ ¬ t = x ∧ RoadKit.Fld Z h' x ST "value" "[B" (.ref t) ∧ RoadKit.Arv Z h' t kb .byte N (bs.map Value.int) (.int 0)
/-- **new String(chars) AT A CALL, FOR THE WRITER**: a char[] of n known ints, each 0 to 255 -/
theorem backV {p : Program} {l : Launch} {e : Env} {R : Room} {s : State} {args : Array Value} {below : List Frame} {len W : Nat} {Z : State} {a0 : Array Value} {h : Heap} (hZ : Z.Warmed39 s.vm) (hw : ∀ d ∈ words, d.before a0 Z = true) {kI : Nat} (wi : (Jvm.Cond.instantiable ST kI).before a0 Z = true)
    {x b : Addr} {kC : ClassId} {cs bs : List Int32} {d v0 c0 : Value} {z N : Int32} {n n0 : Nat} (hx0 : n0 ≤ x) (hh0 : n0 ≤ h.size) (E : RoadKit.Exa Z h x ST) (V : RoadKit.Fld Z h x ST "value" "[B" v0) (C : RoadKit.Fld Z h x ST "coder" "B" c0) (K : RoadKit.Arv Z h b kC .char N (cs.map Value.int) d) (S : RoadKit.Sta Z h ST "COMPACT_STRINGS" "Z" (.int z)) (hz : ¬ z = 0)
    (hn : cs.length = n) (hN : N = Int32.ofNat n) (l0 : 0 < n) (l2 : n ≤ 4000) (hp : ∀ c ∈ cs, ¬ c < 0 ∧ ¬ (255 : Int32) < c) (hb : bs = cs.map (fun c => c.toInt8.toInt32)) (hfr : 4 ≤ R.frames) (hlo : W + 65 ≤ R.locals) :
    Back l R p e below s args (⟨"java/lang/String", "<init>", "([C)V"⟩ : MethodName) len W (fun P a => a = #[.ref x, .ref b] ∧ P.U.heap = h ∧ P.cells + 1 ≤ R.cells ∧ P.slots + n ≤ R.slots)
      (fun P _ v B => ∃ L, QV Z x N bs h n0 v B.U.heap L ∧ B.locs = P.locs ++ L ∧ B.cells = P.cells + 1 ∧ B.slots = P.slots + n) := by
  subst hn hN hb
  refine Back.mono (backArv hZ hw wi E V C K S hz (n32 (by omega)) l0 (by omega) (fun c hc => (hp c hc).2) hfr hlo) (fun P a hp => hp) (fun P a v B hp hq => ?_)
  obtain ⟨L, ⟨q1, q2, q3, q4, q5, q6, q7, ⟨kb, v1, v2⟩, q9⟩, hl, hc, hs⟩ := hq
  exact ⟨L, ⟨q1, fun y hy => by rw [q2 y hy]; exact hx0, q3, q5, q7, h.size, kb, hh0, Nat.le_refl _, Nat.ne_of_gt E.lt, q6, by rw [List.map_map]; exact v2⟩, hl, hc, hs⟩
end StrChars.Road
end Jvm.Pilot.@@N@@

namespace Jvm.Pilot.@@N@@
open Jvm Jvm.ClassFile Sem Op Lib Jvm.Free Jvm.Stand Jvm.LawKit Jvm.RoadKit Bundle Jvm.Pilot.@@N@@.Jvm.D

theorem and255_chars (x : Int32) : ¬ nar .char ((x &&& (255 : Int32)).toUInt32.toUInt16.toUInt32.toInt32) < 0 ∧ ¬ (255 : Int32) < nar .char ((x &&& (255 : Int32)).toUInt32.toUInt16.toUInt32.toInt32) := by
  have t : ∀ k : Fin 256, ¬ nar .char ((Int32.ofNat k.val).toUInt32.toUInt16.toUInt32.toInt32) < 0 ∧ ¬ (255 : Int32) < nar .char ((Int32.ofNat k.val).toUInt32.toUInt16.toUInt32.toInt32) := by decide +kernel
  have h : (x &&& 255).toBitVec.toNat < 256 := by
    simp only [Int32.toBitVec_and, BitVec.toNat_and]
    exact Nat.lt_succ_of_le Nat.and_le_right
  have e : (x &&& 255) = Int32.ofNat (x &&& 255).toBitVec.toNat := by
    apply Int32.toBitVec_inj.mp
    show _ = BitVec.ofNat 32 _
    rw [BitVec.ofNat_toNat]; simp
  rw [e]
  exact t ⟨_, h⟩
theorem own_strwords : ∀ d ∈ StrChars.Road.words, d ∈ tables_1 := by decide +kernel

theorem own_strAtoms : ∀ d ∈ Bundle.stringAtoms, d ∈ tables_1 := by decide +kernel
theorem own_wS {Z : State} {a0 : Array Value} (hw : ∀ d ∈ tables_1, d.before a0 Z = true) : ∀ d ∈ Bundle.stringAtoms, d.before a0 Z = true := fun d hd => hw d (own_strAtoms d hd)

theorem d_jdk_30_method_1_code_0 : decode jdk_30_method_1_code 0 = .ok (.aload_n 0, 1) := by decide +kernel
theorem d_jdk_30_method_1_code_1 : decode jdk_30_method_1_code 1 = .ok (.invokespecial 1, 3) := by decide +kernel
theorem d_jdk_30_method_1_code_4 : decode jdk_30_method_1_code 4 = .ok (.return_, 1) := by decide +kernel
theorem pn_java_lang_Record : plainName "java/lang/Record" = true := by first | (simp [plainName, overriddenIn]; done) | decide +kernel
theorem ef_rec (m : MethodId) (x0 : Addr) : entryFrame m #[(.ref x0)] 1 = mkF m 0 #[.val (.ref x0)] [] := by (first | (simp [entryFrame, mkF, argsToLocals, Value.category]; done) | rfl)
def Q_rec  (h0 : Heap) (n0 : Nat) (v : Option Value) (h : Heap) (L : List Loc) : Prop := v = none ∧ Fr n0 L ∧ h = h0
set_option maxRecDepth 65536 in
set_option maxHeartbeats 40000000 in
theorem rm_rec (l : Launch) (Z : State) (a0 : Array Value) (hw : ∀ d ∈ tables_1, d.before a0 Z = true) (ws : List Jvm.Cond) (a1 : Addr) (h0 : Heap) (n0 : Nat) (Z0 : n0 ≤ h0.size)  :
    MetFree l (⟨"java/lang/Record", "<init>", "()V"⟩ : MethodName) (head1 (Jvm.Cond.code (⟨"java/lang/Record", "<init>", "()V"⟩ : MethodName) jdk_30_method_1_code 1 none :: ws) ({ frames := 1, cells := 0, slots := 0, locals := 12 } : Room)) (fun a U => a = #[(.ref a1)] ∧ Z.Warmed39 U.vm ∧ U.heap = h0) (fun _ _ _ _ _ => True) (fun _ U o U' => ∃ v L, o = .returned v ∧ Q_rec  h0 n0 v U'.heap L ∧ FrameEnd U o U' L ({ frames := 1, cells := 0, slots := 0, locals := 12 } : Room).cells ({ frames := 1, cells := 0, slots := 0, locals := 12 } : Room).slots) := by
  refine MetFree.of_bodySF (plainFor_of_name pn_java_lang_Record) hisR ?_
  intro p e s m args below meth c s₁ Bd hml0 hP hK
  obtain ⟨rfl, hZ, hh⟩ := hP
  have hx := Bd.exec
  have hby := Bd.bytes
  have hml : c.maxLocals = 1 := hml0
  have hown : s.vm.findClass "java/lang/Record" = some m.cls := findClass_of_methodNamed Bd.named
  have hnm := (name_of_methodNamed Bd.named Bd.method).1
  have X0 : Stand p l e ({ frames := 1, cells := 0, slots := 0, locals := 12 } : Room) s m #[(.ref a1)] below meth c s₁ [] 0 0 := Stand.of_body Bd
  have e0 : s₁.heap = h0 := by rw [← hh, Bd.state]; rfl
  have N0 := Fr.nil n0
  have pre0 : ∀ t, Steps p.tables e below (s₁.setTop (mkF m 0 #[.val (.ref a1)] [])) t → Steps p.tables e below (s₁.setTop (entryFrame m #[(.ref a1)] 1)) t := fun t k => castTop (ef_rec m a1) k
  have P0 : ∀ t, Steps p.tables e below (s₁.setTop (mkF m 0 #[.val (.ref a1)] [])) t → Steps p.tables e below (s₁.setTop (mkF m 0 #[.val (.ref a1)] [])) t := fun t k => k
  obtain ⟨T1, X1, e1, st1⟩ := initO X0 hx hZ hown (hw _ (List.mem_of_getElem? (i := 55) rfl)) (hw _ (List.mem_of_getElem? (i := 12) rfl)) (hw _ (List.mem_of_getElem? (i := 13) rfl)) e0 (g := (mkF m 1 #[.val (.ref a1)] [(.ref a1)])) rfl (by rw [hml]; rfl) rfl (hb hby d_jdk_30_method_1_code_1) (by decide) (W := 0) (by show 2 * 0 + _ ≤ _; exact Nat.le_of_eq rfl) (by decide)
  have P2 : ∀ t, Steps p.tables e below (T1.setTop (mkF m 4 #[.val (.ref a1)] [])) t → Steps p.tables e below (s₁.setTop (mkF m 0 #[.val (.ref a1)] [])) t := fun t k => P0 t (by
    refine XS.aloadN X0.here hx rfl (hb hby d_jdk_30_method_1_code_0) rfl rfl ?_
    show Steps p.tables e below (s₁.setTop (mkF m 1 #[.val (.ref a1)] [(.ref a1)])) _
    exact st1 _ k)
  obtain ⟨fs3, hr3, hrun3, hended3, hW3, hsame3⟩ := X1.leave (v := none) (fun _ => rfl)
  refine ⟨_, _, pre0 _ (P2 _ ?_), hrun3, hended3, _, _, rfl, ?_, ⟨⟨_, rfl⟩, hW3, hsame3.mono (Nat.le_of_ble_eq_true rfl) (Nat.le_of_ble_eq_true rfl)⟩⟩
  · show Steps p.tables e below (T1.setTop (mkF m 4 #[.val (.ref a1)] [])) _
    exact X1.returnOut hx Bd.returns (hb hby d_jdk_30_method_1_code_4) hr3
  · show Q_rec  h0 n0 _ T1.heap _
    rw [e1]
    exact ⟨rfl, N0, rfl⟩

theorem d_jdk_31_method_11_code_0 : decode jdk_31_method_11_code 0 = .ok (.aload_n 0, 1) := by decide +kernel
theorem d_jdk_31_method_11_code_1 : decode jdk_31_method_11_code 1 = .ok (.ifnonnull 12, 3) := by decide +kernel
theorem d_jdk_31_method_11_code_13 : decode jdk_31_method_11_code 13 = .ok (.aload_n 0, 1) := by decide +kernel
theorem d_jdk_31_method_11_code_14 : decode jdk_31_method_11_code 14 = .ok (.areturn, 1) := by decide +kernel
theorem pn_java_util_Objects : plainName "java/util/Objects" = true := by first | (simp [plainName, overriddenIn]; done) | decide +kernel
theorem ef_rnn (m : MethodId) (x0 : Addr) (x1 : Addr) : entryFrame m #[(.ref x0), (.ref x1)] 2 = mkF m 0 #[.val (.ref x0), .val (.ref x1)] [] := by (first | (simp [entryFrame, mkF, argsToLocals, Value.category]; done) | rfl)
def Q_rnn (a1 : Addr) (h0 : Heap) (n0 : Nat) (v : Option Value) (h : Heap) (L : List Loc) : Prop := v = some (.ref a1) ∧ Fr n0 L ∧ h = h0
set_option maxRecDepth 65536 in
set_option maxHeartbeats 40000000 in
theorem rm_rnn (l : Launch) (Z : State) (a0 : Array Value) (hw : ∀ d ∈ tables_1, d.before a0 Z = true) (ws : List Jvm.Cond) (a1 a2 : Addr) (h0 : Heap) (n0 : Nat) (Z0 : n0 ≤ h0.size)  :
    MetFree l (⟨"java/util/Objects", "requireNonNull", "(Ljava/lang/Object;Ljava/lang/String;)Ljava/lang/Object;"⟩ : MethodName) (head1 (Jvm.Cond.code (⟨"java/util/Objects", "requireNonNull", "(Ljava/lang/Object;Ljava/lang/String;)Ljava/lang/Object;"⟩ : MethodName) jdk_31_method_11_code 2 (some (.object "java/lang/Object")) :: ws) ({ frames := 0, cells := 0, slots := 0, locals := 0 } : Room)) (fun a U => a = #[(.ref a1), (.ref a2)] ∧ Z.Warmed39 U.vm ∧ U.heap = h0) (fun _ _ _ _ _ => True) (fun _ U o U' => ∃ v L, o = .returned v ∧ Q_rnn a1 h0 n0 v U'.heap L ∧ FrameEnd U o U' L ({ frames := 0, cells := 0, slots := 0, locals := 0 } : Room).cells ({ frames := 0, cells := 0, slots := 0, locals := 0 } : Room).slots) := by
  refine MetFree.of_bodySF (plainFor_of_name pn_java_util_Objects) hisR ?_
  intro p e s m args below meth c s₁ Bd hml0 hP hK
  obtain ⟨rfl, hZ, hh⟩ := hP
  have hx := Bd.exec
  have hby := Bd.bytes
  have hml : c.maxLocals = 2 := hml0
  have hown : s.vm.findClass "java/util/Objects" = some m.cls := findClass_of_methodNamed Bd.named
  have hnm := (name_of_methodNamed Bd.named Bd.method).1
  have X0 : Stand p l e ({ frames := 0, cells := 0, slots := 0, locals := 0 } : Room) s m #[(.ref a1), (.ref a2)] below meth c s₁ [] 0 0 := Stand.of_body Bd
  have e0 : s₁.heap = h0 := by rw [← hh, Bd.state]; rfl
  have N0 := Fr.nil n0
  have pre0 : ∀ t, Steps p.tables e below (s₁.setTop (mkF m 0 #[.val (.ref a1), .val (.ref a2)] [])) t → Steps p.tables e below (s₁.setTop (entryFrame m #[(.ref a1), (.ref a2)] 2)) t := fun t k => castTop (ef_rnn m a1 a2) k
  have P0 : ∀ t, Steps p.tables e below (s₁.setTop (mkF m 0 #[.val (.ref a1), .val (.ref a2)] [])) t → Steps p.tables e below (s₁.setTop (mkF m 0 #[.val (.ref a1), .val (.ref a2)] [])) t := fun t k => k
  obtain ⟨fs4, hr4, hrun4, hended4, hW4, hsame4⟩ := X0.leave (v := some (.ref a1)) (fun h => by rw [Bd.returns] at h; cases h)
  refine ⟨_, _, pre0 _ (P0 _ ?_), hrun4, hended4, _, _, rfl, ?_, ⟨⟨_, rfl⟩, hW4, hsame4.mono (Nat.le_of_ble_eq_true rfl) (Nat.le_of_ble_eq_true rfl)⟩⟩
  · refine XS.aloadN X0.here hx rfl (hb hby d_jdk_31_method_11_code_0) rfl rfl ?_
    show Steps p.tables e below (s₁.setTop (mkF m 1 #[.val (.ref a1), .val (.ref a2)] [(.ref a1)])) _
    refine XS.ifnonnullYes X0.here hx rfl (pc0 := 1) (pc' := 13) rfl (hb hby d_jdk_31_method_11_code_1) rfl (by decide) (by decide) ?_
    show Steps p.tables e below (s₁.setTop (mkF m 13 #[.val (.ref a1), .val (.ref a2)] [])) _
    refine XS.aloadN X0.here hx rfl (hb hby d_jdk_31_method_11_code_13) rfl rfl ?_
    show Steps p.tables e below (s₁.setTop (mkF m 14 #[.val (.ref a1), .val (.ref a2)] [(.ref a1)])) _
    exact retOut X0 hx Bd.returns rfl (Or.inr (Or.inr (Or.inr (Or.inr ⟨rfl, rfl, rfl⟩)))) (hb hby d_jdk_31_method_11_code_14) hr4
  · show Q_rnn a1 h0 n0 _ s₁.heap _
    rw [e0]
    exact ⟨rfl, N0, rfl⟩

theorem d_prog_18_method_1_code_0 : decode prog_18_method_1_code 0 = .ok (.aload_n 0, 1) := by decide +kernel
theorem d_prog_18_method_1_code_1 : decode prog_18_method_1_code 1 = .ok (.invokespecial 1, 3) := by decide +kernel
theorem pd__28_29V : parseMethodDescriptor "()V" = some ⟨[], none⟩ := by decide +kernel
theorem d_prog_18_method_1_code_4 : decode prog_18_method_1_code 4 = .ok (.aload_n 1, 1) := by decide +kernel
theorem d_prog_18_method_1_code_5 : decode prog_18_method_1_code 5 = .ok (.ldc 7, 2) := by decide +kernel
theorem d_prog_18_method_1_code_7 : decode prog_18_method_1_code 7 = .ok (.invokestatic 9, 3) := by decide +kernel
theorem pd__28Ljava_2flang_2fObject_3bLjava_2flang_2fString_3b_29Ljava_2flang_2fObject_3b : parseMethodDescriptor "(Ljava/lang/Object;Ljava/lang/String;)Ljava/lang/Object;" = some ⟨[(.object "java/lang/Object"), (.object "java/lang/String")], some (.object "java/lang/Object")⟩ := by decide +kernel
theorem d_prog_18_method_1_code_10 : decode prog_18_method_1_code 10 = .ok (.pop, 1) := by decide +kernel
theorem d_prog_18_method_1_code_11 : decode prog_18_method_1_code 11 = .ok (.aload_n 3, 1) := by decide +kernel
theorem d_prog_18_method_1_code_12 : decode prog_18_method_1_code 12 = .ok (.ldc 15, 2) := by decide +kernel
theorem d_prog_18_method_1_code_14 : decode prog_18_method_1_code 14 = .ok (.invokestatic 9, 3) := by decide +kernel
theorem d_prog_18_method_1_code_17 : decode prog_18_method_1_code 17 = .ok (.pop, 1) := by decide +kernel
theorem d_prog_18_method_1_code_18 : decode prog_18_method_1_code 18 = .ok (.aload_n 0, 1) := by decide +kernel
theorem d_prog_18_method_1_code_19 : decode prog_18_method_1_code 19 = .ok (.aload_n 1, 1) := by decide +kernel
theorem d_prog_18_method_1_code_20 : decode prog_18_method_1_code 20 = .ok (.putfield 17, 3) := by decide +kernel
theorem d_prog_18_method_1_code_23 : decode prog_18_method_1_code 23 = .ok (.aload_n 0, 1) := by decide +kernel
theorem d_prog_18_method_1_code_24 : decode prog_18_method_1_code 24 = .ok (.iload_n 2, 1) := by decide +kernel
theorem d_prog_18_method_1_code_25 : decode prog_18_method_1_code 25 = .ok (.putfield 22, 3) := by decide +kernel
theorem d_prog_18_method_1_code_28 : decode prog_18_method_1_code 28 = .ok (.aload_n 0, 1) := by decide +kernel
theorem d_prog_18_method_1_code_29 : decode prog_18_method_1_code 29 = .ok (.aload_n 3, 1) := by decide +kernel
theorem d_prog_18_method_1_code_30 : decode prog_18_method_1_code 30 = .ok (.putfield 26, 3) := by decide +kernel
theorem d_prog_18_method_1_code_33 : decode prog_18_method_1_code 33 = .ok (.aload_n 0, 1) := by decide +kernel
theorem d_prog_18_method_1_code_34 : decode prog_18_method_1_code 34 = .ok (.iload 4, 2) := by decide +kernel
theorem d_prog_18_method_1_code_36 : decode prog_18_method_1_code 36 = .ok (.putfield 28, 3) := by decide +kernel
theorem d_prog_18_method_1_code_39 : decode prog_18_method_1_code 39 = .ok (.return_, 1) := by decide +kernel
theorem pn_com_example_clausewright_clausewright_model_Column : plainName "com/example/clausewright/clausewright/model/Column" = true := by first | (simp [plainName, overriddenIn]; done) | decide +kernel
theorem ef_ctor (m : MethodId) (x0 : Addr) (x1 : Addr) (x2 : Int32) (x3 : Addr) (x4 : Int32) : entryFrame m #[(.ref x0), (.ref x1), (.int x2), (.ref x3), (.int x4)] 5 = mkF m 0 #[.val (.ref x0), .val (.ref x1), .val (.int x2), .val (.ref x3), .val (.int x4)] [] := by (first | (simp [entryFrame, mkF, argsToLocals, Value.category]; done) | rfl)
def Q_ctor (Z : State) (a1 : Addr) (t1 : Int32) (h0 : Heap) (n0 : Nat) (v : Option Value) (h : Heap) (L : List Loc) : Prop := v = none ∧ Fr n0 L ∧ Keep h0 h [a1] ∧ Exa Z h a1 "com/example/clausewright/clausewright/model/Column" ∧ Fld Z h a1 "com/example/clausewright/clausewright/model/Column" "jdbcType" "I" (.int t1)
set_option maxRecDepth 65536 in
set_option maxHeartbeats 40000000 in
theorem rm_ctor (l : Launch) (Z : State) (a0 : Array Value) (hw : ∀ d ∈ tables_1, d.before a0 Z = true) (ws : List Jvm.Cond) (a1 c1 : Addr) (t1 : Int32) (c2 : Addr) (nb : Int32) (h0 : Heap) (n0 : Nat) (Z0 : n0 ≤ h0.size) (g_a1 : n0 ≤ a1) (E1 : Exa Z h0 a1 "com/example/clausewright/clausewright/model/Column") (F_name : Fld Z h0 a1 "com/example/clausewright/clausewright/model/Column" "name" "Ljava/lang/String;" .null) (F_jdbcType : Fld Z h0 a1 "com/example/clausewright/clausewright/model/Column" "jdbcType" "I" (.int (0 : Int32))) (F_typeName : Fld Z h0 a1 "com/example/clausewright/clausewright/model/Column" "typeName" "Ljava/lang/String;" .null) (F_nullable : Fld Z h0 a1 "com/example/clausewright/clausewright/model/Column" "nullable" "Z" (.int (0 : Int32))) :
    MetFree l (⟨"com/example/clausewright/clausewright/model/Column", "<init>", "(Ljava/lang/String;ILjava/lang/String;Z)V"⟩ : MethodName) (head1 (Jvm.Cond.code (⟨"com/example/clausewright/clausewright/model/Column", "<init>", "(Ljava/lang/String;ILjava/lang/String;Z)V"⟩ : MethodName) prog_18_method_1_code 5 none :: ws) ({ frames := 2, cells := 4, slots := 56, locals := 24 } : Room)) (fun a U => a = #[(.ref a1), (.ref c1), (.int t1), (.ref c2), (.int nb)] ∧ Z.Warmed39 U.vm ∧ U.heap = h0) (fun _ _ _ _ _ => True) (fun _ U o U' => ∃ v L, o = .returned v ∧ Q_ctor Z a1 t1 h0 n0 v U'.heap L ∧ ReturnedEndW U o U' L ({ frames := 2, cells := 4, slots := 56, locals := 24 } : Room).cells ({ frames := 2, cells := 4, slots := 56, locals := 24 } : Room).slots) := by
  refine MetFree.of_bodySF (plainFor_of_name pn_com_example_clausewright_clausewright_model_Column) hisR ?_
  intro p e s m args below meth c s₁ Bd hml0 hP hK
  obtain ⟨rfl, hZ, hh⟩ := hP
  have hx := Bd.exec
  have hby := Bd.bytes
  have hml : c.maxLocals = 5 := hml0
  have hown : s.vm.findClass "com/example/clausewright/clausewright/model/Column" = some m.cls := findClass_of_methodNamed Bd.named
  have hnm := (name_of_methodNamed Bd.named Bd.method).1
  have X0 : Stand p l e ({ frames := 2, cells := 4, slots := 56, locals := 24 } : Room) (s.setVm s.vm) m #[(.ref a1), (.ref c1), (.int t1), (.ref c2), (.int nb)] below meth c s₁ [] 0 0 := Stand.of_body Bd
  have e0 : s₁.heap = h0 := by rw [← hh, Bd.state]; rfl
  have N0 := Fr.nil n0
  have pre0 : ∀ t, Steps p.tables e below (s₁.setTop (mkF m 0 #[.val (.ref a1), .val (.ref c1), .val (.int t1), .val (.ref c2), .val (.int nb)] [])) t → Steps p.tables e below (s₁.setTop (entryFrame m #[(.ref a1), (.ref c1), (.int t1), (.ref c2), (.int nb)] 5)) t := fun t k => castTop (ef_ctor m a1 c1 t1 c2 nb) k
  have P0 : ∀ t, Steps p.tables e below (s₁.setTop (mkF m 0 #[.val (.ref a1), .val (.ref c1), .val (.int t1), .val (.ref c2), .val (.int nb)] [])) t → Steps p.tables e below (s₁.setTop (mkF m 0 #[.val (.ref a1), .val (.ref c1), .val (.int t1), .val (.ref c2), .val (.int nb)] [])) t := fun t k => k
  have hS0 : s.Since s.vm h0.size := (State.WarmedH.refl s).since _
  obtain ⟨_, _, ⟨T5, L5, k5, n5⟩, -, X5, ⟨Lc5, hQ5, l5, y5, z5⟩, st5⟩ := X0.specialBack hx (y := (⟨"java/lang/Record", "<init>", "()V"⟩ : MethodName)) rfl hown (mvT hZ (hw _ (List.mem_of_getElem? (i := 50) rfl))) (mvT hZ (hw _ (List.mem_of_getElem? (i := 51) rfl))) (mvT hZ (hw _ (List.mem_of_getElem? (i := 54) rfl))) (by decide) (backOf (W := 0) (rm_rec l Z a0 hw [] a1 h0 n0 Z0 ) hZ (hw _ (List.mem_of_getElem? (i := 54) rfl)) (hw _ (List.mem_of_getElem? (i := 53) rfl)) (by decide) (by decide)) (g := (mkF m 1 #[.val (.ref a1), .val (.ref c1), .val (.int t1), .val (.ref c2), .val (.int nb)] [(.ref a1)])) rfl (by rw [hml]; rfl) (Steps.refl _) (a := a1) (argsL := []) (rest := []) (lenOf pd__28_29V rfl) rfl (by show 2 * 0 + _ ≤ _; exact Nat.le_of_eq rfl) (hb hby d_prog_18_method_1_code_1) (fun _ _ => ⟨rfl, e0, (Nat.le_of_ble_eq_true rfl : 0 + 0 ≤ _), (Nat.le_of_ble_eq_true rfl : 0 + 0 ≤ _)⟩)
  dsimp only [Pt.U, Pt.locs, Pt.cells, Pt.slots] at X5 l5 y5 z5 st5 hQ5
  subst l5 y5 z5
  obtain ⟨rfl, Nq5, e5⟩ := hQ5
  have N6 := Fr.app N0 Nq5
  have P7 : ∀ t, Steps p.tables e below (T5.setTop (mkF m 4 #[.val (.ref a1), .val (.ref c1), .val (.int t1), .val (.ref c2), .val (.int nb)] [])) t → Steps p.tables e below (s₁.setTop (mkF m 0 #[.val (.ref a1), .val (.ref c1), .val (.int t1), .val (.ref c2), .val (.int nb)] [])) t := fun t k => P0 t (by
    refine XS.aloadN X0.here hx rfl (hb hby d_prog_18_method_1_code_0) rfl rfl ?_
    show Steps p.tables e below (s₁.setTop (mkF m 1 #[.val (.ref a1), .val (.ref c1), .val (.int t1), .val (.ref c2), .val (.int nb)] [(.ref a1)])) _
    exact st5.trans k)
  obtain ⟨y8, T8, h8, k8, X8, e8, E8, hS8, hk8, hZ8, ho8, st8⟩ := ldcS X5 hx hZ hown (hw _ (List.mem_of_getElem? (i := 56) rfl)) (own_wS hw) e5 hS0 (Nat.le_refl _) (g := (mkF m 5 #[.val (.ref a1), .val (.ref c1), .val (.int t1), .val (.ref c2), .val (.int nb)] [(.ref c1)])) rfl (hb hby d_prog_18_method_1_code_5) (n := 16) (by decide) (by decide) (Nat.le_of_ble_eq_true rfl) (Nat.le_of_ble_eq_true rfl)
  have P9 : ∀ t, Steps p.tables e below (T8.setTop (mkF m 7 #[.val (.ref a1), .val (.ref c1), .val (.int t1), .val (.ref c2), .val (.int nb)] [(.ref y8), (.ref c1)])) t → Steps p.tables e below (s₁.setTop (mkF m 0 #[.val (.ref a1), .val (.ref c1), .val (.int t1), .val (.ref c2), .val (.int nb)] [])) t := fun t k => P7 t (by
    show Steps p.tables e below (T5.setTop (mkF m 4 #[.val (.ref a1), .val (.ref c1), .val (.int t1), .val (.ref c2), .val (.int nb)] [])) _
    refine XS.aloadN X5.here hx rfl (hb hby d_prog_18_method_1_code_4) rfl rfl ?_
    show Steps p.tables e below (T5.setTop (mkF m 5 #[.val (.ref a1), .val (.ref c1), .val (.int t1), .val (.ref c2), .val (.int nb)] [(.ref c1)])) _
    exact st8 _ k)
  have Z10 : n0 ≤ h8.size := Nat.le_trans Z0 E8.1
  have K11 : Keep h0 h8 [a1] := (Keep.refl h0 [a1]).ext E8
  obtain ⟨_, _, ⟨T12, L12, k12, n12⟩, -, X12, ⟨Lc12, hQ12, l12, y12, z12⟩, st12⟩ := Jvm.LawKit.callS X8 hx (y := (⟨"java/util/Objects", "requireNonNull", "(Ljava/lang/Object;Ljava/lang/String;)Ljava/lang/Object;"⟩ : MethodName)) ho8 (mvT hZ8 (hw _ (List.mem_of_getElem? (i := 59) rfl))) (mvT hZ8 (hw _ (List.mem_of_getElem? (i := 60) rfl))) (mvT hZ8 (hw _ (List.mem_of_getElem? (i := 61) rfl))) (mvT hZ8 (hw _ (List.mem_of_getElem? (i := 62) rfl))) (by decide) (backOf (W := 0) (rm_rnn l Z a0 hw [] c1 y8 h8 n0 Z10 ) hZ8 (hw _ (List.mem_of_getElem? (i := 62) rfl)) (hw _ (List.mem_of_getElem? (i := 61) rfl)) (by decide) (by decide)) (g := (mkF m 7 #[.val (.ref a1), .val (.ref c1), .val (.int t1), .val (.ref c2), .val (.int nb)] [(.ref y8), (.ref c1)])) rfl (by rw [hml]; rfl) (argsL := [(.ref c1), (.ref y8)]) (rest := []) (lenOf pd__28Ljava_2flang_2fObject_3bLjava_2flang_2fString_3b_29Ljava_2flang_2fObject_3b rfl) rfl (by show 2 * 0 + _ ≤ _; exact Nat.le_of_eq rfl) (hb hby d_prog_18_method_1_code_7) (fun _ _ => ⟨rfl, e8, (Nat.le_of_ble_eq_true rfl : 2 + 0 ≤ _), (Nat.le_of_ble_eq_true rfl : 20 + 0 ≤ _)⟩)
  dsimp only [Pt.U, Pt.locs, Pt.cells, Pt.slots] at X12 l12 y12 z12 st12 hQ12
  subst l12 y12 z12
  obtain ⟨rfl, Nq12, e12⟩ := hQ12
  have N13 := Fr.app N6 Nq12
  have P14 : ∀ t, Steps p.tables e below (T12.setTop (mkF m 10 #[.val (.ref a1), .val (.ref c1), .val (.int t1), .val (.ref c2), .val (.int nb)] [(.ref c1)])) t → Steps p.tables e below (s₁.setTop (mkF m 0 #[.val (.ref a1), .val (.ref c1), .val (.int t1), .val (.ref c2), .val (.int nb)] [])) t := fun t k => P9 t (by
    show Steps p.tables e below (T8.setTop (mkF m 7 #[.val (.ref a1), .val (.ref c1), .val (.int t1), .val (.ref c2), .val (.int nb)] [(.ref y8), (.ref c1)])) _
    exact st12 _ k)
  obtain ⟨y15, T15, h15, k15, X15, e15, E15, hS15, hk15, hZ15, ho15, st15⟩ := ldcS X12 hx hZ8 ho8 (hw _ (List.mem_of_getElem? (i := 63) rfl)) (own_wS hw) e12 hS8 hk8 (g := (mkF m 12 #[.val (.ref a1), .val (.ref c1), .val (.int t1), .val (.ref c2), .val (.int nb)] [(.ref c2)])) rfl (hb hby d_prog_18_method_1_code_12) (n := 32) (by decide) (by decide) (Nat.le_of_ble_eq_true rfl) (Nat.le_of_ble_eq_true rfl)
  have P16 : ∀ t, Steps p.tables e below (T15.setTop (mkF m 14 #[.val (.ref a1), .val (.ref c1), .val (.int t1), .val (.ref c2), .val (.int nb)] [(.ref y15), (.ref c2)])) t → Steps p.tables e below (s₁.setTop (mkF m 0 #[.val (.ref a1), .val (.ref c1), .val (.int t1), .val (.ref c2), .val (.int nb)] [])) t := fun t k => P14 t (by
    show Steps p.tables e below (T12.setTop (mkF m 10 #[.val (.ref a1), .val (.ref c1), .val (.int t1), .val (.ref c2), .val (.int nb)] [(.ref c1)])) _
    refine XS.pop X12.here hx rfl (hb hby d_prog_18_method_1_code_10) rfl rfl ?_
    show Steps p.tables e below (T12.setTop (mkF m 11 #[.val (.ref a1), .val (.ref c1), .val (.int t1), .val (.ref c2), .val (.int nb)] [])) _
    refine XS.aloadN X12.here hx rfl (hb hby d_prog_18_method_1_code_11) rfl rfl ?_
    show Steps p.tables e below (T12.setTop (mkF m 12 #[.val (.ref a1), .val (.ref c1), .val (.int t1), .val (.ref c2), .val (.int nb)] [(.ref c2)])) _
    exact st15 _ k)
  have Z17 : n0 ≤ h15.size := Nat.le_trans Z10 E15.1
  have K18 : Keep h0 h15 [a1] := K11.ext E15
  obtain ⟨_, _, ⟨T19, L19, k19, n19⟩, -, X19, ⟨Lc19, hQ19, l19, y19, z19⟩, st19⟩ := Jvm.LawKit.callS X15 hx (y := (⟨"java/util/Objects", "requireNonNull", "(Ljava/lang/Object;Ljava/lang/String;)Ljava/lang/Object;"⟩ : MethodName)) ho15 (mvT hZ15 (hw _ (List.mem_of_getElem? (i := 59) rfl))) (mvT hZ15 (hw _ (List.mem_of_getElem? (i := 60) rfl))) (mvT hZ15 (hw _ (List.mem_of_getElem? (i := 61) rfl))) (mvT hZ15 (hw _ (List.mem_of_getElem? (i := 62) rfl))) (by decide) (backOf (W := 0) (rm_rnn l Z a0 hw [] c2 y15 h15 n0 Z17 ) hZ15 (hw _ (List.mem_of_getElem? (i := 62) rfl)) (hw _ (List.mem_of_getElem? (i := 61) rfl)) (by decide) (by decide)) (g := (mkF m 14 #[.val (.ref a1), .val (.ref c1), .val (.int t1), .val (.ref c2), .val (.int nb)] [(.ref y15), (.ref c2)])) rfl (by rw [hml]; rfl) (argsL := [(.ref c2), (.ref y15)]) (rest := []) (lenOf pd__28Ljava_2flang_2fObject_3bLjava_2flang_2fString_3b_29Ljava_2flang_2fObject_3b rfl) rfl (by show 2 * 0 + _ ≤ _; exact Nat.le_of_eq rfl) (hb hby d_prog_18_method_1_code_14) (fun _ _ => ⟨rfl, e15, (Nat.le_of_ble_eq_true rfl : 4 + 0 ≤ _), (Nat.le_of_ble_eq_true rfl : 56 + 0 ≤ _)⟩)
  dsimp only [Pt.U, Pt.locs, Pt.cells, Pt.slots] at X19 l19 y19 z19 st19 hQ19
  subst l19 y19 z19
  obtain ⟨rfl, Nq19, e19⟩ := hQ19
  have N20 := Fr.app N13 Nq19
  have P21 : ∀ t, Steps p.tables e below (T19.setTop (mkF m 17 #[.val (.ref a1), .val (.ref c1), .val (.int t1), .val (.ref c2), .val (.int nb)] [(.ref c2)])) t → Steps p.tables e below (s₁.setTop (mkF m 0 #[.val (.ref a1), .val (.ref c1), .val (.int t1), .val (.ref c2), .val (.int nb)] [])) t := fun t k => P16 t (by
    show Steps p.tables e below (T15.setTop (mkF m 14 #[.val (.ref a1), .val (.ref c1), .val (.int t1), .val (.ref c2), .val (.int nb)] [(.ref y15), (.ref c2)])) _
    exact st19 _ k)
  have f22 : Fld Z h15 a1 "com/example/clausewright/clausewright/model/Column" "name" "Ljava/lang/String;" .null := ((F_name.ext E8).ext E15)
  have f23 : Exa Z h15 a1 "com/example/clausewright/clausewright/model/Column" := ((E1.ext E8).ext E15)
  obtain ⟨T24, h24, X24, e24, W24, st24⟩ := putF X19 hx hZ15 ho15 (host := "") (Or.inl (hw _ (List.mem_of_getElem? (i := 64) rfl))) Via.refl e19 f22 f23 (Or.inr ⟨(hw _ (List.mem_of_getElem? (i := 65) rfl)), rfl, hnm⟩) (hw _ (List.mem_of_getElem? (i := 45) rfl)) (ty := (.object "java/lang/String")) (by decide) rfl rfl (g := (mkF m 20 #[.val (.ref a1), .val (.ref c1), .val (.int t1), .val (.ref c2), .val (.int nb)] [(.ref c1), (.ref a1)])) rfl rfl (hb hby d_prog_18_method_1_code_20)
  have P25 : ∀ t, Steps p.tables e below (T24.setTop (mkF m 23 #[.val (.ref a1), .val (.ref c1), .val (.int t1), .val (.ref c2), .val (.int nb)] [])) t → Steps p.tables e below (s₁.setTop (mkF m 0 #[.val (.ref a1), .val (.ref c1), .val (.int t1), .val (.ref c2), .val (.int nb)] [])) t := fun t k => P21 t (by
    show Steps p.tables e below (T19.setTop (mkF m 17 #[.val (.ref a1), .val (.ref c1), .val (.int t1), .val (.ref c2), .val (.int nb)] [(.ref c2)])) _
    refine XS.pop X19.here hx rfl (hb hby d_prog_18_method_1_code_17) rfl rfl ?_
    show Steps p.tables e below (T19.setTop (mkF m 18 #[.val (.ref a1), .val (.ref c1), .val (.int t1), .val (.ref c2), .val (.int nb)] [])) _
    refine XS.aloadN X19.here hx rfl (hb hby d_prog_18_method_1_code_18) rfl rfl ?_
    show Steps p.tables e below (T19.setTop (mkF m 19 #[.val (.ref a1), .val (.ref c1), .val (.int t1), .val (.ref c2), .val (.int nb)] [(.ref a1)])) _
    refine XS.aloadN X19.here hx rfl (hb hby d_prog_18_method_1_code_19) rfl rfl ?_
    show Steps p.tables e below (T19.setTop (mkF m 20 #[.val (.ref a1), .val (.ref c1), .val (.int t1), .val (.ref c2), .val (.int nb)] [(.ref c1), (.ref a1)])) _
    exact st24 _ k)
  have f26 := f22.same W24
  have N27 := Fr.snoc X24 N20 g_a1
  have Z28 : n0 ≤ h24.size := Nat.le_trans Z17 (Keep.of_wr W24).1
  have K29 : Keep h0 h24 [a1] := K18.wr W24 (Or.inl (List.mem_of_getElem? (i := 0) rfl))
  have hk30 : k15 ≤ h24.size := Nat.le_trans hk15 (Keep.of_wr W24).1
  have f31 : Fld Z h24 a1 "com/example/clausewright/clausewright/model/Column" "jdbcType" "I" (.int (0 : Int32)) := (((F_jdbcType.ext E8).ext E15).other W24 (Or.inr (slot_ne (Or.inr (hw _ (List.mem_of_getElem? (i := 67) rfl))) (Or.inr (hw _ (List.mem_of_getElem? (i := 65) rfl))) (by decide) (t := .int) (t' := (.object "java/lang/String")) (by decide) (by decide))))
  have f32 : Exa Z h24 a1 "com/example/clausewright/clausewright/model/Column" := (f23.wr W24)
  obtain ⟨T33, h33, X33, e33, W33, st33⟩ := putF X24 hx hZ15 ho15 (host := "") (Or.inl (hw _ (List.mem_of_getElem? (i := 66) rfl))) Via.refl e24 f31 f32 (Or.inr ⟨(hw _ (List.mem_of_getElem? (i := 67) rfl)), rfl, hnm⟩) (hw _ (List.mem_of_getElem? (i := 45) rfl)) (ty := .int) (by decide) rfl rfl (g := (mkF m 25 #[.val (.ref a1), .val (.ref c1), .val (.int t1), .val (.ref c2), .val (.int nb)] [(.int t1), (.ref a1)])) rfl rfl (hb hby d_prog_18_method_1_code_25)
  have P34 : ∀ t, Steps p.tables e below (T33.setTop (mkF m 28 #[.val (.ref a1), .val (.ref c1), .val (.int t1), .val (.ref c2), .val (.int nb)] [])) t → Steps p.tables e below (s₁.setTop (mkF m 0 #[.val (.ref a1), .val (.ref c1), .val (.int t1), .val (.ref c2), .val (.int nb)] [])) t := fun t k => P25 t (by
    show Steps p.tables e below (T24.setTop (mkF m 23 #[.val (.ref a1), .val (.ref c1), .val (.int t1), .val (.ref c2), .val (.int nb)] [])) _
    refine XS.aloadN X24.here hx rfl (hb hby d_prog_18_method_1_code_23) rfl rfl ?_
    show Steps p.tables e below (T24.setTop (mkF m 24 #[.val (.ref a1), .val (.ref c1), .val (.int t1), .val (.ref c2), .val (.int nb)] [(.ref a1)])) _
    refine XS.iloadN X24.here hx rfl (hb hby d_prog_18_method_1_code_24) rfl ?_
    show Steps p.tables e below (T24.setTop (mkF m 25 #[.val (.ref a1), .val (.ref c1), .val (.int t1), .val (.ref c2), .val (.int nb)] [(.int t1), (.ref a1)])) _
    exact st33 _ k)
  have f35 := f31.same W33
  have N36 := Fr.snoc X33 N27 g_a1
  have Z37 : n0 ≤ h33.size := Nat.le_trans Z28 (Keep.of_wr W33).1
  have K38 : Keep h0 h33 [a1] := K29.wr W33 (Or.inl (List.mem_of_getElem? (i := 0) rfl))
  have hk39 : k15 ≤ h33.size := Nat.le_trans hk30 (Keep.of_wr W33).1
  have f40 : Fld Z h33 a1 "com/example/clausewright/clausewright/model/Column" "typeName" "Ljava/lang/String;" .null := ((((F_typeName.ext E8).ext E15).other W24 (Or.inr (slot_ne (Or.inr (hw _ (List.mem_of_getElem? (i := 69) rfl))) (Or.inr (hw _ (List.mem_of_getElem? (i := 65) rfl))) (by decide) (t := (.object "java/lang/String")) (t' := (.object "java/lang/String")) (by decide) (by decide)))).other W33 (Or.inr (slot_ne (Or.inr (hw _ (List.mem_of_getElem? (i := 69) rfl))) (Or.inr (hw _ (List.mem_of_getElem? (i := 67) rfl))) (by decide) (t := (.object "java/lang/String")) (t' := .int) (by decide) (by decide))))
  have f41 : Exa Z h33 a1 "com/example/clausewright/clausewright/model/Column" := (f32.wr W33)
  obtain ⟨T42, h42, X42, e42, W42, st42⟩ := putF X33 hx hZ15 ho15 (host := "") (Or.inl (hw _ (List.mem_of_getElem? (i := 68) rfl))) Via.refl e33 f40 f41 (Or.inr ⟨(hw _ (List.mem_of_getElem? (i := 69) rfl)), rfl, hnm⟩) (hw _ (List.mem_of_getElem? (i := 45) rfl)) (ty := (.object "java/lang/String")) (by decide) rfl rfl (g := (mkF m 30 #[.val (.ref a1), .val (.ref c1), .val (.int t1), .val (.ref c2), .val (.int nb)] [(.ref c2), (.ref a1)])) rfl rfl (hb hby d_prog_18_method_1_code_30)
  have P43 : ∀ t, Steps p.tables e below (T42.setTop (mkF m 33 #[.val (.ref a1), .val (.ref c1), .val (.int t1), .val (.ref c2), .val (.int nb)] [])) t → Steps p.tables e below (s₁.setTop (mkF m 0 #[.val (.ref a1), .val (.ref c1), .val (.int t1), .val (.ref c2), .val (.int nb)] [])) t := fun t k => P34 t (by
    show Steps p.tables e below (T33.setTop (mkF m 28 #[.val (.ref a1), .val (.ref c1), .val (.int t1), .val (.ref c2), .val (.int nb)] [])) _
    refine XS.aloadN X33.here hx rfl (hb hby d_prog_18_method_1_code_28) rfl rfl ?_
    show Steps p.tables e below (T33.setTop (mkF m 29 #[.val (.ref a1), .val (.ref c1), .val (.int t1), .val (.ref c2), .val (.int nb)] [(.ref a1)])) _
    refine XS.aloadN X33.here hx rfl (hb hby d_prog_18_method_1_code_29) rfl rfl ?_
    show Steps p.tables e below (T33.setTop (mkF m 30 #[.val (.ref a1), .val (.ref c1), .val (.int t1), .val (.ref c2), .val (.int nb)] [(.ref c2), (.ref a1)])) _
    exact st42 _ k)
  have f44 := f40.same W42
  have N45 := Fr.snoc X42 N36 g_a1
  have Z46 : n0 ≤ h42.size := Nat.le_trans Z37 (Keep.of_wr W42).1
  have K47 : Keep h0 h42 [a1] := K38.wr W42 (Or.inl (List.mem_of_getElem? (i := 0) rfl))
  have hk48 : k15 ≤ h42.size := Nat.le_trans hk39 (Keep.of_wr W42).1
  have f49 : Fld Z h42 a1 "com/example/clausewright/clausewright/model/Column" "nullable" "Z" (.int (0 : Int32)) := (((((F_nullable.ext E8).ext E15).other W24 (Or.inr (slot_ne (Or.inr (hw _ (List.mem_of_getElem? (i := 71) rfl))) (Or.inr (hw _ (List.mem_of_getElem? (i := 65) rfl))) (by decide) (t := .boolean) (t' := (.object "java/lang/String")) (by decide) (by decide)))).other W33 (Or.inr (slot_ne (Or.inr (hw _ (List.mem_of_getElem? (i := 71) rfl))) (Or.inr (hw _ (List.mem_of_getElem? (i := 67) rfl))) (by decide) (t := .boolean) (t' := .int) (by decide) (by decide)))).other W42 (Or.inr (slot_ne (Or.inr (hw _ (List.mem_of_getElem? (i := 71) rfl))) (Or.inr (hw _ (List.mem_of_getElem? (i := 69) rfl))) (by decide) (t := .boolean) (t' := (.object "java/lang/String")) (by decide) (by decide))))
  have f50 : Exa Z h42 a1 "com/example/clausewright/clausewright/model/Column" := (f41.wr W42)
  obtain ⟨T51, h51, X51, e51, W51, st51⟩ := putFN X42 hx hZ15 ho15 (hw _ (List.mem_of_getElem? (i := 70) rfl)) Via.refl e42 f49 f50 (Or.inr ⟨(hw _ (List.mem_of_getElem? (i := 71) rfl)), rfl, hnm⟩) (hw _ (List.mem_of_getElem? (i := 45) rfl)) (ty := .boolean) (v' := .int (nb &&& 1)) (by decide) rfl (fits_nar_bool _) (g := (mkF m 36 #[.val (.ref a1), .val (.ref c1), .val (.int t1), .val (.ref c2), .val (.int nb)] [(.int nb), (.ref a1)])) rfl rfl (hb hby d_prog_18_method_1_code_36)
  have P52 : ∀ t, Steps p.tables e below (T51.setTop (mkF m 39 #[.val (.ref a1), .val (.ref c1), .val (.int t1), .val (.ref c2), .val (.int nb)] [])) t → Steps p.tables e below (s₁.setTop (mkF m 0 #[.val (.ref a1), .val (.ref c1), .val (.int t1), .val (.ref c2), .val (.int nb)] [])) t := fun t k => P43 t (by
    show Steps p.tables e below (T42.setTop (mkF m 33 #[.val (.ref a1), .val (.ref c1), .val (.int t1), .val (.ref c2), .val (.int nb)] [])) _
    refine XS.aloadN X42.here hx rfl (hb hby d_prog_18_method_1_code_33) rfl rfl ?_
    show Steps p.tables e below (T42.setTop (mkF m 34 #[.val (.ref a1), .val (.ref c1), .val (.int t1), .val (.ref c2), .val (.int nb)] [(.ref a1)])) _
    refine XS.iload X42.here hx rfl (hb hby d_prog_18_method_1_code_34) rfl ?_
    show Steps p.tables e below (T42.setTop (mkF m 36 #[.val (.ref a1), .val (.ref c1), .val (.int t1), .val (.ref c2), .val (.int nb)] [(.int nb), (.ref a1)])) _
    exact st51 _ k)
  have f53 := f49.same W51
  have N54 := Fr.snoc X51 N45 g_a1
  have Z55 : n0 ≤ h51.size := Nat.le_trans Z46 (Keep.of_wr W51).1
  have K56 : Keep h0 h51 [a1] := K47.wr W51 (Or.inl (List.mem_of_getElem? (i := 0) rfl))
  have hk57 : k15 ≤ h51.size := Nat.le_trans hk48 (Keep.of_wr W51).1
  have f58 : Exa Z h51 a1 "com/example/clausewright/clausewright/model/Column" := (f50.wr W51)
  have f59 : Fld Z h51 a1 "com/example/clausewright/clausewright/model/Column" "jdbcType" "I" (.int t1) := ((f35.other W42 (Or.inr (slot_ne (Or.inr (hw _ (List.mem_of_getElem? (i := 67) rfl))) (Or.inr (hw _ (List.mem_of_getElem? (i := 69) rfl))) (by decide) (t := .int) (t' := (.object "java/lang/String")) (by decide) (by decide)))).other W51 (Or.inr (slot_ne (Or.inr (hw _ (List.mem_of_getElem? (i := 67) rfl))) (Or.inr (hw _ (List.mem_of_getElem? (i := 71) rfl))) (by decide) (t := .int) (t' := .boolean) (by decide) (by decide))))
  obtain ⟨fs60, hr60, hrun60, hended60, hRW60⟩ := X51.leaveW (v := none) hS15 (by rw [e51]; exact hk57) (fun _ => rfl)
  refine ⟨_, _, pre0 _ (P52 _ ?_), hrun60, hended60, _, _, rfl, ?_, ⟨hRW60.1, hRW60.2.1, hRW60.2.2.1, hRW60.2.2.2.mono (Nat.le_of_ble_eq_true rfl) (Nat.le_of_ble_eq_true rfl)⟩⟩
  · show Steps p.tables e below (T51.setTop (mkF m 39 #[.val (.ref a1), .val (.ref c1), .val (.int t1), .val (.ref c2), .val (.int nb)] [])) _
    exact X51.returnOut hx Bd.returns (hb hby d_prog_18_method_1_code_39) hr60
  · show Q_ctor Z a1 t1 h0 n0 _ T51.heap _
    rw [e51]
    exact ⟨rfl, N54, K56, f58, f59⟩

def own_ask (t : Int32) : Int32 := if (¬ t < (2 : Int32) ∧ ¬ (8 : Int32) < t) ∨ t = (-5 : Int32) ∨ t = (-6 : Int32) then 1 else 0
theorem own_range (t : Int32) (h : ¬ (t.toInt < -6 ∨ t.toInt > 8)) : t = (-6 : Int32) ∨ t = (-5 : Int32) ∨ t = (-4 : Int32) ∨ t = (-3 : Int32) ∨ t = (-2 : Int32) ∨ t = (-1 : Int32) ∨ t = (0 : Int32) ∨ t = (1 : Int32) ∨ t = (2 : Int32) ∨ t = (3 : Int32) ∨ t = (4 : Int32) ∨ t = (5 : Int32) ∨ t = (6 : Int32) ∨ t = (7 : Int32) ∨ t = (8 : Int32) := by
  have e : ∀ n : Int, -6 ≤ n → n ≤ 8 → t.toInt = n → t = Int32.ofInt n := fun n h1 h2 q => by rw [← q, Int32.ofInt_toInt]
  have : t.toInt = -6 ∨ t.toInt = -5 ∨ t.toInt = -4 ∨ t.toInt = -3 ∨ t.toInt = -2 ∨ t.toInt = -1 ∨ t.toInt = 0 ∨ t.toInt = 1 ∨ t.toInt = 2 ∨ t.toInt = 3 ∨ t.toInt = 4 ∨ t.toInt = 5 ∨ t.toInt = 6 ∨ t.toInt = 7 ∨ t.toInt = 8 := by omega
  rcases this with q | q | q | q | q | q | q | q | q | q | q | q | q | q | q
  · exact Or.inl (e (-6) (by omega) (by omega) q)
  · exact Or.inr (Or.inl (e (-5) (by omega) (by omega) q))
  · exact Or.inr (Or.inr (Or.inl (e (-4) (by omega) (by omega) q)))
  · exact Or.inr (Or.inr (Or.inr (Or.inl (e (-3) (by omega) (by omega) q))))
  · exact Or.inr (Or.inr (Or.inr (Or.inr (Or.inl (e (-2) (by omega) (by omega) q)))))
  · exact Or.inr (Or.inr (Or.inr (Or.inr (Or.inr (Or.inl (e (-1) (by omega) (by omega) q))))))
  · exact Or.inr (Or.inr (Or.inr (Or.inr (Or.inr (Or.inr (Or.inl (e (0) (by omega) (by omega) q)))))))
  · exact Or.inr (Or.inr (Or.inr (Or.inr (Or.inr (Or.inr (Or.inr (Or.inl (e (1) (by omega) (by omega) q))))))))
  · exact Or.inr (Or.inr (Or.inr (Or.inr (Or.inr (Or.inr (Or.inr (Or.inr (Or.inl (e (2) (by omega) (by omega) q)))))))))
  · exact Or.inr (Or.inr (Or.inr (Or.inr (Or.inr (Or.inr (Or.inr (Or.inr (Or.inr (Or.inl (e (3) (by omega) (by omega) q))))))))))
  · exact Or.inr (Or.inr (Or.inr (Or.inr (Or.inr (Or.inr (Or.inr (Or.inr (Or.inr (Or.inr (Or.inl (e (4) (by omega) (by omega) q)))))))))))
  · exact Or.inr (Or.inr (Or.inr (Or.inr (Or.inr (Or.inr (Or.inr (Or.inr (Or.inr (Or.inr (Or.inr (Or.inl (e (5) (by omega) (by omega) q))))))))))))
  · exact Or.inr (Or.inr (Or.inr (Or.inr (Or.inr (Or.inr (Or.inr (Or.inr (Or.inr (Or.inr (Or.inr (Or.inr (Or.inl (e (6) (by omega) (by omega) q)))))))))))))
  · exact Or.inr (Or.inr (Or.inr (Or.inr (Or.inr (Or.inr (Or.inr (Or.inr (Or.inr (Or.inr (Or.inr (Or.inr (Or.inr (Or.inl (e (7) (by omega) (by omega) q))))))))))))))
  · exact Or.inr (Or.inr (Or.inr (Or.inr (Or.inr (Or.inr (Or.inr (Or.inr (Or.inr (Or.inr (Or.inr (Or.inr (Or.inr (Or.inr ((e (8) (by omega) (by omega) q)))))))))))))))
theorem own_out (t : Int32) (h : t.toInt < -6 ∨ t.toInt > 8) : own_ask t = 0 := by
  unfold own_ask
  rw [if_neg]
  simp only [Int32.lt_iff_toInt_lt, ← Int32.toInt_inj, show (2 : Int32).toInt = 2 from rfl, show (8 : Int32).toInt = 8 from rfl, show (-5 : Int32).toInt = -5 from rfl, show (-6 : Int32).toInt = -6 from rfl]
  omega

theorem d_prog_18_method_4_code_0 : decode prog_18_method_4_code 0 = .ok (.aload_n 0, 1) := by decide +kernel
theorem d_prog_18_method_4_code_1 : decode prog_18_method_4_code 1 = .ok (.getfield 22, 3) := by decide +kernel
theorem d_prog_18_method_4_code_4 : decode prog_18_method_4_code 4 = .ok (.tableswitch 84 (-6) 8 #[76, 76, 84, 84, 84, 84, 84, 84, 80, 80, 76, 76, 80, 80, 80], 76) := by decide +kernel
theorem d_prog_18_method_4_code_88 : decode prog_18_method_4_code 88 = .ok (.iconst 0, 1) := by decide +kernel
theorem d_prog_18_method_4_code_89 : decode prog_18_method_4_code 89 = .ok (.ireturn, 1) := by decide +kernel
theorem d_prog_18_method_4_code_80 : decode prog_18_method_4_code 80 = .ok (.iconst 1, 1) := by decide +kernel
theorem d_prog_18_method_4_code_81 : decode prog_18_method_4_code 81 = .ok (.goto 8, 3) := by decide +kernel
theorem d_prog_18_method_4_code_84 : decode prog_18_method_4_code 84 = .ok (.iconst 1, 1) := by decide +kernel
theorem d_prog_18_method_4_code_85 : decode prog_18_method_4_code 85 = .ok (.goto 4, 3) := by decide +kernel
theorem ef_ask (m : MethodId) (x0 : Addr) : entryFrame m #[(.ref x0)] 1 = mkF m 0 #[.val (.ref x0)] [] := by (first | (simp [entryFrame, mkF, argsToLocals, Value.category]; done) | rfl)
def Q_ask (t1 : Int32) (h0 : Heap) (n0 : Nat) (v : Option Value) (h : Heap) (L : List Loc) : Prop := v = some (.int (own_ask t1)) ∧ Fr n0 L ∧ h = h0
set_option maxRecDepth 65536 in
set_option maxHeartbeats 40000000 in
theorem rm_ask (l : Launch) (Z : State) (a0 : Array Value) (hw : ∀ d ∈ tables_1, d.before a0 Z = true) (ws : List Jvm.Cond) (a1 : Addr) (t1 : Int32) (h0 : Heap) (n0 : Nat) (Z0 : n0 ≤ h0.size) (F1 : Fld Z h0 a1 "com/example/clausewright/clausewright/model/Column" "jdbcType" "I" (.int t1)) :
    MetFree l (⟨"com/example/clausewright/clausewright/model/Column", "isNumber", "()Z"⟩ : MethodName) (head1 (Jvm.Cond.code (⟨"com/example/clausewright/clausewright/model/Column", "isNumber", "()Z"⟩ : MethodName) prog_18_method_4_code 1 (some .boolean) :: ws) ({ frames := 0, cells := 0, slots := 0, locals := 0 } : Room)) (fun a U => a = #[(.ref a1)] ∧ Z.Warmed39 U.vm ∧ U.heap = h0) (fun _ _ _ _ _ => True) (fun _ U o U' => ∃ v L, o = .returned v ∧ Q_ask t1 h0 n0 v U'.heap L ∧ FrameEnd U o U' L ({ frames := 0, cells := 0, slots := 0, locals := 0 } : Room).cells ({ frames := 0, cells := 0, slots := 0, locals := 0 } : Room).slots) := by
  refine MetFree.of_bodySF (plainFor_of_name pn_com_example_clausewright_clausewright_model_Column) hisR ?_
  intro p e s m args below meth c s₁ Bd hml0 hP hK
  obtain ⟨rfl, hZ, hh⟩ := hP
  have hx := Bd.exec
  have hby := Bd.bytes
  have hml : c.maxLocals = 1 := hml0
  have hown : s.vm.findClass "com/example/clausewright/clausewright/model/Column" = some m.cls := findClass_of_methodNamed Bd.named
  have hnm := (name_of_methodNamed Bd.named Bd.method).1
  have X0 : Stand p l e ({ frames := 0, cells := 0, slots := 0, locals := 0 } : Room) s m #[(.ref a1)] below meth c s₁ [] 0 0 := Stand.of_body Bd
  have e0 : s₁.heap = h0 := by rw [← hh, Bd.state]; rfl
  have N0 := Fr.nil n0
  have pre0 : ∀ t, Steps p.tables e below (s₁.setTop (mkF m 0 #[.val (.ref a1)] [])) t → Steps p.tables e below (s₁.setTop (entryFrame m #[(.ref a1)] 1)) t := fun t k => castTop (ef_ask m a1) k
  have P0 : ∀ t, Steps p.tables e below (s₁.setTop (mkF m 0 #[.val (.ref a1)] [])) t → Steps p.tables e below (s₁.setTop (mkF m 0 #[.val (.ref a1)] [])) t := fun t k => k
  obtain ⟨T61, X61, e61, st61⟩ := getF X0 hx hZ hown (host := "") (Or.inl (hw _ (List.mem_of_getElem? (i := 66) rfl))) Via.refl e0 F1 (g := (mkF m 1 #[.val (.ref a1)] [(.ref a1)])) rfl rfl (hb hby d_prog_18_method_4_code_1)
  have P62 : ∀ t, Steps p.tables e below (T61.setTop (mkF m 4 #[.val (.ref a1)] [(.int t1)])) t → Steps p.tables e below (s₁.setTop (mkF m 0 #[.val (.ref a1)] [])) t := fun t k => P0 t (by
    refine XS.aloadN X0.here hx rfl (hb hby d_prog_18_method_4_code_0) rfl rfl ?_
    show Steps p.tables e below (s₁.setTop (mkF m 1 #[.val (.ref a1)] [(.ref a1)])) _
    exact st61 _ k)
  by_cases qo : t1.toInt < -6 ∨ t1.toInt > 8
  · skip
    obtain ⟨fs63, hr63, hrun63, hended63, hW63, hsame63⟩ := X61.leave (v := some (.int (0 : Int32))) (fun h => by rw [Bd.returns] at h; cases h)
    refine ⟨_, _, pre0 _ (P62 _ ?_), hrun63, hended63, _, _, rfl, ?_, ⟨⟨_, rfl⟩, hW63, hsame63.mono (Nat.le_of_ble_eq_true rfl) (Nat.le_of_ble_eq_true rfl)⟩⟩
    · show Steps p.tables e below (T61.setTop (mkF m 4 #[.val (.ref a1)] [(.int t1)])) _
      refine XS.tswOut X61.here hx rfl (pc0 := 4) (pc' := 88) rfl (hb hby d_prog_18_method_4_code_4) rfl qo (by decide) (by decide) ?_
      show Steps p.tables e below (T61.setTop (mkF m 88 #[.val (.ref a1)] [])) _
      refine XS.iconst X61.here hx rfl (hb hby d_prog_18_method_4_code_88) ?_
      show Steps p.tables e below (T61.setTop (mkF m 89 #[.val (.ref a1)] [(.int (0 : Int32))])) _
      exact retN X61 hx (t := .boolean) Bd.returns (by simp) (hb hby d_prog_18_method_4_code_89) hr63
    · show Q_ask t1 h0 n0 _ T61.heap _
      rw [e61]
      exact ⟨by rw [own_out t1 qo], N0, rfl⟩
  · rcases own_range t1 qo with q | q | q | q | q | q | q | q | q | q | q | q | q | q | q
    · skip
      obtain ⟨fs64, hr64, hrun64, hended64, hW64, hsame64⟩ := X61.leave (v := some (.int (1 : Int32))) (fun h => by rw [Bd.returns] at h; cases h)
      refine ⟨_, _, pre0 _ (P62 _ ?_), hrun64, hended64, _, _, rfl, ?_, ⟨⟨_, rfl⟩, hW64, hsame64.mono (Nat.le_of_ble_eq_true rfl) (Nat.le_of_ble_eq_true rfl)⟩⟩
      · show Steps p.tables e below (T61.setTop (mkF m 4 #[.val (.ref a1)] [(.int t1)])) _
        refine XS.tswIn X61.here hx rfl (o := 76) (pc0 := 4) (pc' := 80) rfl (hb hby d_prog_18_method_4_code_4) rfl qo (by rw [q]; decide) (by decide) (by decide) ?_
        show Steps p.tables e below (T61.setTop (mkF m 80 #[.val (.ref a1)] [])) _
        refine XS.iconst X61.here hx rfl (hb hby d_prog_18_method_4_code_80) ?_
        show Steps p.tables e below (T61.setTop (mkF m 81 #[.val (.ref a1)] [(.int (1 : Int32))])) _
        refine XS.goto X61.here hx rfl (pc0 := 81) (pc' := 89) rfl (hb hby d_prog_18_method_4_code_81) (by decide) (by decide) ?_
        show Steps p.tables e below (T61.setTop (mkF m 89 #[.val (.ref a1)] [(.int (1 : Int32))])) _
        exact retN X61 hx (t := .boolean) Bd.returns (by simp) (hb hby d_prog_18_method_4_code_89) hr64
      · show Q_ask t1 h0 n0 _ T61.heap _
        rw [e61]
        exact ⟨by rw [q]; decide, N0, rfl⟩
    · skip
      obtain ⟨fs65, hr65, hrun65, hended65, hW65, hsame65⟩ := X61.leave (v := some (.int (1 : Int32))) (fun h => by rw [Bd.returns] at h; cases h)
      refine ⟨_, _, pre0 _ (P62 _ ?_), hrun65, hended65, _, _, rfl, ?_, ⟨⟨_, rfl⟩, hW65, hsame65.mono (Nat.le_of_ble_eq_true rfl) (Nat.le_of_ble_eq_true rfl)⟩⟩
      · show Steps p.tables e below (T61.setTop (mkF m 4 #[.val (.ref a1)] [(.int t1)])) _
        refine XS.tswIn X61.here hx rfl (o := 76) (pc0 := 4) (pc' := 80) rfl (hb hby d_prog_18_method_4_code_4) rfl qo (by rw [q]; decide) (by decide) (by decide) ?_
        show Steps p.tables e below (T61.setTop (mkF m 80 #[.val (.ref a1)] [])) _
        refine XS.iconst X61.here hx rfl (hb hby d_prog_18_method_4_code_80) ?_
        show Steps p.tables e below (T61.setTop (mkF m 81 #[.val (.ref a1)] [(.int (1 : Int32))])) _
        refine XS.goto X61.here hx rfl (pc0 := 81) (pc' := 89) rfl (hb hby d_prog_18_method_4_code_81) (by decide) (by decide) ?_
        show Steps p.tables e below (T61.setTop (mkF m 89 #[.val (.ref a1)] [(.int (1 : Int32))])) _
        exact retN X61 hx (t := .boolean) Bd.returns (by simp) (hb hby d_prog_18_method_4_code_89) hr65
      · show Q_ask t1 h0 n0 _ T61.heap _
        rw [e61]
        exact ⟨by rw [q]; decide, N0, rfl⟩
    · skip
      obtain ⟨fs66, hr66, hrun66, hended66, hW66, hsame66⟩ := X61.leave (v := some (.int (0 : Int32))) (fun h => by rw [Bd.returns] at h; cases h)
      refine ⟨_, _, pre0 _ (P62 _ ?_), hrun66, hended66, _, _, rfl, ?_, ⟨⟨_, rfl⟩, hW66, hsame66.mono (Nat.le_of_ble_eq_true rfl) (Nat.le_of_ble_eq_true rfl)⟩⟩
      · show Steps p.tables e below (T61.setTop (mkF m 4 #[.val (.ref a1)] [(.int t1)])) _
        refine XS.tswIn X61.here hx rfl (o := 84) (pc0 := 4) (pc' := 88) rfl (hb hby d_prog_18_method_4_code_4) rfl qo (by rw [q]; decide) (by decide) (by decide) ?_
        show Steps p.tables e below (T61.setTop (mkF m 88 #[.val (.ref a1)] [])) _
        refine XS.iconst X61.here hx rfl (hb hby d_prog_18_method_4_code_88) ?_
        show Steps p.tables e below (T61.setTop (mkF m 89 #[.val (.ref a1)] [(.int (0 : Int32))])) _
        exact retN X61 hx (t := .boolean) Bd.returns (by simp) (hb hby d_prog_18_method_4_code_89) hr66
      · show Q_ask t1 h0 n0 _ T61.heap _
        rw [e61]
        exact ⟨by rw [q]; decide, N0, rfl⟩
    · skip
      obtain ⟨fs67, hr67, hrun67, hended67, hW67, hsame67⟩ := X61.leave (v := some (.int (0 : Int32))) (fun h => by rw [Bd.returns] at h; cases h)
      refine ⟨_, _, pre0 _ (P62 _ ?_), hrun67, hended67, _, _, rfl, ?_, ⟨⟨_, rfl⟩, hW67, hsame67.mono (Nat.le_of_ble_eq_true rfl) (Nat.le_of_ble_eq_true rfl)⟩⟩
      · show Steps p.tables e below (T61.setTop (mkF m 4 #[.val (.ref a1)] [(.int t1)])) _
        refine XS.tswIn X61.here hx rfl (o := 84) (pc0 := 4) (pc' := 88) rfl (hb hby d_prog_18_method_4_code_4) rfl qo (by rw [q]; decide) (by decide) (by decide) ?_
        show Steps p.tables e below (T61.setTop (mkF m 88 #[.val (.ref a1)] [])) _
        refine XS.iconst X61.here hx rfl (hb hby d_prog_18_method_4_code_88) ?_
        show Steps p.tables e below (T61.setTop (mkF m 89 #[.val (.ref a1)] [(.int (0 : Int32))])) _
        exact retN X61 hx (t := .boolean) Bd.returns (by simp) (hb hby d_prog_18_method_4_code_89) hr67
      · show Q_ask t1 h0 n0 _ T61.heap _
        rw [e61]
        exact ⟨by rw [q]; decide, N0, rfl⟩
    · skip
      obtain ⟨fs68, hr68, hrun68, hended68, hW68, hsame68⟩ := X61.leave (v := some (.int (0 : Int32))) (fun h => by rw [Bd.returns] at h; cases h)
      refine ⟨_, _, pre0 _ (P62 _ ?_), hrun68, hended68, _, _, rfl, ?_, ⟨⟨_, rfl⟩, hW68, hsame68.mono (Nat.le_of_ble_eq_true rfl) (Nat.le_of_ble_eq_true rfl)⟩⟩
      · show Steps p.tables e below (T61.setTop (mkF m 4 #[.val (.ref a1)] [(.int t1)])) _
        refine XS.tswIn X61.here hx rfl (o := 84) (pc0 := 4) (pc' := 88) rfl (hb hby d_prog_18_method_4_code_4) rfl qo (by rw [q]; decide) (by decide) (by decide) ?_
        show Steps p.tables e below (T61.setTop (mkF m 88 #[.val (.ref a1)] [])) _
        refine XS.iconst X61.here hx rfl (hb hby d_prog_18_method_4_code_88) ?_
        show Steps p.tables e below (T61.setTop (mkF m 89 #[.val (.ref a1)] [(.int (0 : Int32))])) _
        exact retN X61 hx (t := .boolean) Bd.returns (by simp) (hb hby d_prog_18_method_4_code_89) hr68
      · show Q_ask t1 h0 n0 _ T61.heap _
        rw [e61]
        exact ⟨by rw [q]; decide, N0, rfl⟩
    · skip
      obtain ⟨fs69, hr69, hrun69, hended69, hW69, hsame69⟩ := X61.leave (v := some (.int (0 : Int32))) (fun h => by rw [Bd.returns] at h; cases h)
      refine ⟨_, _, pre0 _ (P62 _ ?_), hrun69, hended69, _, _, rfl, ?_, ⟨⟨_, rfl⟩, hW69, hsame69.mono (Nat.le_of_ble_eq_true rfl) (Nat.le_of_ble_eq_true rfl)⟩⟩
      · show Steps p.tables e below (T61.setTop (mkF m 4 #[.val (.ref a1)] [(.int t1)])) _
        refine XS.tswIn X61.here hx rfl (o := 84) (pc0 := 4) (pc' := 88) rfl (hb hby d_prog_18_method_4_code_4) rfl qo (by rw [q]; decide) (by decide) (by decide) ?_
        show Steps p.tables e below (T61.setTop (mkF m 88 #[.val (.ref a1)] [])) _
        refine XS.iconst X61.here hx rfl (hb hby d_prog_18_method_4_code_88) ?_
        show Steps p.tables e below (T61.setTop (mkF m 89 #[.val (.ref a1)] [(.int (0 : Int32))])) _
        exact retN X61 hx (t := .boolean) Bd.returns (by simp) (hb hby d_prog_18_method_4_code_89) hr69
      · show Q_ask t1 h0 n0 _ T61.heap _
        rw [e61]
        exact ⟨by rw [q]; decide, N0, rfl⟩
    · skip
      obtain ⟨fs70, hr70, hrun70, hended70, hW70, hsame70⟩ := X61.leave (v := some (.int (0 : Int32))) (fun h => by rw [Bd.returns] at h; cases h)
      refine ⟨_, _, pre0 _ (P62 _ ?_), hrun70, hended70, _, _, rfl, ?_, ⟨⟨_, rfl⟩, hW70, hsame70.mono (Nat.le_of_ble_eq_true rfl) (Nat.le_of_ble_eq_true rfl)⟩⟩
      · show Steps p.tables e below (T61.setTop (mkF m 4 #[.val (.ref a1)] [(.int t1)])) _
        refine XS.tswIn X61.here hx rfl (o := 84) (pc0 := 4) (pc' := 88) rfl (hb hby d_prog_18_method_4_code_4) rfl qo (by rw [q]; decide) (by decide) (by decide) ?_
        show Steps p.tables e below (T61.setTop (mkF m 88 #[.val (.ref a1)] [])) _
        refine XS.iconst X61.here hx rfl (hb hby d_prog_18_method_4_code_88) ?_
        show Steps p.tables e below (T61.setTop (mkF m 89 #[.val (.ref a1)] [(.int (0 : Int32))])) _
        exact retN X61 hx (t := .boolean) Bd.returns (by simp) (hb hby d_prog_18_method_4_code_89) hr70
      · show Q_ask t1 h0 n0 _ T61.heap _
        rw [e61]
        exact ⟨by rw [q]; decide, N0, rfl⟩
    · skip
      obtain ⟨fs71, hr71, hrun71, hended71, hW71, hsame71⟩ := X61.leave (v := some (.int (0 : Int32))) (fun h => by rw [Bd.returns] at h; cases h)
      refine ⟨_, _, pre0 _ (P62 _ ?_), hrun71, hended71, _, _, rfl, ?_, ⟨⟨_, rfl⟩, hW71, hsame71.mono (Nat.le_of_ble_eq_true rfl) (Nat.le_of_ble_eq_true rfl)⟩⟩
      · show Steps p.tables e below (T61.setTop (mkF m 4 #[.val (.ref a1)] [(.int t1)])) _
        refine XS.tswIn X61.here hx rfl (o := 84) (pc0 := 4) (pc' := 88) rfl (hb hby d_prog_18_method_4_code_4) rfl qo (by rw [q]; decide) (by decide) (by decide) ?_
        show Steps p.tables e below (T61.setTop (mkF m 88 #[.val (.ref a1)] [])) _
        refine XS.iconst X61.here hx rfl (hb hby d_prog_18_method_4_code_88) ?_
        show Steps p.tables e below (T61.setTop (mkF m 89 #[.val (.ref a1)] [(.int (0 : Int32))])) _
        exact retN X61 hx (t := .boolean) Bd.returns (by simp) (hb hby d_prog_18_method_4_code_89) hr71
      · show Q_ask t1 h0 n0 _ T61.heap _
        rw [e61]
        exact ⟨by rw [q]; decide, N0, rfl⟩
    · skip
      obtain ⟨fs72, hr72, hrun72, hended72, hW72, hsame72⟩ := X61.leave (v := some (.int (1 : Int32))) (fun h => by rw [Bd.returns] at h; cases h)
      refine ⟨_, _, pre0 _ (P62 _ ?_), hrun72, hended72, _, _, rfl, ?_, ⟨⟨_, rfl⟩, hW72, hsame72.mono (Nat.le_of_ble_eq_true rfl) (Nat.le_of_ble_eq_true rfl)⟩⟩
      · show Steps p.tables e below (T61.setTop (mkF m 4 #[.val (.ref a1)] [(.int t1)])) _
        refine XS.tswIn X61.here hx rfl (o := 80) (pc0 := 4) (pc' := 84) rfl (hb hby d_prog_18_method_4_code_4) rfl qo (by rw [q]; decide) (by decide) (by decide) ?_
        show Steps p.tables e below (T61.setTop (mkF m 84 #[.val (.ref a1)] [])) _
        refine XS.iconst X61.here hx rfl (hb hby d_prog_18_method_4_code_84) ?_
        show Steps p.tables e below (T61.setTop (mkF m 85 #[.val (.ref a1)] [(.int (1 : Int32))])) _
        refine XS.goto X61.here hx rfl (pc0 := 85) (pc' := 89) rfl (hb hby d_prog_18_method_4_code_85) (by decide) (by decide) ?_
        show Steps p.tables e below (T61.setTop (mkF m 89 #[.val (.ref a1)] [(.int (1 : Int32))])) _
        exact retN X61 hx (t := .boolean) Bd.returns (by simp) (hb hby d_prog_18_method_4_code_89) hr72
      · show Q_ask t1 h0 n0 _ T61.heap _
        rw [e61]
        exact ⟨by rw [q]; decide, N0, rfl⟩
    · skip
      obtain ⟨fs73, hr73, hrun73, hended73, hW73, hsame73⟩ := X61.leave (v := some (.int (1 : Int32))) (fun h => by rw [Bd.returns] at h; cases h)
      refine ⟨_, _, pre0 _ (P62 _ ?_), hrun73, hended73, _, _, rfl, ?_, ⟨⟨_, rfl⟩, hW73, hsame73.mono (Nat.le_of_ble_eq_true rfl) (Nat.le_of_ble_eq_true rfl)⟩⟩
      · show Steps p.tables e below (T61.setTop (mkF m 4 #[.val (.ref a1)] [(.int t1)])) _
        refine XS.tswIn X61.here hx rfl (o := 80) (pc0 := 4) (pc' := 84) rfl (hb hby d_prog_18_method_4_code_4) rfl qo (by rw [q]; decide) (by decide) (by decide) ?_
        show Steps p.tables e below (T61.setTop (mkF m 84 #[.val (.ref a1)] [])) _
        refine XS.iconst X61.here hx rfl (hb hby d_prog_18_method_4_code_84) ?_
        show Steps p.tables e below (T61.setTop (mkF m 85 #[.val (.ref a1)] [(.int (1 : Int32))])) _
        refine XS.goto X61.here hx rfl (pc0 := 85) (pc' := 89) rfl (hb hby d_prog_18_method_4_code_85) (by decide) (by decide) ?_
        show Steps p.tables e below (T61.setTop (mkF m 89 #[.val (.ref a1)] [(.int (1 : Int32))])) _
        exact retN X61 hx (t := .boolean) Bd.returns (by simp) (hb hby d_prog_18_method_4_code_89) hr73
      · show Q_ask t1 h0 n0 _ T61.heap _
        rw [e61]
        exact ⟨by rw [q]; decide, N0, rfl⟩
    · skip
      obtain ⟨fs74, hr74, hrun74, hended74, hW74, hsame74⟩ := X61.leave (v := some (.int (1 : Int32))) (fun h => by rw [Bd.returns] at h; cases h)
      refine ⟨_, _, pre0 _ (P62 _ ?_), hrun74, hended74, _, _, rfl, ?_, ⟨⟨_, rfl⟩, hW74, hsame74.mono (Nat.le_of_ble_eq_true rfl) (Nat.le_of_ble_eq_true rfl)⟩⟩
      · show Steps p.tables e below (T61.setTop (mkF m 4 #[.val (.ref a1)] [(.int t1)])) _
        refine XS.tswIn X61.here hx rfl (o := 76) (pc0 := 4) (pc' := 80) rfl (hb hby d_prog_18_method_4_code_4) rfl qo (by rw [q]; decide) (by decide) (by decide) ?_
        show Steps p.tables e below (T61.setTop (mkF m 80 #[.val (.ref a1)] [])) _
        refine XS.iconst X61.here hx rfl (hb hby d_prog_18_method_4_code_80) ?_
        show Steps p.tables e below (T61.setTop (mkF m 81 #[.val (.ref a1)] [(.int (1 : Int32))])) _
        refine XS.goto X61.here hx rfl (pc0 := 81) (pc' := 89) rfl (hb hby d_prog_18_method_4_code_81) (by decide) (by decide) ?_
        show Steps p.tables e below (T61.setTop (mkF m 89 #[.val (.ref a1)] [(.int (1 : Int32))])) _
        exact retN X61 hx (t := .boolean) Bd.returns (by simp) (hb hby d_prog_18_method_4_code_89) hr74
      · show Q_ask t1 h0 n0 _ T61.heap _
        rw [e61]
        exact ⟨by rw [q]; decide, N0, rfl⟩
    · skip
      obtain ⟨fs75, hr75, hrun75, hended75, hW75, hsame75⟩ := X61.leave (v := some (.int (1 : Int32))) (fun h => by rw [Bd.returns] at h; cases h)
      refine ⟨_, _, pre0 _ (P62 _ ?_), hrun75, hended75, _, _, rfl, ?_, ⟨⟨_, rfl⟩, hW75, hsame75.mono (Nat.le_of_ble_eq_true rfl) (Nat.le_of_ble_eq_true rfl)⟩⟩
      · show Steps p.tables e below (T61.setTop (mkF m 4 #[.val (.ref a1)] [(.int t1)])) _
        refine XS.tswIn X61.here hx rfl (o := 76) (pc0 := 4) (pc' := 80) rfl (hb hby d_prog_18_method_4_code_4) rfl qo (by rw [q]; decide) (by decide) (by decide) ?_
        show Steps p.tables e below (T61.setTop (mkF m 80 #[.val (.ref a1)] [])) _
        refine XS.iconst X61.here hx rfl (hb hby d_prog_18_method_4_code_80) ?_
        show Steps p.tables e below (T61.setTop (mkF m 81 #[.val (.ref a1)] [(.int (1 : Int32))])) _
        refine XS.goto X61.here hx rfl (pc0 := 81) (pc' := 89) rfl (hb hby d_prog_18_method_4_code_81) (by decide) (by decide) ?_
        show Steps p.tables e below (T61.setTop (mkF m 89 #[.val (.ref a1)] [(.int (1 : Int32))])) _
        exact retN X61 hx (t := .boolean) Bd.returns (by simp) (hb hby d_prog_18_method_4_code_89) hr75
      · show Q_ask t1 h0 n0 _ T61.heap _
        rw [e61]
        exact ⟨by rw [q]; decide, N0, rfl⟩
    · skip
      obtain ⟨fs76, hr76, hrun76, hended76, hW76, hsame76⟩ := X61.leave (v := some (.int (1 : Int32))) (fun h => by rw [Bd.returns] at h; cases h)
      refine ⟨_, _, pre0 _ (P62 _ ?_), hrun76, hended76, _, _, rfl, ?_, ⟨⟨_, rfl⟩, hW76, hsame76.mono (Nat.le_of_ble_eq_true rfl) (Nat.le_of_ble_eq_true rfl)⟩⟩
      · show Steps p.tables e below (T61.setTop (mkF m 4 #[.val (.ref a1)] [(.int t1)])) _
        refine XS.tswIn X61.here hx rfl (o := 80) (pc0 := 4) (pc' := 84) rfl (hb hby d_prog_18_method_4_code_4) rfl qo (by rw [q]; decide) (by decide) (by decide) ?_
        show Steps p.tables e below (T61.setTop (mkF m 84 #[.val (.ref a1)] [])) _
        refine XS.iconst X61.here hx rfl (hb hby d_prog_18_method_4_code_84) ?_
        show Steps p.tables e below (T61.setTop (mkF m 85 #[.val (.ref a1)] [(.int (1 : Int32))])) _
        refine XS.goto X61.here hx rfl (pc0 := 85) (pc' := 89) rfl (hb hby d_prog_18_method_4_code_85) (by decide) (by decide) ?_
        show Steps p.tables e below (T61.setTop (mkF m 89 #[.val (.ref a1)] [(.int (1 : Int32))])) _
        exact retN X61 hx (t := .boolean) Bd.returns (by simp) (hb hby d_prog_18_method_4_code_89) hr76
      · show Q_ask t1 h0 n0 _ T61.heap _
        rw [e61]
        exact ⟨by rw [q]; decide, N0, rfl⟩
    · skip
      obtain ⟨fs77, hr77, hrun77, hended77, hW77, hsame77⟩ := X61.leave (v := some (.int (1 : Int32))) (fun h => by rw [Bd.returns] at h; cases h)
      refine ⟨_, _, pre0 _ (P62 _ ?_), hrun77, hended77, _, _, rfl, ?_, ⟨⟨_, rfl⟩, hW77, hsame77.mono (Nat.le_of_ble_eq_true rfl) (Nat.le_of_ble_eq_true rfl)⟩⟩
      · show Steps p.tables e below (T61.setTop (mkF m 4 #[.val (.ref a1)] [(.int t1)])) _
        refine XS.tswIn X61.here hx rfl (o := 80) (pc0 := 4) (pc' := 84) rfl (hb hby d_prog_18_method_4_code_4) rfl qo (by rw [q]; decide) (by decide) (by decide) ?_
        show Steps p.tables e below (T61.setTop (mkF m 84 #[.val (.ref a1)] [])) _
        refine XS.iconst X61.here hx rfl (hb hby d_prog_18_method_4_code_84) ?_
        show Steps p.tables e below (T61.setTop (mkF m 85 #[.val (.ref a1)] [(.int (1 : Int32))])) _
        refine XS.goto X61.here hx rfl (pc0 := 85) (pc' := 89) rfl (hb hby d_prog_18_method_4_code_85) (by decide) (by decide) ?_
        show Steps p.tables e below (T61.setTop (mkF m 89 #[.val (.ref a1)] [(.int (1 : Int32))])) _
        exact retN X61 hx (t := .boolean) Bd.returns (by simp) (hb hby d_prog_18_method_4_code_89) hr77
      · show Q_ask t1 h0 n0 _ T61.heap _
        rw [e61]
        exact ⟨by rw [q]; decide, N0, rfl⟩
    · skip
      obtain ⟨fs78, hr78, hrun78, hended78, hW78, hsame78⟩ := X61.leave (v := some (.int (1 : Int32))) (fun h => by rw [Bd.returns] at h; cases h)
      refine ⟨_, _, pre0 _ (P62 _ ?_), hrun78, hended78, _, _, rfl, ?_, ⟨⟨_, rfl⟩, hW78, hsame78.mono (Nat.le_of_ble_eq_true rfl) (Nat.le_of_ble_eq_true rfl)⟩⟩
      · show Steps p.tables e below (T61.setTop (mkF m 4 #[.val (.ref a1)] [(.int t1)])) _
        refine XS.tswIn X61.here hx rfl (o := 80) (pc0 := 4) (pc' := 84) rfl (hb hby d_prog_18_method_4_code_4) rfl qo (by rw [q]; decide) (by decide) (by decide) ?_
        show Steps p.tables e below (T61.setTop (mkF m 84 #[.val (.ref a1)] [])) _
        refine XS.iconst X61.here hx rfl (hb hby d_prog_18_method_4_code_84) ?_
        show Steps p.tables e below (T61.setTop (mkF m 85 #[.val (.ref a1)] [(.int (1 : Int32))])) _
        refine XS.goto X61.here hx rfl (pc0 := 85) (pc' := 89) rfl (hb hby d_prog_18_method_4_code_85) (by decide) (by decide) ?_
        show Steps p.tables e below (T61.setTop (mkF m 89 #[.val (.ref a1)] [(.int (1 : Int32))])) _
        exact retN X61 hx (t := .boolean) Bd.returns (by simp) (hb hby d_prog_18_method_4_code_89) hr78
      · show Q_ask t1 h0 n0 _ T61.heap _
        rw [e61]
        exact ⟨by rw [q]; decide, N0, rfl⟩

theorem d_jdk_43_method_3_code_0 : decode jdk_43_method_3_code 0 = .ok (.iload_n 0, 1) := by decide +kernel
theorem d_jdk_43_method_3_code_1 : decode jdk_43_method_3_code 1 = .ok (.sipush 255, 3) := by decide +kernel
theorem d_jdk_43_method_3_code_4 : decode jdk_43_method_3_code 4 = .ok (.if_icmp .gt 7, 3) := by decide +kernel
theorem d_jdk_43_method_3_code_7 : decode jdk_43_method_3_code 7 = .ok (.iconst 1, 1) := by decide +kernel
theorem d_jdk_43_method_3_code_8 : decode jdk_43_method_3_code 8 = .ok (.goto 4, 3) := by decide +kernel
theorem d_jdk_43_method_3_code_12 : decode jdk_43_method_3_code 12 = .ok (.ireturn, 1) := by decide +kernel
theorem pn_java_lang_StringLatin1 : plainName "java/lang/StringLatin1" = true := by first | (simp [plainName, overriddenIn]; done) | decide +kernel
theorem ef_canEnc (m : MethodId) (x0 : Int32) : entryFrame m #[(.int x0)] 1 = mkF m 0 #[.val (.int x0)] [] := by (first | (simp [entryFrame, mkF, argsToLocals, Value.category]; done) | rfl)
def Q_canEnc  (h0 : Heap) (n0 : Nat) (v : Option Value) (h : Heap) (L : List Loc) : Prop := v = some (.int 1) ∧ Fr n0 L ∧ h = h0
set_option maxRecDepth 65536 in
set_option maxHeartbeats 40000000 in
theorem rm_canEnc (l : Launch) (Z : State) (a0 : Array Value) (hw : ∀ d ∈ tables_1, d.before a0 Z = true) (ws : List Jvm.Cond) (p1 : Int32) (h0 : Heap) (n0 : Nat) (Z0 : n0 ≤ h0.size) (hp1 : ¬ (255 : Int32) < p1) :
    MetFree l (⟨"java/lang/StringLatin1", "canEncode", "(C)Z"⟩ : MethodName) (head1 (Jvm.Cond.code (⟨"java/lang/StringLatin1", "canEncode", "(C)Z"⟩ : MethodName) jdk_43_method_3_code 1 (some .boolean) :: ws) ({ frames := 0, cells := 0, slots := 0, locals := 0 } : Room)) (fun a U => a = #[(.int p1)] ∧ Z.Warmed39 U.vm ∧ U.heap = h0) (fun _ _ _ _ _ => True) (fun _ U o U' => ∃ v L, o = .returned v ∧ Q_canEnc  h0 n0 v U'.heap L ∧ FrameEnd U o U' L ({ frames := 0, cells := 0, slots := 0, locals := 0 } : Room).cells ({ frames := 0, cells := 0, slots := 0, locals := 0 } : Room).slots) := by
  refine MetFree.of_bodySF (plainFor_of_name pn_java_lang_StringLatin1) hisR ?_
  intro p e s m args below meth c s₁ Bd hml0 hP hK
  obtain ⟨rfl, hZ, hh⟩ := hP
  have hx := Bd.exec
  have hby := Bd.bytes
  have hml : c.maxLocals = 1 := hml0
  have hown : s.vm.findClass "java/lang/StringLatin1" = some m.cls := findClass_of_methodNamed Bd.named
  have hnm := (name_of_methodNamed Bd.named Bd.method).1
  have X0 : Stand p l e ({ frames := 0, cells := 0, slots := 0, locals := 0 } : Room) s m #[(.int p1)] below meth c s₁ [] 0 0 := Stand.of_body Bd
  have e0 : s₁.heap = h0 := by rw [← hh, Bd.state]; rfl
  have N0 := Fr.nil n0
  have pre0 : ∀ t, Steps p.tables e below (s₁.setTop (mkF m 0 #[.val (.int p1)] [])) t → Steps p.tables e below (s₁.setTop (entryFrame m #[(.int p1)] 1)) t := fun t k => castTop (ef_canEnc m p1) k
  have P0 : ∀ t, Steps p.tables e below (s₁.setTop (mkF m 0 #[.val (.int p1)] [])) t → Steps p.tables e below (s₁.setTop (mkF m 0 #[.val (.int p1)] [])) t := fun t k => k
  obtain ⟨fs79, hr79, hrun79, hended79, hW79, hsame79⟩ := X0.leave (v := some (.int (1 : Int32))) (fun h => by rw [Bd.returns] at h; cases h)
  refine ⟨_, _, pre0 _ (P0 _ ?_), hrun79, hended79, _, _, rfl, ?_, ⟨⟨_, rfl⟩, hW79, hsame79.mono (Nat.le_of_ble_eq_true rfl) (Nat.le_of_ble_eq_true rfl)⟩⟩
  · refine XS.iloadN X0.here hx rfl (hb hby d_jdk_43_method_3_code_0) rfl ?_
    show Steps p.tables e below (s₁.setTop (mkF m 1 #[.val (.int p1)] [(.int p1)])) _
    refine XS.sipush X0.here hx rfl (hb hby d_jdk_43_method_3_code_1) ?_
    show Steps p.tables e below (s₁.setTop (mkF m 4 #[.val (.int p1)] [(.int (255 : Int32)), (.int p1)])) _
    refine XS.icmpNo X0.here hx rfl (hb hby d_jdk_43_method_3_code_4) rfl (flt (show ¬ ((255 : Int32) < p1) from hp1)).2.2.1 ?_
    show Steps p.tables e below (s₁.setTop (mkF m 7 #[.val (.int p1)] [])) _
    refine XS.iconst X0.here hx rfl (hb hby d_jdk_43_method_3_code_7) ?_
    show Steps p.tables e below (s₁.setTop (mkF m 8 #[.val (.int p1)] [(.int (1 : Int32))])) _
    refine XS.goto X0.here hx rfl (pc0 := 8) (pc' := 12) rfl (hb hby d_jdk_43_method_3_code_8) (by decide) (by decide) ?_
    show Steps p.tables e below (s₁.setTop (mkF m 12 #[.val (.int p1)] [(.int (1 : Int32))])) _
    exact retN X0 hx (t := .boolean) Bd.returns (by simp) (hb hby d_jdk_43_method_3_code_12) hr79
  · show Q_canEnc  h0 n0 _ s₁.heap _
    rw [e0]
    exact ⟨rfl, N0, rfl⟩
theorem d_jdk_43_method_46_code_0 : decode jdk_43_method_46_code 0 = .ok (.iconst 1, 1) := by decide +kernel
theorem d_jdk_43_method_46_code_1 : decode jdk_43_method_46_code 1 = .ok (.newarray .byte, 2) := by decide +kernel
theorem d_jdk_43_method_46_code_3 : decode jdk_43_method_46_code 3 = .ok (.dup, 1) := by decide +kernel
theorem d_jdk_43_method_46_code_4 : decode jdk_43_method_46_code 4 = .ok (.iconst 0, 1) := by decide +kernel
theorem d_jdk_43_method_46_code_5 : decode jdk_43_method_46_code 5 = .ok (.iload_n 0, 1) := by decide +kernel
theorem d_jdk_43_method_46_code_6 : decode jdk_43_method_46_code 6 = .ok (.i2b, 1) := by decide +kernel
theorem d_jdk_43_method_46_code_7 : decode jdk_43_method_46_code 7 = .ok (.bastore, 1) := by decide +kernel
theorem d_jdk_43_method_46_code_8 : decode jdk_43_method_46_code 8 = .ok (.areturn, 1) := by decide +kernel
theorem ef_toBytes (m : MethodId) (x0 : Int32) : entryFrame m #[(.int x0)] 1 = mkF m 0 #[.val (.int x0)] [] := by (first | (simp [entryFrame, mkF, argsToLocals, Value.category]; done) | rfl)
def Q_toBytes (Z : State) (p1 : Int32) (h0 : Heap) (n0 : Nat) (v : Option Value) (h : Heap) (L : List Loc) : Prop := ∃ (b : Addr) (k : ClassId), v = some (.ref b) ∧ Fr n0 L ∧ h0.size ≤ b ∧ Keep h0 h [] ∧ Arv Z h b k .byte (1 : Int32) [(.int (p1.toInt8.toInt32).toInt8.toInt32)] (.int (0 : Int32))
set_option maxRecDepth 65536 in
set_option maxHeartbeats 40000000 in
theorem rm_toBytes (l : Launch) (Z : State) (a0 : Array Value) (hw : ∀ d ∈ tables_1, d.before a0 Z = true) (ws : List Jvm.Cond) (p1 : Int32) (h0 : Heap) (n0 : Nat) (Z0 : n0 ≤ h0.size)  :
    MetFree l (⟨"java/lang/StringLatin1", "toBytes", "(C)[B"⟩ : MethodName) (head1 (Jvm.Cond.code (⟨"java/lang/StringLatin1", "toBytes", "(C)[B"⟩ : MethodName) jdk_43_method_46_code 1 (some (.array .byte)) :: ws) ({ frames := 0, cells := 1, slots := 1, locals := 0 } : Room)) (fun a U => a = #[(.int p1)] ∧ Z.Warmed39 U.vm ∧ U.heap = h0) (fun _ _ _ _ _ => True) (fun _ U o U' => ∃ v L, o = .returned v ∧ Q_toBytes Z p1 h0 n0 v U'.heap L ∧ FrameEnd U o U' L ({ frames := 0, cells := 1, slots := 1, locals := 0 } : Room).cells ({ frames := 0, cells := 1, slots := 1, locals := 0 } : Room).slots) := by
  refine MetFree.of_bodySF (plainFor_of_name pn_java_lang_StringLatin1) hisR ?_
  intro p e s m args below meth c s₁ Bd hml0 hP hK
  obtain ⟨rfl, hZ, hh⟩ := hP
  have hx := Bd.exec
  have hby := Bd.bytes
  have hml : c.maxLocals = 1 := hml0
  have hown : s.vm.findClass "java/lang/StringLatin1" = some m.cls := findClass_of_methodNamed Bd.named
  have hnm := (name_of_methodNamed Bd.named Bd.method).1
  have X0 : Stand p l e ({ frames := 0, cells := 1, slots := 1, locals := 0 } : Room) s m #[(.int p1)] below meth c s₁ [] 0 0 := Stand.of_body Bd
  have e0 : s₁.heap = h0 := by rw [← hh, Bd.state]; rfl
  have N0 := Fr.nil n0
  have pre0 : ∀ t, Steps p.tables e below (s₁.setTop (mkF m 0 #[.val (.int p1)] [])) t → Steps p.tables e below (s₁.setTop (entryFrame m #[(.int p1)] 1)) t := fun t k => castTop (ef_toBytes m p1) k
  have P0 : ∀ t, Steps p.tables e below (s₁.setTop (mkF m 0 #[.val (.int p1)] [])) t → Steps p.tables e below (s₁.setTop (mkF m 0 #[.val (.int p1)] [])) t := fun t k => k
  obtain ⟨T80, h80, k80, X80, e80, E80, A80, st80⟩ := newP X0 hx hZ (hw _ (List.mem_of_getElem? (i := 19) rfl)) e0 (g := (mkF m 1 #[.val (.int p1)] [(.int (1 : Int32))])) rfl (hb hby d_jdk_43_method_46_code_1) rfl (by decide) (cap := 1) (by decide) (by decide) (by decide) (by decide)
  obtain ⟨b80, g80⟩ : ∃ z, z = h0.size := ⟨_, rfl⟩
  rw [← g80] at A80 st80
  have g_b80 : n0 ≤ b80 := Nat.le_trans Z0 (Nat.le_of_eq g80.symm)
  have sz_b80 : h0.size ≤ b80 := Nat.le_trans (Keep.refl h0 []).1 (Nat.le_of_eq g80.symm)
  have P81 : ∀ t, Steps p.tables e below (T80.setTop (mkF m 3 #[.val (.int p1)] [(.ref b80)])) t → Steps p.tables e below (s₁.setTop (mkF m 0 #[.val (.int p1)] [])) t := fun t k => P0 t (by
    refine XS.iconst X0.here hx rfl (hb hby d_jdk_43_method_46_code_0) ?_
    show Steps p.tables e below (s₁.setTop (mkF m 1 #[.val (.int p1)] [(.int (1 : Int32))])) _
    exact st80 _ k)
  have Z82 : n0 ≤ h80.size := Nat.le_trans Z0 E80.1
  have K83 : Keep h0 h80 [] := (Keep.refl h0 []).ext E80
  have v84 : Arv Z h80 b80 k80 .byte (1 : Int32) [(.int (0 : Int32))] (.int (0 : Int32)) := (Arv.new A80 (by decide)).pad (pad_rep [] (.int (0 : Int32)) 1)
  obtain ⟨cl85, Ar85, q85, S85, N85, H85, G85⟩ := id v84
  obtain ⟨T85, h85, X85, e85, W85, st85⟩ := stB X80 hx hZ e80 Ar85 (j := (0 : Int32)) (inb_of S85 ⟨by decide, by decide⟩) (g := (mkF m 7 #[.val (.int p1)] [(.int (p1.toInt8.toInt32)), (.int (0 : Int32)), (.ref b80), (.ref b80)])) rfl rfl (hb hby d_jdk_43_method_46_code_7)
  have v86 : Arv Z h85 b80 k80 .byte (1 : Int32) [(.int (p1.toInt8.toInt32).toInt8.toInt32)] (.int (0 : Int32)) := Arv.set Ar85 q85 S85 N85 H85 G85 (fits_nar_byte _) W85 0 rfl (Nat.le_of_ble_eq_true rfl)
  have P87 : ∀ t, Steps p.tables e below (T85.setTop (mkF m 8 #[.val (.int p1)] [(.ref b80)])) t → Steps p.tables e below (s₁.setTop (mkF m 0 #[.val (.int p1)] [])) t := fun t k => P81 t (by
    show Steps p.tables e below (T80.setTop (mkF m 3 #[.val (.int p1)] [(.ref b80)])) _
    refine XS.dup X80.here hx rfl (hb hby d_jdk_43_method_46_code_3) rfl rfl ?_
    show Steps p.tables e below (T80.setTop (mkF m 4 #[.val (.int p1)] [(.ref b80), (.ref b80)])) _
    refine XS.iconst X80.here hx rfl (hb hby d_jdk_43_method_46_code_4) ?_
    show Steps p.tables e below (T80.setTop (mkF m 5 #[.val (.int p1)] [(.int (0 : Int32)), (.ref b80), (.ref b80)])) _
    refine XS.iloadN X80.here hx rfl (hb hby d_jdk_43_method_46_code_5) rfl ?_
    show Steps p.tables e below (T80.setTop (mkF m 6 #[.val (.int p1)] [(.int p1), (.int (0 : Int32)), (.ref b80), (.ref b80)])) _
    refine XS.i2b X80.here hx rfl (hb hby d_jdk_43_method_46_code_6) rfl ?_
    show Steps p.tables e below (T80.setTop (mkF m 7 #[.val (.int p1)] [(.int (p1.toInt8.toInt32)), (.int (0 : Int32)), (.ref b80), (.ref b80)])) _
    exact st85 _ k)
  have N88 := Fr.snoc X85 N0 g_b80
  have Z89 : n0 ≤ h85.size := Nat.le_trans Z82 (Keep.of_wr W85).1
  have K90 : Keep h0 h85 [] := K83.wr W85 (Or.inr sz_b80)
  obtain ⟨fs91, hr91, hrun91, hended91, hW91, hsame91⟩ := X85.leave (v := some (.ref b80)) (fun h => by rw [Bd.returns] at h; cases h)
  refine ⟨_, _, pre0 _ (P87 _ ?_), hrun91, hended91, _, _, rfl, ?_, ⟨⟨_, rfl⟩, hW91, hsame91.mono (Nat.le_of_ble_eq_true rfl) (Nat.le_of_ble_eq_true rfl)⟩⟩
  · show Steps p.tables e below (T85.setTop (mkF m 8 #[.val (.int p1)] [(.ref b80)])) _
    exact retOut X85 hx Bd.returns rfl (Or.inr (Or.inr (Or.inr (Or.inr ⟨rfl, rfl, rfl⟩)))) (hb hby d_jdk_43_method_46_code_8) hr91
  · show Q_toBytes Z p1 h0 n0 _ T85.heap _
    rw [e85]
    exact ⟨b80, _, rfl, N88, sz_b80, K90, v86⟩
theorem d_jdk_42_method_151_code_0 : decode jdk_42_method_151_code 0 = .ok (.aload_n 0, 1) := by decide +kernel
theorem d_jdk_42_method_151_code_1 : decode jdk_42_method_151_code 1 = .ok (.invokespecial 1, 3) := by decide +kernel
theorem d_jdk_42_method_151_code_4 : decode jdk_42_method_151_code 4 = .ok (.aload_n 0, 1) := by decide +kernel
theorem d_jdk_42_method_151_code_5 : decode jdk_42_method_151_code 5 = .ok (.aload_n 1, 1) := by decide +kernel
theorem d_jdk_42_method_151_code_6 : decode jdk_42_method_151_code 6 = .ok (.putfield 9, 3) := by decide +kernel
theorem d_jdk_42_method_151_code_9 : decode jdk_42_method_151_code 9 = .ok (.aload_n 0, 1) := by decide +kernel
theorem d_jdk_42_method_151_code_10 : decode jdk_42_method_151_code 10 = .ok (.iload_n 2, 1) := by decide +kernel
theorem d_jdk_42_method_151_code_11 : decode jdk_42_method_151_code 11 = .ok (.putfield 15, 3) := by decide +kernel
theorem d_jdk_42_method_151_code_14 : decode jdk_42_method_151_code 14 = .ok (.return_, 1) := by decide +kernel
theorem pn_java_lang_String : plainName "java/lang/String" = true := by first | (simp [plainName, overriddenIn]; done) | decide +kernel
theorem ef_strBB (m : MethodId) (x0 : Addr) (x1 : Addr) (x2 : Int32) : entryFrame m #[(.ref x0), (.ref x1), (.int x2)] 3 = mkF m 0 #[.val (.ref x0), .val (.ref x1), .val (.int x2)] [] := by (first | (simp [entryFrame, mkF, argsToLocals, Value.category]; done) | rfl)
def Q_strBB (Z : State) (a1 t1 : Addr) (h0 : Heap) (n0 : Nat) (v : Option Value) (h : Heap) (L : List Loc) : Prop := v = none ∧ Fr n0 L ∧ Keep h0 h [a1] ∧ Exa Z h a1 "java/lang/String" ∧ Fld Z h a1 "java/lang/String" "value" "[B" (.ref t1) ∧ Fld Z h a1 "java/lang/String" "coder" "B" (.int (0 : Int32))
set_option maxRecDepth 65536 in
set_option maxHeartbeats 40000000 in
theorem rm_strBB (l : Launch) (Z : State) (a0 : Array Value) (hw : ∀ d ∈ tables_1, d.before a0 Z = true) (ws : List Jvm.Cond) (a1 t1 : Addr) (h0 : Heap) (n0 : Nat) (Z0 : n0 ≤ h0.size) (g_a1 : n0 ≤ a1) (E1 : Exa Z h0 a1 "java/lang/String") (Fv : Fld Z h0 a1 "java/lang/String" "value" "[B" .null) (Fc : Fld Z h0 a1 "java/lang/String" "coder" "B" (.int (0 : Int32))) :
    MetFree l (⟨"java/lang/String", "<init>", "([BB)V"⟩ : MethodName) (head1 (Jvm.Cond.code (⟨"java/lang/String", "<init>", "([BB)V"⟩ : MethodName) jdk_42_method_151_code 3 none :: ws) ({ frames := 1, cells := 0, slots := 0, locals := 12 } : Room)) (fun a U => a = #[(.ref a1), (.ref t1), (.int (0 : Int32))] ∧ Z.Warmed39 U.vm ∧ U.heap = h0) (fun _ _ _ _ _ => True) (fun _ U o U' => ∃ v L, o = .returned v ∧ Q_strBB Z a1 t1 h0 n0 v U'.heap L ∧ FrameEnd U o U' L ({ frames := 1, cells := 0, slots := 0, locals := 12 } : Room).cells ({ frames := 1, cells := 0, slots := 0, locals := 12 } : Room).slots) := by
  refine MetFree.of_bodySF (plainFor_of_name pn_java_lang_String) hisR ?_
  intro p e s m args below meth c s₁ Bd hml0 hP hK
  obtain ⟨rfl, hZ, hh⟩ := hP
  have hx := Bd.exec
  have hby := Bd.bytes
  have hml : c.maxLocals = 3 := hml0
  have hown : s.vm.findClass "java/lang/String" = some m.cls := findClass_of_methodNamed Bd.named
  have hnm := (name_of_methodNamed Bd.named Bd.method).1
  have X0 : Stand p l e ({ frames := 1, cells := 0, slots := 0, locals := 12 } : Room) s m #[(.ref a1), (.ref t1), (.int (0 : Int32))] below meth c s₁ [] 0 0 := Stand.of_body Bd
  have e0 : s₁.heap = h0 := by rw [← hh, Bd.state]; rfl
  have N0 := Fr.nil n0
  have pre0 : ∀ t, Steps p.tables e below (s₁.setTop (mkF m 0 #[.val (.ref a1), .val (.ref t1), .val (.int (0 : Int32))] [])) t → Steps p.tables e below (s₁.setTop (entryFrame m #[(.ref a1), (.ref t1), (.int (0 : Int32))] 3)) t := fun t k => castTop (ef_strBB m a1 t1 (0 : Int32)) k
  have P0 : ∀ t, Steps p.tables e below (s₁.setTop (mkF m 0 #[.val (.ref a1), .val (.ref t1), .val (.int (0 : Int32))] [])) t → Steps p.tables e below (s₁.setTop (mkF m 0 #[.val (.ref a1), .val (.ref t1), .val (.int (0 : Int32))] [])) t := fun t k => k
  obtain ⟨T92, X92, e92, st92⟩ := initO X0 hx hZ hown (hw _ (List.mem_of_getElem? (i := 11) rfl)) (hw _ (List.mem_of_getElem? (i := 12) rfl)) (hw _ (List.mem_of_getElem? (i := 13) rfl)) e0 (g := (mkF m 1 #[.val (.ref a1), .val (.ref t1), .val (.int (0 : Int32))] [(.ref a1)])) rfl (by rw [hml]; rfl) rfl (hb hby d_jdk_42_method_151_code_1) (by decide) (W := 0) (by show 2 * 0 + _ ≤ _; exact Nat.le_of_eq rfl) (by decide)
  have P93 : ∀ t, Steps p.tables e below (T92.setTop (mkF m 4 #[.val (.ref a1), .val (.ref t1), .val (.int (0 : Int32))] [])) t → Steps p.tables e below (s₁.setTop (mkF m 0 #[.val (.ref a1), .val (.ref t1), .val (.int (0 : Int32))] [])) t := fun t k => P0 t (by
    refine XS.aloadN X0.here hx rfl (hb hby d_jdk_42_method_151_code_0) rfl rfl ?_
    show Steps p.tables e below (s₁.setTop (mkF m 1 #[.val (.ref a1), .val (.ref t1), .val (.int (0 : Int32))] [(.ref a1)])) _
    exact st92 _ k)
  obtain ⟨T94, h94, X94, e94, W94, st94⟩ := putF X92 hx hZ hown (host := "") (Or.inl (hw _ (List.mem_of_getElem? (i := 28) rfl))) Via.refl e92 Fv E1 (Or.inr ⟨(hw _ (List.mem_of_getElem? (i := 29) rfl)), rfl, hnm⟩) (hw _ (List.mem_of_getElem? (i := 2) rfl)) (ty := (.array .byte)) (by decide) rfl rfl (g := (mkF m 6 #[.val (.ref a1), .val (.ref t1), .val (.int (0 : Int32))] [(.ref t1), (.ref a1)])) rfl rfl (hb hby d_jdk_42_method_151_code_6)
  have P95 : ∀ t, Steps p.tables e below (T94.setTop (mkF m 9 #[.val (.ref a1), .val (.ref t1), .val (.int (0 : Int32))] [])) t → Steps p.tables e below (s₁.setTop (mkF m 0 #[.val (.ref a1), .val (.ref t1), .val (.int (0 : Int32))] [])) t := fun t k => P93 t (by
    show Steps p.tables e below (T92.setTop (mkF m 4 #[.val (.ref a1), .val (.ref t1), .val (.int (0 : Int32))] [])) _
    refine XS.aloadN X92.here hx rfl (hb hby d_jdk_42_method_151_code_4) rfl rfl ?_
    show Steps p.tables e below (T92.setTop (mkF m 5 #[.val (.ref a1), .val (.ref t1), .val (.int (0 : Int32))] [(.ref a1)])) _
    refine XS.aloadN X92.here hx rfl (hb hby d_jdk_42_method_151_code_5) rfl rfl ?_
    show Steps p.tables e below (T92.setTop (mkF m 6 #[.val (.ref a1), .val (.ref t1), .val (.int (0 : Int32))] [(.ref t1), (.ref a1)])) _
    exact st94 _ k)
  have f96 := Fv.same W94
  have N97 := Fr.snoc X94 N0 g_a1
  have Z98 : n0 ≤ h94.size := Nat.le_trans Z0 (Keep.of_wr W94).1
  have K99 : Keep h0 h94 [a1] := (Keep.refl h0 [a1]).wr W94 (Or.inl (List.mem_of_getElem? (i := 0) rfl))
  have f100 : Fld Z h94 a1 "java/lang/String" "coder" "B" (.int (0 : Int32)) := (Fc.other W94 (Or.inr (slot_ne (Or.inr (hw _ (List.mem_of_getElem? (i := 27) rfl))) (Or.inr (hw _ (List.mem_of_getElem? (i := 29) rfl))) (by decide) (t := .byte) (t' := (.array .byte)) (by decide) (by decide))))
  have f101 : Exa Z h94 a1 "java/lang/String" := (E1.wr W94)
  obtain ⟨T102, h102, X102, e102, W102, st102⟩ := putFN X94 hx hZ hown (hw _ (List.mem_of_getElem? (i := 26) rfl)) Via.refl e94 f100 f101 (Or.inr ⟨(hw _ (List.mem_of_getElem? (i := 27) rfl)), rfl, hnm⟩) (hw _ (List.mem_of_getElem? (i := 2) rfl)) (ty := .byte) (v' := .int (0 : Int32)) (by decide) rfl rfl (g := (mkF m 11 #[.val (.ref a1), .val (.ref t1), .val (.int (0 : Int32))] [(.int (0 : Int32)), (.ref a1)])) rfl rfl (hb hby d_jdk_42_method_151_code_11)
  have P103 : ∀ t, Steps p.tables e below (T102.setTop (mkF m 14 #[.val (.ref a1), .val (.ref t1), .val (.int (0 : Int32))] [])) t → Steps p.tables e below (s₁.setTop (mkF m 0 #[.val (.ref a1), .val (.ref t1), .val (.int (0 : Int32))] [])) t := fun t k => P95 t (by
    show Steps p.tables e below (T94.setTop (mkF m 9 #[.val (.ref a1), .val (.ref t1), .val (.int (0 : Int32))] [])) _
    refine XS.aloadN X94.here hx rfl (hb hby d_jdk_42_method_151_code_9) rfl rfl ?_
    show Steps p.tables e below (T94.setTop (mkF m 10 #[.val (.ref a1), .val (.ref t1), .val (.int (0 : Int32))] [(.ref a1)])) _
    refine XS.iloadN X94.here hx rfl (hb hby d_jdk_42_method_151_code_10) rfl ?_
    show Steps p.tables e below (T94.setTop (mkF m 11 #[.val (.ref a1), .val (.ref t1), .val (.int (0 : Int32))] [(.int (0 : Int32)), (.ref a1)])) _
    exact st102 _ k)
  have f104 := f100.same W102
  have N105 := Fr.snoc X102 N97 g_a1
  have Z106 : n0 ≤ h102.size := Nat.le_trans Z98 (Keep.of_wr W102).1
  have K107 : Keep h0 h102 [a1] := K99.wr W102 (Or.inl (List.mem_of_getElem? (i := 0) rfl))
  have f108 : Exa Z h102 a1 "java/lang/String" := (f101.wr W102)
  have f109 : Fld Z h102 a1 "java/lang/String" "value" "[B" (.ref t1) := (f96.other W102 (Or.inr (slot_ne (Or.inr (hw _ (List.mem_of_getElem? (i := 29) rfl))) (Or.inr (hw _ (List.mem_of_getElem? (i := 27) rfl))) (by decide) (t := (.array .byte)) (t' := .byte) (by decide) (by decide))))
  obtain ⟨fs110, hr110, hrun110, hended110, hW110, hsame110⟩ := X102.leave (v := none) (fun _ => rfl)
  refine ⟨_, _, pre0 _ (P103 _ ?_), hrun110, hended110, _, _, rfl, ?_, ⟨⟨_, rfl⟩, hW110, hsame110.mono (Nat.le_of_ble_eq_true rfl) (Nat.le_of_ble_eq_true rfl)⟩⟩
  · show Steps p.tables e below (T102.setTop (mkF m 14 #[.val (.ref a1), .val (.ref t1), .val (.int (0 : Int32))] [])) _
    exact X102.returnOut hx Bd.returns (hb hby d_jdk_42_method_151_code_14) hr110
  · show Q_strBB Z a1 t1 h0 n0 _ T102.heap _
    rw [e102]
    exact ⟨rfl, N105, K107, f108, f109, f104⟩
theorem d_jdk_42_method_139_code_0 : decode jdk_42_method_139_code 0 = .ok (.getstatic 38, 3) := by decide +kernel
theorem d_jdk_42_method_139_code_3 : decode jdk_42_method_139_code 3 = .ok (.ifCond .eq 23, 3) := by decide +kernel
theorem d_jdk_42_method_139_code_6 : decode jdk_42_method_139_code 6 = .ok (.iload_n 0, 1) := by decide +kernel
theorem d_jdk_42_method_139_code_7 : decode jdk_42_method_139_code 7 = .ok (.invokestatic 1015, 3) := by decide +kernel
theorem pd__28C_29Z : parseMethodDescriptor "(C)Z" = some ⟨[.char], some .boolean⟩ := by decide +kernel
theorem d_jdk_42_method_139_code_10 : decode jdk_42_method_139_code 10 = .ok (.ifCond .eq 16, 3) := by decide +kernel
theorem d_jdk_42_method_139_code_13 : decode jdk_42_method_139_code 13 = .ok (.new 10, 3) := by decide +kernel
theorem d_jdk_42_method_139_code_16 : decode jdk_42_method_139_code 16 = .ok (.dup, 1) := by decide +kernel
theorem d_jdk_42_method_139_code_17 : decode jdk_42_method_139_code 17 = .ok (.iload_n 0, 1) := by decide +kernel
theorem d_jdk_42_method_139_code_18 : decode jdk_42_method_139_code 18 = .ok (.invokestatic 1018, 3) := by decide +kernel
theorem pd__28C_29_5bB : parseMethodDescriptor "(C)[B" = some ⟨[.char], some (.array .byte)⟩ := by decide +kernel
theorem d_jdk_42_method_139_code_21 : decode jdk_42_method_139_code 21 = .ok (.iconst 0, 1) := by decide +kernel
theorem d_jdk_42_method_139_code_22 : decode jdk_42_method_139_code 22 = .ok (.invokespecial 209, 3) := by decide +kernel
theorem pd__28_5bBB_29V : parseMethodDescriptor "([BB)V" = some ⟨[(.array .byte), .byte], none⟩ := by decide +kernel
theorem d_jdk_42_method_139_code_25 : decode jdk_42_method_139_code 25 = .ok (.areturn, 1) := by decide +kernel
theorem ef_valueOf (m : MethodId) (x0 : Int32) : entryFrame m #[(.int x0)] 1 = mkF m 0 #[.val (.int x0)] [] := by (first | (simp [entryFrame, mkF, argsToLocals, Value.category]; done) | rfl)
def Q_valueOf (Z : State) (p1 : Int32) (h0 : Heap) (n0 : Nat) (v : Option Value) (h : Heap) (L : List Loc) : Prop := ∃ (a t : Addr) (k : ClassId), v = some (.ref a) ∧ Fr n0 L ∧ h0.size ≤ a ∧ h0.size ≤ t ∧ Keep h0 h [] ∧ Exa Z h a "java/lang/String" ∧ Fld Z h a "java/lang/String" "value" "[B" (.ref t) ∧ Fld Z h a "java/lang/String" "coder" "B" (.int (0 : Int32)) ∧ Arv Z h t k .byte (1 : Int32) [(.int (p1.toInt8.toInt32).toInt8.toInt32)] (.int (0 : Int32))
set_option maxRecDepth 65536 in
set_option maxHeartbeats 40000000 in
theorem rm_valueOf (l : Launch) (Z : State) (a0 : Array Value) (hw : ∀ d ∈ tables_1, d.before a0 Z = true) (ws : List Jvm.Cond) (p1 : Int32) (G1 : Int32) (h0 : Heap) (n0 : Nat) (Z0 : n0 ≤ h0.size) (Sg : Sta Z Z.heap "java/lang/String" "COMPACT_STRINGS" "Z" (.int G1)) (P5 : ¬ (G1 = (0 : Int32))) (hp1 : ¬ (255 : Int32) < p1) (Ol : Old Z n0 h0) :
    MetFree l (⟨"java/lang/String", "valueOf", "(C)Ljava/lang/String;"⟩ : MethodName) (head1 (Jvm.Cond.code (⟨"java/lang/String", "valueOf", "(C)Ljava/lang/String;"⟩ : MethodName) jdk_42_method_139_code 1 (some (.object "java/lang/String")) :: ws) ({ frames := 2, cells := 2, slots := 5, locals := 27 } : Room)) (fun a U => a = #[(.int p1)] ∧ Z.Warmed39 U.vm ∧ U.heap = h0) (fun _ _ _ _ _ => True) (fun _ U o U' => ∃ v L, o = .returned v ∧ Q_valueOf Z p1 h0 n0 v U'.heap L ∧ FrameEnd U o U' L ({ frames := 2, cells := 2, slots := 5, locals := 27 } : Room).cells ({ frames := 2, cells := 2, slots := 5, locals := 27 } : Room).slots) := by
  refine MetFree.of_bodySF (plainFor_of_name pn_java_lang_String) hisR ?_
  intro p e s m args below meth c s₁ Bd hml0 hP hK
  obtain ⟨rfl, hZ, hh⟩ := hP
  have hx := Bd.exec
  have hby := Bd.bytes
  have hml : c.maxLocals = 1 := hml0
  have hown : s.vm.findClass "java/lang/String" = some m.cls := findClass_of_methodNamed Bd.named
  have hnm := (name_of_methodNamed Bd.named Bd.method).1
  have X0 : Stand p l e ({ frames := 2, cells := 2, slots := 5, locals := 27 } : Room) s m #[(.int p1)] below meth c s₁ [] 0 0 := Stand.of_body Bd
  have e0 : s₁.heap = h0 := by rw [← hh, Bd.state]; rfl
  have N0 := Fr.nil n0
  have pre0 : ∀ t, Steps p.tables e below (s₁.setTop (mkF m 0 #[.val (.int p1)] [])) t → Steps p.tables e below (s₁.setTop (entryFrame m #[(.int p1)] 1)) t := fun t k => castTop (ef_valueOf m p1) k
  have P0 : ∀ t, Steps p.tables e below (s₁.setTop (mkF m 0 #[.val (.int p1)] [])) t → Steps p.tables e below (s₁.setTop (mkF m 0 #[.val (.int p1)] [])) t := fun t k => k
  obtain ⟨T111, X111, e111, st111⟩ := getS2 X0 hx hZ hown (host := "") (Or.inl (hw _ (List.mem_of_getElem? (i := 14) rfl))) Via.refl e0 (Sg.ext Ol.2) (g := (mkF m 0 #[.val (.int p1)] [])) rfl (hb hby d_jdk_42_method_139_code_0)
  have P112 : ∀ t, Steps p.tables e below (T111.setTop (mkF m 3 #[.val (.int p1)] [(.int G1)])) t → Steps p.tables e below (s₁.setTop (mkF m 0 #[.val (.int p1)] [])) t := fun t k => P0 t (by
    exact st111 _ k)
  obtain ⟨_, _, ⟨T113, L113, k113, n113⟩, -, X113, ⟨Lc113, hQ113, l113, y113, z113⟩, st113⟩ := Jvm.LawKit.callS X111 hx (y := (⟨"java/lang/StringLatin1", "canEncode", "(C)Z"⟩ : MethodName)) hown (mvT hZ (hw _ (List.mem_of_getElem? (i := 33) rfl))) (mvT hZ (hw _ (List.mem_of_getElem? (i := 34) rfl))) (mvT hZ (hw _ (List.mem_of_getElem? (i := 35) rfl))) (mvT hZ (hw _ (List.mem_of_getElem? (i := 36) rfl))) (by decide) (backOf (W := 0) (rm_canEnc l Z a0 hw [] p1 h0 n0 Z0 hp1) hZ (hw _ (List.mem_of_getElem? (i := 36) rfl)) (hw _ (List.mem_of_getElem? (i := 35) rfl)) (by decide) (by decide)) (g := (mkF m 7 #[.val (.int p1)] [(.int p1)])) rfl (by rw [hml]; rfl) (argsL := [(.int p1)]) (rest := []) (lenOf pd__28C_29Z rfl) rfl (by show 2 * 0 + _ ≤ _; exact Nat.le_of_eq rfl) (hb hby d_jdk_42_method_139_code_7) (fun _ _ => ⟨rfl, e111, (Nat.le_of_ble_eq_true rfl : 0 + 0 ≤ _), (Nat.le_of_ble_eq_true rfl : 0 + 0 ≤ _)⟩)
  dsimp only [Pt.U, Pt.locs, Pt.cells, Pt.slots] at X113 l113 y113 z113 st113 hQ113
  subst l113 y113 z113
  obtain ⟨rfl, Nq113, e113⟩ := hQ113
  have N114 := Fr.app N0 Nq113
  have P115 : ∀ t, Steps p.tables e below (T113.setTop (mkF m 10 #[.val (.int p1)] [(.int (1 : Int32))])) t → Steps p.tables e below (s₁.setTop (mkF m 0 #[.val (.int p1)] [])) t := fun t k => P112 t (by
    show Steps p.tables e below (T111.setTop (mkF m 3 #[.val (.int p1)] [(.int G1)])) _
    refine XS.ifNo X111.here hx rfl (hb hby d_jdk_42_method_139_code_3) rfl ((if0 _ _).trans (feq (show ¬ (G1 = (0 : Int32)) from P5)).1) ?_
    show Steps p.tables e below (T111.setTop (mkF m 6 #[.val (.int p1)] [])) _
    refine XS.iloadN X111.here hx rfl (hb hby d_jdk_42_method_139_code_6) rfl ?_
    show Steps p.tables e below (T111.setTop (mkF m 7 #[.val (.int p1)] [(.int p1)])) _
    exact st113 _ k)
  obtain ⟨T116, h116, X116, e116, E116, A116, D116, -, st116⟩ := newO X113 hx hZ hown (hw _ (List.mem_of_getElem? (i := 37) rfl)) (hw _ (List.mem_of_getElem? (i := 2) rfl)) (hw _ (List.mem_of_getElem? (i := 3) rfl)) e113 (g := (mkF m 13 #[.val (.int p1)] [])) rfl (hb hby d_jdk_42_method_139_code_13) (by decide) (by decide)
  obtain ⟨b116, g116⟩ : ∃ z, z = h0.size := ⟨_, rfl⟩
  rw [← g116] at A116 D116 st116
  have g_b116 : n0 ≤ b116 := Nat.le_trans Z0 (Nat.le_of_eq g116.symm)
  have sz_b116 : h0.size ≤ b116 := Nat.le_trans (Keep.refl h0 []).1 (Nat.le_of_eq g116.symm)
  have P117 : ∀ t, Steps p.tables e below (T116.setTop (mkF m 16 #[.val (.int p1)] [(.ref b116)])) t → Steps p.tables e below (s₁.setTop (mkF m 0 #[.val (.int p1)] [])) t := fun t k => P115 t (by
    show Steps p.tables e below (T113.setTop (mkF m 10 #[.val (.int p1)] [(.int (1 : Int32))])) _
    refine XS.ifNo X113.here hx rfl (hb hby d_jdk_42_method_139_code_10) rfl ((if0 _ _).trans (feq (show ¬ ((1 : Int32) = (0 : Int32)) from (by decide))).1) ?_
    show Steps p.tables e below (T113.setTop (mkF m 13 #[.val (.int p1)] [])) _
    exact st116 _ k)
  have Z118 : n0 ≤ h116.size := Nat.le_trans Z0 E116.1
  have K119 : Keep h0 h116 [] := (Keep.refl h0 []).ext E116
  have O120 : Old Z n0 h116 := Ol.ext E116
  have f121 : Fld Z h116 b116 "java/lang/String" "coder" "B" (.int (0 : Int32)) := D116 (Or.inr (hw _ (List.mem_of_getElem? (i := 27) rfl))) (ty := .byte) (by decide)
  have f122 : Fld Z h116 b116 "java/lang/String" "value" "[B" .null := D116 (Or.inr (hw _ (List.mem_of_getElem? (i := 29) rfl))) (ty := (.array .byte)) (by decide)
  obtain ⟨_, _, ⟨T123, L123, k123, n123⟩, -, X123, ⟨Lc123, hQ123, l123, y123, z123⟩, st123⟩ := Jvm.LawKit.callS X116 hx (y := (⟨"java/lang/StringLatin1", "toBytes", "(C)[B"⟩ : MethodName)) hown (mvT hZ (hw _ (List.mem_of_getElem? (i := 38) rfl))) (mvT hZ (hw _ (List.mem_of_getElem? (i := 39) rfl))) (mvT hZ (hw _ (List.mem_of_getElem? (i := 35) rfl))) (mvT hZ (hw _ (List.mem_of_getElem? (i := 40) rfl))) (by decide) (backOf (W := 2) (rm_toBytes l Z a0 hw [] p1 h116 n0 Z118 ) hZ (hw _ (List.mem_of_getElem? (i := 40) rfl)) (hw _ (List.mem_of_getElem? (i := 35) rfl)) (by decide) (by decide)) (g := (mkF m 18 #[.val (.int p1)] [(.int p1), (.ref b116), (.ref b116)])) rfl (by rw [hml]; rfl) (argsL := [(.int p1)]) (rest := [(.ref b116), (.ref b116)]) (lenOf pd__28C_29_5bB rfl) rfl (by show 2 * 0 + _ ≤ _; exact Nat.le_of_eq rfl) (hb hby d_jdk_42_method_139_code_18) (fun _ _ => ⟨rfl, e116, (Nat.le_of_ble_eq_true rfl : 1 + 1 ≤ _), (Nat.le_of_ble_eq_true rfl : 4 + 1 ≤ _)⟩)
  dsimp only [Pt.U, Pt.locs, Pt.cells, Pt.slots] at X123 l123 y123 z123 st123 hQ123
  subst l123 y123 z123
  obtain ⟨t123, k123, rfl, Nq123, sz123, Kk123, Av123⟩ := hQ123
  have N124 := Fr.app N114 Nq123
  have P125 : ∀ t, Steps p.tables e below (T123.setTop (mkF m 21 #[.val (.int p1)] [(.ref t123), (.ref b116), (.ref b116)])) t → Steps p.tables e below (s₁.setTop (mkF m 0 #[.val (.int p1)] [])) t := fun t k => P117 t (by
    show Steps p.tables e below (T116.setTop (mkF m 16 #[.val (.int p1)] [(.ref b116)])) _
    refine XS.dup X116.here hx rfl (hb hby d_jdk_42_method_139_code_16) rfl rfl ?_
    show Steps p.tables e below (T116.setTop (mkF m 17 #[.val (.int p1)] [(.ref b116), (.ref b116)])) _
    refine XS.iloadN X116.here hx rfl (hb hby d_jdk_42_method_139_code_17) rfl ?_
    show Steps p.tables e below (T116.setTop (mkF m 18 #[.val (.int p1)] [(.int p1), (.ref b116), (.ref b116)])) _
    exact st123 _ k)
  have Z126 : n0 ≤ T123.heap.size := Nat.le_trans Z118 Kk123.1
  have K127 : Keep h0 T123.heap [] := K119.trans Kk123 (all0)
  have O128 : Old Z n0 T123.heap := O120.keep Kk123 all0
  have g_t123 : n0 ≤ t123 := Nat.le_trans Z118 sz123
  have sz_t123 : h0.size ≤ t123 := Nat.le_trans K119.1 sz123
  have f129 : Exa Z T123.heap b116 "java/lang/String" := (A116.keep Kk123)
  have f130 : Fld Z T123.heap b116 "java/lang/String" "value" "[B" .null := (f122.keep Kk123 nin0)
  have f131 : Fld Z T123.heap b116 "java/lang/String" "coder" "B" (.int (0 : Int32)) := (f121.keep Kk123 nin0)
  obtain ⟨_, _, ⟨T132, L132, k132, n132⟩, -, X132, ⟨Lc132, hQ132, l132, y132, z132⟩, st132⟩ := X123.specialBack hx (y := (⟨"java/lang/String", "<init>", "([BB)V"⟩ : MethodName)) rfl hown (mvT hZ (hw _ (List.mem_of_getElem? (i := 41) rfl))) (mvT hZ (hw _ (List.mem_of_getElem? (i := 42) rfl))) (mvT hZ (hw _ (List.mem_of_getElem? (i := 43) rfl))) (by decide) (backOf (W := 1) (rm_strBB l Z a0 hw [] b116 t123 T123.heap n0 Z126 g_b116 f129 f130 f131) hZ (hw _ (List.mem_of_getElem? (i := 43) rfl)) (hw _ (List.mem_of_getElem? (i := 3) rfl)) (by decide) (by decide)) (g := (mkF m 22 #[.val (.int p1)] [(.int (0 : Int32)), (.ref t123), (.ref b116), (.ref b116)])) rfl (by rw [hml]; rfl) (Steps.refl _) (a := b116) (argsL := [(.ref t123), (.int (0 : Int32))]) (rest := [(.ref b116)]) (lenOf pd__28_5bBB_29V rfl) rfl (by show 2 * 0 + _ ≤ _; exact Nat.le_of_eq rfl) (hb hby d_jdk_42_method_139_code_22) (fun _ _ => ⟨rfl, rfl, (Nat.le_of_ble_eq_true rfl : 2 + 0 ≤ _), (Nat.le_of_ble_eq_true rfl : 5 + 0 ≤ _)⟩)
  dsimp only [Pt.U, Pt.locs, Pt.cells, Pt.slots] at X132 l132 y132 z132 st132 hQ132
  subst l132 y132 z132
  obtain ⟨rfl, Nq132, Kk132, Ek132, Fv132, Fc132⟩ := hQ132
  have N133 := Fr.app N124 Nq132
  have P134 : ∀ t, Steps p.tables e below (T132.setTop (mkF m 25 #[.val (.int p1)] [(.ref b116)])) t → Steps p.tables e below (s₁.setTop (mkF m 0 #[.val (.int p1)] [])) t := fun t k => P125 t (by
    show Steps p.tables e below (T123.setTop (mkF m 21 #[.val (.int p1)] [(.ref t123), (.ref b116), (.ref b116)])) _
    refine XS.iconst X123.here hx rfl (hb hby d_jdk_42_method_139_code_21) ?_
    show Steps p.tables e below (T123.setTop (mkF m 22 #[.val (.int p1)] [(.int (0 : Int32)), (.ref t123), (.ref b116), (.ref b116)])) _
    exact st132.trans k)
  have Z135 : n0 ≤ T132.heap.size := Nat.le_trans Z126 Kk132.1
  have K136 : Keep h0 T132.heap [] := K127.trans Kk132 ((allS (Or.inr sz_b116) all0))
  have O137 : Old Z n0 T132.heap := O128.keep Kk132 (allS g_b116 all0)
  have f138 : Arv Z T132.heap t123 k123 .byte (1 : Int32) [(.int (p1.toInt8.toInt32).toInt8.toInt32)] (.int (0 : Int32)) := (Av123.keep Kk132 (ninS (Ne.symm (Nat.ne_of_lt (Nat.lt_of_lt_of_le f122.lt sz123))) nin0))
  obtain ⟨fs139, hr139, hrun139, hended139, hW139, hsame139⟩ := X132.leave (v := some (.ref b116)) (fun h => by rw [Bd.returns] at h; cases h)
  refine ⟨_, _, pre0 _ (P134 _ ?_), hrun139, hended139, _, _, rfl, ?_, ⟨⟨_, rfl⟩, hW139, hsame139.mono (Nat.le_of_ble_eq_true rfl) (Nat.le_of_ble_eq_true rfl)⟩⟩
  · show Steps p.tables e below (T132.setTop (mkF m 25 #[.val (.int p1)] [(.ref b116)])) _
    exact retOut X132 hx Bd.returns rfl (Or.inr (Or.inr (Or.inr (Or.inr ⟨rfl, rfl, rfl⟩)))) (hb hby d_jdk_42_method_139_code_25) hr139
  · show Q_valueOf Z p1 h0 n0 _ T132.heap _
    exact ⟨b116, t123, _, rfl, N133, sz_b116, sz_t123, K136, Ek132, Fv132, Fc132, f138⟩

theorem own_c255 (x : Int32) : ¬ (255 : Int32) < ((x &&& (255 : Int32)).toUInt32.toUInt16.toUInt32.toInt32) := by
  have h := (and255_chars x).2
  have e : nar .char ((x &&& (255 : Int32)).toUInt32.toUInt16.toUInt32.toInt32) = ((x &&& (255 : Int32)).toUInt32.toUInt16.toUInt32.toInt32) := by simp only [nar, UInt32.toUInt32_toInt32, UInt16.toUInt16_toUInt32]
  rw [e] at h; exact h
theorem own_same (t : Int32) : own_ask t = (if t < (2 : Int32) then (if t = (-5 : Int32) then (1 : Int32) else (if t = (-6 : Int32) then (1 : Int32) else (0 : Int32))) else (if (8 : Int32) < t then (if t = (-5 : Int32) then (1 : Int32) else (if t = (-6 : Int32) then (1 : Int32) else (0 : Int32))) else (1 : Int32))) := by
  unfold own_ask
  by_cases h1 : t < (2 : Int32) <;> by_cases h2 : (8 : Int32) < t <;> by_cases h3 : t = (-5 : Int32) <;> by_cases h4 : t = (-6 : Int32) <;> simp [h1, h2, h3, h4]

theorem pd__28_5bC_29V : parseMethodDescriptor "([C)V" = some ⟨[(.array .char)], none⟩ := by decide +kernel
theorem pd__28C_29Ljava_2flang_2fString_3b : parseMethodDescriptor "(C)Ljava/lang/String;" = some ⟨[.char], some (.object "java/lang/String")⟩ := by decide +kernel
theorem pd__28Ljava_2flang_2fString_3bILjava_2flang_2fString_3bZ_29V : parseMethodDescriptor "(Ljava/lang/String;ILjava/lang/String;Z)V" = some ⟨[(.object "java/lang/String"), .int, (.object "java/lang/String"), .boolean], none⟩ := by decide +kernel
theorem pd__28_29Z : parseMethodDescriptor "()Z" = some ⟨[], some .boolean⟩ := by decide +kernel
theorem pn_com_example_clausewright_clausewright_model_ColumnIsNumberPinLaw : plainName "com/example/clausewright/clausewright/model/ColumnIsNumberPinLaw" = true := by first | (simp [plainName, overriddenIn]; done) | decide +kernel
theorem ef_law (m : MethodId) (x0 : Int32) (x1 : Int32) (x2 : Int32) (x3 : Int32) : entryFrame m #[(.int x0), (.int x1), (.int x2), (.int x3)] maxLocals = mkF m 0 #[.val (.int x0), .val (.int x1), .val (.int x2), .val (.int x3), .unset, .unset, .unset, .unset, .unset, .unset, .unset] [] := by (first | (simp [entryFrame, mkF, argsToLocals, Value.category, maxLocals]; done) | rfl)
def Q_law  (h0 : Heap) (n0 : Nat) (v : Option Value) (h : Heap) (L : List Loc) : Prop := v = some (.int 1) ∧ Fr n0 L
set_option maxRecDepth 65536 in
set_option maxHeartbeats 40000000 in
theorem rm_law (l : Launch) (Z : State) (a0 : Array Value) (hw : ∀ d ∈ tables_1, d.before a0 Z = true) (ws : List Jvm.Cond) (p0 p1 p2 p3 : Int32) (G1 : Int32) (h0 : Heap) (n0 : Nat) (Z0 : n0 ≤ h0.size) (Sg : Sta Z Z.heap "java/lang/String" "COMPACT_STRINGS" "Z" (.int G1)) (P5 : ¬ (G1 = (0 : Int32))) (Ol : Old Z n0 h0) :
    MetFree l x (head1 (Jvm.Cond.code x code maxLocals ret :: ws) room_1) (fun a U => a = #[(.int p0), (.int p1), (.int p2), (.int p3)] ∧ Z.Warmed39 U.vm ∧ U.heap = h0) (fun _ _ _ _ _ => True) (fun _ U o U' => ∃ v L, o = .returned v ∧ Q_law  h0 n0 v U'.heap L ∧ ReturnedEndW U o U' L 24 2176) := by
  refine MetFree.of_bodySF (plainFor_of_name pn_com_example_clausewright_clausewright_model_ColumnIsNumberPinLaw) hisR ?_
  intro p e s m args below meth c s₁ Bd hml0 hP hK
  obtain ⟨rfl, hZ, hh⟩ := hP
  have hx := Bd.exec
  have hby := Bd.bytes
  have hml : c.maxLocals = 11 := hml0
  have hown : s.vm.findClass "com/example/clausewright/clausewright/model/ColumnIsNumberPinLaw" = some m.cls := findClass_of_methodNamed Bd.named
  have hnm := (name_of_methodNamed Bd.named Bd.method).1
  have X0 : Stand p l e room_1 (s.setVm s.vm) m #[(.int p0), (.int p1), (.int p2), (.int p3)] below meth c s₁ [] 0 0 := Stand.of_body Bd
  have e0 : s₁.heap = h0 := by rw [← hh, Bd.state]; rfl
  have N0 := Fr.nil n0
  have pre0 : ∀ t, Steps p.tables e below (s₁.setTop (mkF m 0 #[.val (.int p0), .val (.int p1), .val (.int p2), .val (.int p3), .unset, .unset, .unset, .unset, .unset, .unset, .unset] [])) t → Steps p.tables e below (s₁.setTop (entryFrame m #[(.int p0), (.int p1), (.int p2), (.int p3)] maxLocals)) t := fun t k => castTop (ef_law m p0 p1 p2 p3) k
  have P0 : ∀ t, Steps p.tables e below (s₁.setTop (mkF m 0 #[.val (.int p0), .val (.int p1), .val (.int p2), .val (.int p3), .unset, .unset, .unset, .unset, .unset, .unset, .unset] [])) t → Steps p.tables e below (s₁.setTop (mkF m 0 #[.val (.int p0), .val (.int p1), .val (.int p2), .val (.int p3), .unset, .unset, .unset, .unset, .unset, .unset, .unset] [])) t := fun t k => k
  have hS0 : s.Since s.vm h0.size := (State.WarmedH.refl s).since _
  have P140 : ∀ t, Steps p.tables e below (s₁.setTop (mkF m 3 #[.val (.int p0), .val (.int p1), .val (.int p2), .val (.int p3), .unset, .unset, .unset, .unset, .unset, .unset, .unset] [(.int (p0 &&& (1 : Int32)))])) t → Steps p.tables e below (s₁.setTop (mkF m 0 #[.val (.int p0), .val (.int p1), .val (.int p2), .val (.int p3), .unset, .unset, .unset, .unset, .unset, .unset, .unset] [])) t := fun t k => P0 t (by
    refine XS.iloadN X0.here hx rfl (hb hby at_0) rfl ?_
    show Steps p.tables e below (s₁.setTop (mkF m 1 #[.val (.int p0), .val (.int p1), .val (.int p2), .val (.int p3), .unset, .unset, .unset, .unset, .unset, .unset, .unset] [(.int p0)])) _
    refine XS.iconst X0.here hx rfl (hb hby at_1) ?_
    show Steps p.tables e below (s₁.setTop (mkF m 2 #[.val (.int p0), .val (.int p1), .val (.int p2), .val (.int p3), .unset, .unset, .unset, .unset, .unset, .unset, .unset] [(.int (1 : Int32)), (.int p0)])) _
    refine XS.iand X0.here hx rfl (hb hby at_2) rfl ?_
    show Steps p.tables e below (s₁.setTop (mkF m 3 #[.val (.int p0), .val (.int p1), .val (.int p2), .val (.int p3), .unset, .unset, .unset, .unset, .unset, .unset, .unset] [(.int (p0 &&& (1 : Int32)))])) _
    exact k)
  obtain ⟨b142, hb142⟩ : ∃ z : Int32, z = (if (p0 &&& (1 : Int32)) = (0 : Int32) then ((p1 &&& (31 : Int32)) - (16 : Int32)) else p1) := ⟨_, rfl⟩
  have P143 : ∀ t, Steps p.tables e below (s₁.setTop (mkF m 17 #[.val (.int p0), .val (.int p1), .val (.int p2), .val (.int p3), .unset, .unset, .unset, .unset, .unset, .unset, .unset] [(.int b142)])) t → Steps p.tables e below (s₁.setTop (mkF m 0 #[.val (.int p0), .val (.int p1), .val (.int p2), .val (.int p3), .unset, .unset, .unset, .unset, .unset, .unset, .unset] [])) t := fun t k => P140 t (by
    show Steps p.tables e below (s₁.setTop (mkF m 3 #[.val (.int p0), .val (.int p1), .val (.int p2), .val (.int p3), .unset, .unset, .unset, .unset, .unset, .unset, .unset] [(.int (p0 &&& (1 : Int32)))])) _
    by_cases q141 : (p0 &&& (1 : Int32)) = (0 : Int32)
    · skip
      refine XS.ifYes X0.here hx rfl (pc0 := 3) (pc' := 10) rfl (hb hby at_3) rfl ((if0 _ _).trans (teq (show (p0 &&& (1 : Int32)) = (0 : Int32) from q141)).1) (by decide) (by decide) ?_
      show Steps p.tables e below (s₁.setTop (mkF m 10 #[.val (.int p0), .val (.int p1), .val (.int p2), .val (.int p3), .unset, .unset, .unset, .unset, .unset, .unset, .unset] [])) _
      refine XS.iloadN X0.here hx rfl (hb hby at_10) rfl ?_
      show Steps p.tables e below (s₁.setTop (mkF m 11 #[.val (.int p0), .val (.int p1), .val (.int p2), .val (.int p3), .unset, .unset, .unset, .unset, .unset, .unset, .unset] [(.int p1)])) _
      refine XS.bipush X0.here hx rfl (hb hby at_11) ?_
      show Steps p.tables e below (s₁.setTop (mkF m 13 #[.val (.int p0), .val (.int p1), .val (.int p2), .val (.int p3), .unset, .unset, .unset, .unset, .unset, .unset, .unset] [(.int (31 : Int32)), (.int p1)])) _
      refine XS.iand X0.here hx rfl (hb hby at_13) rfl ?_
      show Steps p.tables e below (s₁.setTop (mkF m 14 #[.val (.int p0), .val (.int p1), .val (.int p2), .val (.int p3), .unset, .unset, .unset, .unset, .unset, .unset, .unset] [(.int (p1 &&& (31 : Int32)))])) _
      refine XS.bipush X0.here hx rfl (hb hby at_14) ?_
      show Steps p.tables e below (s₁.setTop (mkF m 16 #[.val (.int p0), .val (.int p1), .val (.int p2), .val (.int p3), .unset, .unset, .unset, .unset, .unset, .unset, .unset] [(.int (16 : Int32)), (.int (p1 &&& (31 : Int32)))])) _
      refine XS.isub X0.here hx rfl (hb hby at_16) rfl ?_
      show Steps p.tables e below (s₁.setTop (mkF m 17 #[.val (.int p0), .val (.int p1), .val (.int p2), .val (.int p3), .unset, .unset, .unset, .unset, .unset, .unset, .unset] [(.int ((p1 &&& (31 : Int32)) - (16 : Int32)))])) _
      have eb142 : b142 = ((p1 &&& (31 : Int32)) - (16 : Int32)) := by rw [hb142, if_pos q141]
      rw [eb142] at k
      exact k
    · skip
      refine XS.ifNo X0.here hx rfl (hb hby at_3) rfl ((if0 _ _).trans (feq (show ¬ ((p0 &&& (1 : Int32)) = (0 : Int32)) from q141)).1) ?_
      show Steps p.tables e below (s₁.setTop (mkF m 6 #[.val (.int p0), .val (.int p1), .val (.int p2), .val (.int p3), .unset, .unset, .unset, .unset, .unset, .unset, .unset] [])) _
      refine XS.iloadN X0.here hx rfl (hb hby at_6) rfl ?_
      show Steps p.tables e below (s₁.setTop (mkF m 7 #[.val (.int p0), .val (.int p1), .val (.int p2), .val (.int p3), .unset, .unset, .unset, .unset, .unset, .unset, .unset] [(.int p1)])) _
      refine XS.goto X0.here hx rfl (pc0 := 7) (pc' := 17) rfl (hb hby at_7) (by decide) (by decide) ?_
      show Steps p.tables e below (s₁.setTop (mkF m 17 #[.val (.int p0), .val (.int p1), .val (.int p2), .val (.int p3), .unset, .unset, .unset, .unset, .unset, .unset, .unset] [(.int p1)])) _
      have eb142 : b142 = p1 := by rw [hb142, if_neg q141]
      rw [eb142] at k
      exact k)
  have P144 : ∀ t, Steps p.tables e below (s₁.setTop (mkF m 22 #[.val (.int p0), .val (.int p1), .val (.int p2), .val (.int p3), .val (.int b142), .unset, .unset, .unset, .unset, .unset, .unset] [(.int (p0 &&& (2 : Int32)))])) t → Steps p.tables e below (s₁.setTop (mkF m 0 #[.val (.int p0), .val (.int p1), .val (.int p2), .val (.int p3), .unset, .unset, .unset, .unset, .unset, .unset, .unset] [])) t := fun t k => P143 t (by
    show Steps p.tables e below (s₁.setTop (mkF m 17 #[.val (.int p0), .val (.int p1), .val (.int p2), .val (.int p3), .unset, .unset, .unset, .unset, .unset, .unset, .unset] [(.int b142)])) _
    refine XS.istore X0.here hx rfl (hb hby at_17) rfl (l' := #[.val (.int p0), .val (.int p1), .val (.int p2), .val (.int p3), .val (.int b142), .unset, .unset, .unset, .unset, .unset, .unset]) rfl ?_
    show Steps p.tables e below (s₁.setTop (mkF m 19 #[.val (.int p0), .val (.int p1), .val (.int p2), .val (.int p3), .val (.int b142), .unset, .unset, .unset, .unset, .unset, .unset] [])) _
    refine XS.iloadN X0.here hx rfl (hb hby at_19) rfl ?_
    show Steps p.tables e below (s₁.setTop (mkF m 20 #[.val (.int p0), .val (.int p1), .val (.int p2), .val (.int p3), .val (.int b142), .unset, .unset, .unset, .unset, .unset, .unset] [(.int p0)])) _
    refine XS.iconst X0.here hx rfl (hb hby at_20) ?_
    show Steps p.tables e below (s₁.setTop (mkF m 21 #[.val (.int p0), .val (.int p1), .val (.int p2), .val (.int p3), .val (.int b142), .unset, .unset, .unset, .unset, .unset, .unset] [(.int (2 : Int32)), (.int p0)])) _
    refine XS.iand X0.here hx rfl (hb hby at_21) rfl ?_
    show Steps p.tables e below (s₁.setTop (mkF m 22 #[.val (.int p0), .val (.int p1), .val (.int p2), .val (.int p3), .val (.int b142), .unset, .unset, .unset, .unset, .unset, .unset] [(.int (p0 &&& (2 : Int32)))])) _
    exact k)
  obtain ⟨b146, hb146⟩ : ∃ z : Int32, z = (if (p0 &&& (2 : Int32)) = (0 : Int32) then (0 : Int32) else (1 : Int32)) := ⟨_, rfl⟩
  have P147 : ∀ t, Steps p.tables e below (s₁.setTop (mkF m 30 #[.val (.int p0), .val (.int p1), .val (.int p2), .val (.int p3), .val (.int b142), .unset, .unset, .unset, .unset, .unset, .unset] [(.int b146)])) t → Steps p.tables e below (s₁.setTop (mkF m 0 #[.val (.int p0), .val (.int p1), .val (.int p2), .val (.int p3), .unset, .unset, .unset, .unset, .unset, .unset, .unset] [])) t := fun t k => P144 t (by
    show Steps p.tables e below (s₁.setTop (mkF m 22 #[.val (.int p0), .val (.int p1), .val (.int p2), .val (.int p3), .val (.int b142), .unset, .unset, .unset, .unset, .unset, .unset] [(.int (p0 &&& (2 : Int32)))])) _
    by_cases q145 : (p0 &&& (2 : Int32)) = (0 : Int32)
    · skip
      refine XS.ifYes X0.here hx rfl (pc0 := 22) (pc' := 29) rfl (hb hby at_22) rfl ((if0 _ _).trans (teq (show (p0 &&& (2 : Int32)) = (0 : Int32) from q145)).1) (by decide) (by decide) ?_
      show Steps p.tables e below (s₁.setTop (mkF m 29 #[.val (.int p0), .val (.int p1), .val (.int p2), .val (.int p3), .val (.int b142), .unset, .unset, .unset, .unset, .unset, .unset] [])) _
      refine XS.iconst X0.here hx rfl (hb hby at_29) ?_
      show Steps p.tables e below (s₁.setTop (mkF m 30 #[.val (.int p0), .val (.int p1), .val (.int p2), .val (.int p3), .val (.int b142), .unset, .unset, .unset, .unset, .unset, .unset] [(.int (0 : Int32))])) _
      have eb146 : b146 = (0 : Int32) := by rw [hb146, if_pos q145]
      rw [eb146] at k
      exact k
    · skip
      refine XS.ifNo X0.here hx rfl (hb hby at_22) rfl ((if0 _ _).trans (feq (show ¬ ((p0 &&& (2 : Int32)) = (0 : Int32)) from q145)).1) ?_
      show Steps p.tables e below (s₁.setTop (mkF m 25 #[.val (.int p0), .val (.int p1), .val (.int p2), .val (.int p3), .val (.int b142), .unset, .unset, .unset, .unset, .unset, .unset] [])) _
      refine XS.iconst X0.here hx rfl (hb hby at_25) ?_
      show Steps p.tables e below (s₁.setTop (mkF m 26 #[.val (.int p0), .val (.int p1), .val (.int p2), .val (.int p3), .val (.int b142), .unset, .unset, .unset, .unset, .unset, .unset] [(.int (1 : Int32))])) _
      refine XS.goto X0.here hx rfl (pc0 := 26) (pc' := 30) rfl (hb hby at_26) (by decide) (by decide) ?_
      show Steps p.tables e below (s₁.setTop (mkF m 30 #[.val (.int p0), .val (.int p1), .val (.int p2), .val (.int p3), .val (.int b142), .unset, .unset, .unset, .unset, .unset, .unset] [(.int (1 : Int32))])) _
      have eb146 : b146 = (1 : Int32) := by rw [hb146, if_neg q145]
      rw [eb146] at k
      exact k)
  obtain ⟨T148, h148, k148, X148, e148, E148, A148, st148⟩ := newP X0 hx hZ (hw _ (List.mem_of_getElem? (i := 0) rfl)) e0 (g := (mkF m 33 #[.val (.int p0), .val (.int p1), .val (.int p2), .val (.int p3), .val (.int b142), .val (.int b146), .unset, .unset, .unset, .unset, .unset] [(.int (2 : Int32))])) rfl (hb hby at_33) rfl (by decide) (cap := 2) (by decide) (by decide) (by decide) (by decide)
  obtain ⟨b148, g148⟩ : ∃ z, z = h0.size := ⟨_, rfl⟩
  rw [← g148] at A148 st148
  have g_b148 : n0 ≤ b148 := Nat.le_trans Z0 (Nat.le_of_eq g148.symm)
  have sz_b148 : h0.size ≤ b148 := Nat.le_trans (Keep.refl h0 []).1 (Nat.le_of_eq g148.symm)
  have P149 : ∀ t, Steps p.tables e below (T148.setTop (mkF m 35 #[.val (.int p0), .val (.int p1), .val (.int p2), .val (.int p3), .val (.int b142), .val (.int b146), .unset, .unset, .unset, .unset, .unset] [(.ref b148)])) t → Steps p.tables e below (s₁.setTop (mkF m 0 #[.val (.int p0), .val (.int p1), .val (.int p2), .val (.int p3), .unset, .unset, .unset, .unset, .unset, .unset, .unset] [])) t := fun t k => P147 t (by
    show Steps p.tables e below (s₁.setTop (mkF m 30 #[.val (.int p0), .val (.int p1), .val (.int p2), .val (.int p3), .val (.int b142), .unset, .unset, .unset, .unset, .unset, .unset] [(.int b146)])) _
    refine XS.istore X0.here hx rfl (hb hby at_30) rfl (l' := #[.val (.int p0), .val (.int p1), .val (.int p2), .val (.int p3), .val (.int b142), .val (.int b146), .unset, .unset, .unset, .unset, .unset]) rfl ?_
    show Steps p.tables e below (s₁.setTop (mkF m 32 #[.val (.int p0), .val (.int p1), .val (.int p2), .val (.int p3), .val (.int b142), .val (.int b146), .unset, .unset, .unset, .unset, .unset] [])) _
    refine XS.iconst X0.here hx rfl (hb hby at_32) ?_
    show Steps p.tables e below (s₁.setTop (mkF m 33 #[.val (.int p0), .val (.int p1), .val (.int p2), .val (.int p3), .val (.int b142), .val (.int b146), .unset, .unset, .unset, .unset, .unset] [(.int (2 : Int32))])) _
    exact st148 _ k)
  have Z150 : n0 ≤ h148.size := Nat.le_trans Z0 E148.1
  have K151 : Keep h0 h148 [] := (Keep.refl h0 []).ext E148
  have O152 : Old Z n0 h148 := Ol.ext E148
  have hk153 : h0.size ≤ h148.size := Nat.le_trans (Nat.le_refl _) E148.1
  have v154 : Arv Z h148 b148 k148 .char (2 : Int32) [(.int (0 : Int32)), (.int (0 : Int32))] (.int (0 : Int32)) := (Arv.new A148 (by decide)).pad (pad_rep [] (.int (0 : Int32)) 2)
  obtain ⟨cl155, Ar155, q155, S155, N155, H155, G155⟩ := id v154
  obtain ⟨T155, h155, X155, e155, W155, st155⟩ := stC X148 hx hZ e148 Ar155 (j := (0 : Int32)) (inb_of S155 ⟨by decide, by decide⟩) (g := (mkF m 46 #[.val (.int p0), .val (.int p1), .val (.int p2), .val (.int p3), .val (.int b142), .val (.int b146), .val (.ref b148), .unset, .unset, .unset, .unset] [(.int ((p2 &&& (255 : Int32)).toUInt32.toUInt16.toUInt32.toInt32)), (.int (0 : Int32)), (.ref b148)])) rfl rfl (hb hby at_46)
  have v156 : Arv Z h155 b148 k148 .char (2 : Int32) [(.int (nar .char ((p2 &&& (255 : Int32)).toUInt32.toUInt16.toUInt32.toInt32))), (.int (0 : Int32))] (.int (0 : Int32)) := Arv.set Ar155 q155 S155 N155 H155 G155 (fits_nar_char _) W155 0 rfl (Nat.le_of_ble_eq_true rfl)
  have P157 : ∀ t, Steps p.tables e below (T155.setTop (mkF m 47 #[.val (.int p0), .val (.int p1), .val (.int p2), .val (.int p3), .val (.int b142), .val (.int b146), .val (.ref b148), .unset, .unset, .unset, .unset] [])) t → Steps p.tables e below (s₁.setTop (mkF m 0 #[.val (.int p0), .val (.int p1), .val (.int p2), .val (.int p3), .unset, .unset, .unset, .unset, .unset, .unset, .unset] [])) t := fun t k => P149 t (by
    show Steps p.tables e below (T148.setTop (mkF m 35 #[.val (.int p0), .val (.int p1), .val (.int p2), .val (.int p3), .val (.int b142), .val (.int b146), .unset, .unset, .unset, .unset, .unset] [(.ref b148)])) _
    refine XS.astore X148.here hx rfl (hb hby at_35) rfl rfl (l' := #[.val (.int p0), .val (.int p1), .val (.int p2), .val (.int p3), .val (.int b142), .val (.int b146), .val (.ref b148), .unset, .unset, .unset, .unset]) rfl ?_
    show Steps p.tables e below (T148.setTop (mkF m 37 #[.val (.int p0), .val (.int p1), .val (.int p2), .val (.int p3), .val (.int b142), .val (.int b146), .val (.ref b148), .unset, .unset, .unset, .unset] [])) _
    refine XS.aload X148.here hx rfl (hb hby at_37) rfl rfl ?_
    show Steps p.tables e below (T148.setTop (mkF m 39 #[.val (.int p0), .val (.int p1), .val (.int p2), .val (.int p3), .val (.int b142), .val (.int b146), .val (.ref b148), .unset, .unset, .unset, .unset] [(.ref b148)])) _
    refine XS.iconst X148.here hx rfl (hb hby at_39) ?_
    show Steps p.tables e below (T148.setTop (mkF m 40 #[.val (.int p0), .val (.int p1), .val (.int p2), .val (.int p3), .val (.int b142), .val (.int b146), .val (.ref b148), .unset, .unset, .unset, .unset] [(.int (0 : Int32)), (.ref b148)])) _
    refine XS.iloadN X148.here hx rfl (hb hby at_40) rfl ?_
    show Steps p.tables e below (T148.setTop (mkF m 41 #[.val (.int p0), .val (.int p1), .val (.int p2), .val (.int p3), .val (.int b142), .val (.int b146), .val (.ref b148), .unset, .unset, .unset, .unset] [(.int p2), (.int (0 : Int32)), (.ref b148)])) _
    refine XS.sipush X148.here hx rfl (hb hby at_41) ?_
    show Steps p.tables e below (T148.setTop (mkF m 44 #[.val (.int p0), .val (.int p1), .val (.int p2), .val (.int p3), .val (.int b142), .val (.int b146), .val (.ref b148), .unset, .unset, .unset, .unset] [(.int (255 : Int32)), (.int p2), (.int (0 : Int32)), (.ref b148)])) _
    refine XS.iand X148.here hx rfl (hb hby at_44) rfl ?_
    show Steps p.tables e below (T148.setTop (mkF m 45 #[.val (.int p0), .val (.int p1), .val (.int p2), .val (.int p3), .val (.int b142), .val (.int b146), .val (.ref b148), .unset, .unset, .unset, .unset] [(.int (p2 &&& (255 : Int32))), (.int (0 : Int32)), (.ref b148)])) _
    refine XS.i2c X148.here hx rfl (hb hby at_45) rfl ?_
    show Steps p.tables e below (T148.setTop (mkF m 46 #[.val (.int p0), .val (.int p1), .val (.int p2), .val (.int p3), .val (.int b142), .val (.int b146), .val (.ref b148), .unset, .unset, .unset, .unset] [(.int ((p2 &&& (255 : Int32)).toUInt32.toUInt16.toUInt32.toInt32)), (.int (0 : Int32)), (.ref b148)])) _
    exact st155 _ k)
  have N158 := Fr.snoc X155 N0 g_b148
  have Z159 : n0 ≤ h155.size := Nat.le_trans Z150 (Keep.of_wr W155).1
  have K160 : Keep h0 h155 [] := K151.wr W155 (Or.inr sz_b148)
  have O161 : Old Z n0 h155 := O152.wr W155 g_b148
  have hk162 : h0.size ≤ h155.size := Nat.le_trans hk153 (Keep.of_wr W155).1
  obtain ⟨cl163, Ar163, q163, S163, N163, H163, G163⟩ := id v156
  obtain ⟨T163, h163, X163, e163, W163, st163⟩ := stC X155 hx hZ e155 Ar163 (j := (1 : Int32)) (inb_of S163 ⟨by decide, by decide⟩) (g := (mkF m 59 #[.val (.int p0), .val (.int p1), .val (.int p2), .val (.int p3), .val (.int b142), .val (.int b146), .val (.ref b148), .unset, .unset, .unset, .unset] [(.int ((((p2.toUInt32 >>> ((8 : Int32) &&& 31).toUInt32).toInt32) &&& (255 : Int32)).toUInt32.toUInt16.toUInt32.toInt32)), (.int (1 : Int32)), (.ref b148)])) rfl rfl (hb hby at_59)
  have v164 : Arv Z h163 b148 k148 .char (2 : Int32) [(.int (nar .char ((p2 &&& (255 : Int32)).toUInt32.toUInt16.toUInt32.toInt32))), (.int (nar .char ((((p2.toUInt32 >>> ((8 : Int32) &&& 31).toUInt32).toInt32) &&& (255 : Int32)).toUInt32.toUInt16.toUInt32.toInt32)))] (.int (0 : Int32)) := Arv.set Ar163 q163 S163 N163 H163 G163 (fits_nar_char _) W163 1 rfl (Nat.le_of_ble_eq_true rfl)
  have P165 : ∀ t, Steps p.tables e below (T163.setTop (mkF m 60 #[.val (.int p0), .val (.int p1), .val (.int p2), .val (.int p3), .val (.int b142), .val (.int b146), .val (.ref b148), .unset, .unset, .unset, .unset] [])) t → Steps p.tables e below (s₁.setTop (mkF m 0 #[.val (.int p0), .val (.int p1), .val (.int p2), .val (.int p3), .unset, .unset, .unset, .unset, .unset, .unset, .unset] [])) t := fun t k => P157 t (by
    show Steps p.tables e below (T155.setTop (mkF m 47 #[.val (.int p0), .val (.int p1), .val (.int p2), .val (.int p3), .val (.int b142), .val (.int b146), .val (.ref b148), .unset, .unset, .unset, .unset] [])) _
    refine XS.aload X155.here hx rfl (hb hby at_47) rfl rfl ?_
    show Steps p.tables e below (T155.setTop (mkF m 49 #[.val (.int p0), .val (.int p1), .val (.int p2), .val (.int p3), .val (.int b142), .val (.int b146), .val (.ref b148), .unset, .unset, .unset, .unset] [(.ref b148)])) _
    refine XS.iconst X155.here hx rfl (hb hby at_49) ?_
    show Steps p.tables e below (T155.setTop (mkF m 50 #[.val (.int p0), .val (.int p1), .val (.int p2), .val (.int p3), .val (.int b142), .val (.int b146), .val (.ref b148), .unset, .unset, .unset, .unset] [(.int (1 : Int32)), (.ref b148)])) _
    refine XS.iloadN X155.here hx rfl (hb hby at_50) rfl ?_
    show Steps p.tables e below (T155.setTop (mkF m 51 #[.val (.int p0), .val (.int p1), .val (.int p2), .val (.int p3), .val (.int b142), .val (.int b146), .val (.ref b148), .unset, .unset, .unset, .unset] [(.int p2), (.int (1 : Int32)), (.ref b148)])) _
    refine XS.bipush X155.here hx rfl (hb hby at_51) ?_
    show Steps p.tables e below (T155.setTop (mkF m 53 #[.val (.int p0), .val (.int p1), .val (.int p2), .val (.int p3), .val (.int b142), .val (.int b146), .val (.ref b148), .unset, .unset, .unset, .unset] [(.int (8 : Int32)), (.int p2), (.int (1 : Int32)), (.ref b148)])) _
    refine XS.iushr X155.here hx rfl (hb hby at_53) rfl ?_
    show Steps p.tables e below (T155.setTop (mkF m 54 #[.val (.int p0), .val (.int p1), .val (.int p2), .val (.int p3), .val (.int b142), .val (.int b146), .val (.ref b148), .unset, .unset, .unset, .unset] [(.int ((p2.toUInt32 >>> ((8 : Int32) &&& 31).toUInt32).toInt32)), (.int (1 : Int32)), (.ref b148)])) _
    refine XS.sipush X155.here hx rfl (hb hby at_54) ?_
    show Steps p.tables e below (T155.setTop (mkF m 57 #[.val (.int p0), .val (.int p1), .val (.int p2), .val (.int p3), .val (.int b142), .val (.int b146), .val (.ref b148), .unset, .unset, .unset, .unset] [(.int (255 : Int32)), (.int ((p2.toUInt32 >>> ((8 : Int32) &&& 31).toUInt32).toInt32)), (.int (1 : Int32)), (.ref b148)])) _
    refine XS.iand X155.here hx rfl (hb hby at_57) rfl ?_
    show Steps p.tables e below (T155.setTop (mkF m 58 #[.val (.int p0), .val (.int p1), .val (.int p2), .val (.int p3), .val (.int b142), .val (.int b146), .val (.ref b148), .unset, .unset, .unset, .unset] [(.int (((p2.toUInt32 >>> ((8 : Int32) &&& 31).toUInt32).toInt32) &&& (255 : Int32))), (.int (1 : Int32)), (.ref b148)])) _
    refine XS.i2c X155.here hx rfl (hb hby at_58) rfl ?_
    show Steps p.tables e below (T155.setTop (mkF m 59 #[.val (.int p0), .val (.int p1), .val (.int p2), .val (.int p3), .val (.int b142), .val (.int b146), .val (.ref b148), .unset, .unset, .unset, .unset] [(.int ((((p2.toUInt32 >>> ((8 : Int32) &&& 31).toUInt32).toInt32) &&& (255 : Int32)).toUInt32.toUInt16.toUInt32.toInt32)), (.int (1 : Int32)), (.ref b148)])) _
    exact st163 _ k)
  have N166 := Fr.snoc X163 N158 g_b148
  have Z167 : n0 ≤ h163.size := Nat.le_trans Z159 (Keep.of_wr W163).1
  have K168 : Keep h0 h163 [] := K160.wr W163 (Or.inr sz_b148)
  have O169 : Old Z n0 h163 := O161.wr W163 g_b148
  have hk170 : h0.size ≤ h163.size := Nat.le_trans hk162 (Keep.of_wr W163).1
  obtain ⟨T171, h171, X171, e171, E171, A171, D171, -, st171⟩ := newO X163 hx hZ hown (hw _ (List.mem_of_getElem? (i := 1) rfl)) (hw _ (List.mem_of_getElem? (i := 2) rfl)) (hw _ (List.mem_of_getElem? (i := 3) rfl)) e163 (g := (mkF m 60 #[.val (.int p0), .val (.int p1), .val (.int p2), .val (.int p3), .val (.int b142), .val (.int b146), .val (.ref b148), .unset, .unset, .unset, .unset] [])) rfl (hb hby at_60) (by decide) (by decide)
  obtain ⟨b171, g171⟩ : ∃ z, z = h163.size := ⟨_, rfl⟩
  rw [← g171] at A171 D171 st171
  have g_b171 : n0 ≤ b171 := Nat.le_trans Z167 (Nat.le_of_eq g171.symm)
  have sz_b171 : h0.size ≤ b171 := Nat.le_trans K168.1 (Nat.le_of_eq g171.symm)
  have P172 : ∀ t, Steps p.tables e below (T171.setTop (mkF m 63 #[.val (.int p0), .val (.int p1), .val (.int p2), .val (.int p3), .val (.int b142), .val (.int b146), .val (.ref b148), .unset, .unset, .unset, .unset] [(.ref b171)])) t → Steps p.tables e below (s₁.setTop (mkF m 0 #[.val (.int p0), .val (.int p1), .val (.int p2), .val (.int p3), .unset, .unset, .unset, .unset, .unset, .unset, .unset] [])) t := fun t k => P165 t (by
    show Steps p.tables e below (T163.setTop (mkF m 60 #[.val (.int p0), .val (.int p1), .val (.int p2), .val (.int p3), .val (.int b142), .val (.int b146), .val (.ref b148), .unset, .unset, .unset, .unset] [])) _
    exact st171 _ k)
  have Z173 : n0 ≤ h171.size := Nat.le_trans Z167 E171.1
  have K174 : Keep h0 h171 [] := K168.ext E171
  have O175 : Old Z n0 h171 := O169.ext E171
  have hk176 : h0.size ≤ h171.size := Nat.le_trans hk170 E171.1
  have f177 : Fld Z h171 b171 "java/lang/String" "coder" "B" (.int (0 : Int32)) := D171 (Or.inr (hw _ (List.mem_of_getElem? (i := 27) rfl))) (ty := .byte) (by decide)
  have f178 : Fld Z h171 b171 "java/lang/String" "value" "[B" .null := D171 (Or.inr (hw _ (List.mem_of_getElem? (i := 29) rfl))) (ty := (.array .byte)) (by decide)
  have hp179 : ∀ c ∈ ([(nar .char ((p2 &&& (255 : Int32)).toUInt32.toUInt16.toUInt32.toInt32)), (nar .char ((((p2.toUInt32 >>> ((8 : Int32) &&& 31).toUInt32).toInt32) &&& (255 : Int32)).toUInt32.toUInt16.toUInt32.toInt32))] : List Int32), ¬ c < 0 ∧ ¬ (255 : Int32) < c := by
    intro c hc
    simp only [List.mem_cons, List.not_mem_nil, or_false] at hc
    rcases hc with rfl | rfl
    · exact and255_chars _
    · exact and255_chars _
  have hwsb171 : ∀ d ∈ StrChars.Road.words, d.before a0 Z = true := fun d hd => hw d (own_strwords d hd)
  have f180 : Arv Z h171 b148 k148 .char (2 : Int32) [(.int (nar .char ((p2 &&& (255 : Int32)).toUInt32.toUInt16.toUInt32.toInt32))), (.int (nar .char ((((p2.toUInt32 >>> ((8 : Int32) &&& 31).toUInt32).toInt32) &&& (255 : Int32)).toUInt32.toUInt16.toUInt32.toInt32)))] (.int (0 : Int32)) := (v164.ext E171)
  obtain ⟨_, _, ⟨T181, L181, k181, n181⟩, -, X181, ⟨Lc181, hQ181, l181, y181, z181⟩, st181⟩ := X171.specialBack hx (y := (⟨"java/lang/String", "<init>", "([C)V"⟩ : MethodName)) rfl hown (mvT hZ (hw _ (List.mem_of_getElem? (i := 4) rfl))) (mvT hZ (hw _ (List.mem_of_getElem? (i := 5) rfl))) (mvT hZ (hw _ (List.mem_of_getElem? (i := 6) rfl))) (by decide) (StrChars.Road.backV (W := 1) hZ hwsb171 (kI := 4) (hw _ (List.mem_of_getElem? (i := 2) rfl)) (cs := ([(nar .char ((p2 &&& (255 : Int32)).toUInt32.toUInt16.toUInt32.toInt32)), (nar .char ((((p2.toUInt32 >>> ((8 : Int32) &&& 31).toUInt32).toInt32) &&& (255 : Int32)).toUInt32.toUInt16.toUInt32.toInt32))] : List Int32)) (bs := (([(nar .char ((p2 &&& (255 : Int32)).toUInt32.toUInt16.toUInt32.toInt32)), (nar .char ((((p2.toUInt32 >>> ((8 : Int32) &&& 31).toUInt32).toInt32) &&& (255 : Int32)).toUInt32.toUInt16.toUInt32.toInt32))] : List Int32)).map (fun c => c.toInt8.toInt32)) (n := 2) g_b171 Z173 A171 f178 f177 f180 (Sg.ext O175.2) P5 rfl rfl (by decide) (by decide) hp179 rfl (by decide) (by decide)) (g := (mkF m 66 #[.val (.int p0), .val (.int p1), .val (.int p2), .val (.int p3), .val (.int b142), .val (.int b146), .val (.ref b148), .unset, .unset, .unset, .unset] [(.ref b148), (.ref b171), (.ref b171)])) rfl (by rw [hml]; rfl) (Steps.refl _) (a := b171) (argsL := [(.ref b148)]) (rest := [(.ref b171)]) (lenOf pd__28_5bC_29V rfl) rfl (by show 2 * 0 + _ ≤ _; exact Nat.le_of_eq rfl) (hb hby at_66) (fun _ _ => ⟨rfl, e171, (Nat.le_of_ble_eq_true rfl : 2 + 1 ≤ _), (Nat.le_of_ble_eq_true rfl : 6 + 2 ≤ _)⟩)
  dsimp only [Pt.U, Pt.locs, Pt.cells, Pt.slots] at X181 l181 y181 z181 st181 hQ181
  subst l181 y181 z181
  obtain ⟨rfl, Nq181, Kk181, Ek181, Fc181, t181, kb181, u181, vt181, wt181, Fv181, Av181⟩ := hQ181
  have N182 := Fr.app N166 Nq181
  have P183 : ∀ t, Steps p.tables e below (T181.setTop (mkF m 69 #[.val (.int p0), .val (.int p1), .val (.int p2), .val (.int p3), .val (.int b142), .val (.int b146), .val (.ref b148), .unset, .unset, .unset, .unset] [(.ref b171)])) t → Steps p.tables e below (s₁.setTop (mkF m 0 #[.val (.int p0), .val (.int p1), .val (.int p2), .val (.int p3), .unset, .unset, .unset, .unset, .unset, .unset, .unset] [])) t := fun t k => P172 t (by
    show Steps p.tables e below (T171.setTop (mkF m 63 #[.val (.int p0), .val (.int p1), .val (.int p2), .val (.int p3), .val (.int b142), .val (.int b146), .val (.ref b148), .unset, .unset, .unset, .unset] [(.ref b171)])) _
    refine XS.dup X171.here hx rfl (hb hby at_63) rfl rfl ?_
    show Steps p.tables e below (T171.setTop (mkF m 64 #[.val (.int p0), .val (.int p1), .val (.int p2), .val (.int p3), .val (.int b142), .val (.int b146), .val (.ref b148), .unset, .unset, .unset, .unset] [(.ref b171), (.ref b171)])) _
    refine XS.aload X171.here hx rfl (hb hby at_64) rfl rfl ?_
    show Steps p.tables e below (T171.setTop (mkF m 66 #[.val (.int p0), .val (.int p1), .val (.int p2), .val (.int p3), .val (.int b142), .val (.int b146), .val (.ref b148), .unset, .unset, .unset, .unset] [(.ref b148), (.ref b171), (.ref b171)])) _
    exact st181.trans k)
  have Z184 : n0 ≤ T181.heap.size := Nat.le_trans Z173 Kk181.1
  have K185 : Keep h0 T181.heap [] := K174.trans Kk181 ((allS (Or.inr sz_b171) all0))
  have O186 : Old Z n0 T181.heap := O175.keep Kk181 (allS g_b171 all0)
  have hk187 : h0.size ≤ T181.heap.size := Nat.le_trans hk176 Kk181.1
  have g_t181 : n0 ≤ t181 := Nat.le_trans Z173 vt181
  have sz_t181 : h0.size ≤ t181 := Nat.le_trans K174.1 vt181
  have hp188 : ¬ (255 : Int32) < ((p3 &&& (255 : Int32)).toUInt32.toUInt16.toUInt32.toInt32) := own_c255 _
  obtain ⟨_, _, ⟨T189, L189, k189, n189⟩, -, X189, ⟨Lc189, hQ189, l189, y189, z189⟩, st189⟩ := Jvm.LawKit.callS X181 hx (y := (⟨"java/lang/String", "valueOf", "(C)Ljava/lang/String;"⟩ : MethodName)) hown (mvT hZ (hw _ (List.mem_of_getElem? (i := 30) rfl))) (mvT hZ (hw _ (List.mem_of_getElem? (i := 31) rfl))) (mvT hZ (hw _ (List.mem_of_getElem? (i := 3) rfl))) (mvT hZ (hw _ (List.mem_of_getElem? (i := 32) rfl))) (by decide) (backOf (W := 0) (rm_valueOf l Z a0 hw [] ((p3 &&& (255 : Int32)).toUInt32.toUInt16.toUInt32.toInt32) G1 T181.heap n0 Z184 Sg P5 hp188 O186) hZ (hw _ (List.mem_of_getElem? (i := 32) rfl)) (hw _ (List.mem_of_getElem? (i := 3) rfl)) (by decide) (by decide)) (g := (mkF m 77 #[.val (.int p0), .val (.int p1), .val (.int p2), .val (.int p3), .val (.int b142), .val (.int b146), .val (.ref b148), .val (.ref b171), .unset, .unset, .unset] [(.int ((p3 &&& (255 : Int32)).toUInt32.toUInt16.toUInt32.toInt32))])) rfl (by rw [hml]; rfl) (argsL := [(.int ((p3 &&& (255 : Int32)).toUInt32.toUInt16.toUInt32.toInt32))]) (rest := []) (lenOf pd__28C_29Ljava_2flang_2fString_3b rfl) rfl (by show 2 * 0 + _ ≤ _; exact Nat.le_of_eq rfl) (hb hby at_77) (fun _ _ => ⟨rfl, rfl, (Nat.le_of_ble_eq_true rfl : 3 + 2 ≤ _), (Nat.le_of_ble_eq_true rfl : 8 + 5 ≤ _)⟩)
  dsimp only [Pt.U, Pt.locs, Pt.cells, Pt.slots] at X189 l189 y189 z189 st189 hQ189
  subst l189 y189 z189
  obtain ⟨s189, t189, k189, rfl, Nq189, sz189, szt189, Kk189, Ek189, Fv189, Fc189, Av189⟩ := hQ189
  have N190 := Fr.app N182 Nq189
  have P191 : ∀ t, Steps p.tables e below (T189.setTop (mkF m 80 #[.val (.int p0), .val (.int p1), .val (.int p2), .val (.int p3), .val (.int b142), .val (.int b146), .val (.ref b148), .val (.ref b171), .unset, .unset, .unset] [(.ref s189)])) t → Steps p.tables e below (s₁.setTop (mkF m 0 #[.val (.int p0), .val (.int p1), .val (.int p2), .val (.int p3), .unset, .unset, .unset, .unset, .unset, .unset, .unset] [])) t := fun t k => P183 t (by
    show Steps p.tables e below (T181.setTop (mkF m 69 #[.val (.int p0), .val (.int p1), .val (.int p2), .val (.int p3), .val (.int b142), .val (.int b146), .val (.ref b148), .unset, .unset, .unset, .unset] [(.ref b171)])) _
    refine XS.astore X181.here hx rfl (hb hby at_69) rfl rfl (l' := #[.val (.int p0), .val (.int p1), .val (.int p2), .val (.int p3), .val (.int b142), .val (.int b146), .val (.ref b148), .val (.ref b171), .unset, .unset, .unset]) rfl ?_
    show Steps p.tables e below (T181.setTop (mkF m 71 #[.val (.int p0), .val (.int p1), .val (.int p2), .val (.int p3), .val (.int b142), .val (.int b146), .val (.ref b148), .val (.ref b171), .unset, .unset, .unset] [])) _
    refine XS.iloadN X181.here hx rfl (hb hby at_71) rfl ?_
    show Steps p.tables e below (T181.setTop (mkF m 72 #[.val (.int p0), .val (.int p1), .val (.int p2), .val (.int p3), .val (.int b142), .val (.int b146), .val (.ref b148), .val (.ref b171), .unset, .unset, .unset] [(.int p3)])) _
    refine XS.sipush X181.here hx rfl (hb hby at_72) ?_
    show Steps p.tables e below (T181.setTop (mkF m 75 #[.val (.int p0), .val (.int p1), .val (.int p2), .val (.int p3), .val (.int b142), .val (.int b146), .val (.ref b148), .val (.ref b171), .unset, .unset, .unset] [(.int (255 : Int32)), (.int p3)])) _
    refine XS.iand X181.here hx rfl (hb hby at_75) rfl ?_
    show Steps p.tables e below (T181.setTop (mkF m 76 #[.val (.int p0), .val (.int p1), .val (.int p2), .val (.int p3), .val (.int b142), .val (.int b146), .val (.ref b148), .val (.ref b171), .unset, .unset, .unset] [(.int (p3 &&& (255 : Int32)))])) _
    refine XS.i2c X181.here hx rfl (hb hby at_76) rfl ?_
    show Steps p.tables e below (T181.setTop (mkF m 77 #[.val (.int p0), .val (.int p1), .val (.int p2), .val (.int p3), .val (.int b142), .val (.int b146), .val (.ref b148), .val (.ref b171), .unset, .unset, .unset] [(.int ((p3 &&& (255 : Int32)).toUInt32.toUInt16.toUInt32.toInt32))])) _
    exact st189 _ k)
  have Z192 : n0 ≤ T189.heap.size := Nat.le_trans Z184 Kk189.1
  have K193 : Keep h0 T189.heap [] := K185.trans Kk189 (all0)
  have O194 : Old Z n0 T189.heap := O186.keep Kk189 all0
  have hk195 : h0.size ≤ T189.heap.size := Nat.le_trans hk187 Kk189.1
  have g_s189 : n0 ≤ s189 := Nat.le_trans Z184 sz189
  have sz_s189 : h0.size ≤ s189 := Nat.le_trans K185.1 sz189
  have g_t189 : n0 ≤ t189 := Nat.le_trans Z184 szt189
  have sz_t189 : h0.size ≤ t189 := Nat.le_trans K185.1 szt189
  obtain ⟨T196, h196, X196, e196, E196, A196, D196, -, st196⟩ := newO X189 hx hZ hown (hw _ (List.mem_of_getElem? (i := 44) rfl)) (hw _ (List.mem_of_getElem? (i := 45) rfl)) (hw _ (List.mem_of_getElem? (i := 46) rfl)) rfl (g := (mkF m 82 #[.val (.int p0), .val (.int p1), .val (.int p2), .val (.int p3), .val (.int b142), .val (.int b146), .val (.ref b148), .val (.ref b171), .val (.ref s189), .unset, .unset] [])) rfl (hb hby at_82) (by decide) (by decide)
  obtain ⟨b196, g196⟩ : ∃ z, z = T189.heap.size := ⟨_, rfl⟩
  rw [← g196] at A196 D196 st196
  have g_b196 : n0 ≤ b196 := Nat.le_trans Z192 (Nat.le_of_eq g196.symm)
  have sz_b196 : h0.size ≤ b196 := Nat.le_trans K193.1 (Nat.le_of_eq g196.symm)
  have P197 : ∀ t, Steps p.tables e below (T196.setTop (mkF m 85 #[.val (.int p0), .val (.int p1), .val (.int p2), .val (.int p3), .val (.int b142), .val (.int b146), .val (.ref b148), .val (.ref b171), .val (.ref s189), .unset, .unset] [(.ref b196)])) t → Steps p.tables e below (s₁.setTop (mkF m 0 #[.val (.int p0), .val (.int p1), .val (.int p2), .val (.int p3), .unset, .unset, .unset, .unset, .unset, .unset, .unset] [])) t := fun t k => P191 t (by
    show Steps p.tables e below (T189.setTop (mkF m 80 #[.val (.int p0), .val (.int p1), .val (.int p2), .val (.int p3), .val (.int b142), .val (.int b146), .val (.ref b148), .val (.ref b171), .unset, .unset, .unset] [(.ref s189)])) _
    refine XS.astore X189.here hx rfl (hb hby at_80) rfl rfl (l' := #[.val (.int p0), .val (.int p1), .val (.int p2), .val (.int p3), .val (.int b142), .val (.int b146), .val (.ref b148), .val (.ref b171), .val (.ref s189), .unset, .unset]) rfl ?_
    show Steps p.tables e below (T189.setTop (mkF m 82 #[.val (.int p0), .val (.int p1), .val (.int p2), .val (.int p3), .val (.int b142), .val (.int b146), .val (.ref b148), .val (.ref b171), .val (.ref s189), .unset, .unset] [])) _
    exact st196 _ k)
  have Z198 : n0 ≤ h196.size := Nat.le_trans Z192 E196.1
  have K199 : Keep h0 h196 [] := K193.ext E196
  have O200 : Old Z n0 h196 := O194.ext E196
  have hk201 : h0.size ≤ h196.size := Nat.le_trans hk195 E196.1
  have f202 : Fld Z h196 b196 "com/example/clausewright/clausewright/model/Column" "name" "Ljava/lang/String;" .null := D196 (Or.inr (hw _ (List.mem_of_getElem? (i := 65) rfl))) (ty := (.object "java/lang/String")) (by decide)
  have f203 : Fld Z h196 b196 "com/example/clausewright/clausewright/model/Column" "jdbcType" "I" (.int (0 : Int32)) := D196 (Or.inr (hw _ (List.mem_of_getElem? (i := 67) rfl))) (ty := .int) (by decide)
  have f204 : Fld Z h196 b196 "com/example/clausewright/clausewright/model/Column" "typeName" "Ljava/lang/String;" .null := D196 (Or.inr (hw _ (List.mem_of_getElem? (i := 69) rfl))) (ty := (.object "java/lang/String")) (by decide)
  have f205 : Fld Z h196 b196 "com/example/clausewright/clausewright/model/Column" "nullable" "Z" (.int (0 : Int32)) := D196 (Or.inr (hw _ (List.mem_of_getElem? (i := 71) rfl))) (ty := .boolean) (by decide)
  obtain ⟨_, _, ⟨T206, L206, k206, n206⟩, -, X206, hs206, hg206, ⟨Lc206, hQ206, l206, y206, z206⟩, st206⟩ := X196.specialBackS hx (y := (⟨"com/example/clausewright/clausewright/model/Column", "<init>", "(Ljava/lang/String;ILjava/lang/String;Z)V"⟩ : MethodName)) rfl hown (mvT hZ (hw _ (List.mem_of_getElem? (i := 47) rfl))) (mvT hZ (hw _ (List.mem_of_getElem? (i := 48) rfl))) (mvT hZ (hw _ (List.mem_of_getElem? (i := 49) rfl))) (by decide) (backOfS (W := 1) (rm_ctor l Z a0 hw [] b196 b171 b142 s189 b146 h196 n0 Z198 g_b196 A196 f202 f203 f204 f205) hZ (hw _ (List.mem_of_getElem? (i := 49) rfl)) (hw _ (List.mem_of_getElem? (i := 46) rfl)) (by decide) (by decide)) (g := (mkF m 94 #[.val (.int p0), .val (.int p1), .val (.int p2), .val (.int p3), .val (.int b142), .val (.int b146), .val (.ref b148), .val (.ref b171), .val (.ref s189), .unset, .unset] [(.int b146), (.ref s189), (.int b142), (.ref b171), (.ref b196), (.ref b196)])) rfl (by rw [hml]; rfl) (Steps.refl _) (a := b196) (argsL := [(.ref b171), (.int b142), (.ref s189), (.int b146)]) (rest := [(.ref b196)]) (lenOf pd__28Ljava_2flang_2fString_3bILjava_2flang_2fString_3bZ_29V rfl) rfl (by show 2 * 0 + _ ≤ _; exact Nat.le_of_eq rfl) (hb hby at_94) (fun _ _ => ⟨rfl, e196, (Nat.le_of_ble_eq_true rfl : 6 + 4 ≤ _), (Nat.le_of_ble_eq_true rfl : 17 + 56 ≤ _)⟩)
  dsimp only [Pt.U, Pt.locs, Pt.cells, Pt.slots] at X206 l206 y206 z206 st206 hQ206 hs206 hg206
  subst l206 y206 z206
  obtain ⟨rfl, Nq206, Kk206, Ek206, Fj206⟩ := hQ206
  obtain ⟨Xr206, hSr206, hZr206, ho206⟩ := rebS hS0 (by rw [e196]; exact hk201) X206 hs206 hg206 hZ hown
  have N207 := Fr.app N190 Nq206
  have P208 : ∀ t, Steps p.tables e below (T206.setTop (mkF m 97 #[.val (.int p0), .val (.int p1), .val (.int p2), .val (.int p3), .val (.int b142), .val (.int b146), .val (.ref b148), .val (.ref b171), .val (.ref s189), .unset, .unset] [(.ref b196)])) t → Steps p.tables e below (s₁.setTop (mkF m 0 #[.val (.int p0), .val (.int p1), .val (.int p2), .val (.int p3), .unset, .unset, .unset, .unset, .unset, .unset, .unset] [])) t := fun t k => P197 t (by
    show Steps p.tables e below (T196.setTop (mkF m 85 #[.val (.int p0), .val (.int p1), .val (.int p2), .val (.int p3), .val (.int b142), .val (.int b146), .val (.ref b148), .val (.ref b171), .val (.ref s189), .unset, .unset] [(.ref b196)])) _
    refine XS.dup X196.here hx rfl (hb hby at_85) rfl rfl ?_
    show Steps p.tables e below (T196.setTop (mkF m 86 #[.val (.int p0), .val (.int p1), .val (.int p2), .val (.int p3), .val (.int b142), .val (.int b146), .val (.ref b148), .val (.ref b171), .val (.ref s189), .unset, .unset] [(.ref b196), (.ref b196)])) _
    refine XS.aload X196.here hx rfl (hb hby at_86) rfl rfl ?_
    show Steps p.tables e below (T196.setTop (mkF m 88 #[.val (.int p0), .val (.int p1), .val (.int p2), .val (.int p3), .val (.int b142), .val (.int b146), .val (.ref b148), .val (.ref b171), .val (.ref s189), .unset, .unset] [(.ref b171), (.ref b196), (.ref b196)])) _
    refine XS.iload X196.here hx rfl (hb hby at_88) rfl ?_
    show Steps p.tables e below (T196.setTop (mkF m 90 #[.val (.int p0), .val (.int p1), .val (.int p2), .val (.int p3), .val (.int b142), .val (.int b146), .val (.ref b148), .val (.ref b171), .val (.ref s189), .unset, .unset] [(.int b142), (.ref b171), (.ref b196), (.ref b196)])) _
    refine XS.aload X196.here hx rfl (hb hby at_90) rfl rfl ?_
    show Steps p.tables e below (T196.setTop (mkF m 92 #[.val (.int p0), .val (.int p1), .val (.int p2), .val (.int p3), .val (.int b142), .val (.int b146), .val (.ref b148), .val (.ref b171), .val (.ref s189), .unset, .unset] [(.ref s189), (.int b142), (.ref b171), (.ref b196), (.ref b196)])) _
    refine XS.iload X196.here hx rfl (hb hby at_92) rfl ?_
    show Steps p.tables e below (T196.setTop (mkF m 94 #[.val (.int p0), .val (.int p1), .val (.int p2), .val (.int p3), .val (.int b142), .val (.int b146), .val (.ref b148), .val (.ref b171), .val (.ref s189), .unset, .unset] [(.int b146), (.ref s189), (.int b142), (.ref b171), (.ref b196), (.ref b196)])) _
    exact st206.trans k)
  have Z209 : n0 ≤ T206.heap.size := Nat.le_trans Z198 Kk206.1
  have K210 : Keep h0 T206.heap [] := K199.trans Kk206 ((allS (Or.inr sz_b196) all0))
  have O211 : Old Z n0 T206.heap := O200.keep Kk206 (allS g_b196 all0)
  have P212 : ∀ t, Steps p.tables e below (T206.setTop (mkF m 102 #[.val (.int p0), .val (.int p1), .val (.int p2), .val (.int p3), .val (.int b142), .val (.int b146), .val (.ref b148), .val (.ref b171), .val (.ref s189), .val (.ref b196), .unset] [(.int (2 : Int32)), (.int b142)])) t → Steps p.tables e below (s₁.setTop (mkF m 0 #[.val (.int p0), .val (.int p1), .val (.int p2), .val (.int p3), .unset, .unset, .unset, .unset, .unset, .unset, .unset] [])) t := fun t k => P208 t (by
    show Steps p.tables e below (T206.setTop (mkF m 97 #[.val (.int p0), .val (.int p1), .val (.int p2), .val (.int p3), .val (.int b142), .val (.int b146), .val (.ref b148), .val (.ref b171), .val (.ref s189), .unset, .unset] [(.ref b196)])) _
    refine XS.astore Xr206.here hx rfl (hb hby at_97) rfl rfl (l' := #[.val (.int p0), .val (.int p1), .val (.int p2), .val (.int p3), .val (.int b142), .val (.int b146), .val (.ref b148), .val (.ref b171), .val (.ref s189), .val (.ref b196), .unset]) rfl ?_
    show Steps p.tables e below (T206.setTop (mkF m 99 #[.val (.int p0), .val (.int p1), .val (.int p2), .val (.int p3), .val (.int b142), .val (.int b146), .val (.ref b148), .val (.ref b171), .val (.ref s189), .val (.ref b196), .unset] [])) _
    refine XS.iload Xr206.here hx rfl (hb hby at_99) rfl ?_
    show Steps p.tables e below (T206.setTop (mkF m 101 #[.val (.int p0), .val (.int p1), .val (.int p2), .val (.int p3), .val (.int b142), .val (.int b146), .val (.ref b148), .val (.ref b171), .val (.ref s189), .val (.ref b196), .unset] [(.int b142)])) _
    refine XS.iconst Xr206.here hx rfl (hb hby at_101) ?_
    show Steps p.tables e below (T206.setTop (mkF m 102 #[.val (.int p0), .val (.int p1), .val (.int p2), .val (.int p3), .val (.int b142), .val (.int b146), .val (.ref b148), .val (.ref b171), .val (.ref s189), .val (.ref b196), .unset] [(.int (2 : Int32)), (.int b142)])) _
    exact k)
  obtain ⟨b219, hb219⟩ : ∃ z : Int32, z = (if b142 < (2 : Int32) then (if b142 = (-5 : Int32) then (1 : Int32) else (if b142 = (-6 : Int32) then (1 : Int32) else (0 : Int32))) else (if (8 : Int32) < b142 then (if b142 = (-5 : Int32) then (1 : Int32) else (if b142 = (-6 : Int32) then (1 : Int32) else (0 : Int32))) else (1 : Int32))) := ⟨_, rfl⟩
  have P220 : ∀ t, Steps p.tables e below (T206.setTop (mkF m 131 #[.val (.int p0), .val (.int p1), .val (.int p2), .val (.int p3), .val (.int b142), .val (.int b146), .val (.ref b148), .val (.ref b171), .val (.ref s189), .val (.ref b196), .unset] [(.int b219)])) t → Steps p.tables e below (s₁.setTop (mkF m 0 #[.val (.int p0), .val (.int p1), .val (.int p2), .val (.int p3), .unset, .unset, .unset, .unset, .unset, .unset, .unset] [])) t := fun t k => P212 t (by
    show Steps p.tables e below (T206.setTop (mkF m 102 #[.val (.int p0), .val (.int p1), .val (.int p2), .val (.int p3), .val (.int b142), .val (.int b146), .val (.ref b148), .val (.ref b171), .val (.ref s189), .val (.ref b196), .unset] [(.int (2 : Int32)), (.int b142)])) _
    by_cases q213 : b142 < (2 : Int32)
    · skip
      refine XS.icmpYes Xr206.here hx rfl (pc0 := 102) (pc' := 112) rfl (hb hby at_102) rfl (tlt (show b142 < (2 : Int32) from q213)).1 (by decide) (by decide) ?_
      show Steps p.tables e below (T206.setTop (mkF m 112 #[.val (.int p0), .val (.int p1), .val (.int p2), .val (.int p3), .val (.int b142), .val (.int b146), .val (.ref b148), .val (.ref b171), .val (.ref s189), .val (.ref b196), .unset] [])) _
      refine XS.iload Xr206.here hx rfl (hb hby at_112) rfl ?_
      show Steps p.tables e below (T206.setTop (mkF m 114 #[.val (.int p0), .val (.int p1), .val (.int p2), .val (.int p3), .val (.int b142), .val (.int b146), .val (.ref b148), .val (.ref b171), .val (.ref s189), .val (.ref b196), .unset] [(.int b142)])) _
      refine XS.bipush Xr206.here hx rfl (hb hby at_114) ?_
      show Steps p.tables e below (T206.setTop (mkF m 116 #[.val (.int p0), .val (.int p1), .val (.int p2), .val (.int p3), .val (.int b142), .val (.int b146), .val (.ref b148), .val (.ref b171), .val (.ref s189), .val (.ref b196), .unset] [(.int (-5 : Int32)), (.int b142)])) _
      by_cases q214 : b142 = (-5 : Int32)
      · skip
        refine XS.icmpYes Xr206.here hx rfl (pc0 := 116) (pc' := 126) rfl (hb hby at_116) rfl (teq (show b142 = (-5 : Int32) from q214)).1 (by decide) (by decide) ?_
        show Steps p.tables e below (T206.setTop (mkF m 126 #[.val (.int p0), .val (.int p1), .val (.int p2), .val (.int p3), .val (.int b142), .val (.int b146), .val (.ref b148), .val (.ref b171), .val (.ref s189), .val (.ref b196), .unset] [])) _
        refine XS.iconst Xr206.here hx rfl (hb hby at_126) ?_
        show Steps p.tables e below (T206.setTop (mkF m 127 #[.val (.int p0), .val (.int p1), .val (.int p2), .val (.int p3), .val (.int b142), .val (.int b146), .val (.ref b148), .val (.ref b171), .val (.ref s189), .val (.ref b196), .unset] [(.int (1 : Int32))])) _
        refine XS.goto Xr206.here hx rfl (pc0 := 127) (pc' := 131) rfl (hb hby at_127) (by decide) (by decide) ?_
        show Steps p.tables e below (T206.setTop (mkF m 131 #[.val (.int p0), .val (.int p1), .val (.int p2), .val (.int p3), .val (.int b142), .val (.int b146), .val (.ref b148), .val (.ref b171), .val (.ref s189), .val (.ref b196), .unset] [(.int (1 : Int32))])) _
        have eb219 : b219 = (1 : Int32) := by rw [hb219, if_pos q213, if_pos q214]
        rw [eb219] at k
        exact k
      · skip
        refine XS.icmpNo Xr206.here hx rfl (hb hby at_116) rfl (feq (show ¬ (b142 = (-5 : Int32)) from q214)).1 ?_
        show Steps p.tables e below (T206.setTop (mkF m 119 #[.val (.int p0), .val (.int p1), .val (.int p2), .val (.int p3), .val (.int b142), .val (.int b146), .val (.ref b148), .val (.ref b171), .val (.ref s189), .val (.ref b196), .unset] [])) _
        refine XS.iload Xr206.here hx rfl (hb hby at_119) rfl ?_
        show Steps p.tables e below (T206.setTop (mkF m 121 #[.val (.int p0), .val (.int p1), .val (.int p2), .val (.int p3), .val (.int b142), .val (.int b146), .val (.ref b148), .val (.ref b171), .val (.ref s189), .val (.ref b196), .unset] [(.int b142)])) _
        refine XS.bipush Xr206.here hx rfl (hb hby at_121) ?_
        show Steps p.tables e below (T206.setTop (mkF m 123 #[.val (.int p0), .val (.int p1), .val (.int p2), .val (.int p3), .val (.int b142), .val (.int b146), .val (.ref b148), .val (.ref b171), .val (.ref s189), .val (.ref b196), .unset] [(.int (-6 : Int32)), (.int b142)])) _
        by_cases q215 : b142 = (-6 : Int32)
        · skip
          refine XS.icmpNo Xr206.here hx rfl (hb hby at_123) rfl (teq (show b142 = (-6 : Int32) from q215)).2 ?_
          show Steps p.tables e below (T206.setTop (mkF m 126 #[.val (.int p0), .val (.int p1), .val (.int p2), .val (.int p3), .val (.int b142), .val (.int b146), .val (.ref b148), .val (.ref b171), .val (.ref s189), .val (.ref b196), .unset] [])) _
          refine XS.iconst Xr206.here hx rfl (hb hby at_126) ?_
          show Steps p.tables e below (T206.setTop (mkF m 127 #[.val (.int p0), .val (.int p1), .val (.int p2), .val (.int p3), .val (.int b142), .val (.int b146), .val (.ref b148), .val (.ref b171), .val (.ref s189), .val (.ref b196), .unset] [(.int (1 : Int32))])) _
          refine XS.goto Xr206.here hx rfl (pc0 := 127) (pc' := 131) rfl (hb hby at_127) (by decide) (by decide) ?_
          show Steps p.tables e below (T206.setTop (mkF m 131 #[.val (.int p0), .val (.int p1), .val (.int p2), .val (.int p3), .val (.int b142), .val (.int b146), .val (.ref b148), .val (.ref b171), .val (.ref s189), .val (.ref b196), .unset] [(.int (1 : Int32))])) _
          have eb219 : b219 = (1 : Int32) := by rw [hb219, if_pos q213, if_neg q214, if_pos q215]
          rw [eb219] at k
          exact k
        · skip
          refine XS.icmpYes Xr206.here hx rfl (pc0 := 123) (pc' := 130) rfl (hb hby at_123) rfl (feq (show ¬ (b142 = (-6 : Int32)) from q215)).2 (by decide) (by decide) ?_
          show Steps p.tables e below (T206.setTop (mkF m 130 #[.val (.int p0), .val (.int p1), .val (.int p2), .val (.int p3), .val (.int b142), .val (.int b146), .val (.ref b148), .val (.ref b171), .val (.ref s189), .val (.ref b196), .unset] [])) _
          refine XS.iconst Xr206.here hx rfl (hb hby at_130) ?_
          show Steps p.tables e below (T206.setTop (mkF m 131 #[.val (.int p0), .val (.int p1), .val (.int p2), .val (.int p3), .val (.int b142), .val (.int b146), .val (.ref b148), .val (.ref b171), .val (.ref s189), .val (.ref b196), .unset] [(.int (0 : Int32))])) _
          have eb219 : b219 = (0 : Int32) := by rw [hb219, if_pos q213, if_neg q214, if_neg q215]
          rw [eb219] at k
          exact k
    · skip
      refine XS.icmpNo Xr206.here hx rfl (hb hby at_102) rfl (flt (show ¬ (b142 < (2 : Int32)) from q213)).1 ?_
      show Steps p.tables e below (T206.setTop (mkF m 105 #[.val (.int p0), .val (.int p1), .val (.int p2), .val (.int p3), .val (.int b142), .val (.int b146), .val (.ref b148), .val (.ref b171), .val (.ref s189), .val (.ref b196), .unset] [])) _
      refine XS.iload Xr206.here hx rfl (hb hby at_105) rfl ?_
      show Steps p.tables e below (T206.setTop (mkF m 107 #[.val (.int p0), .val (.int p1), .val (.int p2), .val (.int p3), .val (.int b142), .val (.int b146), .val (.ref b148), .val (.ref b171), .val (.ref s189), .val (.ref b196), .unset] [(.int b142)])) _
      refine XS.bipush Xr206.here hx rfl (hb hby at_107) ?_
      show Steps p.tables e below (T206.setTop (mkF m 109 #[.val (.int p0), .val (.int p1), .val (.int p2), .val (.int p3), .val (.int b142), .val (.int b146), .val (.ref b148), .val (.ref b171), .val (.ref s189), .val (.ref b196), .unset] [(.int (8 : Int32)), (.int b142)])) _
      by_cases q216 : (8 : Int32) < b142
      · skip
        refine XS.icmpNo Xr206.here hx rfl (hb hby at_109) rfl (tlt (show (8 : Int32) < b142 from q216)).2.2.2 ?_
        show Steps p.tables e below (T206.setTop (mkF m 112 #[.val (.int p0), .val (.int p1), .val (.int p2), .val (.int p3), .val (.int b142), .val (.int b146), .val (.ref b148), .val (.ref b171), .val (.ref s189), .val (.ref b196), .unset] [])) _
        refine XS.iload Xr206.here hx rfl (hb hby at_112) rfl ?_
        show Steps p.tables e below (T206.setTop (mkF m 114 #[.val (.int p0), .val (.int p1), .val (.int p2), .val (.int p3), .val (.int b142), .val (.int b146), .val (.ref b148), .val (.ref b171), .val (.ref s189), .val (.ref b196), .unset] [(.int b142)])) _
        refine XS.bipush Xr206.here hx rfl (hb hby at_114) ?_
        show Steps p.tables e below (T206.setTop (mkF m 116 #[.val (.int p0), .val (.int p1), .val (.int p2), .val (.int p3), .val (.int b142), .val (.int b146), .val (.ref b148), .val (.ref b171), .val (.ref s189), .val (.ref b196), .unset] [(.int (-5 : Int32)), (.int b142)])) _
        by_cases q217 : b142 = (-5 : Int32)
        · skip
          refine XS.icmpYes Xr206.here hx rfl (pc0 := 116) (pc' := 126) rfl (hb hby at_116) rfl (teq (show b142 = (-5 : Int32) from q217)).1 (by decide) (by decide) ?_
          show Steps p.tables e below (T206.setTop (mkF m 126 #[.val (.int p0), .val (.int p1), .val (.int p2), .val (.int p3), .val (.int b142), .val (.int b146), .val (.ref b148), .val (.ref b171), .val (.ref s189), .val (.ref b196), .unset] [])) _
          refine XS.iconst Xr206.here hx rfl (hb hby at_126) ?_
          show Steps p.tables e below (T206.setTop (mkF m 127 #[.val (.int p0), .val (.int p1), .val (.int p2), .val (.int p3), .val (.int b142), .val (.int b146), .val (.ref b148), .val (.ref b171), .val (.ref s189), .val (.ref b196), .unset] [(.int (1 : Int32))])) _
          refine XS.goto Xr206.here hx rfl (pc0 := 127) (pc' := 131) rfl (hb hby at_127) (by decide) (by decide) ?_
          show Steps p.tables e below (T206.setTop (mkF m 131 #[.val (.int p0), .val (.int p1), .val (.int p2), .val (.int p3), .val (.int b142), .val (.int b146), .val (.ref b148), .val (.ref b171), .val (.ref s189), .val (.ref b196), .unset] [(.int (1 : Int32))])) _
          have eb219 : b219 = (1 : Int32) := by rw [hb219, if_neg q213, if_pos q216, if_pos q217]
          rw [eb219] at k
          exact k
        · skip
          refine XS.icmpNo Xr206.here hx rfl (hb hby at_116) rfl (feq (show ¬ (b142 = (-5 : Int32)) from q217)).1 ?_
          show Steps p.tables e below (T206.setTop (mkF m 119 #[.val (.int p0), .val (.int p1), .val (.int p2), .val (.int p3), .val (.int b142), .val (.int b146), .val (.ref b148), .val (.ref b171), .val (.ref s189), .val (.ref b196), .unset] [])) _
          refine XS.iload Xr206.here hx rfl (hb hby at_119) rfl ?_
          show Steps p.tables e below (T206.setTop (mkF m 121 #[.val (.int p0), .val (.int p1), .val (.int p2), .val (.int p3), .val (.int b142), .val (.int b146), .val (.ref b148), .val (.ref b171), .val (.ref s189), .val (.ref b196), .unset] [(.int b142)])) _
          refine XS.bipush Xr206.here hx rfl (hb hby at_121) ?_
          show Steps p.tables e below (T206.setTop (mkF m 123 #[.val (.int p0), .val (.int p1), .val (.int p2), .val (.int p3), .val (.int b142), .val (.int b146), .val (.ref b148), .val (.ref b171), .val (.ref s189), .val (.ref b196), .unset] [(.int (-6 : Int32)), (.int b142)])) _
          by_cases q218 : b142 = (-6 : Int32)
          · skip
            refine XS.icmpNo Xr206.here hx rfl (hb hby at_123) rfl (teq (show b142 = (-6 : Int32) from q218)).2 ?_
            show Steps p.tables e below (T206.setTop (mkF m 126 #[.val (.int p0), .val (.int p1), .val (.int p2), .val (.int p3), .val (.int b142), .val (.int b146), .val (.ref b148), .val (.ref b171), .val (.ref s189), .val (.ref b196), .unset] [])) _
            refine XS.iconst Xr206.here hx rfl (hb hby at_126) ?_
            show Steps p.tables e below (T206.setTop (mkF m 127 #[.val (.int p0), .val (.int p1), .val (.int p2), .val (.int p3), .val (.int b142), .val (.int b146), .val (.ref b148), .val (.ref b171), .val (.ref s189), .val (.ref b196), .unset] [(.int (1 : Int32))])) _
            refine XS.goto Xr206.here hx rfl (pc0 := 127) (pc' := 131) rfl (hb hby at_127) (by decide) (by decide) ?_
            show Steps p.tables e below (T206.setTop (mkF m 131 #[.val (.int p0), .val (.int p1), .val (.int p2), .val (.int p3), .val (.int b142), .val (.int b146), .val (.ref b148), .val (.ref b171), .val (.ref s189), .val (.ref b196), .unset] [(.int (1 : Int32))])) _
            have eb219 : b219 = (1 : Int32) := by rw [hb219, if_neg q213, if_pos q216, if_neg q217, if_pos q218]
            rw [eb219] at k
            exact k
          · skip
            refine XS.icmpYes Xr206.here hx rfl (pc0 := 123) (pc' := 130) rfl (hb hby at_123) rfl (feq (show ¬ (b142 = (-6 : Int32)) from q218)).2 (by decide) (by decide) ?_
            show Steps p.tables e below (T206.setTop (mkF m 130 #[.val (.int p0), .val (.int p1), .val (.int p2), .val (.int p3), .val (.int b142), .val (.int b146), .val (.ref b148), .val (.ref b171), .val (.ref s189), .val (.ref b196), .unset] [])) _
            refine XS.iconst Xr206.here hx rfl (hb hby at_130) ?_
            show Steps p.tables e below (T206.setTop (mkF m 131 #[.val (.int p0), .val (.int p1), .val (.int p2), .val (.int p3), .val (.int b142), .val (.int b146), .val (.ref b148), .val (.ref b171), .val (.ref s189), .val (.ref b196), .unset] [(.int (0 : Int32))])) _
            have eb219 : b219 = (0 : Int32) := by rw [hb219, if_neg q213, if_pos q216, if_neg q217, if_neg q218]
            rw [eb219] at k
            exact k
      · skip
        refine XS.icmpYes Xr206.here hx rfl (pc0 := 109) (pc' := 126) rfl (hb hby at_109) rfl (flt (show ¬ ((8 : Int32) < b142) from q216)).2.2.2 (by decide) (by decide) ?_
        show Steps p.tables e below (T206.setTop (mkF m 126 #[.val (.int p0), .val (.int p1), .val (.int p2), .val (.int p3), .val (.int b142), .val (.int b146), .val (.ref b148), .val (.ref b171), .val (.ref s189), .val (.ref b196), .unset] [])) _
        refine XS.iconst Xr206.here hx rfl (hb hby at_126) ?_
        show Steps p.tables e below (T206.setTop (mkF m 127 #[.val (.int p0), .val (.int p1), .val (.int p2), .val (.int p3), .val (.int b142), .val (.int b146), .val (.ref b148), .val (.ref b171), .val (.ref s189), .val (.ref b196), .unset] [(.int (1 : Int32))])) _
        refine XS.goto Xr206.here hx rfl (pc0 := 127) (pc' := 131) rfl (hb hby at_127) (by decide) (by decide) ?_
        show Steps p.tables e below (T206.setTop (mkF m 131 #[.val (.int p0), .val (.int p1), .val (.int p2), .val (.int p3), .val (.int b142), .val (.int b146), .val (.ref b148), .val (.ref b171), .val (.ref s189), .val (.ref b196), .unset] [(.int (1 : Int32))])) _
        have eb219 : b219 = (1 : Int32) := by rw [hb219, if_neg q213, if_neg q216]
        rw [eb219] at k
        exact k)
  obtain ⟨cq221, kq221, q221a, q221b, q221c⟩ := isOf hZr206 rfl Ek206
  obtain ⟨_, _, ⟨T221, L221, k221, n221⟩, -, X221, ⟨Lc221, hQ221, l221, y221, z221⟩, st221⟩ := Xr206.virtualBack hx (y := (⟨"com/example/clausewright/clausewright/model/Column", "isNumber", "()Z"⟩ : MethodName)) (z := (⟨"com/example/clausewright/clausewright/model/Column", "isNumber", "()Z"⟩ : MethodName)) ho206 (mvT hZr206 (hw _ (List.mem_of_getElem? (i := 72) rfl))) (mvT hZr206 (hw _ (List.mem_of_getElem? (i := 73) rfl))) (notFace_of_selects (args := #[]) (mvT hZr206 (hw _ (List.mem_of_getElem? (i := 75) rfl)))) (mvT hZr206 (hw _ (List.mem_of_getElem? (i := 75) rfl))) (mvT hZr206 (hw _ (List.mem_of_getElem? (i := 74) rfl))) (by decide) (backOf (W := 0) (rm_ask l Z a0 hw [] b196 b142 T206.heap n0 Z209 Fj206) hZr206 (hw _ (List.mem_of_getElem? (i := 76) rfl)) (hw _ (List.mem_of_getElem? (i := 46) rfl)) (by decide) (by decide)) q221a q221c (g := (mkF m 135 #[.val (.int p0), .val (.int p1), .val (.int p2), .val (.int p3), .val (.int b142), .val (.int b146), .val (.ref b148), .val (.ref b171), .val (.ref s189), .val (.ref b196), .val (.int b219)] [(.ref b196)])) rfl (by rw [hml]; rfl) (Steps.refl _) (argsL := []) (rest := []) (lenOf pd__28_29Z rfl) rfl (by show 2 * 0 + _ ≤ _; exact Nat.le_of_eq rfl) (hb hby at_135) (fun _ _ => ⟨rfl, rfl, (Nat.le_of_ble_eq_true rfl : 10 + 0 ≤ _), (Nat.le_of_ble_eq_true rfl : 73 + 0 ≤ _)⟩)
  dsimp only [Pt.U, Pt.locs, Pt.cells, Pt.slots] at X221 l221 y221 z221 st221 hQ221
  subst l221 y221 z221
  obtain ⟨rfl, Nq221, e221⟩ := hQ221
  have N222 := Fr.app N207 Nq221
  have P223 : ∀ t, Steps p.tables e below (T221.setTop (mkF m 138 #[.val (.int p0), .val (.int p1), .val (.int p2), .val (.int p3), .val (.int b142), .val (.int b146), .val (.ref b148), .val (.ref b171), .val (.ref s189), .val (.ref b196), .val (.int b219)] [(.int (own_ask b142))])) t → Steps p.tables e below (s₁.setTop (mkF m 0 #[.val (.int p0), .val (.int p1), .val (.int p2), .val (.int p3), .unset, .unset, .unset, .unset, .unset, .unset, .unset] [])) t := fun t k => P220 t (by
    show Steps p.tables e below (T206.setTop (mkF m 131 #[.val (.int p0), .val (.int p1), .val (.int p2), .val (.int p3), .val (.int b142), .val (.int b146), .val (.ref b148), .val (.ref b171), .val (.ref s189), .val (.ref b196), .unset] [(.int b219)])) _
    refine XS.istore Xr206.here hx rfl (hb hby at_131) rfl (l' := #[.val (.int p0), .val (.int p1), .val (.int p2), .val (.int p3), .val (.int b142), .val (.int b146), .val (.ref b148), .val (.ref b171), .val (.ref s189), .val (.ref b196), .val (.int b219)]) rfl ?_
    show Steps p.tables e below (T206.setTop (mkF m 133 #[.val (.int p0), .val (.int p1), .val (.int p2), .val (.int p3), .val (.int b142), .val (.int b146), .val (.ref b148), .val (.ref b171), .val (.ref s189), .val (.ref b196), .val (.int b219)] [])) _
    refine XS.aload Xr206.here hx rfl (hb hby at_133) rfl rfl ?_
    show Steps p.tables e below (T206.setTop (mkF m 135 #[.val (.int p0), .val (.int p1), .val (.int p2), .val (.int p3), .val (.int b142), .val (.int b146), .val (.ref b148), .val (.ref b171), .val (.ref s189), .val (.ref b196), .val (.int b219)] [(.ref b196)])) _
    exact st221.trans k)
  have hq224 : own_ask b142 = b219 := by rw [hb219]; exact own_same b142
  obtain ⟨fs225, hr225, hrun225, hended225, hRW225⟩ := X221.leaveW (v := some (.int (1 : Int32))) hSr206 (by rw [e221]; exact (Nat.le_refl _)) (fun h => by rw [Bd.returns] at h; cases h)
  refine ⟨_, _, pre0 _ (P223 _ ?_), hrun225, hended225, _, _, rfl, ?_, ⟨hRW225.1, hRW225.2.1, hRW225.2.2.1, hRW225.2.2.2.mono (Nat.le_of_ble_eq_true rfl) (Nat.le_of_ble_eq_true rfl)⟩⟩
  · show Steps p.tables e below (T221.setTop (mkF m 138 #[.val (.int p0), .val (.int p1), .val (.int p2), .val (.int p3), .val (.int b142), .val (.int b146), .val (.ref b148), .val (.ref b171), .val (.ref s189), .val (.ref b196), .val (.int b219)] [(.int (own_ask b142))])) _
    refine XS.iload X221.here hx rfl (hb hby at_138) rfl ?_
    show Steps p.tables e below (T221.setTop (mkF m 140 #[.val (.int p0), .val (.int p1), .val (.int p2), .val (.int p3), .val (.int b142), .val (.int b146), .val (.ref b148), .val (.ref b171), .val (.ref s189), .val (.ref b196), .val (.int b219)] [(.int b219), (.int (own_ask b142))])) _
    refine XS.icmpNo X221.here hx rfl (hb hby at_140) rfl (teq (show (own_ask b142) = b219 from hq224)).2 ?_
    show Steps p.tables e below (T221.setTop (mkF m 143 #[.val (.int p0), .val (.int p1), .val (.int p2), .val (.int p3), .val (.int b142), .val (.int b146), .val (.ref b148), .val (.ref b171), .val (.ref s189), .val (.ref b196), .val (.int b219)] [])) _
    refine XS.iconst X221.here hx rfl (hb hby at_143) ?_
    show Steps p.tables e below (T221.setTop (mkF m 144 #[.val (.int p0), .val (.int p1), .val (.int p2), .val (.int p3), .val (.int b142), .val (.int b146), .val (.ref b148), .val (.ref b171), .val (.ref s189), .val (.ref b196), .val (.int b219)] [(.int (1 : Int32))])) _
    refine XS.goto X221.here hx rfl (pc0 := 144) (pc' := 148) rfl (hb hby at_144) (by decide) (by decide) ?_
    show Steps p.tables e below (T221.setTop (mkF m 148 #[.val (.int p0), .val (.int p1), .val (.int p2), .val (.int p3), .val (.int b142), .val (.int b146), .val (.ref b148), .val (.ref b171), .val (.ref s189), .val (.ref b196), .val (.int b219)] [(.int (1 : Int32))])) _
    exact retN X221 hx (t := .boolean) Bd.returns (by simp) (hb hby at_148) hr225
  · show Q_law  h0 n0 _ T221.heap _
    rw [e221]
    exact ⟨rfl, N222⟩

set_option maxRecDepth 65536 in
set_option maxHeartbeats 40000000 in
theorem comes_1 {Post : Tables → Env → Array Value → State → Outcome → State → Prop} (hpost : ∀ tb e args s v u, (limb_1_1.after args s (.returned v) u = true ∧ limb_1_2.after args s (.returned v) u = true ∧ True) → ReturnedEndW s (.returned v) u (Jvm.fieldLocs frame_1_writes args s ++ Jvm.arrayLocs frame_1_arrays args s ++ Jvm.staticLocs frame_1_statics s) 24 2176 → Post tb e args s (.returned v) u) :
    ArmFor flags0 classFile x code maxLocals ret World_1 tables_1 room_1 Calls_1 rest_1 Pre_1 Post := by
  intro l hfl _ _ p e ha hc hk s m args below hf hA hF happ hP
  obtain ⟨hcalls, hrest, hpre⟩ := hP
  obtain ⟨-, -, -, hnamed, -, -, -, hat⟩ := (Spec.applies_iff hf).mp happ
  obtain ⟨hg, hn⟩ := and_e (Cond.before_iff.mp (show (Jvm.Cond.and given_1 narrow_1).before args s = true from hpre))
  obtain ⟨hcnt, hg0⟩ := and_e hg
  obtain ⟨ga0, hg1⟩ := and_e hg0
  obtain ⟨ga1, hg2⟩ := and_e hg1
  obtain ⟨ga2, hg3⟩ := and_e hg2
  obtain ⟨w0, w1, w2, w3, rfl⟩ : ∃ w0 w1 w2 w3 : Value, args = #[w0, w1, w2, w3] := by
    have hs : args.size = 4 := by simpa [Cond.value, given_1] using hcnt
    obtain ⟨L⟩ := args
    match L, hs with
    | [w0, w1, w2, w3], _ => exact ⟨w0, w1, w2, w3, rfl⟩
  have hw := fun d (hd : d ∈ tables_1) => atoms_spec (ws := Jvm.Cond.code x code maxLocals ret :: tables_1) hat d (List.mem_cons_of_mem _ hd)
  have hfit : Fit s := fun {y c} hc i hi => by
    obtain ⟨ha, rfl⟩ := Array.getElem?_eq_some_iff.mp hc
    have q := List.all_eq_true.mp ((Array.all_eq_true_iff_forall_mem.mp hF) _ (Array.getElem_mem ha)) i (List.mem_range.mpr hi)
    simpa [Array.getElem?_eq_getElem hi] using q
  obtain ⟨i0, ei0⟩ := is_v ga0
  obtain rfl : w0 = (.int i0) := Option.some.inj ei0
  obtain ⟨i1, ei1⟩ := is_v ga1
  obtain rfl : w1 = (.int i1) := Option.some.inj ei1
  obtain ⟨i2, ei2⟩ := is_v ga2
  obtain rfl : w2 = (.int i2) := Option.some.inj ei2
  obtain ⟨i3, ei3⟩ := is_v hg3
  obtain rfl : w3 = (.int i3) := Option.some.inj ei3
  obtain ⟨hsets, hown0⟩ := atoms_of _ (rest_1_c_eq ▸ (show rest_1_c.before _ s = true from hrest))
  obtain ⟨G1, eG1⟩ := is_v (Cond.before_iff.mp (hsets _ (List.mem_of_getElem? (i := 1) rfl)))
  have Sg : Sta s s.heap "java/lang/String" "COMPACT_STRINGS" "Z" (.int G1) := Sta.start eG1 (Or.inl (hsets _ (List.mem_of_getElem? (i := 0) rfl)))
  have P5 : ¬ (G1 = (0 : Int32)) := gotF (Cond.eq_ints eG1 (Term.int_eval (0))) (not_v (Cond.before_iff.mp (hsets _ (List.mem_of_getElem? (i := 2) rfl))))
  obtain ⟨n, o, h1, h2, h3, _, L, rfl, ⟨rfl, N⟩, hq⟩ := rm_law l s _ hw tables_1 i0 i1 i2 i3 G1  s.heap s.heap.size (Nat.le_refl _) Sg P5 (Old.start s)  p e ha hc hk s m _ below hf ((Spec.applies_iff_loose hf).mp happ).1 ⟨rfl, State.Warmed39.refl s, rfl⟩ trivial
  refine ⟨n, _, h1, h2, h3, hpost _ _ _ _ _ _ ⟨Cond.after_iff.mpr rfl, Cond.after_iff.mpr (eq_i res_at (Term.int_eval (1)) rfl), trivial⟩ ⟨hq.1, hq.2.1, hq.2.2.1, (hq.2.2.2.sift fun y hy => Or.inr (N y hy)).mono (Nat.le_of_ble_eq_true rfl) (Nat.le_of_ble_eq_true rfl)⟩⟩
theorem main_1_1 : Claimed_1_1 := comes_1 fun _ _ _ _ _ _ h hF => ⟨h.1, hF⟩
theorem main_1_2 : Claimed_1_2 := comes_1 fun _ _ _ _ _ _ h hF => ⟨h.2.1, hF⟩

end Jvm.Pilot.@@N@@
namespace Jvm.Pilot.@@N@@
open Jvm Jvm.ClassFile Sem Op Lib Jvm.Free Jvm.Stand Jvm.Pilot.@@N@@.Jvm.D
/-! MADE BY PROGRAM (witnessworld.py) out of the Statement's table words and the real class files: 22 classes; the members and pool entries that the words name. The judged class is class 1, her method 1. -/
namespace start1
open Jvm.ClassFile
def u (s : String) : CpInfo := .utf8 (stringToUtf16 s)
/-- a pool by its gaps: so many unusable entries, then the entry; so many at the end -/
def gap : Nat → List CpInfo → List CpInfo
  | 0, r => r
  | n + 1, r => .unusable :: gap n r
def poolList (es : List (Nat × CpInfo)) (last : Nat) : List CpInfo := es.foldr (fun e r => gap e.1 (e.2 :: r)) (gap last [])
def pool (es : List (Nat × CpInfo)) (last : Nat) : Array CpInfo := ⟨poolList es last⟩
def fileOf (pool : Array CpInfo) (this : Nat) (attrs : Array Attribute := #[]) (ms : Array MethodInfo := #[]) (fl : Nat := 33) (sup : Nat := 0) (ifs : Array Nat := #[]) (fds : Array FieldInfo := #[]) : ClassFile where
  minorVersion := 0
  majorVersion := 65
  constantPool := pool
  accessFlags := fl
  thisClass := this
  superClass := sup
  interfaces := ifs
  fields := fds
  methods := ms
  attributes := attrs
def plain (name : String) (sup : Option ClassId) : Class where
  name := name
  kind := .ordinary
  loader := none
  accessFlags := 33
  super := sup
  interfaces := #[]
  cf := none
  fields := #[]
  methods := #[]
  instanceTypes := #[]
  staticTypes := #[]
  resolved := #[]
  callSites := []
  init := .initialized
  statics := none
  mirror := none

def pool0 : Array CpInfo := pool [(5, u "<init>"), (0, u "()V"), (1, .class_ 10), (1, u "java/lang/Object")] 113

def k0c0 : Code := { maxStack := 0, maxLocals := 1, code := object_method_1_code, exceptionTable := #[], attributes := #[] }
def k0m0 : Method := { name := "<init>", desc := "()V", sig := { parameters := [], returnType := none }, accessFlags := 1, code := some k0c0 }
/-- java/lang/Object -/
def k0 : Class := { plain "java/lang/Object" none with
  accessFlags := 33
  interfaces := #[]
  cf := some (fileOf pool0 8 #[] #[{ accessFlags := 1, nameIndex := 5, descriptorIndex := 6, attributes := #[] }] 33 0 #[] #[])
  fields := #[]
  methods := #[k0m0]
  instanceTypes := #[]
  staticTypes := #[]
  resolved := Array.replicate 124 none
  statics := none }

def pool1 : Array CpInfo := pool [(2, .class_ 4), (1, u "java/lang/Object"), (0, u "<init>"), (0, u "()V"), (0, .class_ 8), (0, u "java/lang/String"), (0, .methodref 7 10), (0, .nameAndType 5 11), (0, u "([C)V"), (0, .methodref 7 13), (0, .nameAndType 14 15), (0, u "valueOf"), (0, u "(C)Ljava/lang/String;"), (0, .class_ 17), (0, u "com/example/clausewright/clausewright/model/Column"), (0, .methodref 16 19), (0, .nameAndType 5 20), (0, u "(Ljava/lang/String;ILjava/lang/String;Z)V"), (0, .methodref 16 22), (0, .nameAndType 23 24), (0, u "isNumber"), (0, u "()Z"), (0, .class_ 26), (0, u "com/example/clausewright/clausewright/model/ColumnIsNumberPinLaw"), (2, u "law"), (0, u "(IIII)Z")] 5

def k1m0 : Method := { name := "<init>", desc := "()V", sig := { parameters := [], returnType := none }, accessFlags := 1, code := none }
def k1c1 : Code := { maxStack := 6, maxLocals := 11, code := code, exceptionTable := #[], attributes := #[] }
def k1m1 : Method := { name := "law", desc := "(IIII)Z", sig := { parameters := [.int, .int, .int, .int], returnType := some .boolean }, accessFlags := 9, code := some k1c1 }
/-- com/example/clausewright/clausewright/model/ColumnIsNumberPinLaw -/
def k1 : Class := { plain "com/example/clausewright/clausewright/model/ColumnIsNumberPinLaw" (some 0) with
  accessFlags := 49
  interfaces := #[]
  cf := some (fileOf pool1 25 #[] #[{ accessFlags := 1, nameIndex := 5, descriptorIndex := 6, attributes := #[] }, { accessFlags := 9, nameIndex := 29, descriptorIndex := 30, attributes := #[] }] 49 2 #[] #[])
  fields := #[]
  methods := #[k1m0, k1m1]
  instanceTypes := #[]
  staticTypes := #[]
  resolved := Array.replicate 36 none
  statics := none }

def pool2 : Array CpInfo := pool [(1, .class_ 2), (0, u "java/io/Serializable"), (0, .class_ 4), (0, u "java/lang/Object")] 2

/-- java/io/Serializable -/
def k2 : Class := { plain "java/io/Serializable" (some 0) with
  accessFlags := 1537
  interfaces := #[]
  cf := some (fileOf pool2 1 #[] #[] 1537 3 #[] #[])
  fields := #[]
  methods := #[]
  instanceTypes := #[]
  staticTypes := #[]
  resolved := Array.replicate 7 none
  statics := none }

def pool3 : Array CpInfo := pool [(1, .class_ 2), (0, u "java/lang/Comparable"), (0, .class_ 4), (0, u "java/lang/Object")] 7

/-- java/lang/Comparable -/
def k3 : Class := { plain "java/lang/Comparable" (some 0) with
  accessFlags := 1537
  interfaces := #[]
  cf := some (fileOf pool3 1 #[] #[] 1537 3 #[] #[])
  fields := #[]
  methods := #[]
  instanceTypes := #[]
  staticTypes := #[]
  resolved := Array.replicate 12 none
  statics := none }

def pool4 : Array CpInfo := pool [(2, .class_ 4), (1, u "java/lang/CharSequence"), (42, .class_ 48), (0, u "java/lang/CharSequence$1CodePointIterator"), (10, .class_ 60), (0, u "java/lang/CharSequence$1CharIterator"), (5, .class_ 67), (0, u "java/lang/Object")] 63

/-- java/lang/CharSequence -/
def k4 : Class := { plain "java/lang/CharSequence" (some 0) with
  accessFlags := 1537
  interfaces := #[]
  cf := some (fileOf pool4 2 #[.nestMembers #[47, 59]] #[] 1537 66 #[] #[])
  fields := #[]
  methods := #[]
  instanceTypes := #[]
  staticTypes := #[]
  resolved := Array.replicate 131 none
  statics := none }

def pool5 : Array CpInfo := pool [(1, .class_ 2), (0, u "java/lang/constant/Constable"), (0, .class_ 4), (0, u "java/lang/Object")] 6

/-- java/lang/constant/Constable -/
def k5 : Class := { plain "java/lang/constant/Constable" (some 0) with
  accessFlags := 1537
  interfaces := #[]
  cf := some (fileOf pool5 1 #[] #[] 1537 3 #[] #[])
  fields := #[]
  methods := #[]
  instanceTypes := #[]
  staticTypes := #[]
  resolved := Array.replicate 11 none
  statics := none }

def pool6 : Array CpInfo := pool [(1, .class_ 2), (0, u "java/lang/constant/ConstantDesc"), (0, .class_ 4), (0, u "java/lang/Object")] 32

/-- java/lang/constant/ConstantDesc -/
def k6 : Class := { plain "java/lang/constant/ConstantDesc" (some 0) with
  accessFlags := 1537
  interfaces := #[]
  cf := some (fileOf pool6 1 #[] #[] 1537 3 #[] #[])
  fields := #[]
  methods := #[]
  instanceTypes := #[]
  staticTypes := #[]
  resolved := Array.replicate 37 none
  statics := none }

def pool7 : Array CpInfo := pool [(1, .methodref 2 3), (0, .class_ 4), (0, .nameAndType 5 6), (0, u "java/lang/Object"), (0, u "<init>"), (0, u "()V"), (2, .fieldref 10 11), (0, .class_ 12), (0, .nameAndType 13 14), (0, u "java/lang/String"), (0, u "value"), (0, u "[B"), (0, .fieldref 10 16), (0, .nameAndType 17 18), (0, u "coder"), (0, u "B"), (2, u "hash"), (0, u "I"), (2, u "hashIsZero"), (0, u "Z"), (0, .methodref 10 28), (0, .nameAndType 5 29), (0, u "([CIILjava/lang/Void;)V"), (8, .fieldref 10 39), (0, .nameAndType 40 26), (0, u "COMPACT_STRINGS"), (1, .class_ 44), (1, u "java/lang/StringUTF16"), (0, u "compress"), (1, .methodref 42 48), (0, .nameAndType 49 50), (0, u "coderFromArrayLen"), (0, u "([BI)B"), (2, u "toBytes"), (53, .class_ 109), (1, u "java/lang/StringLatin1"), (67, .methodref 42 178), (0, .nameAndType 45 179), (0, u "([CII)[B"), (29, .methodref 10 210), (0, .nameAndType 5 211), (0, u "([BB)V"), (157, u "(C)Z"), (205, .class_ 576), (0, u "java/lang/CharSequence"), (22, u "CASE_INSENSITIVE_ORDER"), (0, u "Ljava/util/Comparator;"), (181, u "valueOf"), (0, u "(C)Ljava/lang/String;"), (226, u "([C)V"), (4, .methodref 107 1016), (0, .nameAndType 1017 369), (0, u "canEncode"), (0, .methodref 107 1019), (0, .nameAndType 53 1020), (0, u "(C)[B"), (80, u "serialPersistentFields"), (0, u "[Ljava/io/ObjectStreamField;"), (0, .class_ 1104), (0, u "java/lang/String$CaseInsensitiveComparator"), (1, .class_ 1107), (0, u "java/io/Serializable"), (0, .class_ 1109), (0, u "java/lang/Comparable"), (0, .class_ 1111), (0, u "java/lang/constant/Constable"), (0, .class_ 1113), (0, u "java/lang/constant/ConstantDesc"), (2, u "serialVersionUID"), (0, u "J"), (3, u "REPL"), (0, u "C"), (2, u "LATIN1"), (1, u "UTF16")] 323

def k7m0 : Method := { name := "<init>", desc := "()V", sig := { parameters := [], returnType := none }, accessFlags := 1, code := none }
def k7c1 : Code := { maxStack := 5, maxLocals := 2, code := jdk_42_method_3_code, exceptionTable := #[], attributes := #[] }
def k7m1 : Method := { name := "<init>", desc := "([C)V", sig := { parameters := [(.array .char)], returnType := none }, accessFlags := 1, code := some k7c1 }
def k7c2 : Code := { maxStack := 4, maxLocals := 1, code := jdk_42_method_139_code, exceptionTable := #[], attributes := #[] }
def k7m2 : Method := { name := "valueOf", desc := "(C)Ljava/lang/String;", sig := { parameters := [.char], returnType := some (.object "java/lang/String") }, accessFlags := 9, code := some k7c2 }
def k7c3 : Code := { maxStack := 4, maxLocals := 6, code := jdk_42_method_149_code, exceptionTable := #[], attributes := #[] }
def k7m3 : Method := { name := "<init>", desc := "([CIILjava/lang/Void;)V", sig := { parameters := [(.array .char), .int, .int, (.object "java/lang/Void")], returnType := none }, accessFlags := 2, code := some k7c3 }
def k7c4 : Code := { maxStack := 2, maxLocals := 3, code := jdk_42_method_151_code, exceptionTable := #[], attributes := #[] }
def k7m4 : Method := { name := "<init>", desc := "([BB)V", sig := { parameters := [(.array .byte), .byte], returnType := none }, accessFlags := 0, code := some k7c4 }
/-- java/lang/String -/
def k7 : Class := { plain "java/lang/String" (some 0) with
  accessFlags := 49
  interfaces := #[2, 3, 4, 5, 6]
  cf := some (fileOf pool7 10 #[.nestMembers #[1103]] #[{ accessFlags := 1, nameIndex := 5, descriptorIndex := 6, attributes := #[] }, { accessFlags := 1, nameIndex := 5, descriptorIndex := 1010, attributes := #[] }, { accessFlags := 9, nameIndex := 782, descriptorIndex := 783, attributes := #[] }, { accessFlags := 2, nameIndex := 5, descriptorIndex := 29, attributes := #[] }, { accessFlags := 0, nameIndex := 5, descriptorIndex := 211, attributes := #[] }] 49 2 #[1106, 1108, 575, 1110, 1112] #[{ accessFlags := 18, nameIndex := 13, descriptorIndex := 14, attributes := #[] }, { accessFlags := 18, nameIndex := 17, descriptorIndex := 18, attributes := #[] }, { accessFlags := 2, nameIndex := 21, descriptorIndex := 22, attributes := #[] }, { accessFlags := 2, nameIndex := 25, descriptorIndex := 26, attributes := #[] }, { accessFlags := 26, nameIndex := 1116, descriptorIndex := 1117, attributes := #[] }, { accessFlags := 24, nameIndex := 40, descriptorIndex := 26, attributes := #[] }, { accessFlags := 26, nameIndex := 1101, descriptorIndex := 1102, attributes := #[] }, { accessFlags := 26, nameIndex := 1121, descriptorIndex := 1122, attributes := #[] }, { accessFlags := 25, nameIndex := 599, descriptorIndex := 600, attributes := #[] }, { accessFlags := 24, nameIndex := 1125, descriptorIndex := 18, attributes := #[] }, { accessFlags := 24, nameIndex := 1127, descriptorIndex := 18, attributes := #[] }])
  fields := #[{ name := "value", type := (.array .byte), accessFlags := 18, slot := 0, constantValue := 0 }, { name := "coder", type := .byte, accessFlags := 18, slot := 1, constantValue := 0 }, { name := "hash", type := .int, accessFlags := 2, slot := 2, constantValue := 0 }, { name := "hashIsZero", type := .boolean, accessFlags := 2, slot := 3, constantValue := 0 }, { name := "serialVersionUID", type := .long, accessFlags := 26, slot := 0, constantValue := 0 }, { name := "COMPACT_STRINGS", type := .boolean, accessFlags := 24, slot := 1, constantValue := 0 }, { name := "serialPersistentFields", type := (.array (.object "java/io/ObjectStreamField")), accessFlags := 26, slot := 2, constantValue := 0 }, { name := "REPL", type := .char, accessFlags := 26, slot := 3, constantValue := 0 }, { name := "CASE_INSENSITIVE_ORDER", type := (.object "java/util/Comparator"), accessFlags := 25, slot := 4, constantValue := 0 }, { name := "LATIN1", type := .byte, accessFlags := 24, slot := 5, constantValue := 0 }, { name := "UTF16", type := .byte, accessFlags := 24, slot := 6, constantValue := 0 }]
  methods := #[k7m0, k7m1, k7m2, k7m3, k7m4]
  instanceTypes := #[(.array .byte), .byte, .int, .boolean]
  staticTypes := #[.long, .boolean, (.array (.object "java/io/ObjectStreamField")), .char, (.object "java/util/Comparator"), .byte, .byte]
  resolved := Array.replicate 1451 none
  statics := some 0 }

def pool8 : Array CpInfo := pool [(6, .class_ 8), (1, u "java/lang/Object"), (0, u "<init>"), (0, u "()V"), (1, .class_ 14), (1, u "java/lang/StringUTF16"), (31, u "$assertionsDisabled"), (0, u "Z"), (13, u "HI_BYTE_SHIFT"), (0, u "I"), (2, u "LO_BYTE_SHIFT"), (49, .methodref 12 116), (0, .nameAndType 117 118), (0, u "compress"), (0, u "([CI[BII)I"), (3, u "([CII)[B"), (138, u "coderFromArrayLen"), (0, u "([BI)B"), (106, .class_ 371), (1, u "java/lang/StringUTF16$LinesSpliterator"), (58, u "MAX_LENGTH"), (196, .class_ 628), (0, u "java/lang/StringUTF16$CodePointsSpliterator"), (0, .class_ 630), (0, u "java/lang/StringUTF16$CharsSpliterator")] 4

def k8m0 : Method := { name := "<init>", desc := "()V", sig := { parameters := [], returnType := none }, accessFlags := 0, code := none }
def k8c1 : Code := { maxStack := 2, maxLocals := 2, code := jdk_52_method_15_code, exceptionTable := #[], attributes := #[] }
def k8m1 : Method := { name := "coderFromArrayLen", desc := "([BI)B", sig := { parameters := [(.array .byte), .int], returnType := some .byte }, accessFlags := 8, code := some k8c1 }
def k8c2 : Code := { maxStack := 5, maxLocals := 6, code := jdk_52_method_16_code, exceptionTable := #[], attributes := #[] }
def k8m2 : Method := { name := "compress", desc := "([CII)[B", sig := { parameters := [(.array .char), .int, .int], returnType := some (.array .byte) }, accessFlags := 9, code := some k8c2 }
def k8c3 : Code := { maxStack := 3, maxLocals := 7, code := jdk_52_method_21_code, exceptionTable := #[], attributes := #[] }
def k8m3 : Method := { name := "compress", desc := "([CI[BII)I", sig := { parameters := [(.array .char), .int, (.array .byte), .int, .int], returnType := some .int }, accessFlags := 9, code := some k8c3 }
/-- java/lang/StringUTF16 -/
def k8 : Class := { plain "java/lang/StringUTF16" (some 0) with
  accessFlags := 48
  interfaces := #[]
  cf := some (fileOf pool8 12 #[.nestMembers #[627, 629, 369]] #[{ accessFlags := 0, nameIndex := 9, descriptorIndex := 10, attributes := #[] }, { accessFlags := 8, nameIndex := 261, descriptorIndex := 262, attributes := #[] }, { accessFlags := 9, nameIndex := 117, descriptorIndex := 122, attributes := #[] }, { accessFlags := 9, nameIndex := 117, descriptorIndex := 118, attributes := #[] }] 48 6 #[] #[{ accessFlags := 26, nameIndex := 61, descriptorIndex := 62, attributes := #[] }, { accessFlags := 26, nameIndex := 65, descriptorIndex := 62, attributes := #[] }, { accessFlags := 24, nameIndex := 430, descriptorIndex := 62, attributes := #[] }, { accessFlags := 4120, nameIndex := 46, descriptorIndex := 47, attributes := #[] }])
  fields := #[{ name := "HI_BYTE_SHIFT", type := .int, accessFlags := 26, slot := 0, constantValue := 0 }, { name := "LO_BYTE_SHIFT", type := .int, accessFlags := 26, slot := 1, constantValue := 0 }, { name := "MAX_LENGTH", type := .int, accessFlags := 24, slot := 2, constantValue := 0 }, { name := "$assertionsDisabled", type := .boolean, accessFlags := 4120, slot := 3, constantValue := 0 }]
  methods := #[k8m0, k8m1, k8m2, k8m3]
  instanceTypes := #[]
  staticTypes := #[.int, .int, .int, .boolean]
  resolved := Array.replicate 635 none
  statics := none }

def pool9 : Array CpInfo := pool [(4, .class_ 6), (1, u "java/lang/Object"), (0, u "<init>"), (0, u "()V"), (5, .class_ 16), (1, u "java/lang/StringLatin1"), (73, u "canEncode"), (14, u "(C)Z"), (15, u "$assertionsDisabled"), (0, u "Z"), (98, .class_ 223), (1, u "java/lang/StringLatin1$LinesSpliterator"), (156, u "toBytes"), (1, u "(C)[B"), (7, .class_ 391), (0, u "java/lang/StringLatin1$CharsSpliterator")] 3

def k9m0 : Method := { name := "<init>", desc := "()V", sig := { parameters := [], returnType := none }, accessFlags := 0, code := none }
def k9c1 : Code := { maxStack := 2, maxLocals := 1, code := jdk_43_method_3_code, exceptionTable := #[], attributes := #[] }
def k9m1 : Method := { name := "canEncode", desc := "(C)Z", sig := { parameters := [.char], returnType := some .boolean }, accessFlags := 9, code := some k9c1 }
def k9c2 : Code := { maxStack := 4, maxLocals := 1, code := jdk_43_method_46_code, exceptionTable := #[], attributes := #[] }
def k9m2 : Method := { name := "toBytes", desc := "(C)[B", sig := { parameters := [.char], returnType := some (.array .byte) }, accessFlags := 9, code := some k9c2 }
/-- java/lang/StringLatin1 -/
def k9 : Class := { plain "java/lang/StringLatin1" (some 0) with
  accessFlags := 48
  interfaces := #[]
  cf := some (fileOf pool9 14 #[.nestMembers #[390, 221]] #[{ accessFlags := 0, nameIndex := 7, descriptorIndex := 8, attributes := #[] }, { accessFlags := 9, nameIndex := 90, descriptorIndex := 105, attributes := #[] }, { accessFlags := 9, nameIndex := 380, descriptorIndex := 382, attributes := #[] }] 48 4 #[] #[{ accessFlags := 4120, nameIndex := 121, descriptorIndex := 122, attributes := #[] }])
  fields := #[{ name := "$assertionsDisabled", type := .boolean, accessFlags := 4120, slot := 0, constantValue := 0 }]
  methods := #[k9m0, k9m1, k9m2]
  instanceTypes := #[]
  staticTypes := #[.boolean]
  resolved := Array.replicate 395 none
  statics := none }

def pool10 : Array CpInfo := pool [(1, .methodref 2 3), (0, .class_ 4), (0, .nameAndType 5 6), (0, u "java/lang/Object"), (0, u "<init>"), (0, u "()V"), (0, .class_ 8), (0, u "java/lang/Record")] 13

def k10c0 : Code := { maxStack := 1, maxLocals := 1, code := jdk_30_method_1_code, exceptionTable := #[], attributes := #[] }
def k10m0 : Method := { name := "<init>", desc := "()V", sig := { parameters := [], returnType := none }, accessFlags := 4, code := some k10c0 }
/-- java/lang/Record -/
def k10 : Class := { plain "java/lang/Record" (some 0) with
  accessFlags := 1057
  interfaces := #[]
  cf := some (fileOf pool10 7 #[] #[{ accessFlags := 4, nameIndex := 5, descriptorIndex := 6, attributes := #[] }] 1057 2 #[] #[])
  fields := #[]
  methods := #[k10m0]
  instanceTypes := #[]
  staticTypes := #[]
  resolved := Array.replicate 22 none
  statics := none }

def pool11 : Array CpInfo := pool [(1, .methodref 2 3), (0, .class_ 4), (0, .nameAndType 5 6), (0, u "java/lang/Record"), (0, u "<init>"), (0, u "()V"), (0, .string 8), (0, u "name"), (0, .methodref 10 11), (0, .class_ 12), (0, .nameAndType 13 14), (0, u "java/util/Objects"), (0, u "requireNonNull"), (0, u "(Ljava/lang/Object;Ljava/lang/String;)Ljava/lang/Object;"), (0, .string 16), (0, u "typeName"), (0, .fieldref 18 19), (0, .class_ 20), (0, .nameAndType 8 21), (0, u "com/example/clausewright/clausewright/model/Column"), (0, u "Ljava/lang/String;"), (0, .fieldref 18 23), (0, .nameAndType 24 25), (0, u "jdbcType"), (0, u "I"), (0, .fieldref 18 27), (0, .nameAndType 16 21), (0, .fieldref 18 29), (0, .nameAndType 30 31), (0, u "nullable"), (0, u "Z"), (5, u "()Z"), (38, u "(Ljava/lang/String;ILjava/lang/String;Z)V"), (11, u "isNumber")] 26

def k11c0 : Code := { maxStack := 2, maxLocals := 5, code := prog_18_method_1_code, exceptionTable := #[], attributes := #[] }
def k11m0 : Method := { name := "<init>", desc := "(Ljava/lang/String;ILjava/lang/String;Z)V", sig := { parameters := [(.object "java/lang/String"), .int, (.object "java/lang/String"), .boolean], returnType := none }, accessFlags := 1, code := some k11c0 }
def k11c1 : Code := { maxStack := 1, maxLocals := 1, code := prog_18_method_4_code, exceptionTable := #[], attributes := #[] }
def k11m1 : Method := { name := "isNumber", desc := "()Z", sig := { parameters := [], returnType := some .boolean }, accessFlags := 1, code := some k11c1 }
/-- com/example/clausewright/clausewright/model/Column -/
def k11 : Class := { plain "com/example/clausewright/clausewright/model/Column" (some 10) with
  accessFlags := 49
  interfaces := #[]
  cf := some (fileOf pool11 18 #[] #[{ accessFlags := 1, nameIndex := 5, descriptorIndex := 76, attributes := #[] }, { accessFlags := 1, nameIndex := 88, descriptorIndex := 37, attributes := #[] }] 49 2 #[] #[{ accessFlags := 18, nameIndex := 8, descriptorIndex := 21, attributes := #[] }, { accessFlags := 18, nameIndex := 24, descriptorIndex := 25, attributes := #[] }, { accessFlags := 18, nameIndex := 16, descriptorIndex := 21, attributes := #[] }, { accessFlags := 18, nameIndex := 30, descriptorIndex := 31, attributes := #[] }])
  fields := #[{ name := "name", type := (.object "java/lang/String"), accessFlags := 18, slot := 0, constantValue := 0 }, { name := "jdbcType", type := .int, accessFlags := 18, slot := 1, constantValue := 0 }, { name := "typeName", type := (.object "java/lang/String"), accessFlags := 18, slot := 2, constantValue := 0 }, { name := "nullable", type := .boolean, accessFlags := 18, slot := 3, constantValue := 0 }]
  methods := #[k11m0, k11m1]
  instanceTypes := #[(.object "java/lang/String"), .int, (.object "java/lang/String"), .boolean]
  staticTypes := #[]
  resolved := Array.replicate 115 none
  statics := none }

def pool12 : Array CpInfo := pool [(2, .class_ 4), (1, u "java/lang/Object"), (0, u "<init>"), (0, u "()V"), (35, .class_ 44), (1, u "java/util/Objects"), (0, u "requireNonNull"), (48, u "(Ljava/lang/Object;Ljava/lang/String;)Ljava/lang/Object;")] 89

def k12m0 : Method := { name := "<init>", desc := "()V", sig := { parameters := [], returnType := none }, accessFlags := 2, code := none }
def k12c1 : Code := { maxStack := 3, maxLocals := 2, code := jdk_31_method_11_code, exceptionTable := #[], attributes := #[] }
def k12m1 : Method := { name := "requireNonNull", desc := "(Ljava/lang/Object;Ljava/lang/String;)Ljava/lang/Object;", sig := { parameters := [(.object "java/lang/Object"), (.object "java/lang/String")], returnType := some (.object "java/lang/Object") }, accessFlags := 9, code := some k12c1 }
/-- java/util/Objects -/
def k12 : Class := { plain "java/util/Objects" (some 0) with
  accessFlags := 49
  interfaces := #[]
  cf := some (fileOf pool12 42 #[] #[{ accessFlags := 2, nameIndex := 5, descriptorIndex := 6, attributes := #[] }, { accessFlags := 9, nameIndex := 45, descriptorIndex := 94, attributes := #[] }] 49 2 #[] #[])
  fields := #[]
  methods := #[k12m0, k12m1]
  instanceTypes := #[]
  staticTypes := #[]
  resolved := Array.replicate 184 none
  statics := none }

def pool13 : Array CpInfo := pool [(2, .class_ 4), (1, u "java/lang/Object"), (0, u "<init>"), (0, u "()V"), (17, .class_ 26), (1, u "jdk/internal/util/Preconditions"), (28, .class_ 56), (0, u "jdk/internal/util/Preconditions$4"), (57, .class_ 115), (0, u "jdk/internal/util/Preconditions$1"), (7, u "SIOOBE_FORMATTER"), (0, u "Ljava/util/function/BiFunction;"), (0, .class_ 126), (0, u "jdk/internal/util/Preconditions$2"), (3, u "AIOOBE_FORMATTER"), (0, .class_ 132), (0, u "jdk/internal/util/Preconditions$3"), (3, u "IOOBE_FORMATTER")] 57

def k13m0 : Method := { name := "<init>", desc := "()V", sig := { parameters := [], returnType := none }, accessFlags := 1, code := none }
/-- jdk/internal/util/Preconditions -/
def k13 : Class := { plain "jdk/internal/util/Preconditions" (some 0) with
  accessFlags := 33
  interfaces := #[]
  cf := some (fileOf pool13 24 #[.nestMembers #[55, 131, 125, 114]] #[{ accessFlags := 1, nameIndex := 5, descriptorIndex := 6, attributes := #[] }] 33 2 #[] #[{ accessFlags := 25, nameIndex := 123, descriptorIndex := 124, attributes := #[] }, { accessFlags := 25, nameIndex := 130, descriptorIndex := 124, attributes := #[] }, { accessFlags := 25, nameIndex := 136, descriptorIndex := 124, attributes := #[] }])
  fields := #[{ name := "SIOOBE_FORMATTER", type := (.object "java/util/function/BiFunction"), accessFlags := 25, slot := 0, constantValue := 0 }, { name := "AIOOBE_FORMATTER", type := (.object "java/util/function/BiFunction"), accessFlags := 25, slot := 1, constantValue := 0 }, { name := "IOOBE_FORMATTER", type := (.object "java/util/function/BiFunction"), accessFlags := 25, slot := 2, constantValue := 0 }]
  methods := #[k13m0]
  instanceTypes := #[]
  staticTypes := #[(.object "java/util/function/BiFunction"), (.object "java/util/function/BiFunction"), (.object "java/util/function/BiFunction")]
  resolved := Array.replicate 194 none
  statics := some 1 }

def pool14 : Array CpInfo := pool [(9, u "<init>"), (6, .class_ 18), (1, u "java/lang/Object"), (0, u "()V"), (1, .class_ 23), (1, u "jdk/internal/util/ArraysSupport"), (0, u "LOG2_ARRAY_LONG_INDEX_SCALE"), (0, u "I"), (2, u "U"), (0, u "Ljdk/internal/misc/Unsafe;"), (8, u "BIG_ENDIAN"), (0, u "Z"), (8, u "LOG2_BYTE_BIT_SIZE"), (4, u "LOG2_ARRAY_INT_INDEX_SCALE"), (54, u "JLA"), (0, u "Ljdk/internal/access/JavaLangAccess;"), (11, u "LOG2_ARRAY_BOOLEAN_INDEX_SCALE"), (9, u "LOG2_ARRAY_BYTE_INDEX_SCALE"), (5, u "LOG2_ARRAY_CHAR_INDEX_SCALE"), (5, u "LOG2_ARRAY_SHORT_INDEX_SCALE"), (18, u "LOG2_ARRAY_FLOAT_INDEX_SCALE"), (24, u "LOG2_ARRAY_DOUBLE_INDEX_SCALE"), (89, u "T_BOOLEAN"), (2, u "T_CHAR"), (1, u "T_FLOAT"), (1, u "T_DOUBLE"), (1, u "T_BYTE"), (1, u "T_SHORT"), (1, u "T_INT"), (1, u "T_LONG"), (1, u "SOFT_MAX_ARRAY_LENGTH")] 83

def k14m0 : Method := { name := "<init>", desc := "()V", sig := { parameters := [], returnType := none }, accessFlags := 2, code := none }
/-- jdk/internal/util/ArraysSupport -/
def k14 : Class := { plain "jdk/internal/util/ArraysSupport" (some 0) with
  accessFlags := 33
  interfaces := #[]
  cf := some (fileOf pool14 21 #[] #[{ accessFlags := 2, nameIndex := 9, descriptorIndex := 19, attributes := #[] }] 33 16 #[] #[{ accessFlags := 24, nameIndex := 28, descriptorIndex := 29, attributes := #[] }, { accessFlags := 26, nameIndex := 38, descriptorIndex := 39, attributes := #[] }, { accessFlags := 25, nameIndex := 121, descriptorIndex := 25, attributes := #[] }, { accessFlags := 25, nameIndex := 131, descriptorIndex := 25, attributes := #[] }, { accessFlags := 25, nameIndex := 137, descriptorIndex := 25, attributes := #[] }, { accessFlags := 25, nameIndex := 143, descriptorIndex := 25, attributes := #[] }, { accessFlags := 25, nameIndex := 53, descriptorIndex := 25, attributes := #[] }, { accessFlags := 25, nameIndex := 24, descriptorIndex := 25, attributes := #[] }, { accessFlags := 25, nameIndex := 162, descriptorIndex := 25, attributes := #[] }, { accessFlags := 25, nameIndex := 187, descriptorIndex := 25, attributes := #[] }, { accessFlags := 26, nameIndex := 48, descriptorIndex := 25, attributes := #[] }, { accessFlags := 25, nameIndex := 277, descriptorIndex := 25, attributes := #[] }, { accessFlags := 25, nameIndex := 280, descriptorIndex := 25, attributes := #[] }, { accessFlags := 25, nameIndex := 282, descriptorIndex := 25, attributes := #[] }, { accessFlags := 25, nameIndex := 284, descriptorIndex := 25, attributes := #[] }, { accessFlags := 25, nameIndex := 286, descriptorIndex := 25, attributes := #[] }, { accessFlags := 25, nameIndex := 288, descriptorIndex := 25, attributes := #[] }, { accessFlags := 25, nameIndex := 290, descriptorIndex := 25, attributes := #[] }, { accessFlags := 25, nameIndex := 292, descriptorIndex := 25, attributes := #[] }, { accessFlags := 26, nameIndex := 108, descriptorIndex := 109, attributes := #[] }, { accessFlags := 25, nameIndex := 294, descriptorIndex := 25, attributes := #[] }])
  fields := #[{ name := "U", type := (.object "jdk/internal/misc/Unsafe"), accessFlags := 24, slot := 0, constantValue := 0 }, { name := "BIG_ENDIAN", type := .boolean, accessFlags := 26, slot := 1, constantValue := 0 }, { name := "LOG2_ARRAY_BOOLEAN_INDEX_SCALE", type := .int, accessFlags := 25, slot := 2, constantValue := 0 }, { name := "LOG2_ARRAY_BYTE_INDEX_SCALE", type := .int, accessFlags := 25, slot := 3, constantValue := 0 }, { name := "LOG2_ARRAY_CHAR_INDEX_SCALE", type := .int, accessFlags := 25, slot := 4, constantValue := 0 }, { name := "LOG2_ARRAY_SHORT_INDEX_SCALE", type := .int, accessFlags := 25, slot := 5, constantValue := 0 }, { name := "LOG2_ARRAY_INT_INDEX_SCALE", type := .int, accessFlags := 25, slot := 6, constantValue := 0 }, { name := "LOG2_ARRAY_LONG_INDEX_SCALE", type := .int, accessFlags := 25, slot := 7, constantValue := 0 }, { name := "LOG2_ARRAY_FLOAT_INDEX_SCALE", type := .int, accessFlags := 25, slot := 8, constantValue := 0 }, { name := "LOG2_ARRAY_DOUBLE_INDEX_SCALE", type := .int, accessFlags := 25, slot := 9, constantValue := 0 }, { name := "LOG2_BYTE_BIT_SIZE", type := .int, accessFlags := 26, slot := 10, constantValue := 0 }, { name := "T_BOOLEAN", type := .int, accessFlags := 25, slot := 11, constantValue := 0 }, { name := "T_CHAR", type := .int, accessFlags := 25, slot := 12, constantValue := 0 }, { name := "T_FLOAT", type := .int, accessFlags := 25, slot := 13, constantValue := 0 }, { name := "T_DOUBLE", type := .int, accessFlags := 25, slot := 14, constantValue := 0 }, { name := "T_BYTE", type := .int, accessFlags := 25, slot := 15, constantValue := 0 }, { name := "T_SHORT", type := .int, accessFlags := 25, slot := 16, constantValue := 0 }, { name := "T_INT", type := .int, accessFlags := 25, slot := 17, constantValue := 0 }, { name := "T_LONG", type := .int, accessFlags := 25, slot := 18, constantValue := 0 }, { name := "JLA", type := (.object "jdk/internal/access/JavaLangAccess"), accessFlags := 26, slot := 19, constantValue := 0 }, { name := "SOFT_MAX_ARRAY_LENGTH", type := .int, accessFlags := 25, slot := 20, constantValue := 0 }]
  methods := #[k14m0]
  instanceTypes := #[]
  staticTypes := #[(.object "jdk/internal/misc/Unsafe"), .boolean, .int, .int, .int, .int, .int, .int, .int, .int, .int, .int, .int, .int, .int, .int, .int, .int, .int, (.object "jdk/internal/access/JavaLangAccess"), .int]
  resolved := Array.replicate 378 none
  statics := none }

def pool15 : Array CpInfo := pool [(1, u "java/lang/Cloneable"), (0, .class_ 1), (0, u "java/lang/Object"), (0, .class_ 3)] 3

/-- java/lang/Cloneable -/
def k15 : Class := { plain "java/lang/Cloneable" (some 0) with
  accessFlags := 1537
  interfaces := #[]
  cf := some (fileOf pool15 2 #[] #[] 1537 4 #[] #[])
  fields := #[]
  methods := #[]
  instanceTypes := #[]
  staticTypes := #[]
  resolved := Array.replicate 8 none
  statics := none }

/-- the primitive byte -/
def k16 : Class := { plain "byte" none with kind := .primitive 'B', accessFlags := 0x411 }
/-- [B -/
def k17 : Class := { plain "[B" (some 0) with kind := .array 16 .byte, interfaces := #[15, 2], accessFlags := 1041 }

/-- the primitive char -/
def k18 : Class := { plain "char" none with kind := .primitive 'C', accessFlags := 0x411 }
/-- [C -/
def k19 : Class := { plain "[C" (some 0) with kind := .array 18 .char, interfaces := #[15, 2], accessFlags := 1041 }

/-- the primitive int -/
def k20 : Class := { plain "int" none with kind := .primitive 'I', accessFlags := 0x411 }
/-- [I -/
def k21 : Class := { plain "[I" (some 0) with kind := .array 20 .int, interfaces := #[15, 2], accessFlags := 1041 }

def heap : Heap := #[{ cls := 7, slots := #[.long 0, .int 1, .null, .int 0, .null, .int 0, .int 0], vm := .statics 7 },
  { cls := 13, slots := #[.null, .null, .null], vm := .statics 13 }]
def classes : Array Class := #[k0, k1, k2, k3, k4, k5, k6, k7, k8, k9, k10, k11, k12, k13, k14, k15, k16, k17, k18, k19, k20, k21]
def interned : List (Array UInt16 × Addr) := []
def slotsUsed : Nat := 10
def theMethod : MethodId := ⟨1, 1⟩
def args0 : Array Value := #[.int 1, .int 2, .int 3, .int 4]
def aboutOver (below : List Frame) : State where
  vm := { classes := classes, interned := interned.toArray }
  heap := heap
  slotsUsed := slotsUsed
  threads := #[{ frames := .invoking theMethod args0 :: below }]
def below0 : List Frame := [.native { method := ⟨0, 0⟩, args := #[] }]
def about1 : State := aboutOver below0
def p0 : Program := .bare "" "" ""
def e0 : Env := launch0.env 0 0 0
theorem w_frames : about1.frames = Frame.invoking theMethod args0 :: below0 := rfl
set_option maxRecDepth 65536 in
theorem w_args : argsFit about1.vm theMethod args0 = true := by decide +kernel
set_option maxRecDepth 65536 in
theorem w_heap : heapFits about1 = true := by decide +kernel
set_option maxRecDepth 65536 in
theorem w_runnable : about1.curStatus? = some .runnable := by decide +kernel
set_option maxRecDepth 65536 in
theorem w_alone : about1.alone = true := by decide +kernel
set_option maxRecDepth 65536 in
theorem w_named : about1.methodNamed? x = some theMethod := by decide +kernel
set_option maxRecDepth 65536 in
theorem w_hears : about1.hears theMethod below0 = true := by decide +kernel
set_option maxRecDepth 65536 in
theorem w_ripe : about1.ripe theMethod args0 below0 = true := by decide +kernel
theorem w_running : about1.status = .running := rfl
set_option maxRecDepth 65536 in
theorem w_room : about1.hasRoom e0.platform room_1 = true :=
  launch0.hasRoom_least _ room_1 (by decide +kernel) (by decide +kernel) (by decide +kernel) (by decide +kernel) (by decide +kernel) (by decide +kernel)
theorem allAtoms_all (ts : List Jvm.Cond) (a : Array Jvm.Value) (st : Jvm.State) : (allAtoms ts).before a st = ts.all (fun c => c.before a st) := by
  induction ts with
  | nil => rfl
  | cons c t ih =>
    show (Jvm.Cond.and c (allAtoms t)).before a st = _
    rw [Jvm.Cond.before_and, ih, List.all_cons]
def words1 : List Jvm.Cond := Jvm.Cond.code x code maxLocals ret :: tables_1
/-- a 'code' word, met by the world's own term for the bytes: nothing is compared byte by byte -/
theorem code_word {y : MethodName} {bytes : ByteArray} {mx : Nat} {rt : Option FieldType} {a : Array Value} {s : State} {m : MethodId} {meth : Method} {c : Code} (h1 : s.methodNamed? y = some m) (h2 : s.vm.method? m = some meth) (h3 : meth.code = some c) (h4 : c.code = bytes)
    (h5 : (c.maxLocals == mx && c.exceptionTable.isEmpty && decide (c.maxStack ≤ mostOperands) && decide (meth.sig.returnType = rt) && !meth.locks && decide (parseMethodDescriptor y.desc = some meth.sig)) = true) : (Jvm.Cond.code y bytes mx rt).before a s = true := by
  simp only [Bool.and_eq_true, beq_iff_eq, Bool.not_eq_true', decide_eq_true_eq] at h5
  obtain ⟨⟨⟨⟨⟨g1, g2⟩, g3⟩, g4⟩, g5⟩, g6⟩ := h5
  simp [Cond.before, Cond.holds, Cond.value, h1, h2, h3, h4, g1, g2, g3, g4, g5, g6]
def isCode : Jvm.Cond → Bool
  | .code _ _ _ _ => true
  | _ => false
theorem all_split {L : List Jvm.Cond} {P : Jvm.Cond → Bool} (h1 : L.all (fun c => isCode c || P c) = true) (h2 : ∀ c ∈ L.filter isCode, P c = true) : L.all P = true := by
  refine List.all_eq_true.mpr fun c hc => ?_
  have h := List.all_eq_true.mp h1 c hc
  rcases Bool.eq_false_or_eq_true (isCode c) with hi | hi
  · exact h2 c (List.mem_filter.mpr ⟨hc, hi⟩)
  · simpa [hi] using h
set_option maxRecDepth 65536 in
theorem w_c0 : (Jvm.Cond.code x code maxLocals ret).before args0 about1 = true := code_word (m := ⟨1, 1⟩) (meth := k1m1) (c := k1c1) (by decide +kernel) rfl rfl rfl (by decide +kernel)
set_option maxRecDepth 65536 in
theorem w_c1 : (Jvm.Cond.code ({ cls := "java/lang/String", name := "<init>", desc := "([C)V" } : Jvm.MethodName) jdk_42_method_3_code (2 : Nat) (Option.none : Option Jvm.ClassFile.FieldType)).before args0 about1 = true := code_word (m := ⟨7, 1⟩) (meth := k7m1) (c := k7c1) (by decide +kernel) rfl rfl rfl (by decide +kernel)
set_option maxRecDepth 65536 in
theorem w_c2 : (Jvm.Cond.code ({ cls := "java/lang/String", name := "<init>", desc := "([CIILjava/lang/Void;)V" } : Jvm.MethodName) jdk_42_method_149_code (6 : Nat) (Option.none : Option Jvm.ClassFile.FieldType)).before args0 about1 = true := code_word (m := ⟨7, 3⟩) (meth := k7m3) (c := k7c3) (by decide +kernel) rfl rfl rfl (by decide +kernel)
set_option maxRecDepth 65536 in
theorem w_c3 : (Jvm.Cond.code ({ cls := "java/lang/Object", name := "<init>", desc := "()V" } : Jvm.MethodName) object_method_1_code (1 : Nat) (Option.none : Option Jvm.ClassFile.FieldType)).before args0 about1 = true := code_word (m := ⟨0, 0⟩) (meth := k0m0) (c := k0c0) (by decide +kernel) rfl rfl rfl (by decide +kernel)
set_option maxRecDepth 65536 in
theorem w_c4 : (Jvm.Cond.code ({ cls := "java/lang/StringUTF16", name := "compress", desc := "([CII)[B" } : Jvm.MethodName) jdk_52_method_16_code (6 : Nat) (Option.some (Jvm.ClassFile.FieldType.array Jvm.ClassFile.FieldType.byte))).before args0 about1 = true := code_word (m := ⟨8, 2⟩) (meth := k8m2) (c := k8c2) (by decide +kernel) rfl rfl rfl (by decide +kernel)
set_option maxRecDepth 65536 in
theorem w_c5 : (Jvm.Cond.code ({ cls := "java/lang/StringUTF16", name := "compress", desc := "([CI[BII)I" } : Jvm.MethodName) jdk_52_method_21_code (7 : Nat) (Option.some Jvm.ClassFile.FieldType.int)).before args0 about1 = true := code_word (m := ⟨8, 3⟩) (meth := k8m3) (c := k8c3) (by decide +kernel) rfl rfl rfl (by decide +kernel)
set_option maxRecDepth 65536 in
theorem w_c6 : (Jvm.Cond.code ({ cls := "java/lang/StringUTF16", name := "coderFromArrayLen", desc := "([BI)B" } : Jvm.MethodName) jdk_52_method_15_code (2 : Nat) (Option.some Jvm.ClassFile.FieldType.byte)).before args0 about1 = true := code_word (m := ⟨8, 1⟩) (meth := k8m1) (c := k8c1) (by decide +kernel) rfl rfl rfl (by decide +kernel)
set_option maxRecDepth 65536 in
theorem w_c7 : (Jvm.Cond.code ({ cls := "java/lang/String", name := "valueOf", desc := "(C)Ljava/lang/String;" } : Jvm.MethodName) jdk_42_method_139_code (1 : Nat) (Option.some (Jvm.ClassFile.FieldType.object "java/lang/String"))).before args0 about1 = true := code_word (m := ⟨7, 2⟩) (meth := k7m2) (c := k7c2) (by decide +kernel) rfl rfl rfl (by decide +kernel)
set_option maxRecDepth 65536 in
theorem w_c8 : (Jvm.Cond.code ({ cls := "java/lang/StringLatin1", name := "canEncode", desc := "(C)Z" } : Jvm.MethodName) jdk_43_method_3_code (1 : Nat) (Option.some Jvm.ClassFile.FieldType.boolean)).before args0 about1 = true := code_word (m := ⟨9, 1⟩) (meth := k9m1) (c := k9c1) (by decide +kernel) rfl rfl rfl (by decide +kernel)
set_option maxRecDepth 65536 in
theorem w_c9 : (Jvm.Cond.code ({ cls := "java/lang/StringLatin1", name := "toBytes", desc := "(C)[B" } : Jvm.MethodName) jdk_43_method_46_code (1 : Nat) (Option.some (Jvm.ClassFile.FieldType.array Jvm.ClassFile.FieldType.byte))).before args0 about1 = true := code_word (m := ⟨9, 2⟩) (meth := k9m2) (c := k9c2) (by decide +kernel) rfl rfl rfl (by decide +kernel)
set_option maxRecDepth 65536 in
theorem w_c10 : (Jvm.Cond.code ({ cls := "java/lang/String", name := "<init>", desc := "([BB)V" } : Jvm.MethodName) jdk_42_method_151_code (3 : Nat) (Option.none : Option Jvm.ClassFile.FieldType)).before args0 about1 = true := code_word (m := ⟨7, 4⟩) (meth := k7m4) (c := k7c4) (by decide +kernel) rfl rfl rfl (by decide +kernel)
set_option maxRecDepth 65536 in
theorem w_c11 : (Jvm.Cond.code ({ cls := "com/example/clausewright/clausewright/model/Column", name := "<init>", desc := "(Ljava/lang/String;ILjava/lang/String;Z)V" } : Jvm.MethodName) prog_18_method_1_code (5 : Nat) (Option.none : Option Jvm.ClassFile.FieldType)).before args0 about1 = true := code_word (m := ⟨11, 0⟩) (meth := k11m0) (c := k11c0) (by decide +kernel) rfl rfl rfl (by decide +kernel)
set_option maxRecDepth 65536 in
theorem w_c12 : (Jvm.Cond.code ({ cls := "java/lang/Record", name := "<init>", desc := "()V" } : Jvm.MethodName) jdk_30_method_1_code (1 : Nat) (Option.none : Option Jvm.ClassFile.FieldType)).before args0 about1 = true := code_word (m := ⟨10, 0⟩) (meth := k10m0) (c := k10c0) (by decide +kernel) rfl rfl rfl (by decide +kernel)
set_option maxRecDepth 65536 in
theorem w_c13 : (Jvm.Cond.code ({ cls := "java/util/Objects", name := "requireNonNull", desc := "(Ljava/lang/Object;Ljava/lang/String;)Ljava/lang/Object;" } : Jvm.MethodName) jdk_31_method_11_code (2 : Nat) (Option.some (Jvm.ClassFile.FieldType.object "java/lang/Object"))).before args0 about1 = true := code_word (m := ⟨12, 1⟩) (meth := k12m1) (c := k12c1) (by decide +kernel) rfl rfl rfl (by decide +kernel)
set_option maxRecDepth 65536 in
theorem w_c14 : (Jvm.Cond.code ({ cls := "com/example/clausewright/clausewright/model/Column", name := "isNumber", desc := "()Z" } : Jvm.MethodName) prog_18_method_4_code (1 : Nat) (Option.some Jvm.ClassFile.FieldType.boolean)).before args0 about1 = true := code_word (m := ⟨11, 1⟩) (meth := k11m1) (c := k11c1) (by decide +kernel) rfl rfl rfl (by decide +kernel)
def codes1 : List Jvm.Cond := [Jvm.Cond.code x code maxLocals ret, Jvm.Cond.code ({ cls := "java/lang/String", name := "<init>", desc := "([C)V" } : Jvm.MethodName) jdk_42_method_3_code (2 : Nat) (Option.none : Option Jvm.ClassFile.FieldType), Jvm.Cond.code ({ cls := "java/lang/String", name := "<init>", desc := "([CIILjava/lang/Void;)V" } : Jvm.MethodName) jdk_42_method_149_code (6 : Nat) (Option.none : Option Jvm.ClassFile.FieldType), Jvm.Cond.code ({ cls := "java/lang/Object", name := "<init>", desc := "()V" } : Jvm.MethodName) object_method_1_code (1 : Nat) (Option.none : Option Jvm.ClassFile.FieldType), Jvm.Cond.code ({ cls := "java/lang/StringUTF16", name := "compress", desc := "([CII)[B" } : Jvm.MethodName) jdk_52_method_16_code (6 : Nat) (Option.some (Jvm.ClassFile.FieldType.array Jvm.ClassFile.FieldType.byte)), Jvm.Cond.code ({ cls := "java/lang/StringUTF16", name := "compress", desc := "([CI[BII)I" } : Jvm.MethodName) jdk_52_method_21_code (7 : Nat) (Option.some Jvm.ClassFile.FieldType.int), Jvm.Cond.code ({ cls := "java/lang/StringUTF16", name := "coderFromArrayLen", desc := "([BI)B" } : Jvm.MethodName) jdk_52_method_15_code (2 : Nat) (Option.some Jvm.ClassFile.FieldType.byte), Jvm.Cond.code ({ cls := "java/lang/String", name := "valueOf", desc := "(C)Ljava/lang/String;" } : Jvm.MethodName) jdk_42_method_139_code (1 : Nat) (Option.some (Jvm.ClassFile.FieldType.object "java/lang/String")), Jvm.Cond.code ({ cls := "java/lang/StringLatin1", name := "canEncode", desc := "(C)Z" } : Jvm.MethodName) jdk_43_method_3_code (1 : Nat) (Option.some Jvm.ClassFile.FieldType.boolean), Jvm.Cond.code ({ cls := "java/lang/StringLatin1", name := "toBytes", desc := "(C)[B" } : Jvm.MethodName) jdk_43_method_46_code (1 : Nat) (Option.some (Jvm.ClassFile.FieldType.array Jvm.ClassFile.FieldType.byte)), Jvm.Cond.code ({ cls := "java/lang/String", name := "<init>", desc := "([BB)V" } : Jvm.MethodName) jdk_42_method_151_code (3 : Nat) (Option.none : Option Jvm.ClassFile.FieldType), Jvm.Cond.code ({ cls := "com/example/clausewright/clausewright/model/Column", name := "<init>", desc := "(Ljava/lang/String;ILjava/lang/String;Z)V" } : Jvm.MethodName) prog_18_method_1_code (5 : Nat) (Option.none : Option Jvm.ClassFile.FieldType), Jvm.Cond.code ({ cls := "java/lang/Record", name := "<init>", desc := "()V" } : Jvm.MethodName) jdk_30_method_1_code (1 : Nat) (Option.none : Option Jvm.ClassFile.FieldType), Jvm.Cond.code ({ cls := "java/util/Objects", name := "requireNonNull", desc := "(Ljava/lang/Object;Ljava/lang/String;)Ljava/lang/Object;" } : Jvm.MethodName) jdk_31_method_11_code (2 : Nat) (Option.some (Jvm.ClassFile.FieldType.object "java/lang/Object")), Jvm.Cond.code ({ cls := "com/example/clausewright/clausewright/model/Column", name := "isNumber", desc := "()Z" } : Jvm.MethodName) prog_18_method_4_code (1 : Nat) (Option.some Jvm.ClassFile.FieldType.boolean)]
set_option maxRecDepth 65536 in
theorem codes_eq : words1.filter isCode = codes1 := rfl
theorem w_codes : ∀ c ∈ words1.filter isCode, c.before args0 about1 = true := by
  rw [codes_eq]
  intro c hc
  simp only [codes1, List.mem_cons, List.not_mem_nil, or_false] at hc
  rcases hc with rfl | rfl | rfl | rfl | rfl | rfl | rfl | rfl | rfl | rfl | rfl | rfl | rfl | rfl | rfl
  · exact w_c0
  · exact w_c1
  · exact w_c2
  · exact w_c3
  · exact w_c4
  · exact w_c5
  · exact w_c6
  · exact w_c7
  · exact w_c8
  · exact w_c9
  · exact w_c10
  · exact w_c11
  · exact w_c12
  · exact w_c13
  · exact w_c14
set_option maxRecDepth 65536 in
theorem w_t1 : (words1.take 24).all (fun c => isCode c || c.before args0 about1) = true := by decide +kernel
set_option maxRecDepth 65536 in
theorem w_t2 : ((words1.drop 24).take 24).all (fun c => isCode c || c.before args0 about1) = true := by decide +kernel
set_option maxRecDepth 65536 in
theorem w_t3 : (((words1.drop 24).drop 24).take 24).all (fun c => isCode c || c.before args0 about1) = true := by decide +kernel
set_option maxRecDepth 65536 in
theorem w_t4 : (((words1.drop 24).drop 24).drop 24).all (fun c => isCode c || c.before args0 about1) = true := by decide +kernel
theorem w_tables : (allAtoms (Jvm.Cond.code x code maxLocals ret :: tables_1)).before args0 about1 = true := by
  rw [allAtoms_all]
  show words1.all (fun c => c.before args0 about1) = true
  refine all_split ?_ w_codes
  rw [← List.take_append_drop 24 words1, List.all_append, w_t1, ← List.take_append_drop 24 (words1.drop 24), List.all_append, w_t2, ← List.take_append_drop 24 ((words1.drop 24).drop 24), List.all_append, w_t3, w_t4]
  rfl
set_option maxRecDepth 65536 in
theorem w_rest : rest_1_c.before args0 about1 = true := by decide +kernel
set_option maxRecDepth 65536 in
theorem w_case : (Jvm.Cond.and given_1 narrow_1).before args0 about1 = true := by decide +kernel
theorem w_applies : (headSpec (Jvm.Cond.code x code maxLocals ret :: tables_1) room_1).applies x e0.platform about1 = true :=
  (Spec.applies_iff w_frames).mpr ⟨w_running, w_runnable, w_alone, w_named, w_hears, w_ripe, w_room, w_tables⟩
theorem atStart : AtStart classFile x code maxLocals ret World_1 tables_1 room_1 Calls_1 rest_1 Pre_1 launch0 p0 e0 about1 theMethod args0 below0 :=
  ⟨lists_1, trivial, launch0.admits_env _ _ _, launch0.least_env, fairChoices_fair.cas, fairChoices_fair.clock, w_frames, w_args, w_heap, w_applies, trivial, w_rest, w_case⟩
end start1
theorem witness_1 : WitnessClaimed_1 := ⟨start1.p0, start1.e0, start1.about1, start1.theMethod, start1.args0, start1.below0, start1.atStart⟩
end Jvm.Pilot.@@N@@
