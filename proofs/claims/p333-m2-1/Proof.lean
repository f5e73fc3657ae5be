import JvmDerived
import JvmDerived.Pilot.@@N@@Statement
import JvmDerived.Pilot.@@N@@Code
set_option linter.unusedVariables false
set_option linter.unusedSimpArgs false
namespace Jvm.RoadKit
open Sem ClassFile Op Lib Jvm.Stand Jvm.Free Jvm.LawKit
section New
variable {p : Program} {l : Launch} {e : Env} {R : Room} {s : State} {m : MethodId} {args : Array Value} {below : List Frame} {meth : Method} {c : Code} {T : State} {locs : List Loc} {cells slots : Nat}
theorem retI (X : Stand p l e R s m args below meth c T locs cells slots) (hx : p.tables.exec = Jvm.exec) {pc : Nat} {Ls : Array Slot} {z : Int32} {rest : List Value} (hret : meth.sig.returnType = some .int) (hd : decode c.code pc = .ok (.ireturn, 1)) {fs : List Frame}
    (hl : ∀ (f : JFrame) (acts : List Action), f.method = m → f.locked = none → f.entered = [] → (doReturn e (T.setTop f) acts (some (.int z))).1 = T.setFrames fs) : Steps p.tables e below (T.setTop (mkF m pc Ls (.int z :: rest))) (T.setFrames fs) :=
  retOut X hx hret rfl (Or.inl ⟨rfl, Or.inl rfl, _, rfl⟩) hd hl
theorem fitsRef {C : String} {v : Value} (h : v.isRef = true) : fits (.object C) v = true := by
  rcases ref_cases h with rfl | ⟨_, rfl⟩ <;> rfl
end New
end Jvm.RoadKit

/- laws to paste: Road.backV (cut by pick.py; bodies as the Statement names them) -/
namespace Jvm.Pilot.@@N@@
namespace StrChars
open Jvm Sem ClassFile Op Lib Jvm.Stand Jvm.Free.XT Jvm.Free.ALB Jvm.Free.JM Jvm.Free
open Jvm.Lib.Cold (StaticIs)
/-- a char array whose places are chars -/
def Ch (a : Addr) (A : Cell) (U : State) : Prop := Arr .char a A U ∧ Typed .char A
theorem Ch.mv {a : Addr} {A : Cell} {U U' : State} (h : Ch a A U) (hal : U.vm.Alike U'.vm) (hh : U'.heap = U.heap) : Ch a A U' := ⟨h.1.mv hal hh, h.2⟩
theorem Ch.keep {a : Addr} {A : Cell} {U U' : State} (h : Ch a A U) (hal : U.vm.Alike U'.vm) (hk : U'.heap[a]? = some A) : Ch a A U' := ⟨h.1.keep hal hk, h.2⟩
/-- what place i of a char[]'s cell holds -/
def cv (A : Cell) (i : Nat) : Int32 := match A.slots[i]? with | some (.int x) => x | _ => 0
theorem Ch.get {a : Addr} {A : Cell} {U : State} (h : Ch a A U) {i : Nat} (hi : i < A.slots.size) : A.slots[i]? = some (.int (cv A i)) := by
  have e := Array.getElem?_eq_getElem hi
  have f := h.2 i _ e
  unfold cv; rw [e]
  generalize A.slots[i] = v at f
  cases v <;> simp [fits] at f ⊢
/-- the byte that i2b leaves of a char -/
def lo8 (x : Int32) : Int32 := x.toInt8.toInt32
theorem fits_lo8 (y : Int32) : fits .byte (.int (lo8 y)) = true := by
  have h1 := y.toInt8.le_toInt
  have h2 := y.toInt8.toInt_lt
  simp only [lo8, fits, Bool.and_eq_true, decide_eq_true_eq, Int32.le_iff_toInt_le, Int8.toInt_toInt32, show (-128 : Int32).toInt = -128 from by decide, show (127 : Int32).toInt = 127 from by decide]
  omega
/-- A' is A but that each place j of lo .. hi - 1 holds f j -/
def Laid (A A' : Cell) (lo hi : Nat) (f : Nat → Value) : Prop := A'.cls = A.cls ∧ A'.vm = A.vm ∧ A'.slots.size = A.slots.size ∧ ∀ i, A'.slots[i]? = if lo ≤ i ∧ i < hi then some (f i) else A.slots[i]?
theorem Laid.zero (A : Cell) (lo : Nat) (f : Nat → Value) : Laid A A lo (lo + 0) f := ⟨rfl, rfl, rfl, fun i => by rw [if_neg (by omega)]⟩
theorem Laid.step {A Ak : Cell} {lo k : Nat} {f : Nat → Value} {v : Value} (h : Laid A Ak lo k f) (hlo : lo ≤ k) (hk : k < Ak.slots.size) (hv : v = f k) : Laid A (Ak.setSlot k v) lo (k + 1) f := by
  refine ⟨h.1, h.2.1, by simpa [Cell.setSlot] using h.2.2.1, fun i => ?_⟩
  by_cases e : k = i
  · subst e; rw [Cell.slots_setSlot_self v hk, if_pos (by omega), hv]
  · rw [Cell.slots_setSlot_ne v e, h.2.2.2 i]
    by_cases q : lo ≤ i ∧ i < k
    · rw [if_pos q, if_pos (by omega)]
    · rw [if_neg q, if_neg (by omega)]
def U16 : String := "java/lang/StringUTF16"
namespace Cmp5
def yN : MethodName := ⟨"java/lang/StringUTF16", "compress", "([CI[BII)I"⟩
abbrev yB : ByteArray := jdk_52_method_21_code
theorem d0 : decode yB 0 = .ok (.iconst 0, 1) := by decide +kernel
theorem d1 : decode yB 1 = .ok (.istore 5, 2) := by decide +kernel
theorem d3 : decode yB 3 = .ok (.iload 5, 2) := by decide +kernel
theorem d5 : decode yB 5 = .ok (.iload 4, 2) := by decide +kernel
theorem d7 : decode yB 7 = .ok (.if_icmp (.ge) 37, 3) := by decide +kernel
theorem d10 : decode yB 10 = .ok (.aload_n 0, 1) := by decide +kernel
theorem d11 : decode yB 11 = .ok (.iload_n 1, 1) := by decide +kernel
theorem d12 : decode yB 12 = .ok (.caload, 1) := by decide +kernel
theorem d13 : decode yB 13 = .ok (.istore 6, 2) := by decide +kernel
theorem d15 : decode yB 15 = .ok (.iload 6, 2) := by decide +kernel
theorem d17 : decode yB 17 = .ok (.sipush 255, 3) := by decide +kernel
theorem d20 : decode yB 20 = .ok (.if_icmp (.le) 6, 3) := by decide +kernel
theorem d26 : decode yB 26 = .ok (.aload_n 2, 1) := by decide +kernel
theorem d27 : decode yB 27 = .ok (.iload_n 3, 1) := by decide +kernel
theorem d28 : decode yB 28 = .ok (.iload 6, 2) := by decide +kernel
theorem d30 : decode yB 30 = .ok (.i2b, 1) := by decide +kernel
theorem d31 : decode yB 31 = .ok (.bastore, 1) := by decide +kernel
theorem d32 : decode yB 32 = .ok (.iinc 1 1, 3) := by decide +kernel
theorem d35 : decode yB 35 = .ok (.iinc 3 1, 3) := by decide +kernel
theorem d38 : decode yB 38 = .ok (.iinc 5 1, 3) := by decide +kernel
theorem d41 : decode yB 41 = .ok (.goto (-38), 3) := by decide +kernel
theorem d44 : decode yB 44 = .ok (.iload 4, 2) := by decide +kernel
theorem d46 : decode yB 46 = .ok (.ireturn, 1) := by decide +kernel
def site : List Cond := []
def tab : Cond := tabOf yN yB 7 (some .int) site
def P (b : Addr) (A : Cell) (d : Addr) (B : Cell) (o q len : Nat) (args : Array Value) (s : State) : Prop := args = #[.ref b, .int (Int32.ofNat o), .ref d, .int (Int32.ofNat q), .int (Int32.ofNat len)] ∧ Ch b A s ∧ Arr .byte d B s ∧ b ≠ d ∧ o + len ≤ A.slots.size ∧ q + len ≤ B.slots.size ∧ ∀ i, i < len → ¬ 255 < cv A (o + i)
def E (b : Addr) (A : Cell) (d : Addr) (B : Cell) (o q len : Nat) (r : Option Value) (s u : State) : Prop := r = some (.int (Int32.ofNat len)) ∧ ∃ B', Put d B' s u ∧ Laid B B' q (q + len) (fun j => Value.int (lo8 (cv A (o + (j - q)))))
/-- no char of the range above 255: len; the places written hold each char's low byte -/
theorem law (l : Launch) (b : Addr) (A : Cell) (d : Addr) (B : Cell) (o q len : Nat) : Law l yN 5 5 0 0 yB 7 (some .int) site (P b A d B o q len) (E b A d B o q len) (copyLocs d q len) 0 0 := by
  refine Law.of_walk (plainFor_of_name (by decide +kernel)) (by decide +kernel) (by decide +kernel) (by decide) (fun _ _ h => by rw [h.1]; rfl) (fun _ U U' hal hh h => ⟨h.1, h.2.1.mv hal hh, h.2.2.1.mv hal hh, h.2.2.2⟩) (fun r U U' V V' h1 hal h2 h => ⟨h.1, h.2.elim fun B' q => ⟨B', q.1.mv h1 h2, q.2⟩⟩) ?_
  intro p e s m args below meth c s₁ X0 hexec hbytes hml hret hlk hnm hown hh0 W hP
  obtain ⟨rfl, hA, hB, hne, l1, l2, hp⟩ := hP
  have c1 : Steps p.tables e below (s₁.setTop (entryFrame m #[.ref b, .int (Int32.ofNat o), .ref d, .int (Int32.ofNat q), .int (Int32.ofNat len)] 7)) (s₁.setTop (mkF m 0 #[.val (.ref b), .val (.int (Int32.ofNat o)), .val (.ref d), .val (.int (Int32.ofNat q)), .val (.int (Int32.ofNat len)), .unset, .unset] [])) := entry rfl
  have hA0 := hA.1.mv X0.warmed.alike hh0
  have hB0 := hB.mv X0.warmed.alike hh0
  have a31 := hA.1.2.2.2
  have c2 : Steps p.tables e below (s₁.setTop (entryFrame m #[.ref b, .int (Int32.ofNat o), .ref d, .int (Int32.ofNat q), .int (Int32.ofNat len)] 7)) (s₁.setTop (mkF m 3 #[.val (.ref b), .val (.int (Int32.ofNat o)), .val (.ref d), .val (.int (Int32.ofNat q)), .val (.int (Int32.ofNat len)), .val (.int 0), .unset] [])) := c1.trans (by
    refine iconstV X0.here hexec rfl 0 (hb hbytes d0) (by decide) ?_
    refine XS.istore X0.here hexec rfl (hb hbytes d1) rfl rfl ?_
    exact Steps.refl _)
  have loop : ∀ (r i : Nat), i + r = len → ∀ (z : Slot), (z = .unset ∨ ∃ w, z = .val w ∧ w.category = 1) → ∀ (Tl : State) (Bk : Cell), Stand p l e { frames := 0, locals := 0, cells := 0, slots := 0 } s m #[.ref b, .int (Int32.ofNat o), .ref d, .int (Int32.ofNat q), .int (Int32.ofNat len)] below meth c Tl ([] ++ copyLocs d q i) 0 0 → Put d Bk s₁ Tl → Laid B Bk q (q + i) (fun j => Value.int (lo8 (cv A (o + (j - q))))) →
      Steps p.tables e below (s₁.setTop (entryFrame m #[.ref b, .int (Int32.ofNat o), .ref d, .int (Int32.ofNat q), .int (Int32.ofNat len)] 7)) (Tl.setTop (mkF m 3 #[.val (.ref b), .val (.int (Int32.ofNat (o + i))), .val (.ref d), .val (.int (Int32.ofNat (q + i))), .val (.int (Int32.ofNat len)), .val (.int (Int32.ofNat i)), z] [])) → ∃ (T' : State) (B' : Cell) (z' : Slot), Stand p l e { frames := 0, locals := 0, cells := 0, slots := 0 } s m #[.ref b, .int (Int32.ofNat o), .ref d, .int (Int32.ofNat q), .int (Int32.ofNat len)] below meth c T' ([] ++ copyLocs d q len) 0 0 ∧ Put d B' s₁ T' ∧ Laid B B' q (q + len) (fun j => Value.int (lo8 (cv A (o + (j - q))))) ∧
      Steps p.tables e below (s₁.setTop (entryFrame m #[.ref b, .int (Int32.ofNat o), .ref d, .int (Int32.ofNat q), .int (Int32.ofNat len)] 7)) (T'.setTop (mkF m 3 #[.val (.ref b), .val (.int (Int32.ofNat (o + len))), .val (.ref d), .val (.int (Int32.ofNat (q + len))), .val (.int (Int32.ofNat len)), .val (.int (Int32.ofNat len)), z'] [])) := by
    intro r
    induction r with
    | zero =>
      intro i hi z hz Tl Bk Xl pl fl cl
      have hil : i = len := by omega
      rw [hil] at Xl fl cl
      exact ⟨Tl, Bk, z, Xl, pl, fl, cl⟩
    | succ r ih =>
      intro i hi z hz Tl Bk Xl pl fl cl
      have all := X0.warmed.alike.symm.trans Xl.warmed.alike
      have hAl := hA0.keep all (pl.other hne hA0.1)
      have hBk := hB0.like all pl.1 fl.1 fl.2.1 fl.2.2.1
      have hlt : q + i < Bk.slots.size := by rw [fl.2.2.1]; omega
      have c3 : Steps p.tables e below (s₁.setTop (entryFrame m #[.ref b, .int (Int32.ofNat o), .ref d, .int (Int32.ofNat q), .int (Int32.ofNat len)] 7)) (Tl.setTop (mkF m 12 #[.val (.ref b), .val (.int (Int32.ofNat (o + i))), .val (.ref d), .val (.int (Int32.ofNat (q + i))), .val (.int (Int32.ofNat len)), .val (.int (Int32.ofNat i)), z] [.int (Int32.ofNat (o + i)), .ref b])) := cl.trans (by
        refine XS.iload Xl.here hexec rfl (hb hbytes d3) rfl ?_
        refine XS.iload Xl.here hexec rfl (hb hbytes d5) rfl ?_
        refine XS.icmpNo Xl.here hexec rfl (hb hbytes d7) rfl (ii_ge_f (lt32 (by omega) (by omega))) ?_
        refine XS.aloadN Xl.here hexec rfl (hb hbytes d10) rfl rfl ?_
        refine XS.iloadN Xl.here hexec rfl (hb hbytes d11) rfl ?_
        exact Steps.refl _)
      have c4 : Steps p.tables e below (s₁.setTop (entryFrame m #[.ref b, .int (Int32.ofNat o), .ref d, .int (Int32.ofNat q), .int (Int32.ofNat len)] 7)) (Tl.setTop (mkF m 13 #[.val (.ref b), .val (.int (Int32.ofNat (o + i))), .val (.ref d), .val (.int (Int32.ofNat (q + i))), .val (.int (Int32.ofNat len)), .val (.int (Int32.ofNat i)), z] [.int (cv A (o + i))])) := c3.trans (by
        refine Xl.aget hexec hAl rfl (hA.get (i := o + i) (by omega)) rfl rfl (hb hbytes d12) ?_
        exact Steps.refl _)
      have c5 : Steps p.tables e below (s₁.setTop (entryFrame m #[.ref b, .int (Int32.ofNat o), .ref d, .int (Int32.ofNat q), .int (Int32.ofNat len)] 7)) (Tl.setTop (mkF m 15 #[.val (.ref b), .val (.int (Int32.ofNat (o + i))), .val (.ref d), .val (.int (Int32.ofNat (q + i))), .val (.int (Int32.ofNat len)), .val (.int (Int32.ofNat i)), .val (.int (cv A (o + i)))] [])) := c4.trans (by
        refine XS.istoreS Xl.here hexec rfl (hb hbytes d13) rfl rfl hz ?_
        exact Steps.refl _)
      have c6 : Steps p.tables e below (s₁.setTop (entryFrame m #[.ref b, .int (Int32.ofNat o), .ref d, .int (Int32.ofNat q), .int (Int32.ofNat len)] 7)) (Tl.setTop (mkF m 31 #[.val (.ref b), .val (.int (Int32.ofNat (o + i))), .val (.ref d), .val (.int (Int32.ofNat (q + i))), .val (.int (Int32.ofNat len)), .val (.int (Int32.ofNat i)), .val (.int (cv A (o + i)))] [.int (lo8 (cv A (o + i))), .int (Int32.ofNat (q + i)), .ref d])) := c5.trans (by
        refine XS.iload Xl.here hexec rfl (hb hbytes d15) rfl ?_
        refine sipushV Xl.here hexec rfl 255 (hb hbytes d17) (by decide) ?_
        refine XS.icmpYes Xl.here hexec rfl (pc0 := 20) rfl (hb hbytes d20) rfl (ii_le_t (hp i (by omega))) (by decide) rfl ?_
        refine XS.aloadN Xl.here hexec rfl (hb hbytes d26) rfl rfl ?_
        refine XS.iloadN Xl.here hexec rfl (hb hbytes d27) rfl ?_
        refine XS.iload Xl.here hexec rfl (hb hbytes d28) rfl ?_
        refine i2b Xl.here hexec rfl (hb hbytes d30) rfl ?_
        exact Steps.refl _)
      obtain ⟨T7, X7, p7, st7⟩ := Xl.aput hexec hBk rfl hlt rfl (fits_lo8 (cv A (o + i))) (g := (mkF m 31 #[.val (.ref b), .val (.int (Int32.ofNat (o + i))), .val (.ref d), .val (.int (Int32.ofNat (q + i))), .val (.int (Int32.ofNat len)), .val (.int (Int32.ofNat i)), .val (.int (cv A (o + i)))] [.int (lo8 (cv A (o + i))), .int (Int32.ofNat (q + i)), .ref d])) rfl (rest := []) rfl (hb hbytes d31)
      have c8 : Steps p.tables e below (s₁.setTop (entryFrame m #[.ref b, .int (Int32.ofNat o), .ref d, .int (Int32.ofNat q), .int (Int32.ofNat len)] 7)) (T7.setTop (mkF m 32 #[.val (.ref b), .val (.int (Int32.ofNat (o + i))), .val (.ref d), .val (.int (Int32.ofNat (q + i))), .val (.int (Int32.ofNat len)), .val (.int (Int32.ofNat i)), .val (.int (cv A (o + i)))] [])) := c6.trans (st7 _ (Steps.refl _))
      have c9 : Steps p.tables e below (s₁.setTop (entryFrame m #[.ref b, .int (Int32.ofNat o), .ref d, .int (Int32.ofNat q), .int (Int32.ofNat len)] 7)) (T7.setTop (mkF m 3 #[.val (.ref b), .val (.int (Int32.ofNat (o + i) + 1)), .val (.ref d), .val (.int (Int32.ofNat (q + i) + 1)), .val (.int (Int32.ofNat len)), .val (.int (Int32.ofNat i + 1)), .val (.int (cv A (o + i)))] [])) := c8.trans (by
        refine iincV X7.here hexec rfl 1 (hb hbytes d32) (by decide) rfl rfl ?_
        refine iincV X7.here hexec rfl 1 (hb hbytes d35) (by decide) rfl rfl ?_
        refine iincV X7.here hexec rfl 1 (hb hbytes d38) (by decide) rfl rfl ?_
        refine XS.goto X7.here hexec rfl (pc0 := 41) rfl (hb hbytes d41) (by decide) rfl ?_
        exact Steps.refl _)
      have c10 : Steps p.tables e below (s₁.setTop (entryFrame m #[.ref b, .int (Int32.ofNat o), .ref d, .int (Int32.ofNat q), .int (Int32.ofNat len)] 7)) (T7.setTop (mkF m 3 #[.val (.ref b), .val (.int (Int32.ofNat (o + (i + 1)))), .val (.ref d), .val (.int (Int32.ofNat (q + (i + 1)))), .val (.int (Int32.ofNat len)), .val (.int (Int32.ofNat (i + 1))), .val (.int (cv A (o + i)))] [])) := by
        have := c9
        rw [succ32, succ32, succ32] at this
        exact this
      exact ih (i + 1) (by omega) _ (Or.inr ⟨_, rfl, rfl⟩) T7 _ (by rw [copyLocs_step, ← List.append_assoc]; exact X7) (pl.trans p7) (fl.step (by omega) hlt (by simp)) c10
  obtain ⟨T9, B9, z9, X9, p9, f9, g9⟩ := loop len 0 (by omega) .unset (Or.inl rfl) s₁ B (by simpa [copyLocs] using X0) ⟨hB0.1, fun _ _ => rfl, rfl⟩ (Laid.zero _ _ _) c2
  have c11 : Steps p.tables e below (s₁.setTop (entryFrame m #[.ref b, .int (Int32.ofNat o), .ref d, .int (Int32.ofNat q), .int (Int32.ofNat len)] 7)) (T9.setTop (mkF m 46 #[.val (.ref b), .val (.int (Int32.ofNat (o + len))), .val (.ref d), .val (.int (Int32.ofNat (q + len))), .val (.int (Int32.ofNat len)), .val (.int (Int32.ofNat len)), z9] [.int (Int32.ofNat len)])) := g9.trans (by
    refine XS.iload X9.here hexec rfl (hb hbytes d3) rfl ?_
    refine XS.iload X9.here hexec rfl (hb hbytes d5) rfl ?_
    refine XS.icmpYes X9.here hexec rfl (pc0 := 7) rfl (hb hbytes d7) rfl (ii_ge_t (nlt32 (by omega) (Nat.le_refl _))) (by decide) rfl ?_
    refine XS.iload X9.here hexec rfl (hb hbytes d44) rfl ?_
    exact Steps.refl _)
  exact ⟨T9, some (.int (Int32.ofNat len)), _, _, _, X9, by simp, rfl, rfl, (fun h => by cases h), ⟨rfl, B9, p9.from hh0, f9⟩, fun fs hl => c11.trans (X9.ireturnOut hexec hret rfl (Or.inl rfl) (hb hbytes d46) hl)⟩
end Cmp5
namespace Cmp3
def yN : MethodName := ⟨"java/lang/StringUTF16", "compress", "([CII)[B"⟩
abbrev yB : ByteArray := jdk_52_method_16_code
theorem d0 : decode yB 0 = .ok (.iload_n 2, 1) := by decide +kernel
theorem d1 : decode yB 1 = .ok (.newarray .byte, 2) := by decide +kernel
theorem d3 : decode yB 3 = .ok (.astore_n 3, 1) := by decide +kernel
theorem d4 : decode yB 4 = .ok (.aload_n 0, 1) := by decide +kernel
theorem d5 : decode yB 5 = .ok (.iload_n 1, 1) := by decide +kernel
theorem d6 : decode yB 6 = .ok (.aload_n 3, 1) := by decide +kernel
theorem d7 : decode yB 7 = .ok (.iconst 0, 1) := by decide +kernel
theorem d8 : decode yB 8 = .ok (.iload_n 2, 1) := by decide +kernel
theorem d9 : decode yB 9 = .ok (.invokestatic 115, 3) := by decide +kernel
theorem d12 : decode yB 12 = .ok (.istore 4, 2) := by decide +kernel
theorem d14 : decode yB 14 = .ok (.iload 4, 2) := by decide +kernel
theorem d16 : decode yB 16 = .ok (.iload_n 2, 1) := by decide +kernel
theorem d17 : decode yB 17 = .ok (.if_icmp (.eq) 40, 3) := by decide +kernel
theorem d57 : decode yB 57 = .ok (.aload_n 3, 1) := by decide +kernel
theorem d58 : decode yB 58 = .ok (.areturn, 1) := by decide +kernel
def site : List Cond := [.arrayClass .byte, Cmp5.tab] ++ staticW U16 115 Cmp5.yN
def tab : Cond := tabOf yN yB 6 (some (.array .byte)) site
def P (b : Addr) (A : Cell) (o len : Nat) (args : Array Value) (s : State) : Prop := args = #[.ref b, .int (Int32.ofNat o), .int (Int32.ofNat len)] ∧ Ch b A s ∧ o + len ≤ A.slots.size ∧ len ≤ 536870912 ∧ ∀ i, i < len → ¬ 255 < cv A (o + i)
def E (b : Addr) (A : Cell) (o len : Nat) (r : Option Value) (s u : State) : Prop := NewArr .byte "[B" len (fun j => .int (lo8 (cv A (o + j)))) r s u ∧ u.heap.size = s.heap.size + 1
/-- no char of the range above 255: a new byte[] of their low bytes -/
theorem law (l : Launch) (b : Addr) (A : Cell) (o len : Nat) : Law l yN 3 3 1 18 yB 6 (some (.array .byte)) site (P b A o len) (E b A o len) [] 1 len := by
  refine Law.of_walk (plainFor_of_name (by decide +kernel)) (by decide +kernel) (by decide +kernel) (by decide) (fun _ _ h => by rw [h.1]; rfl) (fun _ U U' hal hh h => ⟨h.1, h.2.1.mv hal hh, h.2.2⟩) (fun r U U' V V' h1 hal h2 h => ⟨NewArr.mv r U U' V V' h1 hal h2 h.1, by rw [h1, h2]; exact h.2⟩) ?_
  intro p e s m args below meth c s₁ X0 hexec hbytes hml hret hlk hnm hown hh0 W hP
  obtain ⟨rfl, hA, l1, l2, hp⟩ := hP
  have a31 := hA.1.2.2.2
  have c1 : Steps p.tables e below (s₁.setTop (entryFrame m #[.ref b, .int (Int32.ofNat o), .int (Int32.ofNat len)] 6)) (s₁.setTop (mkF m 0 #[.val (.ref b), .val (.int (Int32.ofNat o)), .val (.int (Int32.ofNat len)), .unset, .unset, .unset] [])) := entry rfl
  have c2 : Steps p.tables e below (s₁.setTop (entryFrame m #[.ref b, .int (Int32.ofNat o), .int (Int32.ofNat len)] 6)) (s₁.setTop (mkF m 1 #[.val (.ref b), .val (.int (Int32.ofNat o)), .val (.int (Int32.ofNat len)), .unset, .unset, .unset] [.int (Int32.ofNat len)])) := c1.trans (by
    refine XS.iloadN X0.here hexec rfl (hb hbytes d0) rfl ?_
    exact Steps.refl _)
  obtain ⟨T3, B3, X3, ba3, bs3, bv3, bh3, bf3, st3⟩ := X0.anew hexec (atype := .byte) (wk W (.arrayClass .byte)) rfl (by show len * 1 ≤ _; omega) (by omega) (g := (mkF m 1 #[.val (.ref b), .val (.int (Int32.ofNat o)), .val (.int (Int32.ofNat len)), .unset, .unset, .unset] [.int (Int32.ofNat len)])) rfl (hb hbytes d1) (rest := []) rfl (Nat.le_refl _) (by show 0 + len ≤ len; omega)
  rw [hh0] at ba3 st3
  have kp3 : XT.Kept s T3 := (XT.Kept.of_eq hh0).push bh3
  have hA3 := hA.keep X3.warmed.alike (kp3 _ _ hA.1.1)
  have hne : b ≠ s.heap.size := hA.1.ne
  have c4 : Steps p.tables e below (s₁.setTop (entryFrame m #[.ref b, .int (Int32.ofNat o), .int (Int32.ofNat len)] 6)) (T3.setTop (mkF m 3 #[.val (.ref b), .val (.int (Int32.ofNat o)), .val (.int (Int32.ofNat len)), .unset, .unset, .unset] [.ref s.heap.size])) := c2.trans (st3 _ (Steps.refl _))
  have c5 : Steps p.tables e below (s₁.setTop (entryFrame m #[.ref b, .int (Int32.ofNat o), .int (Int32.ofNat len)] 6)) (T3.setTop (mkF m 9 #[.val (.ref b), .val (.int (Int32.ofNat o)), .val (.int (Int32.ofNat len)), .val (.ref s.heap.size), .unset, .unset] [.int (Int32.ofNat len), .int 0, .ref s.heap.size, .int (Int32.ofNat o), .ref b])) := c4.trans (by
    refine XS.astoreN X3.here hexec rfl (hb hbytes d3) rfl rfl rfl ?_
    refine XS.aloadN X3.here hexec rfl (hb hbytes d4) rfl rfl ?_
    refine XS.iloadN X3.here hexec rfl (hb hbytes d5) rfl ?_
    refine XS.aloadN X3.here hexec rfl (hb hbytes d6) rfl rfl ?_
    refine iconstV X3.here hexec rfl 0 (hb hbytes d7) (by decide) ?_
    refine XS.iloadN X3.here hexec rfl (hb hbytes d8) rfl ?_
    exact Steps.refl _)
  obtain ⟨v6, T6, X6, E6, g6⟩ := X3.callS hexec (Cmp5.law l b A s.heap.size B3 o 0 len) hown (wks W (staticW U16 115 Cmp5.yN)) (wk W Cmp5.tab) (W := 0) (Nat.le_of_ble_eq_true rfl) (Nat.le_of_ble_eq_true rfl) (Nat.le_refl _) (by show 0 + len + 0 ≤ len; omega) (g := (mkF m 9 #[.val (.ref b), .val (.int (Int32.ofNat o)), .val (.int (Int32.ofNat len)), .val (.ref s.heap.size), .unset, .unset] [.int (Int32.ofNat len), .int (Int32.ofNat 0), .ref s.heap.size, .int (Int32.ofNat o), .ref b])) rfl (by rw [hml]; rfl) c5 (argsL := [.ref b, .int (Int32.ofNat o), .ref s.heap.size, .int (Int32.ofNat 0), .int (Int32.ofNat len)]) (rest := []) rfl rfl (by show 2 * 0 + 0 ≤ _; decide) (hb hbytes d9) (⟨rfl, hA3, ba3, hne, l1, by rw [bs3]; simp, hp⟩)
  obtain ⟨rfl, B6, p6, f6⟩ := E6
  have c7 : Steps p.tables e below (s₁.setTop (entryFrame m #[.ref b, .int (Int32.ofNat o), .int (Int32.ofNat len)] 6)) (T6.setTop (mkF m 12 #[.val (.ref b), .val (.int (Int32.ofNat o)), .val (.int (Int32.ofNat len)), .val (.ref s.heap.size), .unset, .unset] [.int (Int32.ofNat len)])) := g6
  have c8 : Steps p.tables e below (s₁.setTop (entryFrame m #[.ref b, .int (Int32.ofNat o), .int (Int32.ofNat len)] 6)) (T6.setTop (mkF m 58 #[.val (.ref b), .val (.int (Int32.ofNat o)), .val (.int (Int32.ofNat len)), .val (.ref s.heap.size), .val (.int (Int32.ofNat len)), .unset] [.ref s.heap.size])) := c7.trans (by
    refine XS.istore X6.here hexec rfl (hb hbytes d12) rfl rfl ?_
    refine XS.iload X6.here hexec rfl (hb hbytes d14) rfl ?_
    refine XS.iloadN X6.here hexec rfl (hb hbytes d16) rfl ?_
    refine XS.icmpYes X6.here hexec rfl (pc0 := 17) rfl (hb hbytes d17) rfl (ii_eq_t rfl) (by decide) rfl ?_
    refine XS.aloadN X6.here hexec rfl (hb hbytes d57) rfl rfl ?_
    exact Steps.refl _)
  have X8 := X6.wide (L' := []) (cells' := 1) (slots' := len) (fun x hx hlt => by
    simp only [List.nil_append, copyLocs, List.mem_map, List.mem_range] at hx
    obtain ⟨i, -, rfl⟩ := hx
    exact absurd hlt (Nat.lt_irrefl _)) (Nat.le_refl _) (by omega)
  exact ⟨T6, some (.ref s.heap.size), _, _, _, X8, rfl, rfl, rfl, (fun h => by cases h), ⟨⟨rfl, B6, ba3.like (X3.warmed.alike.symm.trans X6.warmed.alike) p6.1 f6.1 f6.2.1 f6.2.2.1, f6.2.1.trans bv3, by rw [X6.warmed.alike.findClass, f6.1]; exact bf3, by rw [f6.2.2.1, bs3]; simp, fun j hj => by rw [f6.2.2.2 j, if_pos (by omega)]; rfl, kp3.put p6 (Nat.le_refl _)⟩, by rw [p6.2.2, bh3, hh0]; simp⟩, fun fs hl => c8.trans (X8.areturnOut hexec rfl hret rfl (hb hbytes d58) hl)⟩
end Cmp3
namespace CodL
def yN : MethodName := ⟨"java/lang/StringUTF16", "coderFromArrayLen", "([BI)B"⟩
abbrev yB : ByteArray := jdk_52_method_15_code
theorem d0 : decode yB 0 = .ok (.iload_n 1, 1) := by decide +kernel
theorem d1 : decode yB 1 = .ok (.aload_n 0, 1) := by decide +kernel
theorem d2 : decode yB 2 = .ok (.arraylength, 1) := by decide +kernel
theorem d3 : decode yB 3 = .ok (.isub, 1) := by decide +kernel
theorem d4 : decode yB 4 = .ok (.bipush 31, 2) := by decide +kernel
theorem d6 : decode yB 6 = .ok (.iushr, 1) := by decide +kernel
theorem d7 : decode yB 7 = .ok (.i2b, 1) := by decide +kernel
theorem d8 : decode yB 8 = .ok (.ireturn, 1) := by decide +kernel
def site : List Cond := []
def tab : Cond := tabOf yN yB 2 (some .byte) site
def P (d : Addr) (B : Cell) (args : Array Value) (s : State) : Prop := args = #[.ref d, .int (Int32.ofNat B.slots.size)] ∧ Arr .byte d B s
def E (r : Option Value) (s u : State) : Prop := XT.PureE (some (.int 0)) r s u
/-- an array as long as the number of chars: LATIN1 -/
theorem law (l : Launch) (d : Addr) (B : Cell) : Law l yN 2 2 0 0 yB 2 (some .byte) site (P d B) E [] 0 0 := by
  refine Law.of_walk (plainFor_of_name (by decide +kernel)) (by decide +kernel) (by decide +kernel) (by decide) (fun _ _ h => by rw [h.1]; rfl) (fun _ U U' hal hh h => ⟨h.1, h.2.mv hal hh⟩) (fun r U U' V V' h1 hal h2 h => XT.PureE.mv r U U' V V' h1 hal h2 h) ?_
  intro p e s m args below meth c s₁ X0 hexec hbytes hml hret hlk hnm hown hh0 W hP
  obtain ⟨rfl, hB⟩ := hP
  have hB0 := hB.mv X0.warmed.alike hh0
  have c1 : Steps p.tables e below (s₁.setTop (entryFrame m #[.ref d, .int (Int32.ofNat B.slots.size)] 2)) (s₁.setTop (mkF m 0 #[.val (.ref d), .val (.int (Int32.ofNat B.slots.size))] [])) := entry rfl
  have c2 : Steps p.tables e below (s₁.setTop (entryFrame m #[.ref d, .int (Int32.ofNat B.slots.size)] 2)) (s₁.setTop (mkF m 2 #[.val (.ref d), .val (.int (Int32.ofNat B.slots.size))] [.ref d, .int (Int32.ofNat B.slots.size)])) := c1.trans (by
    refine XS.iloadN X0.here hexec rfl (hb hbytes d0) rfl ?_
    refine XS.aloadN X0.here hexec rfl (hb hbytes d1) rfl rfl ?_
    exact Steps.refl _)
  have c3 : Steps p.tables e below (s₁.setTop (entryFrame m #[.ref d, .int (Int32.ofNat B.slots.size)] 2)) (s₁.setTop (mkF m 8 #[.val (.ref d), .val (.int (Int32.ofNat B.slots.size))] [.int (lo8 (ushr (Int32.ofNat B.slots.size - Int32.ofNat B.slots.size) 31))])) := c2.trans (by
    refine X0.alen hexec hB0 rfl rfl (hb hbytes d2) ?_
    refine XS.isub X0.here hexec rfl (hb hbytes d3) rfl ?_
    refine bipushV X0.here hexec rfl 31 (hb hbytes d4) (by decide) ?_
    refine iushr X0.here hexec rfl (hb hbytes d6) rfl ?_
    refine i2b X0.here hexec rfl (hb hbytes d7) rfl ?_
    exact Steps.refl _)
  have e0 : lo8 (ushr (Int32.ofNat B.slots.size - Int32.ofNat B.slots.size) 31) = 0 := by rw [Int32.sub_self]; decide
  rw [e0] at c3
  exact ⟨s₁, some (.int 0), _, _, _, X0, rfl, rfl, rfl, (fun h => by cases h), ⟨rfl, hh0⟩, fun fs hl => c3.trans (X0.ireturnOut hexec hret rfl (Or.inr (Or.inr (Or.inl rfl))) (hb hbytes d8) hl)⟩
end CodL
/-- the String at a is Latin-1 over a new byte[] (the heap's one new cell): the low bytes of the len chars of A from o on; every cell but a is kept -/
def Got (a : Addr) (D : Cell) (fV fC : Field) (A : Cell) (o len : Nat) (r : Option Value) (s u : State) : Prop := r = none ∧ ∃ D' V : Cell, Blank "java/lang/String" a D' u ∧ Same D D' [fV.slot, fC.slot] ∧ D'.slots[fV.slot]? = some (.ref s.heap.size) ∧ D'.slots[fC.slot]? = some (.int 0) ∧ Arr .byte s.heap.size V u ∧ V.vm = .none ∧ u.vm.findClass "[B" = some V.cls ∧ V.slots.size = len ∧ (∀ j, j < len → V.slots[j]? = some (.int (lo8 (cv A (o + j))))) ∧ (∀ (y : Addr) (c : Cell), y ≠ a → s.heap[y]? = some c → u.heap[y]? = some c) ∧ u.heap.size = s.heap.size + 1
theorem Got.mv {a : Addr} {D A : Cell} {fV fC : Field} {o len : Nat} : ∀ r (U U' V V' : State), U'.heap = U.heap → V.vm.Alike V'.vm → V'.heap = V.heap → Got a D fV fC A o len r U V → Got a D fV fC A o len r U' V' :=
  fun r U U' V V' h1 hal h2 ⟨e0, D', X, a1, a2, a3, a4, a5, a6, a7, a8, a9, a10, a11⟩ => ⟨e0, D', X, a1.mv hal h2, a2, by rw [h1]; exact a3, a4, by rw [h1]; exact a5.mv hal h2, a6, by rw [hal.findClass]; exact a7, a8, a9, by rw [h1, h2]; exact a10, by rw [h1, h2]; exact a11⟩
namespace New4
def yN : MethodName := ⟨"java/lang/String", "<init>", "([CIILjava/lang/Void;)V"⟩
abbrev yB : ByteArray := jdk_42_method_149_code
theorem d0 : decode yB 0 = .ok (.aload_n 0, 1) := by decide +kernel
theorem d1 : decode yB 1 = .ok (.invokespecial 1, 3) := by decide +kernel
theorem d4 : decode yB 4 = .ok (.iload_n 3, 1) := by decide +kernel
theorem d5 : decode yB 5 = .ok (.ifCond (.ne) 22, 3) := by decide +kernel
theorem d27 : decode yB 27 = .ok (.getstatic 38, 3) := by decide +kernel
theorem d30 : decode yB 30 = .ok (.ifCond (.eq) 28, 3) := by decide +kernel
theorem d33 : decode yB 33 = .ok (.aload_n 1, 1) := by decide +kernel
theorem d34 : decode yB 34 = .ok (.iload_n 2, 1) := by decide +kernel
theorem d35 : decode yB 35 = .ok (.iload_n 3, 1) := by decide +kernel
theorem d36 : decode yB 36 = .ok (.invokestatic 177, 3) := by decide +kernel
theorem d39 : decode yB 39 = .ok (.astore 5, 2) := by decide +kernel
theorem d41 : decode yB 41 = .ok (.aload_n 0, 1) := by decide +kernel
theorem d42 : decode yB 42 = .ok (.aload 5, 2) := by decide +kernel
theorem d44 : decode yB 44 = .ok (.iload_n 3, 1) := by decide +kernel
theorem d45 : decode yB 45 = .ok (.invokestatic 47, 3) := by decide +kernel
theorem d48 : decode yB 48 = .ok (.putfield 15, 3) := by decide +kernel
theorem d51 : decode yB 51 = .ok (.aload_n 0, 1) := by decide +kernel
theorem d52 : decode yB 52 = .ok (.aload 5, 2) := by decide +kernel
theorem d54 : decode yB 54 = .ok (.putfield 9, 3) := by decide +kernel
theorem d57 : decode yB 57 = .ok (.return_, 1) := by decide +kernel
def site : List Cond := [.fieldLink "java/lang/String" 38 "java/lang/String" "COMPACT_STRINGS" "Z", Cmp3.tab, CodL.tab, .laysFinal "java/lang/String" "java/lang/String" "value" "[B", .fieldLink "java/lang/String" 9 "java/lang/String" "value" "[B", .laysFinal "java/lang/String" "java/lang/String" "coder" "B", .fieldLink "java/lang/String" 15 "java/lang/String" "coder" "B"] ++ objW "java/lang/String" 1 ++ staticW "java/lang/String" 177 Cmp3.yN ++ staticW "java/lang/String" 47 CodL.yN
def tab : Cond := tabOf yN yB 6 none site
def P (a : Addr) (D : Cell) (fV fC : Field) (b : Addr) (A : Cell) (z : Int32) (o len : Nat) (args : Array Value) (s : State) : Prop := args = #[.ref a, .ref b, .int (Int32.ofNat o), .int (Int32.ofNat len), .null] ∧ Blank "java/lang/String" a D s ∧ Found "java/lang/String" "value" "[B" fV s ∧ Found "java/lang/String" "coder" "B" fC s ∧ Ch b A s ∧ StaticIs s "java/lang/String" "COMPACT_STRINGS" "Z" (.int z) ∧ ¬ z = 0 ∧ 0 < len ∧ o + len ≤ A.slots.size ∧ len ≤ 536870912 ∧ ∀ i, i < len → ¬ 255 < cv A (o + i)
def E (a : Addr) (D : Cell) (fV fC : Field) (A : Cell) (o len : Nat) (r : Option Value) (s u : State) : Prop := Got a D fV fC A o len r s u
/-- len > 0, no char of the range above 255: a Latin-1 String of their low bytes -/
theorem law (l : Launch) (a : Addr) (D : Cell) (fV fC : Field) (b : Addr) (A : Cell) (z : Int32) (o len : Nat) : Law l yN 5 4 2 35 yB 6 none site (P a D fV fC b A z o len) (E a D fV fC A o len) [⟨a, fC.slot⟩, ⟨a, fV.slot⟩] 1 len := by
  refine Law.of_walk (plainFor_of_name (by decide +kernel)) (by decide +kernel) (by decide +kernel) (by decide) (fun _ _ h => by rw [h.1]; rfl) (fun _ U U' hal hh h => ⟨h.1, h.2.1.mv hal hh, h.2.2.1.al hal, h.2.2.2.1.al hal, h.2.2.2.2.1.mv hal hh, h.2.2.2.2.2.1.there hal hh, h.2.2.2.2.2.2⟩) (fun r U U' V V' h1 hal h2 h => Got.mv r U U' V V' h1 hal h2 h) ?_
  intro p e s m args below meth c s₁ X0 hexec hbytes hml hret hlk hnm hown hh0 W hP
  obtain ⟨rfl, hB, f1, f2, hA, s1, hz, l0, l1, l2, hp⟩ := hP
  have a31 := hA.1.2.2.2
  have c1 : Steps p.tables e below (s₁.setTop (entryFrame m #[.ref a, .ref b, .int (Int32.ofNat o), .int (Int32.ofNat len), .null] 6)) (s₁.setTop (mkF m 0 #[.val (.ref a), .val (.ref b), .val (.int (Int32.ofNat o)), .val (.int (Int32.ofNat len)), .val .null, .unset] [])) := entry rfl
  have c2 : Steps p.tables e below (s₁.setTop (entryFrame m #[.ref a, .ref b, .int (Int32.ofNat o), .int (Int32.ofNat len), .null] 6)) (s₁.setTop (mkF m 1 #[.val (.ref a), .val (.ref b), .val (.int (Int32.ofNat o)), .val (.int (Int32.ofNat len)), .val .null, .unset] [.ref a])) := c1.trans (by
    refine XS.aloadN X0.here hexec rfl (hb hbytes d0) rfl rfl ?_
    exact Steps.refl _)
  obtain ⟨T3, X3, q3, st3⟩ := X0.oinit hexec hown (wks W (objW "java/lang/String" 1)) (g := (mkF m 1 #[.val (.ref a), .val (.ref b), .val (.int (Int32.ofNat o)), .val (.int (Int32.ofNat len)), .val .null, .unset] [.ref a])) rfl (by rw [hml]; rfl) (rest := []) rfl (hb hbytes d1) (W := 0) (by show 2 * 0 + 0 ≤ _; decide) (Nat.le_of_ble_eq_true rfl) (Nat.le_of_ble_eq_true rfl)
  have hh3 := q3.trans hh0
  have c4 : Steps p.tables e below (s₁.setTop (entryFrame m #[.ref a, .ref b, .int (Int32.ofNat o), .int (Int32.ofNat len), .null] 6)) (T3.setTop (mkF m 27 #[.val (.ref a), .val (.ref b), .val (.int (Int32.ofNat o)), .val (.int (Int32.ofNat len)), .val .null, .unset] [])) := (c2.trans (st3 _ (Steps.refl _))).trans (by
    refine XS.iloadN X3.here hexec rfl (hb hbytes d4) rfl ?_
    refine XS.ifYes X3.here hexec rfl (pc0 := 5) rfl (hb hbytes d5) rfl (i0_ne_t (nz32 (by omega) l0)) (by decide) rfl ?_
    exact Steps.refl _)
  obtain ⟨T5, X5, q5, st5⟩ := X3.sget hexec hown (wk W (.fieldLink "java/lang/String" 38 "java/lang/String" "COMPACT_STRINGS" "Z")) s1 (fun _ _ h => by rw [hh3]; exact h) (g := (mkF m 27 #[.val (.ref a), .val (.ref b), .val (.int (Int32.ofNat o)), .val (.int (Int32.ofNat len)), .val .null, .unset] [])) rfl (hb hbytes d27)
  have hh5 := q5.trans hh3
  have c6 : Steps p.tables e below (s₁.setTop (entryFrame m #[.ref a, .ref b, .int (Int32.ofNat o), .int (Int32.ofNat len), .null] 6)) (T5.setTop (mkF m 30 #[.val (.ref a), .val (.ref b), .val (.int (Int32.ofNat o)), .val (.int (Int32.ofNat len)), .val .null, .unset] [.int z])) := c4.trans (st5 _ (Steps.refl _))
  have c7 : Steps p.tables e below (s₁.setTop (entryFrame m #[.ref a, .ref b, .int (Int32.ofNat o), .int (Int32.ofNat len), .null] 6)) (T5.setTop (mkF m 36 #[.val (.ref a), .val (.ref b), .val (.int (Int32.ofNat o)), .val (.int (Int32.ofNat len)), .val .null, .unset] [.int (Int32.ofNat len), .int (Int32.ofNat o), .ref b])) := c6.trans (by
    refine XS.ifNo X5.here hexec rfl (hb hbytes d30) rfl (i0_eq_f hz) ?_
    refine XS.aloadN X5.here hexec rfl (hb hbytes d33) rfl rfl ?_
    refine XS.iloadN X5.here hexec rfl (hb hbytes d34) rfl ?_
    refine XS.iloadN X5.here hexec rfl (hb hbytes d35) rfl ?_
    exact Steps.refl _)
  obtain ⟨v8, T8, X8, E8, g8⟩ := X5.callS hexec (Cmp3.law l b A o len) hown (wks W (staticW "java/lang/String" 177 Cmp3.yN)) (wk W Cmp3.tab) (W := 0) (Nat.le_of_ble_eq_true rfl) (Nat.le_of_ble_eq_true rfl) (Nat.le_refl _) (by show 0 + len ≤ len; omega) (g := (mkF m 36 #[.val (.ref a), .val (.ref b), .val (.int (Int32.ofNat o)), .val (.int (Int32.ofNat len)), .val .null, .unset] [.int (Int32.ofNat len), .int (Int32.ofNat o), .ref b])) rfl (by rw [hml]; rfl) c7 (argsL := [.ref b, .int (Int32.ofNat o), .int (Int32.ofNat len)]) (rest := []) rfl rfl (by show 2 * 0 + 0 ≤ _; decide) (hb hbytes d36) (⟨rfl, hA.mv X5.warmed.alike hh5, l1, l2, hp⟩)
  obtain ⟨e8, z8⟩ := E8
  obtain ⟨rfl, N, n1, n2, n3, n4, n5, n6⟩ := NewArr.mv _ T5 s _ _ hh5.symm (Vm.Alike.refl _) rfl e8
  rw [hh5] at z8
  have hB1 := hB.keep X8.warmed.alike (n6 _ _ hB.1)
  have hne : s.heap.size ≠ a := (Nat.ne_of_lt (Array.getElem?_eq_some_iff.mp hB.1).1).symm
  have c9 : Steps p.tables e below (s₁.setTop (entryFrame m #[.ref a, .ref b, .int (Int32.ofNat o), .int (Int32.ofNat len), .null] 6)) (T8.setTop (mkF m 39 #[.val (.ref a), .val (.ref b), .val (.int (Int32.ofNat o)), .val (.int (Int32.ofNat len)), .val .null, .unset] [.ref s.heap.size])) := g8
  have c10 : Steps p.tables e below (s₁.setTop (entryFrame m #[.ref a, .ref b, .int (Int32.ofNat o), .int (Int32.ofNat len), .null] 6)) (T8.setTop (mkF m 45 #[.val (.ref a), .val (.ref b), .val (.int (Int32.ofNat o)), .val (.int (Int32.ofNat len)), .val .null, .val (.ref s.heap.size)] [.int (Int32.ofNat N.slots.size), .ref s.heap.size, .ref a])) := by
    have hc : Steps p.tables e below (s₁.setTop (entryFrame m #[.ref a, .ref b, .int (Int32.ofNat o), .int (Int32.ofNat len), .null] 6)) (T8.setTop (mkF m 45 #[.val (.ref a), .val (.ref b), .val (.int (Int32.ofNat o)), .val (.int (Int32.ofNat len)), .val .null, .val (.ref s.heap.size)] [.int (Int32.ofNat len), .ref s.heap.size, .ref a])) := c9.trans (by
      refine XS.astore X8.here hexec rfl (hb hbytes d39) rfl rfl rfl ?_
      refine XS.aloadN X8.here hexec rfl (hb hbytes d41) rfl rfl ?_
      refine XS.aload X8.here hexec rfl (hb hbytes d42) rfl rfl ?_
      refine XS.iloadN X8.here hexec rfl (hb hbytes d44) rfl ?_
      exact Steps.refl _)
    rw [n4]; exact hc
  obtain ⟨v11, T11, X11, E11, g11⟩ := X8.callS hexec (CodL.law l s.heap.size N) hown (wks W (staticW "java/lang/String" 47 CodL.yN)) (wk W CodL.tab) (W := 1) (Nat.le_of_ble_eq_true rfl) (Nat.le_of_ble_eq_true rfl) (Nat.le_refl _) (by show 0 + len + 0 ≤ len; omega) (g := (mkF m 45 #[.val (.ref a), .val (.ref b), .val (.int (Int32.ofNat o)), .val (.int (Int32.ofNat len)), .val .null, .val (.ref s.heap.size)] [.int (Int32.ofNat N.slots.size), .ref s.heap.size, .ref a])) rfl (by rw [hml]; rfl) c10 (argsL := [.ref s.heap.size, .int (Int32.ofNat N.slots.size)]) (rest := [.ref a]) rfl rfl (by show 2 * 0 + (1 + 0) ≤ _; decide) (hb hbytes d45) (⟨rfl, n1⟩)
  obtain ⟨rfl, q11⟩ := E11
  have hB11 := hB1.mv (X8.warmed.alike.symm.trans X11.warmed.alike) q11
  have c12 : Steps p.tables e below (s₁.setTop (entryFrame m #[.ref a, .ref b, .int (Int32.ofNat o), .int (Int32.ofNat len), .null] 6)) (T11.setTop (mkF m 48 #[.val (.ref a), .val (.ref b), .val (.int (Int32.ofNat o)), .val (.int (Int32.ofNat len)), .val .null, .val (.ref s.heap.size)] [.int 0, .ref a])) := g11
  obtain ⟨T13, X13, p13, bl13, sl13, st13⟩ := X11.finit hexec hown (wk W (.fieldLink "java/lang/String" 15 "java/lang/String" "coder" "B")) (Or.inr ⟨_, (wk W (.laysFinal "java/lang/String" "java/lang/String" "coder" "B"))⟩) (Or.inl ⟨rfl, hnm⟩) f2 (Or.inl rfl) hB11 (t := .byte) (by decide +kernel) rfl (g := (mkF m 48 #[.val (.ref a), .val (.ref b), .val (.int (Int32.ofNat o)), .val (.int (Int32.ofNat len)), .val .null, .val (.ref s.heap.size)] [.int 0, .ref a])) rfl (rest := []) rfl (hb hbytes d48)
  have c14 : Steps p.tables e below (s₁.setTop (entryFrame m #[.ref a, .ref b, .int (Int32.ofNat o), .int (Int32.ofNat len), .null] 6)) (T13.setTop (mkF m 54 #[.val (.ref a), .val (.ref b), .val (.int (Int32.ofNat o)), .val (.int (Int32.ofNat len)), .val .null, .val (.ref s.heap.size)] [.ref s.heap.size, .ref a])) := (c12.trans (st13 _ (Steps.refl _))).trans (by
    refine XS.aloadN X13.here hexec rfl (hb hbytes d51) rfl rfl ?_
    refine XS.aload X13.here hexec rfl (hb hbytes d52) rfl rfl ?_
    exact Steps.refl _)
  obtain ⟨T15, X15, p15, bl15, sl15, st15⟩ := X13.finit hexec hown (wk W (.fieldLink "java/lang/String" 9 "java/lang/String" "value" "[B")) (Or.inr ⟨_, (wk W (.laysFinal "java/lang/String" "java/lang/String" "value" "[B"))⟩) (Or.inl ⟨rfl, hnm⟩) f1 (Or.inl rfl) bl13 (t := (.array .byte)) (by decide +kernel) rfl (g := (mkF m 54 #[.val (.ref a), .val (.ref b), .val (.int (Int32.ofNat o)), .val (.int (Int32.ofNat len)), .val .null, .val (.ref s.heap.size)] [.ref s.heap.size, .ref a])) rfl (rest := []) rfl (hb hbytes d54)
  have c16 : Steps p.tables e below (s₁.setTop (entryFrame m #[.ref a, .ref b, .int (Int32.ofNat o), .int (Int32.ofNat len), .null] 6)) (T15.setTop (mkF m 57 #[.val (.ref a), .val (.ref b), .val (.int (Int32.ofNat o)), .val (.int (Int32.ofNat len)), .val .null, .val (.ref s.heap.size)] [])) := c14.trans (st15 _ (Steps.refl _))
  have ap := apart (Or.inr ⟨_, (wk W (.laysFinal "java/lang/String" "java/lang/String" "value" "[B"))⟩) (Or.inr ⟨_, (wk W (.laysFinal "java/lang/String" "java/lang/String" "coder" "B"))⟩) f1 f2 (t₁ := .array .byte) (t₂ := .byte) (by decide +kernel) (by decide +kernel) (by decide)
  have al := X8.warmed.alike.symm.trans X15.warmed.alike
  have n7 : T11.heap[s.heap.size]? = some N := by rw [q11]; exact n1.1
  exact ⟨T15, none, _, _, _, X15, by simp, rfl, by omega, (fun _ => rfl), ⟨rfl, _, N, bl15, ((Same.refl D _).set _ (by simp)).set _ (by simp), sl15, (Cell.slots_setSlot_ne _ ap).trans sl13, n1.keep al (p15.other hne (p13.other hne n7)), n2, by rw [al.findClass]; exact n3, n4, n5, fun y c h1 h2 => p15.other h1 (p13.other h1 (by rw [q11]; exact n6 y c h2)), by rw [p15.2.2, p13.2.2, q11]; exact z8⟩, fun fs hl => c16.trans (X15.returnOut hexec hret (hb hbytes d57) hl)⟩
end New4
namespace New1
def yN : MethodName := ⟨"java/lang/String", "<init>", "([C)V"⟩
abbrev yB : ByteArray := jdk_42_method_3_code
theorem d0 : decode yB 0 = .ok (.aload_n 0, 1) := by decide +kernel
theorem d1 : decode yB 1 = .ok (.aload_n 1, 1) := by decide +kernel
theorem d2 : decode yB 2 = .ok (.iconst 0, 1) := by decide +kernel
theorem d3 : decode yB 3 = .ok (.aload_n 1, 1) := by decide +kernel
theorem d4 : decode yB 4 = .ok (.arraylength, 1) := by decide +kernel
theorem d5 : decode yB 5 = .ok (.aconst_null, 1) := by decide +kernel
theorem d6 : decode yB 6 = .ok (.invokespecial 27, 3) := by decide +kernel
theorem d9 : decode yB 9 = .ok (.return_, 1) := by decide +kernel
def site : List Cond := [New4.tab] ++ initW "java/lang/String" 27 New4.yN
def tab : Cond := tabOf yN yB 2 none site
def P (a : Addr) (D : Cell) (fV fC : Field) (b : Addr) (A : Cell) (z : Int32) (args : Array Value) (s : State) : Prop := args = #[.ref a, .ref b] ∧ Blank "java/lang/String" a D s ∧ Found "java/lang/String" "value" "[B" fV s ∧ Found "java/lang/String" "coder" "B" fC s ∧ Ch b A s ∧ StaticIs s "java/lang/String" "COMPACT_STRINGS" "Z" (.int z) ∧ ¬ z = 0 ∧ 0 < A.slots.size ∧ A.slots.size ≤ 536870912 ∧ ∀ i, i < A.slots.size → ¬ 255 < cv A i
def E (a : Addr) (D : Cell) (fV fC : Field) (A : Cell) (r : Option Value) (s u : State) : Prop := Got a D fV fC A 0 A.slots.size r s u
/-- new String(chars), not empty, no char above 255: a Latin-1 String of their low bytes -/
theorem law (l : Launch) (a : Addr) (D : Cell) (fV fC : Field) (b : Addr) (A : Cell) (z : Int32) : Law l yN 2 1 3 52 yB 2 none site (P a D fV fC b A z) (E a D fV fC A) [⟨a, fC.slot⟩, ⟨a, fV.slot⟩] 1 A.slots.size := by
  refine Law.of_walk (plainFor_of_name (by decide +kernel)) (by decide +kernel) (by decide +kernel) (by decide) (fun _ _ h => by rw [h.1]; rfl) (fun _ U U' hal hh h => ⟨h.1, h.2.1.mv hal hh, h.2.2.1.al hal, h.2.2.2.1.al hal, h.2.2.2.2.1.mv hal hh, h.2.2.2.2.2.1.there hal hh, h.2.2.2.2.2.2⟩) (fun r U U' V V' h1 hal h2 h => Got.mv r U U' V V' h1 hal h2 h) ?_
  intro p e s m args below meth c s₁ X0 hexec hbytes hml hret hlk hnm hown hh0 W hP
  obtain ⟨rfl, hB, f1, f2, hA, s1, hz, l0, l2, hp⟩ := hP
  have c1 : Steps p.tables e below (s₁.setTop (entryFrame m #[.ref a, .ref b] 2)) (s₁.setTop (mkF m 0 #[.val (.ref a), .val (.ref b)] [])) := entry rfl
  have c2 : Steps p.tables e below (s₁.setTop (entryFrame m #[.ref a, .ref b] 2)) (s₁.setTop (mkF m 6 #[.val (.ref a), .val (.ref b)] [.null, .int (Int32.ofNat A.slots.size), .int 0, .ref b, .ref a])) := c1.trans (by
    refine XS.aloadN X0.here hexec rfl (hb hbytes d0) rfl rfl ?_
    refine XS.aloadN X0.here hexec rfl (hb hbytes d1) rfl rfl ?_
    refine iconstV X0.here hexec rfl 0 (hb hbytes d2) (by decide) ?_
    refine XS.aloadN X0.here hexec rfl (hb hbytes d3) rfl rfl ?_
    refine X0.alen hexec (hA.1.mv X0.warmed.alike hh0) rfl rfl (hb hbytes d4) ?_
    refine XS.aconstNull X0.here hexec rfl (hb hbytes d5) ?_
    exact Steps.refl _)
  obtain ⟨v3, T3, X3, E3, g3⟩ := X0.callN hexec (New4.law l a D fV fC b A z 0 A.slots.size) rfl hown (wks W (initW "java/lang/String" 27 New4.yN)) (W New4.tab (by simp only [site, List.mem_cons, List.mem_append, true_or, or_true])) (W := 0) (Nat.le_of_ble_eq_true rfl) (Nat.le_of_ble_eq_true rfl) (Nat.le_refl _) (by show 0 + A.slots.size ≤ A.slots.size; omega) (g := (mkF m 6 #[.val (.ref a), .val (.ref b)] [.null, .int (Int32.ofNat A.slots.size), .int (Int32.ofNat 0), .ref b, .ref a])) rfl (by rw [hml]; rfl) c2 (argsL := [.ref b, .int (Int32.ofNat 0), .int (Int32.ofNat A.slots.size), .null]) (rest := []) rfl rfl (by show 2 * 0 + 0 ≤ _; decide) (hb hbytes d6) (⟨rfl, hB.mv X0.warmed.alike hh0, f1.al X0.warmed.alike, f2.al X0.warmed.alike, hA.mv X0.warmed.alike hh0, s1.there X0.warmed.alike hh0, hz, l0, by omega, l2, fun i hi => by rw [Nat.zero_add]; exact hp i hi⟩)
  have e0 := Got.mv _ s₁ s _ _ hh0.symm (Vm.Alike.refl _) rfl E3
  obtain rfl := e0.1
  have c4 : Steps p.tables e below (s₁.setTop (entryFrame m #[.ref a, .ref b] 2)) (T3.setTop (mkF m 9 #[.val (.ref a), .val (.ref b)] [])) := g3
  exact ⟨T3, none, _, _, _, X3, by simp, rfl, by omega, (fun _ => rfl), e0, fun fs hl => c4.trans (X3.returnOut hexec hret (hb hbytes d9) hl)⟩
theorem pays {l : Launch} {R : Room} {p : Program} {e : Env} {below : List Frame} {s : State} {sargs : Array Value} {len W : Nat} (a : Addr) (D : Cell) (fV fC : Field) (b : Addr) (A : Cell) (z : Int32) (htab : tab.before sargs s = true) (hfr : 4 ≤ R.frames) (hlo : W + 65 ≤ R.locals) :
    Back l R p e below s sargs yN len W (fun A₁ a₁ => A₁.cells + 1 ≤ R.cells ∧ A₁.slots + A.slots.size ≤ R.slots ∧ P a D fV fC b A z a₁ A₁.U) (fun A₁ _ v₁ B₁ => E a D fV fC A v₁ A₁.U B₁.U ∧ B₁.locs = A₁.locs ++ [⟨a, fC.slot⟩, ⟨a, fV.slot⟩] ∧ B₁.cells = A₁.cells + 1 ∧ B₁.slots = A₁.slots + A.slots.size) :=
  (law l a D fV fC b A z).pays htab hfr (by omega)
end New1
end StrChars
namespace StrChars.Road
open Jvm Sem ClassFile Op Lib Jvm.Stand Jvm.Free Jvm.Free.XT
open Jvm.Lib.Cold (StaticIs)
abbrev ST : String := "java/lang/String"
/-- every table word that New1's law asks, flat -/
abbrev words : List Jvm.Cond := [.code New1.yN New1.yB 2 none, .initialized ST, .methodLink ST 27 New4.yN, .instanceMethod New4.yN,
  .code New4.yN New4.yB 6 none, .fieldLink ST 38 ST "COMPACT_STRINGS" "Z", .laysFinal ST ST "value" "[B", .fieldLink ST 9 ST "value" "[B", .laysFinal ST ST "coder" "B", .fieldLink ST 15 ST "coder" "B",
  .methodLink ST 1 Lib.objectInit, .instanceMethod Lib.objectInit, .code Lib.objectInit ⟨#[0xb1]⟩ 1 none, .methodLink ST 177 Cmp3.yN, .static Cmp3.yN, .methodLink ST 47 CodL.yN, .static CodL.yN,
  .code Cmp3.yN Cmp3.yB 6 (some (.array .byte)), .initialized U16, .arrayClass .byte, .methodLink U16 115 Cmp5.yN, .static Cmp5.yN, .code Cmp5.yN Cmp5.yB 7 (some .int), .code CodL.yN CodL.yB 2 (some .byte)]
theorem tab_of {a : Array Value} {s : State} (h : ∀ w ∈ words, w.before a s = true) : New1.tab.before a s = true := by
  have h5 : Cmp5.tab.before a s = true := unparts (wk h (.code Cmp5.yN Cmp5.yB 7 (some .int))) (wks h (.initialized Cmp5.yN.cls :: Cmp5.site))
  have hc : CodL.tab.before a s = true := unparts (wk h (.code CodL.yN CodL.yB 2 (some .byte))) (wks h (.initialized CodL.yN.cls :: CodL.site))
  have q5 : ∀ w ∈ Cmp5.tab :: words, w.before a s = true := fun w hw => (List.mem_cons.mp hw).elim (fun e => e ▸ h5) (h w)
  have h3 : Cmp3.tab.before a s = true := unparts (wk q5 (.code Cmp3.yN Cmp3.yB 6 (some (.array .byte)))) (wks q5 (.initialized Cmp3.yN.cls :: Cmp3.site))
  have q3 : ∀ w ∈ Cmp3.tab :: CodL.tab :: words, w.before a s = true := fun w hw => (List.mem_cons.mp hw).elim (fun e => e ▸ h3) fun hw => (List.mem_cons.mp hw).elim (fun e => e ▸ hc) (h w)
  have h4 : New4.tab.before a s = true := unparts (wk q3 (.code New4.yN New4.yB 6 none)) (wks q3 (.initialized New4.yN.cls :: New4.site))
  have q4 : ∀ w ∈ New4.tab :: words, w.before a s = true := fun w hw => (List.mem_cons.mp hw).elim (fun e => e ▸ h4) (h w)
  exact unparts (wk q4 (.code New1.yN New1.yB 2 none)) (wks q4 (.initialized New1.yN.cls :: New1.site))
/-- the words ride from the start Z to the walk's own state -/
theorem moved {Z s : State} {a0 args : Array Value} (hZ : Z.Warmed39 s.vm) (hw : ∀ d ∈ words, d.before a0 Z = true) : ∀ d ∈ words, d.before args s = true := fun d hd => by
  have q := hw d hd
  have t : ∀ d ∈ words, d = .arrayClass .byte ∨ (d.onTables && d.keepsFace) = true := by decide +kernel
  rcases t d hd with rfl | t
  · exact RoadKit.mvA hZ q
  · exact RoadKit.mv hZ q t
/-- WHAT COMES BACK, over the tables of the start Z: h the heap at the call, h' behind it -/
def Q (Z : State) (x : Addr) (A : Cell) (h : Heap) (v : Option Value) (h' : Heap) (L : List Loc) : Prop := v = none ∧ (∀ y ∈ L, y.base = x) ∧ RoadKit.Keep h h' [x] ∧ h'.size = h.size + 1 ∧ RoadKit.Exa Z h' x ST ∧ RoadKit.Fld Z h' x ST "value" "[B" (.ref h.size) ∧ RoadKit.Fld Z h' x ST "coder" "B" (.int 0) ∧
  (∃ V : Cell, RoadKit.Arr Z h' h.size V .byte ∧ V.vm = .none ∧ Z.vm.findClass "[B" = some V.cls ∧ V.slots.size = A.slots.size ∧ ∀ j, j < A.slots.size → V.slots[j]? = some (.int (lo8 (cv A j)))) ∧
  ∀ (O n d : String) (w : Value), RoadKit.Fld Z h x O n d w → RoadKit.slotOf Z O n d ≠ RoadKit.slotOf Z ST "value" "[B" → RoadKit.slotOf Z O n d ≠ RoadKit.slotOf Z ST "coder" "B" → RoadKit.Fld Z h' x O n d w
/-- **new String(chars) AT A CALL, IN THE ROAD'S FORM**: for specialBack behind newO: x the fresh String, b the char[] with the cell A -/
theorem back {p : Program} {l : Launch} {e : Env} {R : Room} {s : State} {args : Array Value} {below : List Frame} {len W : Nat} {Z : State} {a0 : Array Value} {h : Heap} (hZ : Z.Warmed39 s.vm) (hw : ∀ d ∈ words, d.before a0 Z = true) {kI : Nat} (wi : (Jvm.Cond.instantiable ST kI).before a0 Z = true)
    {x b : Addr} {A : Cell} {z : Int32} {v0 c0 : Value} (E : RoadKit.Exa Z h x ST) (V : RoadKit.Fld Z h x ST "value" "[B" v0) (C : RoadKit.Fld Z h x ST "coder" "B" c0) (K : RoadKit.Arr Z h b A .char) (hty : Typed .char A) (S : RoadKit.Sta Z h ST "COMPACT_STRINGS" "Z" (.int z)) (hz : ¬ z = 0)
    (l0 : 0 < A.slots.size) (l2 : A.slots.size ≤ 536870912) (hp : ∀ i, i < A.slots.size → ¬ 255 < cv A i) (hfr : 4 ≤ R.frames) (hlo : W + 65 ≤ R.locals) :
    Back l R p e below s args New1.yN len W (fun P a => a = #[.ref x, .ref b] ∧ P.U.heap = h ∧ P.cells + 1 ≤ R.cells ∧ P.slots + A.slots.size ≤ R.slots)
      (fun P _ v B => ∃ L, Q Z x A h v B.U.heap L ∧ B.locs = P.locs ++ L ∧ B.cells = P.cells + 1 ∧ B.slots = P.slots + A.slots.size) := by
  intro m meth c P g ig mk a X hg hsize hdg hW hn hp'
  obtain ⟨rfl, rfl, r1, r2⟩ := hp'
  have al : Z.vm.Alike P.U.vm := hZ.alike.trans X.warmed.alike
  obtain ⟨D, cfV, kV, iV, fV, hD, gV, stV, knV, obV, asV, slV⟩ := id V
  obtain ⟨D', cfC, kC, iC, fC, hD', gC, stC, -, -, asC, slC⟩ := id C
  cases hD.symm.trans hD'
  obtain ⟨D2, kD, e1, e2, e3, e4, e5⟩ := id E
  cases hD.symm.trans e1
  obtain ⟨c2, k2, i1, i2, i3, -⟩ := Cond.instantiable_spec wi
  cases e2.symm.trans i1
  cases e3.symm.trans i2
  obtain ⟨kU, u1, u2⟩ := al.2.2 _ _ e3
  have hB : Blank ST x D P.U := ⟨hD, ⟨knV, fun q hq => by rw [hq] at obV; cases obV⟩, by rw [al.findClass]; exact e2, kU, u1, by rw [u2]; exact i3, by rw [u2]; exact e5 i3⟩
  have F1 : Found ST "value" "[B" fV P.U := ⟨SBG.found_only al ⟨cfV, kV, iV, gV⟩, stV⟩
  have F2 : Found ST "coder" "B" fC P.U := ⟨SBG.found_only al ⟨cfC, kC, iC, gC⟩, stC⟩
  have hA : Ch b A P.U := ⟨⟨K.1, State.isArrayOf_alike al K.2.1, K.2.2, by omega⟩, hty⟩
  have hS : StaticIs P.U ST "COMPACT_STRINGS" "Z" (.int z) := by
    obtain ⟨cfS, iS, kS, fS, st, cS, t1, t2, t3, t4, t5, t6, t7⟩ := S
    exact StaticIs.there (s := { Z with heap := P.U.heap }) ⟨cfS, iS, kS, fS, st, cS, t1, t2, t3, t4, t5, (fun q => by rw [q] at t6; cases t6), t7⟩ al rfl
  obtain ⟨v, B, X', ⟨⟨hv, E', V', q1, q2, q3, q4, q5, q6, q7, q8, q9, q10, q11⟩, hl, hc, hs⟩, st⟩ := New1.pays x D fV fC b A z (tab_of (moved hZ hw)) hfr hlo m meth c P g ig mk _ X hg hsize hdg hW hn ⟨r1, r2, rfl, hB, F1, F2, hA, hS, hz, l0, l2, hp⟩
  have al' : Z.vm.Alike B.U.vm := hZ.alike.trans X'.warmed.alike
  have hsz : E'.slots.size = D.slots.size := by
    obtain ⟨-, -, -, kB, w1, w2, w3⟩ := q1
    obtain ⟨kB', y1, y2⟩ := al'.2.2 _ _ e3
    rw [q2.2.1] at w1
    cases w1.symm.trans y1
    rw [w3, e5 i3, y2]
  refine ⟨v, B, X', ⟨_, ⟨hv, ?_, ⟨by omega, fun y cy hy hn' => q10 y cy (by simpa using hn') hy, fun y cy hy => ?_⟩, q11, ⟨E', _, q1.1, by rw [q2.2.1]; exact e2, by rw [q2.2.1]; exact e3, by rw [q2.1]; exact obV, fun _ => by rw [hsz]; exact e5 i3⟩,
    ⟨E', cfV, kV, iV, fV, q1.1, gV, stV, by rw [q2.1]; exact knV, by rw [q2.1]; exact obV, by rw [q2.2.1]; exact asV, q3⟩, ⟨E', cfC, kC, iC, fC, q1.1, gC, stC, by rw [q2.1]; exact knV, by rw [q2.1]; exact obV, by rw [q2.2.1]; exact asC, q4⟩,
    ⟨V', ⟨q5.1, State.isArrayOf_alike al'.symm q5.2.1, q5.2.2.1⟩, q6, by rw [← al'.findClass]; exact q7, q8, fun j hj => by have := q9 j hj; rwa [Nat.zero_add] at this⟩, fun O n d w F n1 n2 => ?_⟩, hl, hc, hs⟩, st⟩
  · intro y hy
    simp only [List.mem_cons, List.not_mem_nil, or_false] at hy
    rcases hy with rfl | rfl <;> rfl
  · by_cases q : y = x
    · subst q
      cases hD.symm.trans hy
      exact ⟨E', q1.1, q2.2.1, q2.1, hsz⟩
    · exact ⟨cy, q10 y cy q hy, rfl, rfl, rfl⟩
  · obtain ⟨D3, cf, k, i, f, g1, g2, g3, g4, g5, g6, g7⟩ := F
    cases hD.symm.trans g1
    simp only [RoadKit.slotOf, g2, gV, gC, Option.map_some, Option.getD_some] at n1 n2
    exact ⟨E', cf, k, i, f, q1.1, g2, g3, by rw [q2.1]; exact g4, by rw [q2.1]; exact g5, by rw [q2.2.1]; exact g6, by rw [q2.2.2 f.slot (by simp [n1, n2])]; exact g7⟩
end StrChars.Road
namespace StrChars.Road
open Jvm Sem ClassFile Op Lib Jvm.Stand Jvm.Free Jvm.Free.XT
/-- WHAT COMES BACK, the byte[] as a list of values -/
def QA (Z : State) (x : Addr) (zn : Int32) (cs : List Int32) (h : Heap) (v : Option Value) (h' : Heap) (L : List Loc) : Prop := v = none ∧ (∀ y ∈ L, y.base = x) ∧ RoadKit.Keep h h' [x] ∧ h'.size = h.size + 1 ∧ RoadKit.Exa Z h' x ST ∧ RoadKit.Fld Z h' x ST "value" "[B" (.ref h.size) ∧ RoadKit.Fld Z h' x ST "coder" "B" (.int 0) ∧
  (∃ kb, Z.vm.findClass "[B" = some kb ∧ RoadKit.Arv Z h' h.size kb .byte zn (cs.map fun c => .int (lo8 c)) (.int 0)) ∧
  ∀ (O n d : String) (w : Value), RoadKit.Fld Z h x O n d w → RoadKit.slotOf Z O n d ≠ RoadKit.slotOf Z ST "value" "[B" → RoadKit.slotOf Z O n d ≠ RoadKit.slotOf Z ST "coder" "B" → RoadKit.Fld Z h' x O n d w
/-- **new String(chars) AT A CALL, THE ARRAYS AS LISTS**: the char[] at b holds cs, not empty, no char above 255 -/
theorem backArv {p : Program} {l : Launch} {e : Env} {R : Room} {s : State} {args : Array Value} {below : List Frame} {len W : Nat} {Z : State} {a0 : Array Value} {h : Heap} (hZ : Z.Warmed39 s.vm) (hw : ∀ d ∈ words, d.before a0 Z = true) {kI : Nat} (wi : (Jvm.Cond.instantiable ST kI).before a0 Z = true)
    {x b : Addr} {k : ClassId} {zn z : Int32} {cs : List Int32} {dv v0 c0 : Value} (E : RoadKit.Exa Z h x ST) (V : RoadKit.Fld Z h x ST "value" "[B" v0) (C : RoadKit.Fld Z h x ST "coder" "B" c0) (K : RoadKit.Arv Z h b k .char zn (cs.map Value.int) dv) (S : RoadKit.Sta Z h ST "COMPACT_STRINGS" "Z" (.int z)) (hz : ¬ z = 0)
    (hlen : zn.toNatClampNeg = cs.length) (h0 : 0 < cs.length) (hbig : cs.length ≤ 536870912) (hall : ∀ c ∈ cs, ¬ 255 < c) (hfr : 4 ≤ R.frames) (hlo : W + 65 ≤ R.locals) :
    Back l R p e below s args New1.yN len W (fun P a => a = #[.ref x, .ref b] ∧ P.U.heap = h ∧ P.cells + 1 ≤ R.cells ∧ P.slots + cs.length ≤ R.slots)
      (fun P _ v B => ∃ L, QA Z x zn cs h v B.U.heap L ∧ B.locs = P.locs ++ L ∧ B.cells = P.cells + 1 ∧ B.slots = P.slots + cs.length) := by
  obtain ⟨A, K1, K2, K3, K4, K5, K6⟩ := K
  have e : A.slots.size = cs.length := K3.trans hlen
  have hat : ∀ (i : Nat) (hi : i < cs.length), A.slots[i]? = some (.int cs[i]) := fun i hi => by rw [K5 i (by omega)]; simp [List.getD_eq_getElem?_getD, hi]
  have hcv : ∀ (i : Nat) (hi : i < cs.length), cv A i = cs[i] := fun i hi => by unfold cv; rw [hat i hi]
  have hty : Typed .char A := fun i v hv => by
    have hi : i < A.slots.size := (Array.getElem?_eq_some_iff.mp hv).1
    have q := K5 i hi
    rw [hv] at q
    rw [Option.some.inj q]
    exact K6 i hi
  refine Back.mono (back hZ hw wi E V C K1 hty S hz (by omega) (by omega) (fun i hi => by rw [hcv i (by omega)]; exact hall _ (List.getElem_mem _)) hfr hlo) (fun P a hp => ⟨hp.1, hp.2.1, hp.2.2.1, by rw [e]; exact hp.2.2.2⟩) (fun P a v B hp hq => ?_)
  obtain ⟨L, ⟨q1, q2, q3, q4, q5, q6, q7, ⟨V', v1, v2, v3, v4, v5⟩, q9⟩, hl, hc, hs⟩ := hq
  refine ⟨L, ⟨q1, q2, q3, q4, q5, q6, q7, ⟨V'.cls, v3, V', v1, rfl, by rw [v4, e, hlen], K4, fun i hi => ?_, fun i hi => ?_⟩, q9⟩, hl, hc, by rw [hs, e]⟩
  · have hi' : i < cs.length := by omega
    rw [v5 i (by omega), hcv i hi']; simp [List.getD_eq_getElem?_getD, hi']
  · have hi' : i < cs.length := by omega
    simp only [List.getD_eq_getElem?_getD, List.getElem?_map, List.getElem?_eq_getElem hi', Option.map_some, Option.getD_some]
    exact fits_lo8 _
end StrChars.Road
namespace StrChars.Road
open Jvm Sem ClassFile Op Lib Jvm.Stand Jvm.Free Jvm.Free.XT
/-- WHAT COMES BACK, in the writer's own shape -/
def QV (Z : State) (x : Addr) (N : Int32) (bs : List Int32) (h : Heap) (n0 : Nat) (v : Option Value) (h' : Heap) (L : List Loc) : Prop := v = none ∧ RoadKit.Fr n0 L ∧ RoadKit.Keep h h' [x] ∧ RoadKit.Exa Z h' x ST ∧ RoadKit.Fld Z h' x ST "coder" "B" (.int 0) ∧
  ∃ (t : Addr) (kb : ClassId), n0 ≤ t ∧ h.size ≤ t ∧ ¬ t = x ∧ RoadKit.Fld Z h' x ST "value" "[B" (.ref t) ∧ RoadKit.Arv Z h' t kb .byte N (bs.map Value.int) (.int 0)
/-- **new String(chars) AT A CALL, FOR THE WRITER**: a char[] of n known ints, each 0 to 255 -/
theorem backV {p : Program} {l : Launch} {e : Env} {R : Room} {s : State} {args : Array Value} {below : List Frame} {len W : Nat} {Z : State} {a0 : Array Value} {h : Heap} (hZ : Z.Warmed39 s.vm) (hw : ∀ d ∈ words, d.before a0 Z = true) {kI : Nat} (wi : (Jvm.Cond.instantiable ST kI).before a0 Z = true)
    {x b : Addr} {kC : ClassId} {cs bs : List Int32} {d v0 c0 : Value} {z N : Int32} {n n0 : Nat} (hx0 : n0 ≤ x) (hh0 : n0 ≤ h.size) (E : RoadKit.Exa Z h x ST) (V : RoadKit.Fld Z h x ST "value" "[B" v0) (C : RoadKit.Fld Z h x ST "coder" "B" c0) (K : RoadKit.Arv Z h b kC .char N (cs.map Value.int) d) (S : RoadKit.Sta Z h ST "COMPACT_STRINGS" "Z" (.int z)) (hz : ¬ z = 0)
    (hn : cs.length = n) (hN : N = Int32.ofNat n) (l0 : 0 < n) (l2 : n ≤ 4000) (hp : ∀ c ∈ cs, ¬ c < 0 ∧ ¬ (255 : Int32) < c) (hb : bs = cs.map (fun c => c.toInt8.toInt32)) (hfr : 4 ≤ R.frames) (hlo : W + 65 ≤ R.locals) :
    Back l R p e below s args (⟨"java/lang/String", "<init>", "([C)V"⟩ : MethodName) len W (fun P a => a = #[.ref x, .ref b] ∧ P.U.heap = h ∧ P.cells + 1 ≤ R.cells ∧ P.slots + n ≤ R.slots)
      (fun P _ v B => ∃ L, QV Z x N bs h n0 v B.U.heap L ∧ B.locs = P.locs ++ L ∧ B.cells = P.cells + 1 ∧ B.slots = P.slots + n) := by
  subst hn hN hb
  refine Back.mono (backArv hZ hw wi E V C K S hz (n32 (by omega)) l0 (by omega) (fun c hc => (hp c hc).2) hfr hlo) (fun P a hp => hp) (fun P a v B hp hq => ?_)
  obtain ⟨L, ⟨q1, q2, q3, q4, q5, q6, q7, ⟨kb, v1, v2⟩, q9⟩, hl, hc, hs⟩ := hq
  exact ⟨L, ⟨q1, fun y hy => by rw [q2 y hy]; exact hx0, q3, q5, q7, h.size, kb, hh0, Nat.le_refl _, Nat.ne_of_gt E.lt, q6, by rw [List.map_map]; exact v2⟩, hl, hc, hs⟩
end StrChars.Road
end Jvm.Pilot.@@N@@

namespace Jvm.Pilot.@@N@@
open Jvm Jvm.ClassFile Sem Op Lib Jvm.Free Jvm.Stand Jvm.LawKit Jvm.RoadKit Bundle Jvm.Pilot.@@N@@.Jvm.D

theorem and255_chars (x : Int32) : ¬ nar .char ((x &&& (255 : Int32)).toUInt32.toUInt16.toUInt32.toInt32) < 0 ∧ ¬ (255 : Int32) < nar .char ((x &&& (255 : Int32)).toUInt32.toUInt16.toUInt32.toInt32) := by
  have t : ∀ k : Fin 256, ¬ nar .char ((Int32.ofNat k.val).toUInt32.toUInt16.toUInt32.toInt32) < 0 ∧ ¬ (255 : Int32) < nar .char ((Int32.ofNat k.val).toUInt32.toUInt16.toUInt32.toInt32) := by decide +kernel
  have h : (x &&& 255).toBitVec.toNat < 256 := by
    simp only [Int32.toBitVec_and, BitVec.toNat_and]
    exact Nat.lt_succ_of_le Nat.and_le_right
  have e : (x &&& 255) = Int32.ofNat (x &&& 255).toBitVec.toNat := by
    apply Int32.toBitVec_inj.mp
    show _ = BitVec.ofNat 32 _
    rw [BitVec.ofNat_toNat]; simp
  rw [e]
  exact t ⟨_, h⟩
theorem own_strwords : ∀ d ∈ StrChars.Road.words, d ∈ tables_1 := by decide +kernel

theorem own_strAtoms : ∀ d ∈ Bundle.stringAtoms, d ∈ tables_1 := by decide +kernel
theorem own_wS {Z : State} {a0 : Array Value} (hw : ∀ d ∈ tables_1, d.before a0 Z = true) : ∀ d ∈ Bundle.stringAtoms, d.before a0 Z = true := fun d hd => hw d (own_strAtoms d hd)

theorem d_jdk_30_method_1_code_0 : decode jdk_30_method_1_code 0 = .ok (.aload_n 0, 1) := by decide +kernel
theorem d_jdk_30_method_1_code_1 : decode jdk_30_method_1_code 1 = .ok (.invokespecial 1, 3) := by decide +kernel
theorem d_jdk_30_method_1_code_4 : decode jdk_30_method_1_code 4 = .ok (.return_, 1) := by decide +kernel
theorem pn_java_lang_Record : plainName "java/lang/Record" = true := by first | (simp [plainName, overriddenIn]; done) | decide +kernel
theorem ef_rec (m : MethodId) (x0 : Addr) : entryFrame m #[(.ref x0)] 1 = mkF m 0 #[.val (.ref x0)] [] := by (first | (simp [entryFrame, mkF, argsToLocals, Value.category]; done) | rfl)
def Q_rec  (h0 : Heap) (n0 : Nat) (v : Option Value) (h : Heap) (L : List Loc) : Prop := v = none ∧ Fr n0 L ∧ h = h0
set_option maxRecDepth 65536 in
set_option maxHeartbeats 40000000 in
theorem rm_rec (l : Launch) (Z : State) (a0 : Array Value) (hw : ∀ d ∈ tables_1, d.before a0 Z = true) (ws : List Jvm.Cond) (a1 : Addr) (h0 : Heap) (n0 : Nat) (Z0 : n0 ≤ h0.size)  :
    MetFree l (⟨"java/lang/Record", "<init>", "()V"⟩ : MethodName) (head1 (Jvm.Cond.code (⟨"java/lang/Record", "<init>", "()V"⟩ : MethodName) jdk_30_method_1_code 1 none :: ws) ({ frames := 1, cells := 0, slots := 0, locals := 12 } : Room)) (fun a U => a = #[(.ref a1)] ∧ Z.Warmed39 U.vm ∧ U.heap = h0) (fun _ _ _ _ _ => True) (fun _ U o U' => ∃ v L, o = .returned v ∧ Q_rec  h0 n0 v U'.heap L ∧ FrameEnd U o U' L ({ frames := 1, cells := 0, slots := 0, locals := 12 } : Room).cells ({ frames := 1, cells := 0, slots := 0, locals := 12 } : Room).slots) := by
  refine MetFree.of_bodySF (plainFor_of_name pn_java_lang_Record) hisR ?_
  intro p e s m args below meth c s₁ Bd hml0 hP hK
  obtain ⟨rfl, hZ, hh⟩ := hP
  have hx := Bd.exec
  have hby := Bd.bytes
  have hml : c.maxLocals = 1 := hml0
  have hown : s.vm.findClass "java/lang/Record" = some m.cls := findClass_of_methodNamed Bd.named
  have hnm := (name_of_methodNamed Bd.named Bd.method).1
  have X0 : Stand p l e ({ frames := 1, cells := 0, slots := 0, locals := 12 } : Room) s m #[(.ref a1)] below meth c s₁ [] 0 0 := Stand.of_body Bd
  have e0 : s₁.heap = h0 := by rw [← hh, Bd.state]; rfl
  have N0 := Fr.nil n0
  have pre0 : ∀ t, Steps p.tables e below (s₁.setTop (mkF m 0 #[.val (.ref a1)] [])) t → Steps p.tables e below (s₁.setTop (entryFrame m #[(.ref a1)] 1)) t := fun t k => castTop (ef_rec m a1) k
  have P0 : ∀ t, Steps p.tables e below (s₁.setTop (mkF m 0 #[.val (.ref a1)] [])) t → Steps p.tables e below (s₁.setTop (mkF m 0 #[.val (.ref a1)] [])) t := fun t k => k
  obtain ⟨T1, X1, e1, st1⟩ := initO X0 hx hZ hown (hw _ (List.mem_of_getElem? (i := 46) rfl)) (hw _ (List.mem_of_getElem? (i := 20) rfl)) (hw _ (List.mem_of_getElem? (i := 21) rfl)) e0 (g := (mkF m 1 #[.val (.ref a1)] [(.ref a1)])) rfl (by rw [hml]; rfl) rfl (hb hby d_jdk_30_method_1_code_1) (by decide) (W := 0) (by show 2 * 0 + _ ≤ _; exact Nat.le_of_eq rfl) (by decide)
  have P2 : ∀ t, Steps p.tables e below (T1.setTop (mkF m 4 #[.val (.ref a1)] [])) t → Steps p.tables e below (s₁.setTop (mkF m 0 #[.val (.ref a1)] [])) t := fun t k => P0 t (by
    refine XS.aloadN X0.here hx rfl (hb hby d_jdk_30_method_1_code_0) rfl rfl ?_
    show Steps p.tables e below (s₁.setTop (mkF m 1 #[.val (.ref a1)] [(.ref a1)])) _
    exact st1 _ k)
  obtain ⟨fs3, hr3, hrun3, hended3, hW3, hsame3⟩ := X1.leave (v := none) (fun _ => rfl)
  refine ⟨_, _, pre0 _ (P2 _ ?_), hrun3, hended3, _, _, rfl, ?_, ⟨⟨_, rfl⟩, hW3, hsame3.mono (Nat.le_of_ble_eq_true rfl) (Nat.le_of_ble_eq_true rfl)⟩⟩
  · show Steps p.tables e below (T1.setTop (mkF m 4 #[.val (.ref a1)] [])) _
    exact X1.returnOut hx Bd.returns (hb hby d_jdk_30_method_1_code_4) hr3
  · show Q_rec  h0 n0 _ T1.heap _
    rw [e1]
    exact ⟨rfl, N0, rfl⟩

theorem d_jdk_31_method_11_code_0 : decode jdk_31_method_11_code 0 = .ok (.aload_n 0, 1) := by decide +kernel
theorem d_jdk_31_method_11_code_1 : decode jdk_31_method_11_code 1 = .ok (.ifnonnull 12, 3) := by decide +kernel
theorem d_jdk_31_method_11_code_13 : decode jdk_31_method_11_code 13 = .ok (.aload_n 0, 1) := by decide +kernel
theorem d_jdk_31_method_11_code_14 : decode jdk_31_method_11_code 14 = .ok (.areturn, 1) := by decide +kernel
theorem pn_java_util_Objects : plainName "java/util/Objects" = true := by first | (simp [plainName, overriddenIn]; done) | decide +kernel
theorem ef_rnn (m : MethodId) (x0 : Addr) (x1 : Addr) : entryFrame m #[(.ref x0), (.ref x1)] 2 = mkF m 0 #[.val (.ref x0), .val (.ref x1)] [] := by (first | (simp [entryFrame, mkF, argsToLocals, Value.category]; done) | rfl)
def Q_rnn (a1 : Addr) (h0 : Heap) (n0 : Nat) (v : Option Value) (h : Heap) (L : List Loc) : Prop := v = some (.ref a1) ∧ Fr n0 L ∧ h = h0
set_option maxRecDepth 65536 in
set_option maxHeartbeats 40000000 in
theorem rm_rnn (l : Launch) (Z : State) (a0 : Array Value) (hw : ∀ d ∈ tables_1, d.before a0 Z = true) (ws : List Jvm.Cond) (a1 a2 : Addr) (h0 : Heap) (n0 : Nat) (Z0 : n0 ≤ h0.size)  :
    MetFree l (⟨"java/util/Objects", "requireNonNull", "(Ljava/lang/Object;Ljava/lang/String;)Ljava/lang/Object;"⟩ : MethodName) (head1 (Jvm.Cond.code (⟨"java/util/Objects", "requireNonNull", "(Ljava/lang/Object;Ljava/lang/String;)Ljava/lang/Object;"⟩ : MethodName) jdk_31_method_11_code 2 (some (.object "java/lang/Object")) :: ws) ({ frames := 0, cells := 0, slots := 0, locals := 0 } : Room)) (fun a U => a = #[(.ref a1), (.ref a2)] ∧ Z.Warmed39 U.vm ∧ U.heap = h0) (fun _ _ _ _ _ => True) (fun _ U o U' => ∃ v L, o = .returned v ∧ Q_rnn a1 h0 n0 v U'.heap L ∧ FrameEnd U o U' L ({ frames := 0, cells := 0, slots := 0, locals := 0 } : Room).cells ({ frames := 0, cells := 0, slots := 0, locals := 0 } : Room).slots) := by
  refine MetFree.of_bodySF (plainFor_of_name pn_java_util_Objects) hisR ?_
  intro p e s m args below meth c s₁ Bd hml0 hP hK
  obtain ⟨rfl, hZ, hh⟩ := hP
  have hx := Bd.exec
  have hby := Bd.bytes
  have hml : c.maxLocals = 2 := hml0
  have hown : s.vm.findClass "java/util/Objects" = some m.cls := findClass_of_methodNamed Bd.named
  have hnm := (name_of_methodNamed Bd.named Bd.method).1
  have X0 : Stand p l e ({ frames := 0, cells := 0, slots := 0, locals := 0 } : Room) s m #[(.ref a1), (.ref a2)] below meth c s₁ [] 0 0 := Stand.of_body Bd
  have e0 : s₁.heap = h0 := by rw [← hh, Bd.state]; rfl
  have N0 := Fr.nil n0
  have pre0 : ∀ t, Steps p.tables e below (s₁.setTop (mkF m 0 #[.val (.ref a1), .val (.ref a2)] [])) t → Steps p.tables e below (s₁.setTop (entryFrame m #[(.ref a1), (.ref a2)] 2)) t := fun t k => castTop (ef_rnn m a1 a2) k
  have P0 : ∀ t, Steps p.tables e below (s₁.setTop (mkF m 0 #[.val (.ref a1), .val (.ref a2)] [])) t → Steps p.tables e below (s₁.setTop (mkF m 0 #[.val (.ref a1), .val (.ref a2)] [])) t := fun t k => k
  obtain ⟨fs4, hr4, hrun4, hended4, hW4, hsame4⟩ := X0.leave (v := some (.ref a1)) (fun h => by rw [Bd.returns] at h; cases h)
  refine ⟨_, _, pre0 _ (P0 _ ?_), hrun4, hended4, _, _, rfl, ?_, ⟨⟨_, rfl⟩, hW4, hsame4.mono (Nat.le_of_ble_eq_true rfl) (Nat.le_of_ble_eq_true rfl)⟩⟩
  · refine XS.aloadN X0.here hx rfl (hb hby d_jdk_31_method_11_code_0) rfl rfl ?_
    show Steps p.tables e below (s₁.setTop (mkF m 1 #[.val (.ref a1), .val (.ref a2)] [(.ref a1)])) _
    refine XS.ifnonnullYes X0.here hx rfl (pc0 := 1) (pc' := 13) rfl (hb hby d_jdk_31_method_11_code_1) rfl (by decide) (by decide) ?_
    show Steps p.tables e below (s₁.setTop (mkF m 13 #[.val (.ref a1), .val (.ref a2)] [])) _
    refine XS.aloadN X0.here hx rfl (hb hby d_jdk_31_method_11_code_13) rfl rfl ?_
    show Steps p.tables e below (s₁.setTop (mkF m 14 #[.val (.ref a1), .val (.ref a2)] [(.ref a1)])) _
    exact retOut X0 hx Bd.returns rfl (Or.inr (Or.inr (Or.inr (Or.inr ⟨rfl, rfl, rfl⟩)))) (hb hby d_jdk_31_method_11_code_14) hr4
  · show Q_rnn a1 h0 n0 _ s₁.heap _
    rw [e0]
    exact ⟨rfl, N0, rfl⟩

theorem d_prog_18_method_1_code_0 : decode prog_18_method_1_code 0 = .ok (.aload_n 0, 1) := by decide +kernel
theorem d_prog_18_method_1_code_1 : decode prog_18_method_1_code 1 = .ok (.invokespecial 1, 3) := by decide +kernel
theorem pd__28_29V : parseMethodDescriptor "()V" = some ⟨[], none⟩ := by decide +kernel
theorem d_prog_18_method_1_code_4 : decode prog_18_method_1_code 4 = .ok (.aload_n 1, 1) := by decide +kernel
theorem d_prog_18_method_1_code_5 : decode prog_18_method_1_code 5 = .ok (.ldc 7, 2) := by decide +kernel
theorem d_prog_18_method_1_code_7 : decode prog_18_method_1_code 7 = .ok (.invokestatic 9, 3) := by decide +kernel
theorem pd__28Ljava_2flang_2fObject_3bLjava_2flang_2fString_3b_29Ljava_2flang_2fObject_3b : parseMethodDescriptor "(Ljava/lang/Object;Ljava/lang/String;)Ljava/lang/Object;" = some ⟨[(.object "java/lang/Object"), (.object "java/lang/String")], some (.object "java/lang/Object")⟩ := by decide +kernel
theorem d_prog_18_method_1_code_10 : decode prog_18_method_1_code 10 = .ok (.pop, 1) := by decide +kernel
theorem d_prog_18_method_1_code_11 : decode prog_18_method_1_code 11 = .ok (.aload_n 3, 1) := by decide +kernel
theorem d_prog_18_method_1_code_12 : decode prog_18_method_1_code 12 = .ok (.ldc 15, 2) := by decide +kernel
theorem d_prog_18_method_1_code_14 : decode prog_18_method_1_code 14 = .ok (.invokestatic 9, 3) := by decide +kernel
theorem d_prog_18_method_1_code_17 : decode prog_18_method_1_code 17 = .ok (.pop, 1) := by decide +kernel
theorem d_prog_18_method_1_code_18 : decode prog_18_method_1_code 18 = .ok (.aload_n 0, 1) := by decide +kernel
theorem d_prog_18_method_1_code_19 : decode prog_18_method_1_code 19 = .ok (.aload_n 1, 1) := by decide +kernel
theorem d_prog_18_method_1_code_20 : decode prog_18_method_1_code 20 = .ok (.putfield 17, 3) := by decide +kernel
theorem d_prog_18_method_1_code_23 : decode prog_18_method_1_code 23 = .ok (.aload_n 0, 1) := by decide +kernel
theorem d_prog_18_method_1_code_24 : decode prog_18_method_1_code 24 = .ok (.iload_n 2, 1) := by decide +kernel
theorem d_prog_18_method_1_code_25 : decode prog_18_method_1_code 25 = .ok (.putfield 22, 3) := by decide +kernel
theorem d_prog_18_method_1_code_28 : decode prog_18_method_1_code 28 = .ok (.aload_n 0, 1) := by decide +kernel
theorem d_prog_18_method_1_code_29 : decode prog_18_method_1_code 29 = .ok (.aload_n 3, 1) := by decide +kernel
theorem d_prog_18_method_1_code_30 : decode prog_18_method_1_code 30 = .ok (.putfield 26, 3) := by decide +kernel
theorem d_prog_18_method_1_code_33 : decode prog_18_method_1_code 33 = .ok (.aload_n 0, 1) := by decide +kernel
theorem d_prog_18_method_1_code_34 : decode prog_18_method_1_code 34 = .ok (.iload 4, 2) := by decide +kernel
theorem d_prog_18_method_1_code_36 : decode prog_18_method_1_code 36 = .ok (.putfield 28, 3) := by decide +kernel
theorem d_prog_18_method_1_code_39 : decode prog_18_method_1_code 39 = .ok (.return_, 1) := by decide +kernel
theorem pn_com_example_clausewright_clausewright_model_Column : plainName "com/example/clausewright/clausewright/model/Column" = true := by first | (simp [plainName, overriddenIn]; done) | decide +kernel
theorem ef_ctor (m : MethodId) (x0 : Addr) (x1 : Addr) (x2 : Int32) (x3 : Addr) (x4 : Int32) : entryFrame m #[(.ref x0), (.ref x1), (.int x2), (.ref x3), (.int x4)] 5 = mkF m 0 #[.val (.ref x0), .val (.ref x1), .val (.int x2), .val (.ref x3), .val (.int x4)] [] := by (first | (simp [entryFrame, mkF, argsToLocals, Value.category]; done) | rfl)
def Q_ctor (Z : State) (a1 : Addr) (t1 : Int32) (h0 : Heap) (n0 : Nat) (v : Option Value) (h : Heap) (L : List Loc) : Prop := v = none ∧ Fr n0 L ∧ Keep h0 h [a1] ∧ Exa Z h a1 "com/example/clausewright/clausewright/model/Column" ∧ Fld Z h a1 "com/example/clausewright/clausewright/model/Column" "jdbcType" "I" (.int t1)
set_option maxRecDepth 65536 in
set_option maxHeartbeats 40000000 in
theorem rm_ctor (l : Launch) (Z : State) (a0 : Array Value) (hw : ∀ d ∈ tables_1, d.before a0 Z = true) (ws : List Jvm.Cond) (a1 c1 : Addr) (t1 : Int32) (c2 : Addr) (nb : Int32) (h0 : Heap) (n0 : Nat) (Z0 : n0 ≤ h0.size) (g_a1 : n0 ≤ a1) (E1 : Exa Z h0 a1 "com/example/clausewright/clausewright/model/Column") (F_name : Fld Z h0 a1 "com/example/clausewright/clausewright/model/Column" "name" "Ljava/lang/String;" .null) (F_jdbcType : Fld Z h0 a1 "com/example/clausewright/clausewright/model/Column" "jdbcType" "I" (.int (0 : Int32))) (F_typeName : Fld Z h0 a1 "com/example/clausewright/clausewright/model/Column" "typeName" "Ljava/lang/String;" .null) (F_nullable : Fld Z h0 a1 "com/example/clausewright/clausewright/model/Column" "nullable" "Z" (.int (0 : Int32))) :
    MetFree l (⟨"com/example/clausewright/clausewright/model/Column", "<init>", "(Ljava/lang/String;ILjava/lang/String;Z)V"⟩ : MethodName) (head1 (Jvm.Cond.code (⟨"com/example/clausewright/clausewright/model/Column", "<init>", "(Ljava/lang/String;ILjava/lang/String;Z)V"⟩ : MethodName) prog_18_method_1_code 5 none :: ws) ({ frames := 2, cells := 4, slots := 56, locals := 24 } : Room)) (fun a U => a = #[(.ref a1), (.ref c1), (.int t1), (.ref c2), (.int nb)] ∧ Z.Warmed39 U.vm ∧ U.heap = h0) (fun _ _ _ _ _ => True) (fun _ U o U' => ∃ v L, o = .returned v ∧ Q_ctor Z a1 t1 h0 n0 v U'.heap L ∧ ReturnedEndW U o U' L ({ frames := 2, cells := 4, slots := 56, locals := 24 } : Room).cells ({ frames := 2, cells := 4, slots := 56, locals := 24 } : Room).slots) := by
  refine MetFree.of_bodySF (plainFor_of_name pn_com_example_clausewright_clausewright_model_Column) hisR ?_
  intro p e s m args below meth c s₁ Bd hml0 hP hK
  obtain ⟨rfl, hZ, hh⟩ := hP
  have hx := Bd.exec
  have hby := Bd.bytes
  have hml : c.maxLocals = 5 := hml0
  have hown : s.vm.findClass "com/example/clausewright/clausewright/model/Column" = some m.cls := findClass_of_methodNamed Bd.named
  have hnm := (name_of_methodNamed Bd.named Bd.method).1
  have X0 : Stand p l e ({ frames := 2, cells := 4, slots := 56, locals := 24 } : Room) (s.setVm s.vm) m #[(.ref a1), (.ref c1), (.int t1), (.ref c2), (.int nb)] below meth c s₁ [] 0 0 := Stand.of_body Bd
  have e0 : s₁.heap = h0 := by rw [← hh, Bd.state]; rfl
  have N0 := Fr.nil n0
  have pre0 : ∀ t, Steps p.tables e below (s₁.setTop (mkF m 0 #[.val (.ref a1), .val (.ref c1), .val (.int t1), .val (.ref c2), .val (.int nb)] [])) t → Steps p.tables e below (s₁.setTop (entryFrame m #[(.ref a1), (.ref c1), (.int t1), (.ref c2), (.int nb)] 5)) t := fun t k => castTop (ef_ctor m a1 c1 t1 c2 nb) k
  have P0 : ∀ t, Steps p.tables e below (s₁.setTop (mkF m 0 #[.val (.ref a1), .val (.ref c1), .val (.int t1), .val (.ref c2), .val (.int nb)] [])) t → Steps p.tables e below (s₁.setTop (mkF m 0 #[.val (.ref a1), .val (.ref c1), .val (.int t1), .val (.ref c2), .val (.int nb)] [])) t := fun t k => k
  have hS0 : s.Since s.vm h0.size := (State.WarmedH.refl s).since _
  obtain ⟨_, _, ⟨T5, L5, k5, n5⟩, -, X5, ⟨Lc5, hQ5, l5, y5, z5⟩, st5⟩ := X0.specialBack hx (y := (⟨"java/lang/Record", "<init>", "()V"⟩ : MethodName)) rfl hown (mvT hZ (hw _ (List.mem_of_getElem? (i := 41) rfl))) (mvT hZ (hw _ (List.mem_of_getElem? (i := 42) rfl))) (mvT hZ (hw _ (List.mem_of_getElem? (i := 45) rfl))) (by decide) (backOf (W := 0) (rm_rec l Z a0 hw [] a1 h0 n0 Z0 ) hZ (hw _ (List.mem_of_getElem? (i := 45) rfl)) (hw _ (List.mem_of_getElem? (i := 44) rfl)) (by decide) (by decide)) (g := (mkF m 1 #[.val (.ref a1), .val (.ref c1), .val (.int t1), .val (.ref c2), .val (.int nb)] [(.ref a1)])) rfl (by rw [hml]; rfl) (Steps.refl _) (a := a1) (argsL := []) (rest := []) (lenOf pd__28_29V rfl) rfl (by show 2 * 0 + _ ≤ _; exact Nat.le_of_eq rfl) (hb hby d_prog_18_method_1_code_1) (fun _ _ => ⟨rfl, e0, (Nat.le_of_ble_eq_true rfl : 0 + 0 ≤ _), (Nat.le_of_ble_eq_true rfl : 0 + 0 ≤ _)⟩)
  dsimp only [Pt.U, Pt.locs, Pt.cells, Pt.slots] at X5 l5 y5 z5 st5 hQ5
  subst l5 y5 z5
  obtain ⟨rfl, Nq5, e5⟩ := hQ5
  have N6 := Fr.app N0 Nq5
  have P7 : ∀ t, Steps p.tables e below (T5.setTop (mkF m 4 #[.val (.ref a1), .val (.ref c1), .val (.int t1), .val (.ref c2), .val (.int nb)] [])) t → Steps p.tables e below (s₁.setTop (mkF m 0 #[.val (.ref a1), .val (.ref c1), .val (.int t1), .val (.ref c2), .val (.int nb)] [])) t := fun t k => P0 t (by
    refine XS.aloadN X0.here hx rfl (hb hby d_prog_18_method_1_code_0) rfl rfl ?_
    show Steps p.tables e below (s₁.setTop (mkF m 1 #[.val (.ref a1), .val (.ref c1), .val (.int t1), .val (.ref c2), .val (.int nb)] [(.ref a1)])) _
    exact st5.trans k)
  obtain ⟨y8, T8, h8, k8, X8, e8, E8, hS8, hk8, hZ8, ho8, st8⟩ := ldcS X5 hx hZ hown (hw _ (List.mem_of_getElem? (i := 47) rfl)) (own_wS hw) e5 hS0 (Nat.le_refl _) (g := (mkF m 5 #[.val (.ref a1), .val (.ref c1), .val (.int t1), .val (.ref c2), .val (.int nb)] [(.ref c1)])) rfl (hb hby d_prog_18_method_1_code_5) (n := 16) (by decide) (by decide) (Nat.le_of_ble_eq_true rfl) (Nat.le_of_ble_eq_true rfl)
  have P9 : ∀ t, Steps p.tables e below (T8.setTop (mkF m 7 #[.val (.ref a1), .val (.ref c1), .val (.int t1), .val (.ref c2), .val (.int nb)] [(.ref y8), (.ref c1)])) t → Steps p.tables e below (s₁.setTop (mkF m 0 #[.val (.ref a1), .val (.ref c1), .val (.int t1), .val (.ref c2), .val (.int nb)] [])) t := fun t k => P7 t (by
    show Steps p.tables e below (T5.setTop (mkF m 4 #[.val (.ref a1), .val (.ref c1), .val (.int t1), .val (.ref c2), .val (.int nb)] [])) _
    refine XS.aloadN X5.here hx rfl (hb hby d_prog_18_method_1_code_4) rfl rfl ?_
    show Steps p.tables e below (T5.setTop (mkF m 5 #[.val (.ref a1), .val (.ref c1), .val (.int t1), .val (.ref c2), .val (.int nb)] [(.ref c1)])) _
    exact st8 _ k)
  have Z10 : n0 ≤ h8.size := Nat.le_trans Z0 E8.1
  have K11 : Keep h0 h8 [a1] := (Keep.refl h0 [a1]).ext E8
  obtain ⟨_, _, ⟨T12, L12, k12, n12⟩, -, X12, ⟨Lc12, hQ12, l12, y12, z12⟩, st12⟩ := Jvm.LawKit.callS X8 hx (y := (⟨"java/util/Objects", "requireNonNull", "(Ljava/lang/Object;Ljava/lang/String;)Ljava/lang/Object;"⟩ : MethodName)) ho8 (mvT hZ8 (hw _ (List.mem_of_getElem? (i := 50) rfl))) (mvT hZ8 (hw _ (List.mem_of_getElem? (i := 51) rfl))) (mvT hZ8 (hw _ (List.mem_of_getElem? (i := 52) rfl))) (mvT hZ8 (hw _ (List.mem_of_getElem? (i := 53) rfl))) (by decide) (backOf (W := 0) (rm_rnn l Z a0 hw [] c1 y8 h8 n0 Z10 ) hZ8 (hw _ (List.mem_of_getElem? (i := 53) rfl)) (hw _ (List.mem_of_getElem? (i := 52) rfl)) (by decide) (by decide)) (g := (mkF m 7 #[.val (.ref a1), .val (.ref c1), .val (.int t1), .val (.ref c2), .val (.int nb)] [(.ref y8), (.ref c1)])) rfl (by rw [hml]; rfl) (argsL := [(.ref c1), (.ref y8)]) (rest := []) (lenOf pd__28Ljava_2flang_2fObject_3bLjava_2flang_2fString_3b_29Ljava_2flang_2fObject_3b rfl) rfl (by show 2 * 0 + _ ≤ _; exact Nat.le_of_eq rfl) (hb hby d_prog_18_method_1_code_7) (fun _ _ => ⟨rfl, e8, (Nat.le_of_ble_eq_true rfl : 2 + 0 ≤ _), (Nat.le_of_ble_eq_true rfl : 20 + 0 ≤ _)⟩)
  dsimp only [Pt.U, Pt.locs, Pt.cells, Pt.slots] at X12 l12 y12 z12 st12 hQ12
  subst l12 y12 z12
  obtain ⟨rfl, Nq12, e12⟩ := hQ12
  have N13 := Fr.app N6 Nq12
  have P14 : ∀ t, Steps p.tables e below (T12.setTop (mkF m 10 #[.val (.ref a1), .val (.ref c1), .val (.int t1), .val (.ref c2), .val (.int nb)] [(.ref c1)])) t → Steps p.tables e below (s₁.setTop (mkF m 0 #[.val (.ref a1), .val (.ref c1), .val (.int t1), .val (.ref c2), .val (.int nb)] [])) t := fun t k => P9 t (by
    show Steps p.tables e below (T8.setTop (mkF m 7 #[.val (.ref a1), .val (.ref c1), .val (.int t1), .val (.ref c2), .val (.int nb)] [(.ref y8), (.ref c1)])) _
    exact st12 _ k)
  obtain ⟨y15, T15, h15, k15, X15, e15, E15, hS15, hk15, hZ15, ho15, st15⟩ := ldcS X12 hx hZ8 ho8 (hw _ (List.mem_of_getElem? (i := 54) rfl)) (own_wS hw) e12 hS8 hk8 (g := (mkF m 12 #[.val (.ref a1), .val (.ref c1), .val (.int t1), .val (.ref c2), .val (.int nb)] [(.ref c2)])) rfl (hb hby d_prog_18_method_1_code_12) (n := 32) (by decide) (by decide) (Nat.le_of_ble_eq_true rfl) (Nat.le_of_ble_eq_true rfl)
  have P16 : ∀ t, Steps p.tables e below (T15.setTop (mkF m 14 #[.val (.ref a1), .val (.ref c1), .val (.int t1), .val (.ref c2), .val (.int nb)] [(.ref y15), (.ref c2)])) t → Steps p.tables e below (s₁.setTop (mkF m 0 #[.val (.ref a1), .val (.ref c1), .val (.int t1), .val (.ref c2), .val (.int nb)] [])) t := fun t k => P14 t (by
    show Steps p.tables e below (T12.setTop (mkF m 10 #[.val (.ref a1), .val (.ref c1), .val (.int t1), .val (.ref c2), .val (.int nb)] [(.ref c1)])) _
    refine XS.pop X12.here hx rfl (hb hby d_prog_18_method_1_code_10) rfl rfl ?_
    show Steps p.tables e below (T12.setTop (mkF m 11 #[.val (.ref a1), .val (.ref c1), .val (.int t1), .val (.ref c2), .val (.int nb)] [])) _
    refine XS.aloadN X12.here hx rfl (hb hby d_prog_18_method_1_code_11) rfl rfl ?_
    show Steps p.tables e below (T12.setTop (mkF m 12 #[.val (.ref a1), .val (.ref c1), .val (.int t1), .val (.ref c2), .val (.int nb)] [(.ref c2)])) _
    exact st15 _ k)
  have Z17 : n0 ≤ h15.size := Nat.le_trans Z10 E15.1
  have K18 : Keep h0 h15 [a1] := K11.ext E15
  obtain ⟨_, _, ⟨T19, L19, k19, n19⟩, -, X19, ⟨Lc19, hQ19, l19, y19, z19⟩, st19⟩ := Jvm.LawKit.callS X15 hx (y := (⟨"java/util/Objects", "requireNonNull", "(Ljava/lang/Object;Ljava/lang/String;)Ljava/lang/Object;"⟩ : MethodName)) ho15 (mvT hZ15 (hw _ (List.mem_of_getElem? (i := 50) rfl))) (mvT hZ15 (hw _ (List.mem_of_getElem? (i := 51) rfl))) (mvT hZ15 (hw _ (List.mem_of_getElem? (i := 52) rfl))) (mvT hZ15 (hw _ (List.mem_of_getElem? (i := 53) rfl))) (by decide) (backOf (W := 0) (rm_rnn l Z a0 hw [] c2 y15 h15 n0 Z17 ) hZ15 (hw _ (List.mem_of_getElem? (i := 53) rfl)) (hw _ (List.mem_of_getElem? (i := 52) rfl)) (by decide) (by decide)) (g := (mkF m 14 #[.val (.ref a1), .val (.ref c1), .val (.int t1), .val (.ref c2), .val (.int nb)] [(.ref y15), (.ref c2)])) rfl (by rw [hml]; rfl) (argsL := [(.ref c2), (.ref y15)]) (rest := []) (lenOf pd__28Ljava_2flang_2fObject_3bLjava_2flang_2fString_3b_29Ljava_2flang_2fObject_3b rfl) rfl (by show 2 * 0 + _ ≤ _; exact Nat.le_of_eq rfl) (hb hby d_prog_18_method_1_code_14) (fun _ _ => ⟨rfl, e15, (Nat.le_of_ble_eq_true rfl : 4 + 0 ≤ _), (Nat.le_of_ble_eq_true rfl : 56 + 0 ≤ _)⟩)
  dsimp only [Pt.U, Pt.locs, Pt.cells, Pt.slots] at X19 l19 y19 z19 st19 hQ19
  subst l19 y19 z19
  obtain ⟨rfl, Nq19, e19⟩ := hQ19
  have N20 := Fr.app N13 Nq19
  have P21 : ∀ t, Steps p.tables e below (T19.setTop (mkF m 17 #[.val (.ref a1), .val (.ref c1), .val (.int t1), .val (.ref c2), .val (.int nb)] [(.ref c2)])) t → Steps p.tables e below (s₁.setTop (mkF m 0 #[.val (.ref a1), .val (.ref c1), .val (.int t1), .val (.ref c2), .val (.int nb)] [])) t := fun t k => P16 t (by
    show Steps p.tables e below (T15.setTop (mkF m 14 #[.val (.ref a1), .val (.ref c1), .val (.int t1), .val (.ref c2), .val (.int nb)] [(.ref y15), (.ref c2)])) _
    exact st19 _ k)
  have f22 : Fld Z h15 a1 "com/example/clausewright/clausewright/model/Column" "name" "Ljava/lang/String;" .null := ((F_name.ext E8).ext E15)
  have f23 : Exa Z h15 a1 "com/example/clausewright/clausewright/model/Column" := ((E1.ext E8).ext E15)
  obtain ⟨T24, h24, X24, e24, W24, st24⟩ := putF X19 hx hZ15 ho15 (host := "") (Or.inl (hw _ (List.mem_of_getElem? (i := 55) rfl))) Via.refl e19 f22 f23 (Or.inr ⟨(hw _ (List.mem_of_getElem? (i := 56) rfl)), rfl, hnm⟩) (hw _ (List.mem_of_getElem? (i := 7) rfl)) (ty := (.object "java/lang/String")) (by decide) rfl rfl (g := (mkF m 20 #[.val (.ref a1), .val (.ref c1), .val (.int t1), .val (.ref c2), .val (.int nb)] [(.ref c1), (.ref a1)])) rfl rfl (hb hby d_prog_18_method_1_code_20)
  have P25 : ∀ t, Steps p.tables e below (T24.setTop (mkF m 23 #[.val (.ref a1), .val (.ref c1), .val (.int t1), .val (.ref c2), .val (.int nb)] [])) t → Steps p.tables e below (s₁.setTop (mkF m 0 #[.val (.ref a1), .val (.ref c1), .val (.int t1), .val (.ref c2), .val (.int nb)] [])) t := fun t k => P21 t (by
    show Steps p.tables e below (T19.setTop (mkF m 17 #[.val (.ref a1), .val (.ref c1), .val (.int t1), .val (.ref c2), .val (.int nb)] [(.ref c2)])) _
    refine XS.pop X19.here hx rfl (hb hby d_prog_18_method_1_code_17) rfl rfl ?_
    show Steps p.tables e below (T19.setTop (mkF m 18 #[.val (.ref a1), .val (.ref c1), .val (.int t1), .val (.ref c2), .val (.int nb)] [])) _
    refine XS.aloadN X19.here hx rfl (hb hby d_prog_18_method_1_code_18) rfl rfl ?_
    show Steps p.tables e below (T19.setTop (mkF m 19 #[.val (.ref a1), .val (.ref c1), .val (.int t1), .val (.ref c2), .val (.int nb)] [(.ref a1)])) _
    refine XS.aloadN X19.here hx rfl (hb hby d_prog_18_method_1_code_19) rfl rfl ?_
    show Steps p.tables e below (T19.setTop (mkF m 20 #[.val (.ref a1), .val (.ref c1), .val (.int t1), .val (.ref c2), .val (.int nb)] [(.ref c1), (.ref a1)])) _
    exact st24 _ k)
  have f26 := f22.same W24
  have N27 := Fr.snoc X24 N20 g_a1
  have Z28 : n0 ≤ h24.size := Nat.le_trans Z17 (Keep.of_wr W24).1
  have K29 : Keep h0 h24 [a1] := K18.wr W24 (Or.inl (List.mem_of_getElem? (i := 0) rfl))
  have hk30 : k15 ≤ h24.size := Nat.le_trans hk15 (Keep.of_wr W24).1
  have f31 : Fld Z h24 a1 "com/example/clausewright/clausewright/model/Column" "jdbcType" "I" (.int (0 : Int32)) := (((F_jdbcType.ext E8).ext E15).other W24 (Or.inr (slot_ne (Or.inr (hw _ (List.mem_of_getElem? (i := 58) rfl))) (Or.inr (hw _ (List.mem_of_getElem? (i := 56) rfl))) (by decide) (t := .int) (t' := (.object "java/lang/String")) (by decide) (by decide))))
  have f32 : Exa Z h24 a1 "com/example/clausewright/clausewright/model/Column" := (f23.wr W24)
  obtain ⟨T33, h33, X33, e33, W33, st33⟩ := putF X24 hx hZ15 ho15 (host := "") (Or.inl (hw _ (List.mem_of_getElem? (i := 57) rfl))) Via.refl e24 f31 f32 (Or.inr ⟨(hw _ (List.mem_of_getElem? (i := 58) rfl)), rfl, hnm⟩) (hw _ (List.mem_of_getElem? (i := 7) rfl)) (ty := .int) (by decide) rfl rfl (g := (mkF m 25 #[.val (.ref a1), .val (.ref c1), .val (.int t1), .val (.ref c2), .val (.int nb)] [(.int t1), (.ref a1)])) rfl rfl (hb hby d_prog_18_method_1_code_25)
  have P34 : ∀ t, Steps p.tables e below (T33.setTop (mkF m 28 #[.val (.ref a1), .val (.ref c1), .val (.int t1), .val (.ref c2), .val (.int nb)] [])) t → Steps p.tables e below (s₁.setTop (mkF m 0 #[.val (.ref a1), .val (.ref c1), .val (.int t1), .val (.ref c2), .val (.int nb)] [])) t := fun t k => P25 t (by
    show Steps p.tables e below (T24.setTop (mkF m 23 #[.val (.ref a1), .val (.ref c1), .val (.int t1), .val (.ref c2), .val (.int nb)] [])) _
    refine XS.aloadN X24.here hx rfl (hb hby d_prog_18_method_1_code_23) rfl rfl ?_
    show Steps p.tables e below (T24.setTop (mkF m 24 #[.val (.ref a1), .val (.ref c1), .val (.int t1), .val (.ref c2), .val (.int nb)] [(.ref a1)])) _
    refine XS.iloadN X24.here hx rfl (hb hby d_prog_18_method_1_code_24) rfl ?_
    show Steps p.tables e below (T24.setTop (mkF m 25 #[.val (.ref a1), .val (.ref c1), .val (.int t1), .val (.ref c2), .val (.int nb)] [(.int t1), (.ref a1)])) _
    exact st33 _ k)
  have f35 := f31.same W33
  have N36 := Fr.snoc X33 N27 g_a1
  have Z37 : n0 ≤ h33.size := Nat.le_trans Z28 (Keep.of_wr W33).1
  have K38 : Keep h0 h33 [a1] := K29.wr W33 (Or.inl (List.mem_of_getElem? (i := 0) rfl))
  have hk39 : k15 ≤ h33.size := Nat.le_trans hk30 (Keep.of_wr W33).1
  have f40 : Fld Z h33 a1 "com/example/clausewright/clausewright/model/Column" "typeName" "Ljava/lang/String;" .null := ((((F_typeName.ext E8).ext E15).other W24 (Or.inr (slot_ne (Or.inr (hw _ (List.mem_of_getElem? (i := 60) rfl))) (Or.inr (hw _ (List.mem_of_getElem? (i := 56) rfl))) (by decide) (t := (.object "java/lang/String")) (t' := (.object "java/lang/String")) (by decide) (by decide)))).other W33 (Or.inr (slot_ne (Or.inr (hw _ (List.mem_of_getElem? (i := 60) rfl))) (Or.inr (hw _ (List.mem_of_getElem? (i := 58) rfl))) (by decide) (t := (.object "java/lang/String")) (t' := .int) (by decide) (by decide))))
  have f41 : Exa Z h33 a1 "com/example/clausewright/clausewright/model/Column" := (f32.wr W33)
  obtain ⟨T42, h42, X42, e42, W42, st42⟩ := putF X33 hx hZ15 ho15 (host := "") (Or.inl (hw _ (List.mem_of_getElem? (i := 59) rfl))) Via.refl e33 f40 f41 (Or.inr ⟨(hw _ (List.mem_of_getElem? (i := 60) rfl)), rfl, hnm⟩) (hw _ (List.mem_of_getElem? (i := 7) rfl)) (ty := (.object "java/lang/String")) (by decide) rfl rfl (g := (mkF m 30 #[.val (.ref a1), .val (.ref c1), .val (.int t1), .val (.ref c2), .val (.int nb)] [(.ref c2), (.ref a1)])) rfl rfl (hb hby d_prog_18_method_1_code_30)
  have P43 : ∀ t, Steps p.tables e below (T42.setTop (mkF m 33 #[.val (.ref a1), .val (.ref c1), .val (.int t1), .val (.ref c2), .val (.int nb)] [])) t → Steps p.tables e below (s₁.setTop (mkF m 0 #[.val (.ref a1), .val (.ref c1), .val (.int t1), .val (.ref c2), .val (.int nb)] [])) t := fun t k => P34 t (by
    show Steps p.tables e below (T33.setTop (mkF m 28 #[.val (.ref a1), .val (.ref c1), .val (.int t1), .val (.ref c2), .val (.int nb)] [])) _
    refine XS.aloadN X33.here hx rfl (hb hby d_prog_18_method_1_code_28) rfl rfl ?_
    show Steps p.tables e below (T33.setTop (mkF m 29 #[.val (.ref a1), .val (.ref c1), .val (.int t1), .val (.ref c2), .val (.int nb)] [(.ref a1)])) _
    refine XS.aloadN X33.here hx rfl (hb hby d_prog_18_method_1_code_29) rfl rfl ?_
    show Steps p.tables e below (T33.setTop (mkF m 30 #[.val (.ref a1), .val (.ref c1), .val (.int t1), .val (.ref c2), .val (.int nb)] [(.ref c2), (.ref a1)])) _
    exact st42 _ k)
  have f44 := f40.same W42
  have N45 := Fr.snoc X42 N36 g_a1
  have Z46 : n0 ≤ h42.size := Nat.le_trans Z37 (Keep.of_wr W42).1
  have K47 : Keep h0 h42 [a1] := K38.wr W42 (Or.inl (List.mem_of_getElem? (i := 0) rfl))
  have hk48 : k15 ≤ h42.size := Nat.le_trans hk39 (Keep.of_wr W42).1
  have f49 : Fld Z h42 a1 "com/example/clausewright/clausewright/model/Column" "nullable" "Z" (.int (0 : Int32)) := (((((F_nullable.ext E8).ext E15).other W24 (Or.inr (slot_ne (Or.inr (hw _ (List.mem_of_getElem? (i := 62) rfl))) (Or.inr (hw _ (List.mem_of_getElem? (i := 56) rfl))) (by decide) (t := .boolean) (t' := (.object "java/lang/String")) (by decide) (by decide)))).other W33 (Or.inr (slot_ne (Or.inr (hw _ (List.mem_of_getElem? (i := 62) rfl))) (Or.inr (hw _ (List.mem_of_getElem? (i := 58) rfl))) (by decide) (t := .boolean) (t' := .int) (by decide) (by decide)))).other W42 (Or.inr (slot_ne (Or.inr (hw _ (List.mem_of_getElem? (i := 62) rfl))) (Or.inr (hw _ (List.mem_of_getElem? (i := 60) rfl))) (by decide) (t := .boolean) (t' := (.object "java/lang/String")) (by decide) (by decide))))
  have f50 : Exa Z h42 a1 "com/example/clausewright/clausewright/model/Column" := (f41.wr W42)
  obtain ⟨T51, h51, X51, e51, W51, st51⟩ := putFN X42 hx hZ15 ho15 (hw _ (List.mem_of_getElem? (i := 61) rfl)) Via.refl e42 f49 f50 (Or.inr ⟨(hw _ (List.mem_of_getElem? (i := 62) rfl)), rfl, hnm⟩) (hw _ (List.mem_of_getElem? (i := 7) rfl)) (ty := .boolean) (v' := .int (nb &&& 1)) (by decide) rfl (fits_nar_bool _) (g := (mkF m 36 #[.val (.ref a1), .val (.ref c1), .val (.int t1), .val (.ref c2), .val (.int nb)] [(.int nb), (.ref a1)])) rfl rfl (hb hby d_prog_18_method_1_code_36)
  have P52 : ∀ t, Steps p.tables e below (T51.setTop (mkF m 39 #[.val (.ref a1), .val (.ref c1), .val (.int t1), .val (.ref c2), .val (.int nb)] [])) t → Steps p.tables e below (s₁.setTop (mkF m 0 #[.val (.ref a1), .val (.ref c1), .val (.int t1), .val (.ref c2), .val (.int nb)] [])) t := fun t k => P43 t (by
    show Steps p.tables e below (T42.setTop (mkF m 33 #[.val (.ref a1), .val (.ref c1), .val (.int t1), .val (.ref c2), .val (.int nb)] [])) _
    refine XS.aloadN X42.here hx rfl (hb hby d_prog_18_method_1_code_33) rfl rfl ?_
    show Steps p.tables e below (T42.setTop (mkF m 34 #[.val (.ref a1), .val (.ref c1), .val (.int t1), .val (.ref c2), .val (.int nb)] [(.ref a1)])) _
    refine XS.iload X42.here hx rfl (hb hby d_prog_18_method_1_code_34) rfl ?_
    show Steps p.tables e below (T42.setTop (mkF m 36 #[.val (.ref a1), .val (.ref c1), .val (.int t1), .val (.ref c2), .val (.int nb)] [(.int nb), (.ref a1)])) _
    exact st51 _ k)
  have f53 := f49.same W51
  have N54 := Fr.snoc X51 N45 g_a1
  have Z55 : n0 ≤ h51.size := Nat.le_trans Z46 (Keep.of_wr W51).1
  have K56 : Keep h0 h51 [a1] := K47.wr W51 (Or.inl (List.mem_of_getElem? (i := 0) rfl))
  have hk57 : k15 ≤ h51.size := Nat.le_trans hk48 (Keep.of_wr W51).1
  have f58 : Exa Z h51 a1 "com/example/clausewright/clausewright/model/Column" := (f50.wr W51)
  have f59 : Fld Z h51 a1 "com/example/clausewright/clausewright/model/Column" "jdbcType" "I" (.int t1) := ((f35.other W42 (Or.inr (slot_ne (Or.inr (hw _ (List.mem_of_getElem? (i := 58) rfl))) (Or.inr (hw _ (List.mem_of_getElem? (i := 60) rfl))) (by decide) (t := .int) (t' := (.object "java/lang/String")) (by decide) (by decide)))).other W51 (Or.inr (slot_ne (Or.inr (hw _ (List.mem_of_getElem? (i := 58) rfl))) (Or.inr (hw _ (List.mem_of_getElem? (i := 62) rfl))) (by decide) (t := .int) (t' := .boolean) (by decide) (by decide))))
  obtain ⟨fs60, hr60, hrun60, hended60, hRW60⟩ := X51.leaveW (v := none) hS15 (by rw [e51]; exact hk57) (fun _ => rfl)
  refine ⟨_, _, pre0 _ (P52 _ ?_), hrun60, hended60, _, _, rfl, ?_, ⟨hRW60.1, hRW60.2.1, hRW60.2.2.1, hRW60.2.2.2.mono (Nat.le_of_ble_eq_true rfl) (Nat.le_of_ble_eq_true rfl)⟩⟩
  · show Steps p.tables e below (T51.setTop (mkF m 39 #[.val (.ref a1), .val (.ref c1), .val (.int t1), .val (.ref c2), .val (.int nb)] [])) _
    exact X51.returnOut hx Bd.returns (hb hby d_prog_18_method_1_code_39) hr60
  · show Q_ctor Z a1 t1 h0 n0 _ T51.heap _
    rw [e51]
    exact ⟨rfl, N54, K56, f58, f59⟩

def own_ask (t : Int32) : Int32 := if t = (1 : Int32) ∨ t = (12 : Int32) ∨ t = (-1 : Int32) ∨ t = (2005 : Int32) ∨ t = (-15 : Int32) ∨ t = (-9 : Int32) ∨ t = (-16 : Int32) ∨ t = (2011 : Int32) then 1 else 0
theorem own_find (t : Int32) (P : Array (Int × Int)) : True := trivial

theorem d_prog_18_method_5_code_0 : decode prog_18_method_5_code 0 = .ok (.aload_n 0, 1) := by decide +kernel
theorem d_prog_18_method_5_code_1 : decode prog_18_method_5_code 1 = .ok (.getfield 22, 3) := by decide +kernel
theorem d_prog_18_method_5_code_4 : decode prog_18_method_5_code 4 = .ok (.lookupswitch 84 #[((-16), 80), ((-15), 80), ((-9), 80), ((-1), 76), (1, 76), (12, 76), (2005, 76), (2011, 80)], 76) := by decide +kernel
theorem d_prog_18_method_5_code_84 : decode prog_18_method_5_code 84 = .ok (.iconst 1, 1) := by decide +kernel
theorem d_prog_18_method_5_code_85 : decode prog_18_method_5_code 85 = .ok (.goto 4, 3) := by decide +kernel
theorem d_prog_18_method_5_code_89 : decode prog_18_method_5_code 89 = .ok (.ireturn, 1) := by decide +kernel
theorem d_prog_18_method_5_code_80 : decode prog_18_method_5_code 80 = .ok (.iconst 1, 1) := by decide +kernel
theorem d_prog_18_method_5_code_81 : decode prog_18_method_5_code 81 = .ok (.goto 8, 3) := by decide +kernel
theorem d_prog_18_method_5_code_88 : decode prog_18_method_5_code 88 = .ok (.iconst 0, 1) := by decide +kernel
theorem ef_ask (m : MethodId) (x0 : Addr) : entryFrame m #[(.ref x0)] 1 = mkF m 0 #[.val (.ref x0)] [] := by (first | (simp [entryFrame, mkF, argsToLocals, Value.category]; done) | rfl)
def Q_ask (t1 : Int32) (h0 : Heap) (n0 : Nat) (v : Option Value) (h : Heap) (L : List Loc) : Prop := v = some (.int (own_ask t1)) ∧ Fr n0 L ∧ h = h0
set_option maxRecDepth 65536 in
set_option maxHeartbeats 40000000 in
theorem rm_ask (l : Launch) (Z : State) (a0 : Array Value) (hw : ∀ d ∈ tables_1, d.before a0 Z = true) (ws : List Jvm.Cond) (a1 : Addr) (t1 : Int32) (h0 : Heap) (n0 : Nat) (Z0 : n0 ≤ h0.size) (F1 : Fld Z h0 a1 "com/example/clausewright/clausewright/model/Column" "jdbcType" "I" (.int t1)) :
    MetFree l (⟨"com/example/clausewright/clausewright/model/Column", "isText", "()Z"⟩ : MethodName) (head1 (Jvm.Cond.code (⟨"com/example/clausewright/clausewright/model/Column", "isText", "()Z"⟩ : MethodName) prog_18_method_5_code 1 (some .boolean) :: ws) ({ frames := 0, cells := 0, slots := 0, locals := 0 } : Room)) (fun a U => a = #[(.ref a1)] ∧ Z.Warmed39 U.vm ∧ U.heap = h0) (fun _ _ _ _ _ => True) (fun _ U o U' => ∃ v L, o = .returned v ∧ Q_ask t1 h0 n0 v U'.heap L ∧ FrameEnd U o U' L ({ frames := 0, cells := 0, slots := 0, locals := 0 } : Room).cells ({ frames := 0, cells := 0, slots := 0, locals := 0 } : Room).slots) := by
  refine MetFree.of_bodySF (plainFor_of_name pn_com_example_clausewright_clausewright_model_Column) hisR ?_
  intro p e s m args below meth c s₁ Bd hml0 hP hK
  obtain ⟨rfl, hZ, hh⟩ := hP
  have hx := Bd.exec
  have hby := Bd.bytes
  have hml : c.maxLocals = 1 := hml0
  have hown : s.vm.findClass "com/example/clausewright/clausewright/model/Column" = some m.cls := findClass_of_methodNamed Bd.named
  have hnm := (name_of_methodNamed Bd.named Bd.method).1
  have X0 : Stand p l e ({ frames := 0, cells := 0, slots := 0, locals := 0 } : Room) s m #[(.ref a1)] below meth c s₁ [] 0 0 := Stand.of_body Bd
  have e0 : s₁.heap = h0 := by rw [← hh, Bd.state]; rfl
  have N0 := Fr.nil n0
  have pre0 : ∀ t, Steps p.tables e below (s₁.setTop (mkF m 0 #[.val (.ref a1)] [])) t → Steps p.tables e below (s₁.setTop (entryFrame m #[(.ref a1)] 1)) t := fun t k => castTop (ef_ask m a1) k
  have P0 : ∀ t, Steps p.tables e below (s₁.setTop (mkF m 0 #[.val (.ref a1)] [])) t → Steps p.tables e below (s₁.setTop (mkF m 0 #[.val (.ref a1)] [])) t := fun t k => k
  obtain ⟨T61, X61, e61, st61⟩ := getF X0 hx hZ hown (host := "") (Or.inl (hw _ (List.mem_of_getElem? (i := 57) rfl))) Via.refl e0 F1 (g := (mkF m 1 #[.val (.ref a1)] [(.ref a1)])) rfl rfl (hb hby d_prog_18_method_5_code_1)
  have P62 : ∀ t, Steps p.tables e below (T61.setTop (mkF m 4 #[.val (.ref a1)] [(.int t1)])) t → Steps p.tables e below (s₁.setTop (mkF m 0 #[.val (.ref a1)] [])) t := fun t k => P0 t (by
    refine XS.aloadN X0.here hx rfl (hb hby d_prog_18_method_5_code_0) rfl rfl ?_
    show Steps p.tables e below (s₁.setTop (mkF m 1 #[.val (.ref a1)] [(.ref a1)])) _
    exact st61 _ k)
  by_cases q0 : t1 = (-16 : Int32)
  · skip
    obtain ⟨fs63, hr63, hrun63, hended63, hW63, hsame63⟩ := X61.leave (v := some (.int (1 : Int32))) (fun h => by rw [Bd.returns] at h; cases h)
    refine ⟨_, _, pre0 _ (P62 _ ?_), hrun63, hended63, _, _, rfl, ?_, ⟨⟨_, rfl⟩, hW63, hsame63.mono (Nat.le_of_ble_eq_true rfl) (Nat.le_of_ble_eq_true rfl)⟩⟩
    · show Steps p.tables e below (T61.setTop (mkF m 4 #[.val (.ref a1)] [(.int t1)])) _
      refine X61.lookupswitchHit hx (g := (mkF m 4 #[.val (.ref a1)] [(.int t1)])) rfl rfl (hb hby d_prog_18_method_5_code_4) (by decide) (a := -16) (off := 80) (by rw [q0]; decide) (by show (0 : Int) ≤ ((4 : Nat) : Int) + 80; decide) _ ?_
      show Steps p.tables e below (T61.setTop (mkF m 84 #[.val (.ref a1)] [])) _
      refine XS.iconst X61.here hx rfl (hb hby d_prog_18_method_5_code_84) ?_
      show Steps p.tables e below (T61.setTop (mkF m 85 #[.val (.ref a1)] [(.int (1 : Int32))])) _
      refine XS.goto X61.here hx rfl (pc0 := 85) (pc' := 89) rfl (hb hby d_prog_18_method_5_code_85) (by decide) (by decide) ?_
      show Steps p.tables e below (T61.setTop (mkF m 89 #[.val (.ref a1)] [(.int (1 : Int32))])) _
      exact retN X61 hx (t := .boolean) Bd.returns (by simp) (hb hby d_prog_18_method_5_code_89) hr63
    · show Q_ask t1 h0 n0 _ T61.heap _
      rw [e61]
      exact ⟨by rw [q0]; decide, N0, rfl⟩
  by_cases q1 : t1 = (-15 : Int32)
  · skip
    obtain ⟨fs64, hr64, hrun64, hended64, hW64, hsame64⟩ := X61.leave (v := some (.int (1 : Int32))) (fun h => by rw [Bd.returns] at h; cases h)
    refine ⟨_, _, pre0 _ (P62 _ ?_), hrun64, hended64, _, _, rfl, ?_, ⟨⟨_, rfl⟩, hW64, hsame64.mono (Nat.le_of_ble_eq_true rfl) (Nat.le_of_ble_eq_true rfl)⟩⟩
    · show Steps p.tables e below (T61.setTop (mkF m 4 #[.val (.ref a1)] [(.int t1)])) _
      refine X61.lookupswitchHit hx (g := (mkF m 4 #[.val (.ref a1)] [(.int t1)])) rfl rfl (hb hby d_prog_18_method_5_code_4) (by decide) (a := -15) (off := 80) (by rw [q1]; decide) (by show (0 : Int) ≤ ((4 : Nat) : Int) + 80; decide) _ ?_
      show Steps p.tables e below (T61.setTop (mkF m 84 #[.val (.ref a1)] [])) _
      refine XS.iconst X61.here hx rfl (hb hby d_prog_18_method_5_code_84) ?_
      show Steps p.tables e below (T61.setTop (mkF m 85 #[.val (.ref a1)] [(.int (1 : Int32))])) _
      refine XS.goto X61.here hx rfl (pc0 := 85) (pc' := 89) rfl (hb hby d_prog_18_method_5_code_85) (by decide) (by decide) ?_
      show Steps p.tables e below (T61.setTop (mkF m 89 #[.val (.ref a1)] [(.int (1 : Int32))])) _
      exact retN X61 hx (t := .boolean) Bd.returns (by simp) (hb hby d_prog_18_method_5_code_89) hr64
    · show Q_ask t1 h0 n0 _ T61.heap _
      rw [e61]
      exact ⟨by rw [q1]; decide, N0, rfl⟩
  by_cases q2 : t1 = (-9 : Int32)
  · skip
    obtain ⟨fs65, hr65, hrun65, hended65, hW65, hsame65⟩ := X61.leave (v := some (.int (1 : Int32))) (fun h => by rw [Bd.returns] at h; cases h)
    refine ⟨_, _, pre0 _ (P62 _ ?_), hrun65, hended65, _, _, rfl, ?_, ⟨⟨_, rfl⟩, hW65, hsame65.mono (Nat.le_of_ble_eq_true rfl) (Nat.le_of_ble_eq_true rfl)⟩⟩
    · show Steps p.tables e below (T61.setTop (mkF m 4 #[.val (.ref a1)] [(.int t1)])) _
      refine X61.lookupswitchHit hx (g := (mkF m 4 #[.val (.ref a1)] [(.int t1)])) rfl rfl (hb hby d_prog_18_method_5_code_4) (by decide) (a := -9) (off := 80) (by rw [q2]; decide) (by show (0 : Int) ≤ ((4 : Nat) : Int) + 80; decide) _ ?_
      show Steps p.tables e below (T61.setTop (mkF m 84 #[.val (.ref a1)] [])) _
      refine XS.iconst X61.here hx rfl (hb hby d_prog_18_method_5_code_84) ?_
      show Steps p.tables e below (T61.setTop (mkF m 85 #[.val (.ref a1)] [(.int (1 : Int32))])) _
      refine XS.goto X61.here hx rfl (pc0 := 85) (pc' := 89) rfl (hb hby d_prog_18_method_5_code_85) (by decide) (by decide) ?_
      show Steps p.tables e below (T61.setTop (mkF m 89 #[.val (.ref a1)] [(.int (1 : Int32))])) _
      exact retN X61 hx (t := .boolean) Bd.returns (by simp) (hb hby d_prog_18_method_5_code_89) hr65
    · show Q_ask t1 h0 n0 _ T61.heap _
      rw [e61]
      exact ⟨by rw [q2]; decide, N0, rfl⟩
  by_cases q3 : t1 = (-1 : Int32)
  · skip
    obtain ⟨fs66, hr66, hrun66, hended66, hW66, hsame66⟩ := X61.leave (v := some (.int (1 : Int32))) (fun h => by rw [Bd.returns] at h; cases h)
    refine ⟨_, _, pre0 _ (P62 _ ?_), hrun66, hended66, _, _, rfl, ?_, ⟨⟨_, rfl⟩, hW66, hsame66.mono (Nat.le_of_ble_eq_true rfl) (Nat.le_of_ble_eq_true rfl)⟩⟩
    · show Steps p.tables e below (T61.setTop (mkF m 4 #[.val (.ref a1)] [(.int t1)])) _
      refine X61.lookupswitchHit hx (g := (mkF m 4 #[.val (.ref a1)] [(.int t1)])) rfl rfl (hb hby d_prog_18_method_5_code_4) (by decide) (a := -1) (off := 76) (by rw [q3]; decide) (by show (0 : Int) ≤ ((4 : Nat) : Int) + 76; decide) _ ?_
      show Steps p.tables e below (T61.setTop (mkF m 80 #[.val (.ref a1)] [])) _
      refine XS.iconst X61.here hx rfl (hb hby d_prog_18_method_5_code_80) ?_
      show Steps p.tables e below (T61.setTop (mkF m 81 #[.val (.ref a1)] [(.int (1 : Int32))])) _
      refine XS.goto X61.here hx rfl (pc0 := 81) (pc' := 89) rfl (hb hby d_prog_18_method_5_code_81) (by decide) (by decide) ?_
      show Steps p.tables e below (T61.setTop (mkF m 89 #[.val (.ref a1)] [(.int (1 : Int32))])) _
      exact retN X61 hx (t := .boolean) Bd.returns (by simp) (hb hby d_prog_18_method_5_code_89) hr66
    · show Q_ask t1 h0 n0 _ T61.heap _
      rw [e61]
      exact ⟨by rw [q3]; decide, N0, rfl⟩
  by_cases q4 : t1 = (1 : Int32)
  · skip
    obtain ⟨fs67, hr67, hrun67, hended67, hW67, hsame67⟩ := X61.leave (v := some (.int (1 : Int32))) (fun h => by rw [Bd.returns] at h; cases h)
    refine ⟨_, _, pre0 _ (P62 _ ?_), hrun67, hended67, _, _, rfl, ?_, ⟨⟨_, rfl⟩, hW67, hsame67.mono (Nat.le_of_ble_eq_true rfl) (Nat.le_of_ble_eq_true rfl)⟩⟩
    · show Steps p.tables e below (T61.setTop (mkF m 4 #[.val (.ref a1)] [(.int t1)])) _
      refine X61.lookupswitchHit hx (g := (mkF m 4 #[.val (.ref a1)] [(.int t1)])) rfl rfl (hb hby d_prog_18_method_5_code_4) (by decide) (a := 1) (off := 76) (by rw [q4]; decide) (by show (0 : Int) ≤ ((4 : Nat) : Int) + 76; decide) _ ?_
      show Steps p.tables e below (T61.setTop (mkF m 80 #[.val (.ref a1)] [])) _
      refine XS.iconst X61.here hx rfl (hb hby d_prog_18_method_5_code_80) ?_
      show Steps p.tables e below (T61.setTop (mkF m 81 #[.val (.ref a1)] [(.int (1 : Int32))])) _
      refine XS.goto X61.here hx rfl (pc0 := 81) (pc' := 89) rfl (hb hby d_prog_18_method_5_code_81) (by decide) (by decide) ?_
      show Steps p.tables e below (T61.setTop (mkF m 89 #[.val (.ref a1)] [(.int (1 : Int32))])) _
      exact retN X61 hx (t := .boolean) Bd.returns (by simp) (hb hby d_prog_18_method_5_code_89) hr67
    · show Q_ask t1 h0 n0 _ T61.heap _
      rw [e61]
      exact ⟨by rw [q4]; decide, N0, rfl⟩
  by_cases q5 : t1 = (12 : Int32)
  · skip
    obtain ⟨fs68, hr68, hrun68, hended68, hW68, hsame68⟩ := X61.leave (v := some (.int (1 : Int32))) (fun h => by rw [Bd.returns] at h; cases h)
    refine ⟨_, _, pre0 _ (P62 _ ?_), hrun68, hended68, _, _, rfl, ?_, ⟨⟨_, rfl⟩, hW68, hsame68.mono (Nat.le_of_ble_eq_true rfl) (Nat.le_of_ble_eq_true rfl)⟩⟩
    · show Steps p.tables e below (T61.setTop (mkF m 4 #[.val (.ref a1)] [(.int t1)])) _
      refine X61.lookupswitchHit hx (g := (mkF m 4 #[.val (.ref a1)] [(.int t1)])) rfl rfl (hb hby d_prog_18_method_5_code_4) (by decide) (a := 12) (off := 76) (by rw [q5]; decide) (by show (0 : Int) ≤ ((4 : Nat) : Int) + 76; decide) _ ?_
      show Steps p.tables e below (T61.setTop (mkF m 80 #[.val (.ref a1)] [])) _
      refine XS.iconst X61.here hx rfl (hb hby d_prog_18_method_5_code_80) ?_
      show Steps p.tables e below (T61.setTop (mkF m 81 #[.val (.ref a1)] [(.int (1 : Int32))])) _
      refine XS.goto X61.here hx rfl (pc0 := 81) (pc' := 89) rfl (hb hby d_prog_18_method_5_code_81) (by decide) (by decide) ?_
      show Steps p.tables e below (T61.setTop (mkF m 89 #[.val (.ref a1)] [(.int (1 : Int32))])) _
      exact retN X61 hx (t := .boolean) Bd.returns (by simp) (hb hby d_prog_18_method_5_code_89) hr68
    · show Q_ask t1 h0 n0 _ T61.heap _
      rw [e61]
      exact ⟨by rw [q5]; decide, N0, rfl⟩
  by_cases q6 : t1 = (2005 : Int32)
  · skip
    obtain ⟨fs69, hr69, hrun69, hended69, hW69, hsame69⟩ := X61.leave (v := some (.int (1 : Int32))) (fun h => by rw [Bd.returns] at h; cases h)
    refine ⟨_, _, pre0 _ (P62 _ ?_), hrun69, hended69, _, _, rfl, ?_, ⟨⟨_, rfl⟩, hW69, hsame69.mono (Nat.le_of_ble_eq_true rfl) (Nat.le_of_ble_eq_true rfl)⟩⟩
    · show Steps p.tables e below (T61.setTop (mkF m 4 #[.val (.ref a1)] [(.int t1)])) _
      refine X61.lookupswitchHit hx (g := (mkF m 4 #[.val (.ref a1)] [(.int t1)])) rfl rfl (hb hby d_prog_18_method_5_code_4) (by decide) (a := 2005) (off := 76) (by rw [q6]; decide) (by show (0 : Int) ≤ ((4 : Nat) : Int) + 76; decide) _ ?_
      show Steps p.tables e below (T61.setTop (mkF m 80 #[.val (.ref a1)] [])) _
      refine XS.iconst X61.here hx rfl (hb hby d_prog_18_method_5_code_80) ?_
      show Steps p.tables e below (T61.setTop (mkF m 81 #[.val (.ref a1)] [(.int (1 : Int32))])) _
      refine XS.goto X61.here hx rfl (pc0 := 81) (pc' := 89) rfl (hb hby d_prog_18_method_5_code_81) (by decide) (by decide) ?_
      show Steps p.tables e below (T61.setTop (mkF m 89 #[.val (.ref a1)] [(.int (1 : Int32))])) _
      exact retN X61 hx (t := .boolean) Bd.returns (by simp) (hb hby d_prog_18_method_5_code_89) hr69
    · show Q_ask t1 h0 n0 _ T61.heap _
      rw [e61]
      exact ⟨by rw [q6]; decide, N0, rfl⟩
  by_cases q7 : t1 = (2011 : Int32)
  · skip
    obtain ⟨fs70, hr70, hrun70, hended70, hW70, hsame70⟩ := X61.leave (v := some (.int (1 : Int32))) (fun h => by rw [Bd.returns] at h; cases h)
    refine ⟨_, _, pre0 _ (P62 _ ?_), hrun70, hended70, _, _, rfl, ?_, ⟨⟨_, rfl⟩, hW70, hsame70.mono (Nat.le_of_ble_eq_true rfl) (Nat.le_of_ble_eq_true rfl)⟩⟩
    · show Steps p.tables e below (T61.setTop (mkF m 4 #[.val (.ref a1)] [(.int t1)])) _
      refine X61.lookupswitchHit hx (g := (mkF m 4 #[.val (.ref a1)] [(.int t1)])) rfl rfl (hb hby d_prog_18_method_5_code_4) (by decide) (a := 2011) (off := 80) (by rw [q7]; decide) (by show (0 : Int) ≤ ((4 : Nat) : Int) + 80; decide) _ ?_
      show Steps p.tables e below (T61.setTop (mkF m 84 #[.val (.ref a1)] [])) _
      refine XS.iconst X61.here hx rfl (hb hby d_prog_18_method_5_code_84) ?_
      show Steps p.tables e below (T61.setTop (mkF m 85 #[.val (.ref a1)] [(.int (1 : Int32))])) _
      refine XS.goto X61.here hx rfl (pc0 := 85) (pc' := 89) rfl (hb hby d_prog_18_method_5_code_85) (by decide) (by decide) ?_
      show Steps p.tables e below (T61.setTop (mkF m 89 #[.val (.ref a1)] [(.int (1 : Int32))])) _
      exact retN X61 hx (t := .boolean) Bd.returns (by simp) (hb hby d_prog_18_method_5_code_89) hr70
    · show Q_ask t1 h0 n0 _ T61.heap _
      rw [e61]
      exact ⟨by rw [q7]; decide, N0, rfl⟩
  have qn : ∀ n : Int, -2147483648 ≤ n → n ≤ 2147483647 → ¬ t1 = Int32.ofInt n → ¬ n = t1.toInt := fun n h1 h2 q z => q (by rw [z, Int32.ofInt_toInt])
  obtain ⟨fs71, hr71, hrun71, hended71, hW71, hsame71⟩ := X61.leave (v := some (.int (0 : Int32))) (fun h => by rw [Bd.returns] at h; cases h)
  refine ⟨_, _, pre0 _ (P62 _ ?_), hrun71, hended71, _, _, rfl, ?_, ⟨⟨_, rfl⟩, hW71, hsame71.mono (Nat.le_of_ble_eq_true rfl) (Nat.le_of_ble_eq_true rfl)⟩⟩
  · show Steps p.tables e below (T61.setTop (mkF m 4 #[.val (.ref a1)] [(.int t1)])) _
    refine X61.lookupswitchMiss hx (g := (mkF m 4 #[.val (.ref a1)] [(.int t1)])) rfl rfl (hb hby d_prog_18_method_5_code_4) (by decide) (find_miss (by simp only [List.mem_cons, List.not_mem_nil, or_false, forall_eq_or_imp, forall_eq]; exact ⟨qn (-16) (by decide) (by decide) q0, qn (-15) (by decide) (by decide) q1, qn (-9) (by decide) (by decide) q2, qn (-1) (by decide) (by decide) q3, qn (1) (by decide) (by decide) q4, qn (12) (by decide) (by decide) q5, qn (2005) (by decide) (by decide) q6, qn (2011) (by decide) (by decide) q7⟩)) (by show (0 : Int) ≤ ((4 : Nat) : Int) + 84; decide) _ ?_
    show Steps p.tables e below (T61.setTop (mkF m 88 #[.val (.ref a1)] [])) _
    refine XS.iconst X61.here hx rfl (hb hby d_prog_18_method_5_code_88) ?_
    show Steps p.tables e below (T61.setTop (mkF m 89 #[.val (.ref a1)] [(.int (0 : Int32))])) _
    exact retN X61 hx (t := .boolean) Bd.returns (by simp) (hb hby d_prog_18_method_5_code_89) hr71
  · show Q_ask t1 h0 n0 _ T61.heap _
    rw [e61]
    exact ⟨by simp [own_ask, q0, q1, q2, q3, q4, q5, q6, q7], N0, rfl⟩

theorem d_method_3_code_0 : decode method_3_code 0 = .ok (.bipush 16, 2) := by decide +kernel
theorem d_method_3_code_2 : decode method_3_code 2 = .ok (.newarray .int, 2) := by decide +kernel
theorem d_method_3_code_4 : decode method_3_code 4 = .ok (.astore_n 1, 1) := by decide +kernel
theorem d_method_3_code_5 : decode method_3_code 5 = .ok (.aload_n 1, 1) := by decide +kernel
theorem d_method_3_code_6 : decode method_3_code 6 = .ok (.iconst 0, 1) := by decide +kernel
theorem d_method_3_code_7 : decode method_3_code 7 = .ok (.iconst 1, 1) := by decide +kernel
theorem d_method_3_code_8 : decode method_3_code 8 = .ok (.iastore, 1) := by decide +kernel
theorem d_method_3_code_9 : decode method_3_code 9 = .ok (.aload_n 1, 1) := by decide +kernel
theorem d_method_3_code_10 : decode method_3_code 10 = .ok (.iconst 1, 1) := by decide +kernel
theorem d_method_3_code_11 : decode method_3_code 11 = .ok (.bipush 12, 2) := by decide +kernel
theorem d_method_3_code_13 : decode method_3_code 13 = .ok (.iastore, 1) := by decide +kernel
theorem d_method_3_code_14 : decode method_3_code 14 = .ok (.aload_n 1, 1) := by decide +kernel
theorem d_method_3_code_15 : decode method_3_code 15 = .ok (.iconst 2, 1) := by decide +kernel
theorem d_method_3_code_16 : decode method_3_code 16 = .ok (.iconst (-1), 1) := by decide +kernel
theorem d_method_3_code_17 : decode method_3_code 17 = .ok (.iastore, 1) := by decide +kernel
theorem d_method_3_code_18 : decode method_3_code 18 = .ok (.aload_n 1, 1) := by decide +kernel
theorem d_method_3_code_19 : decode method_3_code 19 = .ok (.iconst 3, 1) := by decide +kernel
theorem d_method_3_code_20 : decode method_3_code 20 = .ok (.sipush 2005, 3) := by decide +kernel
theorem d_method_3_code_23 : decode method_3_code 23 = .ok (.iastore, 1) := by decide +kernel
theorem d_method_3_code_24 : decode method_3_code 24 = .ok (.aload_n 1, 1) := by decide +kernel
theorem d_method_3_code_25 : decode method_3_code 25 = .ok (.iconst 4, 1) := by decide +kernel
theorem d_method_3_code_26 : decode method_3_code 26 = .ok (.bipush (-15), 2) := by decide +kernel
theorem d_method_3_code_28 : decode method_3_code 28 = .ok (.iastore, 1) := by decide +kernel
theorem d_method_3_code_29 : decode method_3_code 29 = .ok (.aload_n 1, 1) := by decide +kernel
theorem d_method_3_code_30 : decode method_3_code 30 = .ok (.iconst 5, 1) := by decide +kernel
theorem d_method_3_code_31 : decode method_3_code 31 = .ok (.bipush (-9), 2) := by decide +kernel
theorem d_method_3_code_33 : decode method_3_code 33 = .ok (.iastore, 1) := by decide +kernel
theorem d_method_3_code_34 : decode method_3_code 34 = .ok (.aload_n 1, 1) := by decide +kernel
theorem d_method_3_code_35 : decode method_3_code 35 = .ok (.bipush 6, 2) := by decide +kernel
theorem d_method_3_code_37 : decode method_3_code 37 = .ok (.bipush (-16), 2) := by decide +kernel
theorem d_method_3_code_39 : decode method_3_code 39 = .ok (.iastore, 1) := by decide +kernel
theorem d_method_3_code_40 : decode method_3_code 40 = .ok (.aload_n 1, 1) := by decide +kernel
theorem d_method_3_code_41 : decode method_3_code 41 = .ok (.bipush 7, 2) := by decide +kernel
theorem d_method_3_code_43 : decode method_3_code 43 = .ok (.sipush 2011, 3) := by decide +kernel
theorem d_method_3_code_46 : decode method_3_code 46 = .ok (.iastore, 1) := by decide +kernel
theorem d_method_3_code_47 : decode method_3_code 47 = .ok (.aload_n 1, 1) := by decide +kernel
theorem d_method_3_code_48 : decode method_3_code 48 = .ok (.bipush 8, 2) := by decide +kernel
theorem d_method_3_code_50 : decode method_3_code 50 = .ok (.iconst 0, 1) := by decide +kernel
theorem d_method_3_code_51 : decode method_3_code 51 = .ok (.iastore, 1) := by decide +kernel
theorem d_method_3_code_52 : decode method_3_code 52 = .ok (.aload_n 1, 1) := by decide +kernel
theorem d_method_3_code_53 : decode method_3_code 53 = .ok (.bipush 9, 2) := by decide +kernel
theorem d_method_3_code_55 : decode method_3_code 55 = .ok (.iconst 2, 1) := by decide +kernel
theorem d_method_3_code_56 : decode method_3_code 56 = .ok (.iastore, 1) := by decide +kernel
theorem d_method_3_code_57 : decode method_3_code 57 = .ok (.aload_n 1, 1) := by decide +kernel
theorem d_method_3_code_58 : decode method_3_code 58 = .ok (.bipush 10, 2) := by decide +kernel
theorem d_method_3_code_60 : decode method_3_code 60 = .ok (.iconst 4, 1) := by decide +kernel
theorem d_method_3_code_61 : decode method_3_code 61 = .ok (.iastore, 1) := by decide +kernel
theorem d_method_3_code_62 : decode method_3_code 62 = .ok (.aload_n 1, 1) := by decide +kernel
theorem d_method_3_code_63 : decode method_3_code 63 = .ok (.bipush 11, 2) := by decide +kernel
theorem d_method_3_code_65 : decode method_3_code 65 = .ok (.bipush (-2), 2) := by decide +kernel
theorem d_method_3_code_67 : decode method_3_code 67 = .ok (.iastore, 1) := by decide +kernel
theorem d_method_3_code_68 : decode method_3_code 68 = .ok (.aload_n 1, 1) := by decide +kernel
theorem d_method_3_code_69 : decode method_3_code 69 = .ok (.bipush 12, 2) := by decide +kernel
theorem d_method_3_code_71 : decode method_3_code 71 = .ok (.sipush 2004, 3) := by decide +kernel
theorem d_method_3_code_74 : decode method_3_code 74 = .ok (.iastore, 1) := by decide +kernel
theorem d_method_3_code_75 : decode method_3_code 75 = .ok (.aload_n 1, 1) := by decide +kernel
theorem d_method_3_code_76 : decode method_3_code 76 = .ok (.bipush 13, 2) := by decide +kernel
theorem d_method_3_code_78 : decode method_3_code 78 = .ok (.bipush 91, 2) := by decide +kernel
theorem d_method_3_code_80 : decode method_3_code 80 = .ok (.iastore, 1) := by decide +kernel
theorem d_method_3_code_81 : decode method_3_code 81 = .ok (.aload_n 1, 1) := by decide +kernel
theorem d_method_3_code_82 : decode method_3_code 82 = .ok (.bipush 14, 2) := by decide +kernel
theorem d_method_3_code_84 : decode method_3_code 84 = .ok (.sipush 1111, 3) := by decide +kernel
theorem d_method_3_code_87 : decode method_3_code 87 = .ok (.iastore, 1) := by decide +kernel
theorem d_method_3_code_88 : decode method_3_code 88 = .ok (.aload_n 1, 1) := by decide +kernel
theorem d_method_3_code_89 : decode method_3_code 89 = .ok (.bipush 15, 2) := by decide +kernel
theorem d_method_3_code_91 : decode method_3_code 91 = .ok (.bipush (-4), 2) := by decide +kernel
theorem d_method_3_code_93 : decode method_3_code 93 = .ok (.iastore, 1) := by decide +kernel
theorem d_method_3_code_94 : decode method_3_code 94 = .ok (.aload_n 1, 1) := by decide +kernel
theorem d_method_3_code_95 : decode method_3_code 95 = .ok (.iload_n 0, 1) := by decide +kernel
theorem d_method_3_code_96 : decode method_3_code 96 = .ok (.iaload, 1) := by decide +kernel
theorem d_method_3_code_97 : decode method_3_code 97 = .ok (.ireturn, 1) := by decide +kernel
theorem pn_com_example_clausewright_clausewright_model_ColumnIsTextPinLaw : plainName "com/example/clausewright/clausewright/model/ColumnIsTextPinLaw" = true := by first | (simp [plainName, overriddenIn]; done) | decide +kernel
theorem ef_pick (m : MethodId) (x0 : Int32) : entryFrame m #[(.int x0)] 2 = mkF m 0 #[.val (.int x0), .unset] [] := by (first | (simp [entryFrame, mkF, argsToLocals, Value.category]; done) | rfl)
def Q_pick  (h0 : Heap) (n0 : Nat) (v : Option Value) (h : Heap) (L : List Loc) : Prop := ∃ z : Int32, v = some (.int z) ∧ Fr n0 L ∧ Keep h0 h []
set_option maxRecDepth 65536 in
set_option maxHeartbeats 40000000 in
theorem rm_pick (l : Launch) (Z : State) (a0 : Array Value) (hw : ∀ d ∈ tables_1, d.before a0 Z = true) (ws : List Jvm.Cond) (p1 : Int32) (h0 : Heap) (n0 : Nat) (Z0 : n0 ≤ h0.size) (hp1 : ¬ p1 < (0 : Int32) ∧ p1 < (16 : Int32)) :
    MetFree l (⟨"com/example/clausewright/clausewright/model/ColumnIsTextPinLaw", "pick", "(I)I"⟩ : MethodName) (head1 (Jvm.Cond.code (⟨"com/example/clausewright/clausewright/model/ColumnIsTextPinLaw", "pick", "(I)I"⟩ : MethodName) method_3_code 2 (some .int) :: ws) ({ frames := 0, cells := 1, slots := 16, locals := 0 } : Room)) (fun a U => a = #[(.int p1)] ∧ Z.Warmed39 U.vm ∧ U.heap = h0) (fun _ _ _ _ _ => True) (fun _ U o U' => ∃ v L, o = .returned v ∧ Q_pick  h0 n0 v U'.heap L ∧ FrameEnd U o U' L ({ frames := 0, cells := 1, slots := 16, locals := 0 } : Room).cells ({ frames := 0, cells := 1, slots := 16, locals := 0 } : Room).slots) := by
  refine MetFree.of_bodySF (plainFor_of_name pn_com_example_clausewright_clausewright_model_ColumnIsTextPinLaw) hisR ?_
  intro p e s m args below meth c s₁ Bd hml0 hP hK
  obtain ⟨rfl, hZ, hh⟩ := hP
  have hx := Bd.exec
  have hby := Bd.bytes
  have hml : c.maxLocals = 2 := hml0
  have hown : s.vm.findClass "com/example/clausewright/clausewright/model/ColumnIsTextPinLaw" = some m.cls := findClass_of_methodNamed Bd.named
  have hnm := (name_of_methodNamed Bd.named Bd.method).1
  have X0 : Stand p l e ({ frames := 0, cells := 1, slots := 16, locals := 0 } : Room) s m #[(.int p1)] below meth c s₁ [] 0 0 := Stand.of_body Bd
  have e0 : s₁.heap = h0 := by rw [← hh, Bd.state]; rfl
  have N0 := Fr.nil n0
  have pre0 : ∀ t, Steps p.tables e below (s₁.setTop (mkF m 0 #[.val (.int p1), .unset] [])) t → Steps p.tables e below (s₁.setTop (entryFrame m #[(.int p1)] 2)) t := fun t k => castTop (ef_pick m p1) k
  have P0 : ∀ t, Steps p.tables e below (s₁.setTop (mkF m 0 #[.val (.int p1), .unset] [])) t → Steps p.tables e below (s₁.setTop (mkF m 0 #[.val (.int p1), .unset] [])) t := fun t k => k
  obtain ⟨T72, h72, k72, X72, e72, E72, A72, st72⟩ := newP X0 hx hZ (hw _ (List.mem_of_getElem? (i := 4) rfl)) e0 (g := (mkF m 2 #[.val (.int p1), .unset] [(.int (16 : Int32))])) rfl (hb hby d_method_3_code_2) rfl (by decide) (cap := 16) (by decide) (by decide) (by decide) (by decide)
  obtain ⟨b72, g72⟩ : ∃ z, z = h0.size := ⟨_, rfl⟩
  rw [← g72] at A72 st72
  have g_b72 : n0 ≤ b72 := Nat.le_trans Z0 (Nat.le_of_eq g72.symm)
  have sz_b72 : h0.size ≤ b72 := Nat.le_trans (Keep.refl h0 []).1 (Nat.le_of_eq g72.symm)
  have P73 : ∀ t, Steps p.tables e below (T72.setTop (mkF m 4 #[.val (.int p1), .unset] [(.ref b72)])) t → Steps p.tables e below (s₁.setTop (mkF m 0 #[.val (.int p1), .unset] [])) t := fun t k => P0 t (by
    refine XS.bipush X0.here hx rfl (hb hby d_method_3_code_0) ?_
    show Steps p.tables e below (s₁.setTop (mkF m 2 #[.val (.int p1), .unset] [(.int (16 : Int32))])) _
    exact st72 _ k)
  have Z74 : n0 ≤ h72.size := Nat.le_trans Z0 E72.1
  have K75 : Keep h0 h72 [] := (Keep.refl h0 []).ext E72
  have v76 : Arv Z h72 b72 k72 .int (16 : Int32) [(.int (0 : Int32)), (.int (0 : Int32)), (.int (0 : Int32)), (.int (0 : Int32)), (.int (0 : Int32)), (.int (0 : Int32)), (.int (0 : Int32)), (.int (0 : Int32)), (.int (0 : Int32)), (.int (0 : Int32)), (.int (0 : Int32)), (.int (0 : Int32)), (.int (0 : Int32)), (.int (0 : Int32)), (.int (0 : Int32)), (.int (0 : Int32))] (.int (0 : Int32)) := (Arv.new A72 (by decide)).pad (pad_rep [] (.int (0 : Int32)) 16)
  obtain ⟨cl77, Ar77, q77, S77, N77, H77, G77⟩ := id v76
  obtain ⟨T77, h77, X77, e77, W77, st77⟩ := stI X72 hx hZ e72 Ar77 (j := (0 : Int32)) (inb_of S77 ⟨by decide, by decide⟩) (g := (mkF m 8 #[.val (.int p1), .val (.ref b72)] [(.int (1 : Int32)), (.int (0 : Int32)), (.ref b72)])) rfl rfl (hb hby d_method_3_code_8)
  have v78 : Arv Z h77 b72 k72 .int (16 : Int32) [(.int (1 : Int32)), (.int (0 : Int32)), (.int (0 : Int32)), (.int (0 : Int32)), (.int (0 : Int32)), (.int (0 : Int32)), (.int (0 : Int32)), (.int (0 : Int32)), (.int (0 : Int32)), (.int (0 : Int32)), (.int (0 : Int32)), (.int (0 : Int32)), (.int (0 : Int32)), (.int (0 : Int32)), (.int (0 : Int32)), (.int (0 : Int32))] (.int (0 : Int32)) := Arv.set Ar77 q77 S77 N77 H77 G77 rfl W77 0 rfl (Nat.le_of_ble_eq_true rfl)
  have P79 : ∀ t, Steps p.tables e below (T77.setTop (mkF m 9 #[.val (.int p1), .val (.ref b72)] [])) t → Steps p.tables e below (s₁.setTop (mkF m 0 #[.val (.int p1), .unset] [])) t := fun t k => P73 t (by
    show Steps p.tables e below (T72.setTop (mkF m 4 #[.val (.int p1), .unset] [(.ref b72)])) _
    refine XS.astoreN X72.here hx rfl (hb hby d_method_3_code_4) rfl rfl (l' := #[.val (.int p1), .val (.ref b72)]) rfl ?_
    show Steps p.tables e below (T72.setTop (mkF m 5 #[.val (.int p1), .val (.ref b72)] [])) _
    refine XS.aloadN X72.here hx rfl (hb hby d_method_3_code_5) rfl rfl ?_
    show Steps p.tables e below (T72.setTop (mkF m 6 #[.val (.int p1), .val (.ref b72)] [(.ref b72)])) _
    refine XS.iconst X72.here hx rfl (hb hby d_method_3_code_6) ?_
    show Steps p.tables e below (T72.setTop (mkF m 7 #[.val (.int p1), .val (.ref b72)] [(.int (0 : Int32)), (.ref b72)])) _
    refine XS.iconst X72.here hx rfl (hb hby d_method_3_code_7) ?_
    show Steps p.tables e below (T72.setTop (mkF m 8 #[.val (.int p1), .val (.ref b72)] [(.int (1 : Int32)), (.int (0 : Int32)), (.ref b72)])) _
    exact st77 _ k)
  have N80 := Fr.snoc X77 N0 g_b72
  have Z81 : n0 ≤ h77.size := Nat.le_trans Z74 (Keep.of_wr W77).1
  have K82 : Keep h0 h77 [] := K75.wr W77 (Or.inr sz_b72)
  obtain ⟨cl83, Ar83, q83, S83, N83, H83, G83⟩ := id v78
  obtain ⟨T83, h83, X83, e83, W83, st83⟩ := stI X77 hx hZ e77 Ar83 (j := (1 : Int32)) (inb_of S83 ⟨by decide, by decide⟩) (g := (mkF m 13 #[.val (.int p1), .val (.ref b72)] [(.int (12 : Int32)), (.int (1 : Int32)), (.ref b72)])) rfl rfl (hb hby d_method_3_code_13)
  have v84 : Arv Z h83 b72 k72 .int (16 : Int32) [(.int (1 : Int32)), (.int (12 : Int32)), (.int (0 : Int32)), (.int (0 : Int32)), (.int (0 : Int32)), (.int (0 : Int32)), (.int (0 : Int32)), (.int (0 : Int32)), (.int (0 : Int32)), (.int (0 : Int32)), (.int (0 : Int32)), (.int (0 : Int32)), (.int (0 : Int32)), (.int (0 : Int32)), (.int (0 : Int32)), (.int (0 : Int32))] (.int (0 : Int32)) := Arv.set Ar83 q83 S83 N83 H83 G83 rfl W83 1 rfl (Nat.le_of_ble_eq_true rfl)
  have P85 : ∀ t, Steps p.tables e below (T83.setTop (mkF m 14 #[.val (.int p1), .val (.ref b72)] [])) t → Steps p.tables e below (s₁.setTop (mkF m 0 #[.val (.int p1), .unset] [])) t := fun t k => P79 t (by
    show Steps p.tables e below (T77.setTop (mkF m 9 #[.val (.int p1), .val (.ref b72)] [])) _
    refine XS.aloadN X77.here hx rfl (hb hby d_method_3_code_9) rfl rfl ?_
    show Steps p.tables e below (T77.setTop (mkF m 10 #[.val (.int p1), .val (.ref b72)] [(.ref b72)])) _
    refine XS.iconst X77.here hx rfl (hb hby d_method_3_code_10) ?_
    show Steps p.tables e below (T77.setTop (mkF m 11 #[.val (.int p1), .val (.ref b72)] [(.int (1 : Int32)), (.ref b72)])) _
    refine XS.bipush X77.here hx rfl (hb hby d_method_3_code_11) ?_
    show Steps p.tables e below (T77.setTop (mkF m 13 #[.val (.int p1), .val (.ref b72)] [(.int (12 : Int32)), (.int (1 : Int32)), (.ref b72)])) _
    exact st83 _ k)
  have N86 := Fr.snoc X83 N80 g_b72
  have Z87 : n0 ≤ h83.size := Nat.le_trans Z81 (Keep.of_wr W83).1
  have K88 : Keep h0 h83 [] := K82.wr W83 (Or.inr sz_b72)
  obtain ⟨cl89, Ar89, q89, S89, N89, H89, G89⟩ := id v84
  obtain ⟨T89, h89, X89, e89, W89, st89⟩ := stI X83 hx hZ e83 Ar89 (j := (2 : Int32)) (inb_of S89 ⟨by decide, by decide⟩) (g := (mkF m 17 #[.val (.int p1), .val (.ref b72)] [(.int (-1 : Int32)), (.int (2 : Int32)), (.ref b72)])) rfl rfl (hb hby d_method_3_code_17)
  have v90 : Arv Z h89 b72 k72 .int (16 : Int32) [(.int (1 : Int32)), (.int (12 : Int32)), (.int (-1 : Int32)), (.int (0 : Int32)), (.int (0 : Int32)), (.int (0 : Int32)), (.int (0 : Int32)), (.int (0 : Int32)), (.int (0 : Int32)), (.int (0 : Int32)), (.int (0 : Int32)), (.int (0 : Int32)), (.int (0 : Int32)), (.int (0 : Int32)), (.int (0 : Int32)), (.int (0 : Int32))] (.int (0 : Int32)) := Arv.set Ar89 q89 S89 N89 H89 G89 rfl W89 2 rfl (Nat.le_of_ble_eq_true rfl)
  have P91 : ∀ t, Steps p.tables e below (T89.setTop (mkF m 18 #[.val (.int p1), .val (.ref b72)] [])) t → Steps p.tables e below (s₁.setTop (mkF m 0 #[.val (.int p1), .unset] [])) t := fun t k => P85 t (by
    show Steps p.tables e below (T83.setTop (mkF m 14 #[.val (.int p1), .val (.ref b72)] [])) _
    refine XS.aloadN X83.here hx rfl (hb hby d_method_3_code_14) rfl rfl ?_
    show Steps p.tables e below (T83.setTop (mkF m 15 #[.val (.int p1), .val (.ref b72)] [(.ref b72)])) _
    refine XS.iconst X83.here hx rfl (hb hby d_method_3_code_15) ?_
    show Steps p.tables e below (T83.setTop (mkF m 16 #[.val (.int p1), .val (.ref b72)] [(.int (2 : Int32)), (.ref b72)])) _
    refine XS.iconst X83.here hx rfl (hb hby d_method_3_code_16) ?_
    show Steps p.tables e below (T83.setTop (mkF m 17 #[.val (.int p1), .val (.ref b72)] [(.int (-1 : Int32)), (.int (2 : Int32)), (.ref b72)])) _
    exact st89 _ k)
  have N92 := Fr.snoc X89 N86 g_b72
  have Z93 : n0 ≤ h89.size := Nat.le_trans Z87 (Keep.of_wr W89).1
  have K94 : Keep h0 h89 [] := K88.wr W89 (Or.inr sz_b72)
  obtain ⟨cl95, Ar95, q95, S95, N95, H95, G95⟩ := id v90
  obtain ⟨T95, h95, X95, e95, W95, st95⟩ := stI X89 hx hZ e89 Ar95 (j := (3 : Int32)) (inb_of S95 ⟨by decide, by decide⟩) (g := (mkF m 23 #[.val (.int p1), .val (.ref b72)] [(.int (2005 : Int32)), (.int (3 : Int32)), (.ref b72)])) rfl rfl (hb hby d_method_3_code_23)
  have v96 : Arv Z h95 b72 k72 .int (16 : Int32) [(.int (1 : Int32)), (.int (12 : Int32)), (.int (-1 : Int32)), (.int (2005 : Int32)), (.int (0 : Int32)), (.int (0 : Int32)), (.int (0 : Int32)), (.int (0 : Int32)), (.int (0 : Int32)), (.int (0 : Int32)), (.int (0 : Int32)), (.int (0 : Int32)), (.int (0 : Int32)), (.int (0 : Int32)), (.int (0 : Int32)), (.int (0 : Int32))] (.int (0 : Int32)) := Arv.set Ar95 q95 S95 N95 H95 G95 rfl W95 3 rfl (Nat.le_of_ble_eq_true rfl)
  have P97 : ∀ t, Steps p.tables e below (T95.setTop (mkF m 24 #[.val (.int p1), .val (.ref b72)] [])) t → Steps p.tables e below (s₁.setTop (mkF m 0 #[.val (.int p1), .unset] [])) t := fun t k => P91 t (by
    show Steps p.tables e below (T89.setTop (mkF m 18 #[.val (.int p1), .val (.ref b72)] [])) _
    refine XS.aloadN X89.here hx rfl (hb hby d_method_3_code_18) rfl rfl ?_
    show Steps p.tables e below (T89.setTop (mkF m 19 #[.val (.int p1), .val (.ref b72)] [(.ref b72)])) _
    refine XS.iconst X89.here hx rfl (hb hby d_method_3_code_19) ?_
    show Steps p.tables e below (T89.setTop (mkF m 20 #[.val (.int p1), .val (.ref b72)] [(.int (3 : Int32)), (.ref b72)])) _
    refine XS.sipush X89.here hx rfl (hb hby d_method_3_code_20) ?_
    show Steps p.tables e below (T89.setTop (mkF m 23 #[.val (.int p1), .val (.ref b72)] [(.int (2005 : Int32)), (.int (3 : Int32)), (.ref b72)])) _
    exact st95 _ k)
  have N98 := Fr.snoc X95 N92 g_b72
  have Z99 : n0 ≤ h95.size := Nat.le_trans Z93 (Keep.of_wr W95).1
  have K100 : Keep h0 h95 [] := K94.wr W95 (Or.inr sz_b72)
  obtain ⟨cl101, Ar101, q101, S101, N101, H101, G101⟩ := id v96
  obtain ⟨T101, h101, X101, e101, W101, st101⟩ := stI X95 hx hZ e95 Ar101 (j := (4 : Int32)) (inb_of S101 ⟨by decide, by decide⟩) (g := (mkF m 28 #[.val (.int p1), .val (.ref b72)] [(.int (-15 : Int32)), (.int (4 : Int32)), (.ref b72)])) rfl rfl (hb hby d_method_3_code_28)
  have v102 : Arv Z h101 b72 k72 .int (16 : Int32) [(.int (1 : Int32)), (.int (12 : Int32)), (.int (-1 : Int32)), (.int (2005 : Int32)), (.int (-15 : Int32)), (.int (0 : Int32)), (.int (0 : Int32)), (.int (0 : Int32)), (.int (0 : Int32)), (.int (0 : Int32)), (.int (0 : Int32)), (.int (0 : Int32)), (.int (0 : Int32)), (.int (0 : Int32)), (.int (0 : Int32)), (.int (0 : Int32))] (.int (0 : Int32)) := Arv.set Ar101 q101 S101 N101 H101 G101 rfl W101 4 rfl (Nat.le_of_ble_eq_true rfl)
  have P103 : ∀ t, Steps p.tables e below (T101.setTop (mkF m 29 #[.val (.int p1), .val (.ref b72)] [])) t → Steps p.tables e below (s₁.setTop (mkF m 0 #[.val (.int p1), .unset] [])) t := fun t k => P97 t (by
    show Steps p.tables e below (T95.setTop (mkF m 24 #[.val (.int p1), .val (.ref b72)] [])) _
    refine XS.aloadN X95.here hx rfl (hb hby d_method_3_code_24) rfl rfl ?_
    show Steps p.tables e below (T95.setTop (mkF m 25 #[.val (.int p1), .val (.ref b72)] [(.ref b72)])) _
    refine XS.iconst X95.here hx rfl (hb hby d_method_3_code_25) ?_
    show Steps p.tables e below (T95.setTop (mkF m 26 #[.val (.int p1), .val (.ref b72)] [(.int (4 : Int32)), (.ref b72)])) _
    refine XS.bipush X95.here hx rfl (hb hby d_method_3_code_26) ?_
    show Steps p.tables e below (T95.setTop (mkF m 28 #[.val (.int p1), .val (.ref b72)] [(.int (-15 : Int32)), (.int (4 : Int32)), (.ref b72)])) _
    exact st101 _ k)
  have N104 := Fr.snoc X101 N98 g_b72
  have Z105 : n0 ≤ h101.size := Nat.le_trans Z99 (Keep.of_wr W101).1
  have K106 : Keep h0 h101 [] := K100.wr W101 (Or.inr sz_b72)
  obtain ⟨cl107, Ar107, q107, S107, N107, H107, G107⟩ := id v102
  obtain ⟨T107, h107, X107, e107, W107, st107⟩ := stI X101 hx hZ e101 Ar107 (j := (5 : Int32)) (inb_of S107 ⟨by decide, by decide⟩) (g := (mkF m 33 #[.val (.int p1), .val (.ref b72)] [(.int (-9 : Int32)), (.int (5 : Int32)), (.ref b72)])) rfl rfl (hb hby d_method_3_code_33)
  have v108 : Arv Z h107 b72 k72 .int (16 : Int32) [(.int (1 : Int32)), (.int (12 : Int32)), (.int (-1 : Int32)), (.int (2005 : Int32)), (.int (-15 : Int32)), (.int (-9 : Int32)), (.int (0 : Int32)), (.int (0 : Int32)), (.int (0 : Int32)), (.int (0 : Int32)), (.int (0 : Int32)), (.int (0 : Int32)), (.int (0 : Int32)), (.int (0 : Int32)), (.int (0 : Int32)), (.int (0 : Int32))] (.int (0 : Int32)) := Arv.set Ar107 q107 S107 N107 H107 G107 rfl W107 5 rfl (Nat.le_of_ble_eq_true rfl)
  have P109 : ∀ t, Steps p.tables e below (T107.setTop (mkF m 34 #[.val (.int p1), .val (.ref b72)] [])) t → Steps p.tables e below (s₁.setTop (mkF m 0 #[.val (.int p1), .unset] [])) t := fun t k => P103 t (by
    show Steps p.tables e below (T101.setTop (mkF m 29 #[.val (.int p1), .val (.ref b72)] [])) _
    refine XS.aloadN X101.here hx rfl (hb hby d_method_3_code_29) rfl rfl ?_
    show Steps p.tables e below (T101.setTop (mkF m 30 #[.val (.int p1), .val (.ref b72)] [(.ref b72)])) _
    refine XS.iconst X101.here hx rfl (hb hby d_method_3_code_30) ?_
    show Steps p.tables e below (T101.setTop (mkF m 31 #[.val (.int p1), .val (.ref b72)] [(.int (5 : Int32)), (.ref b72)])) _
    refine XS.bipush X101.here hx rfl (hb hby d_method_3_code_31) ?_
    show Steps p.tables e below (T101.setTop (mkF m 33 #[.val (.int p1), .val (.ref b72)] [(.int (-9 : Int32)), (.int (5 : Int32)), (.ref b72)])) _
    exact st107 _ k)
  have N110 := Fr.snoc X107 N104 g_b72
  have Z111 : n0 ≤ h107.size := Nat.le_trans Z105 (Keep.of_wr W107).1
  have K112 : Keep h0 h107 [] := K106.wr W107 (Or.inr sz_b72)
  obtain ⟨cl113, Ar113, q113, S113, N113, H113, G113⟩ := id v108
  obtain ⟨T113, h113, X113, e113, W113, st113⟩ := stI X107 hx hZ e107 Ar113 (j := (6 : Int32)) (inb_of S113 ⟨by decide, by decide⟩) (g := (mkF m 39 #[.val (.int p1), .val (.ref b72)] [(.int (-16 : Int32)), (.int (6 : Int32)), (.ref b72)])) rfl rfl (hb hby d_method_3_code_39)
  have v114 : Arv Z h113 b72 k72 .int (16 : Int32) [(.int (1 : Int32)), (.int (12 : Int32)), (.int (-1 : Int32)), (.int (2005 : Int32)), (.int (-15 : Int32)), (.int (-9 : Int32)), (.int (-16 : Int32)), (.int (0 : Int32)), (.int (0 : Int32)), (.int (0 : Int32)), (.int (0 : Int32)), (.int (0 : Int32)), (.int (0 : Int32)), (.int (0 : Int32)), (.int (0 : Int32)), (.int (0 : Int32))] (.int (0 : Int32)) := Arv.set Ar113 q113 S113 N113 H113 G113 rfl W113 6 rfl (Nat.le_of_ble_eq_true rfl)
  have P115 : ∀ t, Steps p.tables e below (T113.setTop (mkF m 40 #[.val (.int p1), .val (.ref b72)] [])) t → Steps p.tables e below (s₁.setTop (mkF m 0 #[.val (.int p1), .unset] [])) t := fun t k => P109 t (by
    show Steps p.tables e below (T107.setTop (mkF m 34 #[.val (.int p1), .val (.ref b72)] [])) _
    refine XS.aloadN X107.here hx rfl (hb hby d_method_3_code_34) rfl rfl ?_
    show Steps p.tables e below (T107.setTop (mkF m 35 #[.val (.int p1), .val (.ref b72)] [(.ref b72)])) _
    refine XS.bipush X107.here hx rfl (hb hby d_method_3_code_35) ?_
    show Steps p.tables e below (T107.setTop (mkF m 37 #[.val (.int p1), .val (.ref b72)] [(.int (6 : Int32)), (.ref b72)])) _
    refine XS.bipush X107.here hx rfl (hb hby d_method_3_code_37) ?_
    show Steps p.tables e below (T107.setTop (mkF m 39 #[.val (.int p1), .val (.ref b72)] [(.int (-16 : Int32)), (.int (6 : Int32)), (.ref b72)])) _
    exact st113 _ k)
  have N116 := Fr.snoc X113 N110 g_b72
  have Z117 : n0 ≤ h113.size := Nat.le_trans Z111 (Keep.of_wr W113).1
  have K118 : Keep h0 h113 [] := K112.wr W113 (Or.inr sz_b72)
  obtain ⟨cl119, Ar119, q119, S119, N119, H119, G119⟩ := id v114
  obtain ⟨T119, h119, X119, e119, W119, st119⟩ := stI X113 hx hZ e113 Ar119 (j := (7 : Int32)) (inb_of S119 ⟨by decide, by decide⟩) (g := (mkF m 46 #[.val (.int p1), .val (.ref b72)] [(.int (2011 : Int32)), (.int (7 : Int32)), (.ref b72)])) rfl rfl (hb hby d_method_3_code_46)
  have v120 : Arv Z h119 b72 k72 .int (16 : Int32) [(.int (1 : Int32)), (.int (12 : Int32)), (.int (-1 : Int32)), (.int (2005 : Int32)), (.int (-15 : Int32)), (.int (-9 : Int32)), (.int (-16 : Int32)), (.int (2011 : Int32)), (.int (0 : Int32)), (.int (0 : Int32)), (.int (0 : Int32)), (.int (0 : Int32)), (.int (0 : Int32)), (.int (0 : Int32)), (.int (0 : Int32)), (.int (0 : Int32))] (.int (0 : Int32)) := Arv.set Ar119 q119 S119 N119 H119 G119 rfl W119 7 rfl (Nat.le_of_ble_eq_true rfl)
  have P121 : ∀ t, Steps p.tables e below (T119.setTop (mkF m 47 #[.val (.int p1), .val (.ref b72)] [])) t → Steps p.tables e below (s₁.setTop (mkF m 0 #[.val (.int p1), .unset] [])) t := fun t k => P115 t (by
    show Steps p.tables e below (T113.setTop (mkF m 40 #[.val (.int p1), .val (.ref b72)] [])) _
    refine XS.aloadN X113.here hx rfl (hb hby d_method_3_code_40) rfl rfl ?_
    show Steps p.tables e below (T113.setTop (mkF m 41 #[.val (.int p1), .val (.ref b72)] [(.ref b72)])) _
    refine XS.bipush X113.here hx rfl (hb hby d_method_3_code_41) ?_
    show Steps p.tables e below (T113.setTop (mkF m 43 #[.val (.int p1), .val (.ref b72)] [(.int (7 : Int32)), (.ref b72)])) _
    refine XS.sipush X113.here hx rfl (hb hby d_method_3_code_43) ?_
    show Steps p.tables e below (T113.setTop (mkF m 46 #[.val (.int p1), .val (.ref b72)] [(.int (2011 : Int32)), (.int (7 : Int32)), (.ref b72)])) _
    exact st119 _ k)
  have N122 := Fr.snoc X119 N116 g_b72
  have Z123 : n0 ≤ h119.size := Nat.le_trans Z117 (Keep.of_wr W119).1
  have K124 : Keep h0 h119 [] := K118.wr W119 (Or.inr sz_b72)
  obtain ⟨cl125, Ar125, q125, S125, N125, H125, G125⟩ := id v120
  obtain ⟨T125, h125, X125, e125, W125, st125⟩ := stI X119 hx hZ e119 Ar125 (j := (8 : Int32)) (inb_of S125 ⟨by decide, by decide⟩) (g := (mkF m 51 #[.val (.int p1), .val (.ref b72)] [(.int (0 : Int32)), (.int (8 : Int32)), (.ref b72)])) rfl rfl (hb hby d_method_3_code_51)
  have v126 : Arv Z h125 b72 k72 .int (16 : Int32) [(.int (1 : Int32)), (.int (12 : Int32)), (.int (-1 : Int32)), (.int (2005 : Int32)), (.int (-15 : Int32)), (.int (-9 : Int32)), (.int (-16 : Int32)), (.int (2011 : Int32)), (.int (0 : Int32)), (.int (0 : Int32)), (.int (0 : Int32)), (.int (0 : Int32)), (.int (0 : Int32)), (.int (0 : Int32)), (.int (0 : Int32)), (.int (0 : Int32))] (.int (0 : Int32)) := Arv.set Ar125 q125 S125 N125 H125 G125 rfl W125 8 rfl (Nat.le_of_ble_eq_true rfl)
  have P127 : ∀ t, Steps p.tables e below (T125.setTop (mkF m 52 #[.val (.int p1), .val (.ref b72)] [])) t → Steps p.tables e below (s₁.setTop (mkF m 0 #[.val (.int p1), .unset] [])) t := fun t k => P121 t (by
    show Steps p.tables e below (T119.setTop (mkF m 47 #[.val (.int p1), .val (.ref b72)] [])) _
    refine XS.aloadN X119.here hx rfl (hb hby d_method_3_code_47) rfl rfl ?_
    show Steps p.tables e below (T119.setTop (mkF m 48 #[.val (.int p1), .val (.ref b72)] [(.ref b72)])) _
    refine XS.bipush X119.here hx rfl (hb hby d_method_3_code_48) ?_
    show Steps p.tables e below (T119.setTop (mkF m 50 #[.val (.int p1), .val (.ref b72)] [(.int (8 : Int32)), (.ref b72)])) _
    refine XS.iconst X119.here hx rfl (hb hby d_method_3_code_50) ?_
    show Steps p.tables e below (T119.setTop (mkF m 51 #[.val (.int p1), .val (.ref b72)] [(.int (0 : Int32)), (.int (8 : Int32)), (.ref b72)])) _
    exact st125 _ k)
  have N128 := Fr.snoc X125 N122 g_b72
  have Z129 : n0 ≤ h125.size := Nat.le_trans Z123 (Keep.of_wr W125).1
  have K130 : Keep h0 h125 [] := K124.wr W125 (Or.inr sz_b72)
  obtain ⟨cl131, Ar131, q131, S131, N131, H131, G131⟩ := id v126
  obtain ⟨T131, h131, X131, e131, W131, st131⟩ := stI X125 hx hZ e125 Ar131 (j := (9 : Int32)) (inb_of S131 ⟨by decide, by decide⟩) (g := (mkF m 56 #[.val (.int p1), .val (.ref b72)] [(.int (2 : Int32)), (.int (9 : Int32)), (.ref b72)])) rfl rfl (hb hby d_method_3_code_56)
  have v132 : Arv Z h131 b72 k72 .int (16 : Int32) [(.int (1 : Int32)), (.int (12 : Int32)), (.int (-1 : Int32)), (.int (2005 : Int32)), (.int (-15 : Int32)), (.int (-9 : Int32)), (.int (-16 : Int32)), (.int (2011 : Int32)), (.int (0 : Int32)), (.int (2 : Int32)), (.int (0 : Int32)), (.int (0 : Int32)), (.int (0 : Int32)), (.int (0 : Int32)), (.int (0 : Int32)), (.int (0 : Int32))] (.int (0 : Int32)) := Arv.set Ar131 q131 S131 N131 H131 G131 rfl W131 9 rfl (Nat.le_of_ble_eq_true rfl)
  have P133 : ∀ t, Steps p.tables e below (T131.setTop (mkF m 57 #[.val (.int p1), .val (.ref b72)] [])) t → Steps p.tables e below (s₁.setTop (mkF m 0 #[.val (.int p1), .unset] [])) t := fun t k => P127 t (by
    show Steps p.tables e below (T125.setTop (mkF m 52 #[.val (.int p1), .val (.ref b72)] [])) _
    refine XS.aloadN X125.here hx rfl (hb hby d_method_3_code_52) rfl rfl ?_
    show Steps p.tables e below (T125.setTop (mkF m 53 #[.val (.int p1), .val (.ref b72)] [(.ref b72)])) _
    refine XS.bipush X125.here hx rfl (hb hby d_method_3_code_53) ?_
    show Steps p.tables e below (T125.setTop (mkF m 55 #[.val (.int p1), .val (.ref b72)] [(.int (9 : Int32)), (.ref b72)])) _
    refine XS.iconst X125.here hx rfl (hb hby d_method_3_code_55) ?_
    show Steps p.tables e below (T125.setTop (mkF m 56 #[.val (.int p1), .val (.ref b72)] [(.int (2 : Int32)), (.int (9 : Int32)), (.ref b72)])) _
    exact st131 _ k)
  have N134 := Fr.snoc X131 N128 g_b72
  have Z135 : n0 ≤ h131.size := Nat.le_trans Z129 (Keep.of_wr W131).1
  have K136 : Keep h0 h131 [] := K130.wr W131 (Or.inr sz_b72)
  obtain ⟨cl137, Ar137, q137, S137, N137, H137, G137⟩ := id v132
  obtain ⟨T137, h137, X137, e137, W137, st137⟩ := stI X131 hx hZ e131 Ar137 (j := (10 : Int32)) (inb_of S137 ⟨by decide, by decide⟩) (g := (mkF m 61 #[.val (.int p1), .val (.ref b72)] [(.int (4 : Int32)), (.int (10 : Int32)), (.ref b72)])) rfl rfl (hb hby d_method_3_code_61)
  have v138 : Arv Z h137 b72 k72 .int (16 : Int32) [(.int (1 : Int32)), (.int (12 : Int32)), (.int (-1 : Int32)), (.int (2005 : Int32)), (.int (-15 : Int32)), (.int (-9 : Int32)), (.int (-16 : Int32)), (.int (2011 : Int32)), (.int (0 : Int32)), (.int (2 : Int32)), (.int (4 : Int32)), (.int (0 : Int32)), (.int (0 : Int32)), (.int (0 : Int32)), (.int (0 : Int32)), (.int (0 : Int32))] (.int (0 : Int32)) := Arv.set Ar137 q137 S137 N137 H137 G137 rfl W137 10 rfl (Nat.le_of_ble_eq_true rfl)
  have P139 : ∀ t, Steps p.tables e below (T137.setTop (mkF m 62 #[.val (.int p1), .val (.ref b72)] [])) t → Steps p.tables e below (s₁.setTop (mkF m 0 #[.val (.int p1), .unset] [])) t := fun t k => P133 t (by
    show Steps p.tables e below (T131.setTop (mkF m 57 #[.val (.int p1), .val (.ref b72)] [])) _
    refine XS.aloadN X131.here hx rfl (hb hby d_method_3_code_57) rfl rfl ?_
    show Steps p.tables e below (T131.setTop (mkF m 58 #[.val (.int p1), .val (.ref b72)] [(.ref b72)])) _
    refine XS.bipush X131.here hx rfl (hb hby d_method_3_code_58) ?_
    show Steps p.tables e below (T131.setTop (mkF m 60 #[.val (.int p1), .val (.ref b72)] [(.int (10 : Int32)), (.ref b72)])) _
    refine XS.iconst X131.here hx rfl (hb hby d_method_3_code_60) ?_
    show Steps p.tables e below (T131.setTop (mkF m 61 #[.val (.int p1), .val (.ref b72)] [(.int (4 : Int32)), (.int (10 : Int32)), (.ref b72)])) _
    exact st137 _ k)
  have N140 := Fr.snoc X137 N134 g_b72
  have Z141 : n0 ≤ h137.size := Nat.le_trans Z135 (Keep.of_wr W137).1
  have K142 : Keep h0 h137 [] := K136.wr W137 (Or.inr sz_b72)
  obtain ⟨cl143, Ar143, q143, S143, N143, H143, G143⟩ := id v138
  obtain ⟨T143, h143, X143, e143, W143, st143⟩ := stI X137 hx hZ e137 Ar143 (j := (11 : Int32)) (inb_of S143 ⟨by decide, by decide⟩) (g := (mkF m 67 #[.val (.int p1), .val (.ref b72)] [(.int (-2 : Int32)), (.int (11 : Int32)), (.ref b72)])) rfl rfl (hb hby d_method_3_code_67)
  have v144 : Arv Z h143 b72 k72 .int (16 : Int32) [(.int (1 : Int32)), (.int (12 : Int32)), (.int (-1 : Int32)), (.int (2005 : Int32)), (.int (-15 : Int32)), (.int (-9 : Int32)), (.int (-16 : Int32)), (.int (2011 : Int32)), (.int (0 : Int32)), (.int (2 : Int32)), (.int (4 : Int32)), (.int (-2 : Int32)), (.int (0 : Int32)), (.int (0 : Int32)), (.int (0 : Int32)), (.int (0 : Int32))] (.int (0 : Int32)) := Arv.set Ar143 q143 S143 N143 H143 G143 rfl W143 11 rfl (Nat.le_of_ble_eq_true rfl)
  have P145 : ∀ t, Steps p.tables e below (T143.setTop (mkF m 68 #[.val (.int p1), .val (.ref b72)] [])) t → Steps p.tables e below (s₁.setTop (mkF m 0 #[.val (.int p1), .unset] [])) t := fun t k => P139 t (by
    show Steps p.tables e below (T137.setTop (mkF m 62 #[.val (.int p1), .val (.ref b72)] [])) _
    refine XS.aloadN X137.here hx rfl (hb hby d_method_3_code_62) rfl rfl ?_
    show Steps p.tables e below (T137.setTop (mkF m 63 #[.val (.int p1), .val (.ref b72)] [(.ref b72)])) _
    refine XS.bipush X137.here hx rfl (hb hby d_method_3_code_63) ?_
    show Steps p.tables e below (T137.setTop (mkF m 65 #[.val (.int p1), .val (.ref b72)] [(.int (11 : Int32)), (.ref b72)])) _
    refine XS.bipush X137.here hx rfl (hb hby d_method_3_code_65) ?_
    show Steps p.tables e below (T137.setTop (mkF m 67 #[.val (.int p1), .val (.ref b72)] [(.int (-2 : Int32)), (.int (11 : Int32)), (.ref b72)])) _
    exact st143 _ k)
  have N146 := Fr.snoc X143 N140 g_b72
  have Z147 : n0 ≤ h143.size := Nat.le_trans Z141 (Keep.of_wr W143).1
  have K148 : Keep h0 h143 [] := K142.wr W143 (Or.inr sz_b72)
  obtain ⟨cl149, Ar149, q149, S149, N149, H149, G149⟩ := id v144
  obtain ⟨T149, h149, X149, e149, W149, st149⟩ := stI X143 hx hZ e143 Ar149 (j := (12 : Int32)) (inb_of S149 ⟨by decide, by decide⟩) (g := (mkF m 74 #[.val (.int p1), .val (.ref b72)] [(.int (2004 : Int32)), (.int (12 : Int32)), (.ref b72)])) rfl rfl (hb hby d_method_3_code_74)
  have v150 : Arv Z h149 b72 k72 .int (16 : Int32) [(.int (1 : Int32)), (.int (12 : Int32)), (.int (-1 : Int32)), (.int (2005 : Int32)), (.int (-15 : Int32)), (.int (-9 : Int32)), (.int (-16 : Int32)), (.int (2011 : Int32)), (.int (0 : Int32)), (.int (2 : Int32)), (.int (4 : Int32)), (.int (-2 : Int32)), (.int (2004 : Int32)), (.int (0 : Int32)), (.int (0 : Int32)), (.int (0 : Int32))] (.int (0 : Int32)) := Arv.set Ar149 q149 S149 N149 H149 G149 rfl W149 12 rfl (Nat.le_of_ble_eq_true rfl)
  have P151 : ∀ t, Steps p.tables e below (T149.setTop (mkF m 75 #[.val (.int p1), .val (.ref b72)] [])) t → Steps p.tables e below (s₁.setTop (mkF m 0 #[.val (.int p1), .unset] [])) t := fun t k => P145 t (by
    show Steps p.tables e below (T143.setTop (mkF m 68 #[.val (.int p1), .val (.ref b72)] [])) _
    refine XS.aloadN X143.here hx rfl (hb hby d_method_3_code_68) rfl rfl ?_
    show Steps p.tables e below (T143.setTop (mkF m 69 #[.val (.int p1), .val (.ref b72)] [(.ref b72)])) _
    refine XS.bipush X143.here hx rfl (hb hby d_method_3_code_69) ?_
    show Steps p.tables e below (T143.setTop (mkF m 71 #[.val (.int p1), .val (.ref b72)] [(.int (12 : Int32)), (.ref b72)])) _
    refine XS.sipush X143.here hx rfl (hb hby d_method_3_code_71) ?_
    show Steps p.tables e below (T143.setTop (mkF m 74 #[.val (.int p1), .val (.ref b72)] [(.int (2004 : Int32)), (.int (12 : Int32)), (.ref b72)])) _
    exact st149 _ k)
  have N152 := Fr.snoc X149 N146 g_b72
  have Z153 : n0 ≤ h149.size := Nat.le_trans Z147 (Keep.of_wr W149).1
  have K154 : Keep h0 h149 [] := K148.wr W149 (Or.inr sz_b72)
  obtain ⟨cl155, Ar155, q155, S155, N155, H155, G155⟩ := id v150
  obtain ⟨T155, h155, X155, e155, W155, st155⟩ := stI X149 hx hZ e149 Ar155 (j := (13 : Int32)) (inb_of S155 ⟨by decide, by decide⟩) (g := (mkF m 80 #[.val (.int p1), .val (.ref b72)] [(.int (91 : Int32)), (.int (13 : Int32)), (.ref b72)])) rfl rfl (hb hby d_method_3_code_80)
  have v156 : Arv Z h155 b72 k72 .int (16 : Int32) [(.int (1 : Int32)), (.int (12 : Int32)), (.int (-1 : Int32)), (.int (2005 : Int32)), (.int (-15 : Int32)), (.int (-9 : Int32)), (.int (-16 : Int32)), (.int (2011 : Int32)), (.int (0 : Int32)), (.int (2 : Int32)), (.int (4 : Int32)), (.int (-2 : Int32)), (.int (2004 : Int32)), (.int (91 : Int32)), (.int (0 : Int32)), (.int (0 : Int32))] (.int (0 : Int32)) := Arv.set Ar155 q155 S155 N155 H155 G155 rfl W155 13 rfl (Nat.le_of_ble_eq_true rfl)
  have P157 : ∀ t, Steps p.tables e below (T155.setTop (mkF m 81 #[.val (.int p1), .val (.ref b72)] [])) t → Steps p.tables e below (s₁.setTop (mkF m 0 #[.val (.int p1), .unset] [])) t := fun t k => P151 t (by
    show Steps p.tables e below (T149.setTop (mkF m 75 #[.val (.int p1), .val (.ref b72)] [])) _
    refine XS.aloadN X149.here hx rfl (hb hby d_method_3_code_75) rfl rfl ?_
    show Steps p.tables e below (T149.setTop (mkF m 76 #[.val (.int p1), .val (.ref b72)] [(.ref b72)])) _
    refine XS.bipush X149.here hx rfl (hb hby d_method_3_code_76) ?_
    show Steps p.tables e below (T149.setTop (mkF m 78 #[.val (.int p1), .val (.ref b72)] [(.int (13 : Int32)), (.ref b72)])) _
    refine XS.bipush X149.here hx rfl (hb hby d_method_3_code_78) ?_
    show Steps p.tables e below (T149.setTop (mkF m 80 #[.val (.int p1), .val (.ref b72)] [(.int (91 : Int32)), (.int (13 : Int32)), (.ref b72)])) _
    exact st155 _ k)
  have N158 := Fr.snoc X155 N152 g_b72
  have Z159 : n0 ≤ h155.size := Nat.le_trans Z153 (Keep.of_wr W155).1
  have K160 : Keep h0 h155 [] := K154.wr W155 (Or.inr sz_b72)
  obtain ⟨cl161, Ar161, q161, S161, N161, H161, G161⟩ := id v156
  obtain ⟨T161, h161, X161, e161, W161, st161⟩ := stI X155 hx hZ e155 Ar161 (j := (14 : Int32)) (inb_of S161 ⟨by decide, by decide⟩) (g := (mkF m 87 #[.val (.int p1), .val (.ref b72)] [(.int (1111 : Int32)), (.int (14 : Int32)), (.ref b72)])) rfl rfl (hb hby d_method_3_code_87)
  have v162 : Arv Z h161 b72 k72 .int (16 : Int32) [(.int (1 : Int32)), (.int (12 : Int32)), (.int (-1 : Int32)), (.int (2005 : Int32)), (.int (-15 : Int32)), (.int (-9 : Int32)), (.int (-16 : Int32)), (.int (2011 : Int32)), (.int (0 : Int32)), (.int (2 : Int32)), (.int (4 : Int32)), (.int (-2 : Int32)), (.int (2004 : Int32)), (.int (91 : Int32)), (.int (1111 : Int32)), (.int (0 : Int32))] (.int (0 : Int32)) := Arv.set Ar161 q161 S161 N161 H161 G161 rfl W161 14 rfl (Nat.le_of_ble_eq_true rfl)
  have P163 : ∀ t, Steps p.tables e below (T161.setTop (mkF m 88 #[.val (.int p1), .val (.ref b72)] [])) t → Steps p.tables e below (s₁.setTop (mkF m 0 #[.val (.int p1), .unset] [])) t := fun t k => P157 t (by
    show Steps p.tables e below (T155.setTop (mkF m 81 #[.val (.int p1), .val (.ref b72)] [])) _
    refine XS.aloadN X155.here hx rfl (hb hby d_method_3_code_81) rfl rfl ?_
    show Steps p.tables e below (T155.setTop (mkF m 82 #[.val (.int p1), .val (.ref b72)] [(.ref b72)])) _
    refine XS.bipush X155.here hx rfl (hb hby d_method_3_code_82) ?_
    show Steps p.tables e below (T155.setTop (mkF m 84 #[.val (.int p1), .val (.ref b72)] [(.int (14 : Int32)), (.ref b72)])) _
    refine XS.sipush X155.here hx rfl (hb hby d_method_3_code_84) ?_
    show Steps p.tables e below (T155.setTop (mkF m 87 #[.val (.int p1), .val (.ref b72)] [(.int (1111 : Int32)), (.int (14 : Int32)), (.ref b72)])) _
    exact st161 _ k)
  have N164 := Fr.snoc X161 N158 g_b72
  have Z165 : n0 ≤ h161.size := Nat.le_trans Z159 (Keep.of_wr W161).1
  have K166 : Keep h0 h161 [] := K160.wr W161 (Or.inr sz_b72)
  obtain ⟨cl167, Ar167, q167, S167, N167, H167, G167⟩ := id v162
  obtain ⟨T167, h167, X167, e167, W167, st167⟩ := stI X161 hx hZ e161 Ar167 (j := (15 : Int32)) (inb_of S167 ⟨by decide, by decide⟩) (g := (mkF m 93 #[.val (.int p1), .val (.ref b72)] [(.int (-4 : Int32)), (.int (15 : Int32)), (.ref b72)])) rfl rfl (hb hby d_method_3_code_93)
  have v168 : Arv Z h167 b72 k72 .int (16 : Int32) [(.int (1 : Int32)), (.int (12 : Int32)), (.int (-1 : Int32)), (.int (2005 : Int32)), (.int (-15 : Int32)), (.int (-9 : Int32)), (.int (-16 : Int32)), (.int (2011 : Int32)), (.int (0 : Int32)), (.int (2 : Int32)), (.int (4 : Int32)), (.int (-2 : Int32)), (.int (2004 : Int32)), (.int (91 : Int32)), (.int (1111 : Int32)), (.int (-4 : Int32))] (.int (0 : Int32)) := Arv.set Ar167 q167 S167 N167 H167 G167 rfl W167 15 rfl (Nat.le_of_ble_eq_true rfl)
  have P169 : ∀ t, Steps p.tables e below (T167.setTop (mkF m 94 #[.val (.int p1), .val (.ref b72)] [])) t → Steps p.tables e below (s₁.setTop (mkF m 0 #[.val (.int p1), .unset] [])) t := fun t k => P163 t (by
    show Steps p.tables e below (T161.setTop (mkF m 88 #[.val (.int p1), .val (.ref b72)] [])) _
    refine XS.aloadN X161.here hx rfl (hb hby d_method_3_code_88) rfl rfl ?_
    show Steps p.tables e below (T161.setTop (mkF m 89 #[.val (.int p1), .val (.ref b72)] [(.ref b72)])) _
    refine XS.bipush X161.here hx rfl (hb hby d_method_3_code_89) ?_
    show Steps p.tables e below (T161.setTop (mkF m 91 #[.val (.int p1), .val (.ref b72)] [(.int (15 : Int32)), (.ref b72)])) _
    refine XS.bipush X161.here hx rfl (hb hby d_method_3_code_91) ?_
    show Steps p.tables e below (T161.setTop (mkF m 93 #[.val (.int p1), .val (.ref b72)] [(.int (-4 : Int32)), (.int (15 : Int32)), (.ref b72)])) _
    exact st167 _ k)
  have N170 := Fr.snoc X167 N164 g_b72
  have Z171 : n0 ≤ h167.size := Nat.le_trans Z165 (Keep.of_wr W167).1
  have K172 : Keep h0 h167 [] := K166.wr W167 (Or.inr sz_b72)
  obtain ⟨cl, Ar, qq, SS, NN, HH, GG⟩ := v168
  have hin : ¬ (p1 < 0 ∨ cl.slots.size ≤ p1.toNatClampNeg) := inb_of SS hp1
  obtain ⟨z, hz⟩ := fit_I (GG p1.toNatClampNeg (Nat.lt_of_not_le fun y => hin (Or.inr y))) (Or.inl rfl)
  obtain ⟨fs173, hr173, hrun173, hended173, hW173, hsame173⟩ := X167.leave (v := some (.int z)) (fun h => by rw [Bd.returns] at h; cases h)
  refine ⟨_, _, pre0 _ (P169 _ ?_), hrun173, hended173, _, _, rfl, ?_, ⟨⟨_, rfl⟩, hW173, hsame173.mono (Nat.le_of_ble_eq_true rfl) (Nat.le_of_ble_eq_true rfl)⟩⟩
  · show Steps p.tables e below (T167.setTop (mkF m 94 #[.val (.int p1), .val (.ref b72)] [])) _
    refine XS.aloadN X167.here hx rfl (hb hby d_method_3_code_94) rfl rfl ?_
    show Steps p.tables e below (T167.setTop (mkF m 95 #[.val (.int p1), .val (.ref b72)] [(.ref b72)])) _
    refine XS.iloadN X167.here hx rfl (hb hby d_method_3_code_95) rfl ?_
    show Steps p.tables e below (T167.setTop (mkF m 96 #[.val (.int p1), .val (.ref b72)] [(.int p1), (.ref b72)])) _
    refine X167.iaload hx (j := p1) (v := .int z) (by rw [e167]; exact Ar.1) (State.isArrayOf_alike hZ.alike Ar.2.1) Ar.2.2 hin (HH.at hin hz) (g := (mkF m 96 #[.val (.int p1), .val (.ref b72)] [(.int p1), (.ref b72)])) rfl rfl (hb hby d_method_3_code_96) _ ?_
    show Steps p.tables e below (T167.setTop (mkF m 97 #[.val (.int p1), .val (.ref b72)] [(.int z)])) _
    exact retI X167 hx Bd.returns (hb hby d_method_3_code_97) hr173
  · show Q_pick  h0 n0 _ T167.heap _
    rw [e167]
    exact ⟨z, rfl, N170, K172⟩

theorem d_method_4_code_0 : decode method_4_code 0 = .ok (.iload_n 0, 1) := by decide +kernel
theorem d_method_4_code_1 : decode method_4_code 1 = .ok (.iconst 1, 1) := by decide +kernel
theorem d_method_4_code_2 : decode method_4_code 2 = .ok (.if_icmp .eq 21, 3) := by decide +kernel
theorem d_method_4_code_23 : decode method_4_code 23 = .ok (.iconst 1, 1) := by decide +kernel
theorem d_method_4_code_24 : decode method_4_code 24 = .ok (.ireturn, 1) := by decide +kernel
theorem d_method_4_code_5 : decode method_4_code 5 = .ok (.iload_n 0, 1) := by decide +kernel
theorem d_method_4_code_6 : decode method_4_code 6 = .ok (.bipush 12, 2) := by decide +kernel
theorem d_method_4_code_8 : decode method_4_code 8 = .ok (.if_icmp .eq 15, 3) := by decide +kernel
theorem d_method_4_code_11 : decode method_4_code 11 = .ok (.iload_n 0, 1) := by decide +kernel
theorem d_method_4_code_12 : decode method_4_code 12 = .ok (.iconst (-1), 1) := by decide +kernel
theorem d_method_4_code_13 : decode method_4_code 13 = .ok (.if_icmp .eq 10, 3) := by decide +kernel
theorem d_method_4_code_16 : decode method_4_code 16 = .ok (.iload_n 0, 1) := by decide +kernel
theorem d_method_4_code_17 : decode method_4_code 17 = .ok (.sipush 2005, 3) := by decide +kernel
theorem d_method_4_code_20 : decode method_4_code 20 = .ok (.if_icmp .ne 5, 3) := by decide +kernel
theorem d_method_4_code_25 : decode method_4_code 25 = .ok (.iload_n 0, 1) := by decide +kernel
theorem d_method_4_code_26 : decode method_4_code 26 = .ok (.bipush (-15), 2) := by decide +kernel
theorem d_method_4_code_28 : decode method_4_code 28 = .ok (.if_icmp .eq 22, 3) := by decide +kernel
theorem d_method_4_code_50 : decode method_4_code 50 = .ok (.iconst 1, 1) := by decide +kernel
theorem d_method_4_code_51 : decode method_4_code 51 = .ok (.ireturn, 1) := by decide +kernel
theorem d_method_4_code_31 : decode method_4_code 31 = .ok (.iload_n 0, 1) := by decide +kernel
theorem d_method_4_code_32 : decode method_4_code 32 = .ok (.bipush (-9), 2) := by decide +kernel
theorem d_method_4_code_34 : decode method_4_code 34 = .ok (.if_icmp .eq 16, 3) := by decide +kernel
theorem d_method_4_code_37 : decode method_4_code 37 = .ok (.iload_n 0, 1) := by decide +kernel
theorem d_method_4_code_38 : decode method_4_code 38 = .ok (.bipush (-16), 2) := by decide +kernel
theorem d_method_4_code_40 : decode method_4_code 40 = .ok (.if_icmp .eq 10, 3) := by decide +kernel
theorem d_method_4_code_43 : decode method_4_code 43 = .ok (.iload_n 0, 1) := by decide +kernel
theorem d_method_4_code_44 : decode method_4_code 44 = .ok (.sipush 2011, 3) := by decide +kernel
theorem d_method_4_code_47 : decode method_4_code 47 = .ok (.if_icmp .ne 5, 3) := by decide +kernel
theorem d_method_4_code_52 : decode method_4_code 52 = .ok (.iconst 0, 1) := by decide +kernel
theorem d_method_4_code_53 : decode method_4_code 53 = .ok (.ireturn, 1) := by decide +kernel
theorem ef_expect (m : MethodId) (x0 : Int32) : entryFrame m #[(.int x0)] 1 = mkF m 0 #[.val (.int x0)] [] := by (first | (simp [entryFrame, mkF, argsToLocals, Value.category]; done) | rfl)
def Q_expect (p1 : Int32) (h0 : Heap) (n0 : Nat) (v : Option Value) (h : Heap) (L : List Loc) : Prop := v = some (.int (own_ask p1)) ∧ Fr n0 L ∧ h = h0
set_option maxRecDepth 65536 in
set_option maxHeartbeats 40000000 in
theorem rm_expect (l : Launch) (Z : State) (a0 : Array Value) (hw : ∀ d ∈ tables_1, d.before a0 Z = true) (ws : List Jvm.Cond) (p1 : Int32) (h0 : Heap) (n0 : Nat) (Z0 : n0 ≤ h0.size)  :
    MetFree l (⟨"com/example/clausewright/clausewright/model/ColumnIsTextPinLaw", "expected", "(I)Z"⟩ : MethodName) (head1 (Jvm.Cond.code (⟨"com/example/clausewright/clausewright/model/ColumnIsTextPinLaw", "expected", "(I)Z"⟩ : MethodName) method_4_code 1 (some .boolean) :: ws) ({ frames := 0, cells := 0, slots := 0, locals := 0 } : Room)) (fun a U => a = #[(.int p1)] ∧ Z.Warmed39 U.vm ∧ U.heap = h0) (fun _ _ _ _ _ => True) (fun _ U o U' => ∃ v L, o = .returned v ∧ Q_expect p1 h0 n0 v U'.heap L ∧ FrameEnd U o U' L ({ frames := 0, cells := 0, slots := 0, locals := 0 } : Room).cells ({ frames := 0, cells := 0, slots := 0, locals := 0 } : Room).slots) := by
  refine MetFree.of_bodySF (plainFor_of_name pn_com_example_clausewright_clausewright_model_ColumnIsTextPinLaw) hisR ?_
  intro p e s m args below meth c s₁ Bd hml0 hP hK
  obtain ⟨rfl, hZ, hh⟩ := hP
  have hx := Bd.exec
  have hby := Bd.bytes
  have hml : c.maxLocals = 1 := hml0
  have hown : s.vm.findClass "com/example/clausewright/clausewright/model/ColumnIsTextPinLaw" = some m.cls := findClass_of_methodNamed Bd.named
  have hnm := (name_of_methodNamed Bd.named Bd.method).1
  have X0 : Stand p l e ({ frames := 0, cells := 0, slots := 0, locals := 0 } : Room) s m #[(.int p1)] below meth c s₁ [] 0 0 := Stand.of_body Bd
  have e0 : s₁.heap = h0 := by rw [← hh, Bd.state]; rfl
  have N0 := Fr.nil n0
  have pre0 : ∀ t, Steps p.tables e below (s₁.setTop (mkF m 0 #[.val (.int p1)] [])) t → Steps p.tables e below (s₁.setTop (entryFrame m #[(.int p1)] 1)) t := fun t k => castTop (ef_expect m p1) k
  have P0 : ∀ t, Steps p.tables e below (s₁.setTop (mkF m 0 #[.val (.int p1)] [])) t → Steps p.tables e below (s₁.setTop (mkF m 0 #[.val (.int p1)] [])) t := fun t k => k
  by_cases q174 : p1 = (1 : Int32)
  · skip
    obtain ⟨fs175, hr175, hrun175, hended175, hW175, hsame175⟩ := X0.leave (v := some (.int (1 : Int32))) (fun h => by rw [Bd.returns] at h; cases h)
    refine ⟨_, _, pre0 _ (P0 _ ?_), hrun175, hended175, _, _, rfl, ?_, ⟨⟨_, rfl⟩, hW175, hsame175.mono (Nat.le_of_ble_eq_true rfl) (Nat.le_of_ble_eq_true rfl)⟩⟩
    · refine XS.iloadN X0.here hx rfl (hb hby d_method_4_code_0) rfl ?_
      show Steps p.tables e below (s₁.setTop (mkF m 1 #[.val (.int p1)] [(.int p1)])) _
      refine XS.iconst X0.here hx rfl (hb hby d_method_4_code_1) ?_
      show Steps p.tables e below (s₁.setTop (mkF m 2 #[.val (.int p1)] [(.int (1 : Int32)), (.int p1)])) _
      refine XS.icmpYes X0.here hx rfl (pc0 := 2) (pc' := 23) rfl (hb hby d_method_4_code_2) rfl (teq (show p1 = (1 : Int32) from q174)).1 (by decide) (by decide) ?_
      show Steps p.tables e below (s₁.setTop (mkF m 23 #[.val (.int p1)] [])) _
      refine XS.iconst X0.here hx rfl (hb hby d_method_4_code_23) ?_
      show Steps p.tables e below (s₁.setTop (mkF m 24 #[.val (.int p1)] [(.int (1 : Int32))])) _
      exact retN X0 hx (t := .boolean) Bd.returns (by simp) (hb hby d_method_4_code_24) hr175
    · show Q_expect p1 h0 n0 _ s₁.heap _
      rw [e0]
      exact ⟨by simp [own_ask, q174], N0, rfl⟩
  · skip
    by_cases q176 : p1 = (12 : Int32)
    · skip
      obtain ⟨fs177, hr177, hrun177, hended177, hW177, hsame177⟩ := X0.leave (v := some (.int (1 : Int32))) (fun h => by rw [Bd.returns] at h; cases h)
      refine ⟨_, _, pre0 _ (P0 _ ?_), hrun177, hended177, _, _, rfl, ?_, ⟨⟨_, rfl⟩, hW177, hsame177.mono (Nat.le_of_ble_eq_true rfl) (Nat.le_of_ble_eq_true rfl)⟩⟩
      · refine XS.iloadN X0.here hx rfl (hb hby d_method_4_code_0) rfl ?_
        show Steps p.tables e below (s₁.setTop (mkF m 1 #[.val (.int p1)] [(.int p1)])) _
        refine XS.iconst X0.here hx rfl (hb hby d_method_4_code_1) ?_
        show Steps p.tables e below (s₁.setTop (mkF m 2 #[.val (.int p1)] [(.int (1 : Int32)), (.int p1)])) _
        refine XS.icmpNo X0.here hx rfl (hb hby d_method_4_code_2) rfl (feq (show ¬ (p1 = (1 : Int32)) from q174)).1 ?_
        show Steps p.tables e below (s₁.setTop (mkF m 5 #[.val (.int p1)] [])) _
        refine XS.iloadN X0.here hx rfl (hb hby d_method_4_code_5) rfl ?_
        show Steps p.tables e below (s₁.setTop (mkF m 6 #[.val (.int p1)] [(.int p1)])) _
        refine XS.bipush X0.here hx rfl (hb hby d_method_4_code_6) ?_
        show Steps p.tables e below (s₁.setTop (mkF m 8 #[.val (.int p1)] [(.int (12 : Int32)), (.int p1)])) _
        refine XS.icmpYes X0.here hx rfl (pc0 := 8) (pc' := 23) rfl (hb hby d_method_4_code_8) rfl (teq (show p1 = (12 : Int32) from q176)).1 (by decide) (by decide) ?_
        show Steps p.tables e below (s₁.setTop (mkF m 23 #[.val (.int p1)] [])) _
        refine XS.iconst X0.here hx rfl (hb hby d_method_4_code_23) ?_
        show Steps p.tables e below (s₁.setTop (mkF m 24 #[.val (.int p1)] [(.int (1 : Int32))])) _
        exact retN X0 hx (t := .boolean) Bd.returns (by simp) (hb hby d_method_4_code_24) hr177
      · show Q_expect p1 h0 n0 _ s₁.heap _
        rw [e0]
        exact ⟨by simp [own_ask, q174, q176], N0, rfl⟩
    · skip
      by_cases q178 : p1 = (-1 : Int32)
      · skip
        obtain ⟨fs179, hr179, hrun179, hended179, hW179, hsame179⟩ := X0.leave (v := some (.int (1 : Int32))) (fun h => by rw [Bd.returns] at h; cases h)
        refine ⟨_, _, pre0 _ (P0 _ ?_), hrun179, hended179, _, _, rfl, ?_, ⟨⟨_, rfl⟩, hW179, hsame179.mono (Nat.le_of_ble_eq_true rfl) (Nat.le_of_ble_eq_true rfl)⟩⟩
        · refine XS.iloadN X0.here hx rfl (hb hby d_method_4_code_0) rfl ?_
          show Steps p.tables e below (s₁.setTop (mkF m 1 #[.val (.int p1)] [(.int p1)])) _
          refine XS.iconst X0.here hx rfl (hb hby d_method_4_code_1) ?_
          show Steps p.tables e below (s₁.setTop (mkF m 2 #[.val (.int p1)] [(.int (1 : Int32)), (.int p1)])) _
          refine XS.icmpNo X0.here hx rfl (hb hby d_method_4_code_2) rfl (feq (show ¬ (p1 = (1 : Int32)) from q174)).1 ?_
          show Steps p.tables e below (s₁.setTop (mkF m 5 #[.val (.int p1)] [])) _
          refine XS.iloadN X0.here hx rfl (hb hby d_method_4_code_5) rfl ?_
          show Steps p.tables e below (s₁.setTop (mkF m 6 #[.val (.int p1)] [(.int p1)])) _
          refine XS.bipush X0.here hx rfl (hb hby d_method_4_code_6) ?_
          show Steps p.tables e below (s₁.setTop (mkF m 8 #[.val (.int p1)] [(.int (12 : Int32)), (.int p1)])) _
          refine XS.icmpNo X0.here hx rfl (hb hby d_method_4_code_8) rfl (feq (show ¬ (p1 = (12 : Int32)) from q176)).1 ?_
          show Steps p.tables e below (s₁.setTop (mkF m 11 #[.val (.int p1)] [])) _
          refine XS.iloadN X0.here hx rfl (hb hby d_method_4_code_11) rfl ?_
          show Steps p.tables e below (s₁.setTop (mkF m 12 #[.val (.int p1)] [(.int p1)])) _
          refine XS.iconst X0.here hx rfl (hb hby d_method_4_code_12) ?_
          show Steps p.tables e below (s₁.setTop (mkF m 13 #[.val (.int p1)] [(.int (-1 : Int32)), (.int p1)])) _
          refine XS.icmpYes X0.here hx rfl (pc0 := 13) (pc' := 23) rfl (hb hby d_method_4_code_13) rfl (teq (show p1 = (-1 : Int32) from q178)).1 (by decide) (by decide) ?_
          show Steps p.tables e below (s₁.setTop (mkF m 23 #[.val (.int p1)] [])) _
          refine XS.iconst X0.here hx rfl (hb hby d_method_4_code_23) ?_
          show Steps p.tables e below (s₁.setTop (mkF m 24 #[.val (.int p1)] [(.int (1 : Int32))])) _
          exact retN X0 hx (t := .boolean) Bd.returns (by simp) (hb hby d_method_4_code_24) hr179
        · show Q_expect p1 h0 n0 _ s₁.heap _
          rw [e0]
          exact ⟨by simp [own_ask, q174, q176, q178], N0, rfl⟩
      · skip
        by_cases q180 : p1 = (2005 : Int32)
        · skip
          obtain ⟨fs181, hr181, hrun181, hended181, hW181, hsame181⟩ := X0.leave (v := some (.int (1 : Int32))) (fun h => by rw [Bd.returns] at h; cases h)
          refine ⟨_, _, pre0 _ (P0 _ ?_), hrun181, hended181, _, _, rfl, ?_, ⟨⟨_, rfl⟩, hW181, hsame181.mono (Nat.le_of_ble_eq_true rfl) (Nat.le_of_ble_eq_true rfl)⟩⟩
          · refine XS.iloadN X0.here hx rfl (hb hby d_method_4_code_0) rfl ?_
            show Steps p.tables e below (s₁.setTop (mkF m 1 #[.val (.int p1)] [(.int p1)])) _
            refine XS.iconst X0.here hx rfl (hb hby d_method_4_code_1) ?_
            show Steps p.tables e below (s₁.setTop (mkF m 2 #[.val (.int p1)] [(.int (1 : Int32)), (.int p1)])) _
            refine XS.icmpNo X0.here hx rfl (hb hby d_method_4_code_2) rfl (feq (show ¬ (p1 = (1 : Int32)) from q174)).1 ?_
            show Steps p.tables e below (s₁.setTop (mkF m 5 #[.val (.int p1)] [])) _
            refine XS.iloadN X0.here hx rfl (hb hby d_method_4_code_5) rfl ?_
            show Steps p.tables e below (s₁.setTop (mkF m 6 #[.val (.int p1)] [(.int p1)])) _
            refine XS.bipush X0.here hx rfl (hb hby d_method_4_code_6) ?_
            show Steps p.tables e below (s₁.setTop (mkF m 8 #[.val (.int p1)] [(.int (12 : Int32)), (.int p1)])) _
            refine XS.icmpNo X0.here hx rfl (hb hby d_method_4_code_8) rfl (feq (show ¬ (p1 = (12 : Int32)) from q176)).1 ?_
            show Steps p.tables e below (s₁.setTop (mkF m 11 #[.val (.int p1)] [])) _
            refine XS.iloadN X0.here hx rfl (hb hby d_method_4_code_11) rfl ?_
            show Steps p.tables e below (s₁.setTop (mkF m 12 #[.val (.int p1)] [(.int p1)])) _
            refine XS.iconst X0.here hx rfl (hb hby d_method_4_code_12) ?_
            show Steps p.tables e below (s₁.setTop (mkF m 13 #[.val (.int p1)] [(.int (-1 : Int32)), (.int p1)])) _
            refine XS.icmpNo X0.here hx rfl (hb hby d_method_4_code_13) rfl (feq (show ¬ (p1 = (-1 : Int32)) from q178)).1 ?_
            show Steps p.tables e below (s₁.setTop (mkF m 16 #[.val (.int p1)] [])) _
            refine XS.iloadN X0.here hx rfl (hb hby d_method_4_code_16) rfl ?_
            show Steps p.tables e below (s₁.setTop (mkF m 17 #[.val (.int p1)] [(.int p1)])) _
            refine XS.sipush X0.here hx rfl (hb hby d_method_4_code_17) ?_
            show Steps p.tables e below (s₁.setTop (mkF m 20 #[.val (.int p1)] [(.int (2005 : Int32)), (.int p1)])) _
            refine XS.icmpNo X0.here hx rfl (hb hby d_method_4_code_20) rfl (teq (show p1 = (2005 : Int32) from q180)).2 ?_
            show Steps p.tables e below (s₁.setTop (mkF m 23 #[.val (.int p1)] [])) _
            refine XS.iconst X0.here hx rfl (hb hby d_method_4_code_23) ?_
            show Steps p.tables e below (s₁.setTop (mkF m 24 #[.val (.int p1)] [(.int (1 : Int32))])) _
            exact retN X0 hx (t := .boolean) Bd.returns (by simp) (hb hby d_method_4_code_24) hr181
          · show Q_expect p1 h0 n0 _ s₁.heap _
            rw [e0]
            exact ⟨by simp [own_ask, q174, q176, q178, q180], N0, rfl⟩
        · skip
          by_cases q182 : p1 = (-15 : Int32)
          · skip
            obtain ⟨fs183, hr183, hrun183, hended183, hW183, hsame183⟩ := X0.leave (v := some (.int (1 : Int32))) (fun h => by rw [Bd.returns] at h; cases h)
            refine ⟨_, _, pre0 _ (P0 _ ?_), hrun183, hended183, _, _, rfl, ?_, ⟨⟨_, rfl⟩, hW183, hsame183.mono (Nat.le_of_ble_eq_true rfl) (Nat.le_of_ble_eq_true rfl)⟩⟩
            · refine XS.iloadN X0.here hx rfl (hb hby d_method_4_code_0) rfl ?_
              show Steps p.tables e below (s₁.setTop (mkF m 1 #[.val (.int p1)] [(.int p1)])) _
              refine XS.iconst X0.here hx rfl (hb hby d_method_4_code_1) ?_
              show Steps p.tables e below (s₁.setTop (mkF m 2 #[.val (.int p1)] [(.int (1 : Int32)), (.int p1)])) _
              refine XS.icmpNo X0.here hx rfl (hb hby d_method_4_code_2) rfl (feq (show ¬ (p1 = (1 : Int32)) from q174)).1 ?_
              show Steps p.tables e below (s₁.setTop (mkF m 5 #[.val (.int p1)] [])) _
              refine XS.iloadN X0.here hx rfl (hb hby d_method_4_code_5) rfl ?_
              show Steps p.tables e below (s₁.setTop (mkF m 6 #[.val (.int p1)] [(.int p1)])) _
              refine XS.bipush X0.here hx rfl (hb hby d_method_4_code_6) ?_
              show Steps p.tables e below (s₁.setTop (mkF m 8 #[.val (.int p1)] [(.int (12 : Int32)), (.int p1)])) _
              refine XS.icmpNo X0.here hx rfl (hb hby d_method_4_code_8) rfl (feq (show ¬ (p1 = (12 : Int32)) from q176)).1 ?_
              show Steps p.tables e below (s₁.setTop (mkF m 11 #[.val (.int p1)] [])) _
              refine XS.iloadN X0.here hx rfl (hb hby d_method_4_code_11) rfl ?_
              show Steps p.tables e below (s₁.setTop (mkF m 12 #[.val (.int p1)] [(.int p1)])) _
              refine XS.iconst X0.here hx rfl (hb hby d_method_4_code_12) ?_
              show Steps p.tables e below (s₁.setTop (mkF m 13 #[.val (.int p1)] [(.int (-1 : Int32)), (.int p1)])) _
              refine XS.icmpNo X0.here hx rfl (hb hby d_method_4_code_13) rfl (feq (show ¬ (p1 = (-1 : Int32)) from q178)).1 ?_
              show Steps p.tables e below (s₁.setTop (mkF m 16 #[.val (.int p1)] [])) _
              refine XS.iloadN X0.here hx rfl (hb hby d_method_4_code_16) rfl ?_
              show Steps p.tables e below (s₁.setTop (mkF m 17 #[.val (.int p1)] [(.int p1)])) _
              refine XS.sipush X0.here hx rfl (hb hby d_method_4_code_17) ?_
              show Steps p.tables e below (s₁.setTop (mkF m 20 #[.val (.int p1)] [(.int (2005 : Int32)), (.int p1)])) _
              refine XS.icmpYes X0.here hx rfl (pc0 := 20) (pc' := 25) rfl (hb hby d_method_4_code_20) rfl (feq (show ¬ (p1 = (2005 : Int32)) from q180)).2 (by decide) (by decide) ?_
              show Steps p.tables e below (s₁.setTop (mkF m 25 #[.val (.int p1)] [])) _
              refine XS.iloadN X0.here hx rfl (hb hby d_method_4_code_25) rfl ?_
              show Steps p.tables e below (s₁.setTop (mkF m 26 #[.val (.int p1)] [(.int p1)])) _
              refine XS.bipush X0.here hx rfl (hb hby d_method_4_code_26) ?_
              show Steps p.tables e below (s₁.setTop (mkF m 28 #[.val (.int p1)] [(.int (-15 : Int32)), (.int p1)])) _
              refine XS.icmpYes X0.here hx rfl (pc0 := 28) (pc' := 50) rfl (hb hby d_method_4_code_28) rfl (teq (show p1 = (-15 : Int32) from q182)).1 (by decide) (by decide) ?_
              show Steps p.tables e below (s₁.setTop (mkF m 50 #[.val (.int p1)] [])) _
              refine XS.iconst X0.here hx rfl (hb hby d_method_4_code_50) ?_
              show Steps p.tables e below (s₁.setTop (mkF m 51 #[.val (.int p1)] [(.int (1 : Int32))])) _
              exact retN X0 hx (t := .boolean) Bd.returns (by simp) (hb hby d_method_4_code_51) hr183
            · show Q_expect p1 h0 n0 _ s₁.heap _
              rw [e0]
              exact ⟨by simp [own_ask, q174, q176, q178, q180, q182], N0, rfl⟩
          · skip
            by_cases q184 : p1 = (-9 : Int32)
            · skip
              obtain ⟨fs185, hr185, hrun185, hended185, hW185, hsame185⟩ := X0.leave (v := some (.int (1 : Int32))) (fun h => by rw [Bd.returns] at h; cases h)
              refine ⟨_, _, pre0 _ (P0 _ ?_), hrun185, hended185, _, _, rfl, ?_, ⟨⟨_, rfl⟩, hW185, hsame185.mono (Nat.le_of_ble_eq_true rfl) (Nat.le_of_ble_eq_true rfl)⟩⟩
              · refine XS.iloadN X0.here hx rfl (hb hby d_method_4_code_0) rfl ?_
                show Steps p.tables e below (s₁.setTop (mkF m 1 #[.val (.int p1)] [(.int p1)])) _
                refine XS.iconst X0.here hx rfl (hb hby d_method_4_code_1) ?_
                show Steps p.tables e below (s₁.setTop (mkF m 2 #[.val (.int p1)] [(.int (1 : Int32)), (.int p1)])) _
                refine XS.icmpNo X0.here hx rfl (hb hby d_method_4_code_2) rfl (feq (show ¬ (p1 = (1 : Int32)) from q174)).1 ?_
                show Steps p.tables e below (s₁.setTop (mkF m 5 #[.val (.int p1)] [])) _
                refine XS.iloadN X0.here hx rfl (hb hby d_method_4_code_5) rfl ?_
                show Steps p.tables e below (s₁.setTop (mkF m 6 #[.val (.int p1)] [(.int p1)])) _
                refine XS.bipush X0.here hx rfl (hb hby d_method_4_code_6) ?_
                show Steps p.tables e below (s₁.setTop (mkF m 8 #[.val (.int p1)] [(.int (12 : Int32)), (.int p1)])) _
                refine XS.icmpNo X0.here hx rfl (hb hby d_method_4_code_8) rfl (feq (show ¬ (p1 = (12 : Int32)) from q176)).1 ?_
                show Steps p.tables e below (s₁.setTop (mkF m 11 #[.val (.int p1)] [])) _
                refine XS.iloadN X0.here hx rfl (hb hby d_method_4_code_11) rfl ?_
                show Steps p.tables e below (s₁.setTop (mkF m 12 #[.val (.int p1)] [(.int p1)])) _
                refine XS.iconst X0.here hx rfl (hb hby d_method_4_code_12) ?_
                show Steps p.tables e below (s₁.setTop (mkF m 13 #[.val (.int p1)] [(.int (-1 : Int32)), (.int p1)])) _
                refine XS.icmpNo X0.here hx rfl (hb hby d_method_4_code_13) rfl (feq (show ¬ (p1 = (-1 : Int32)) from q178)).1 ?_
                show Steps p.tables e below (s₁.setTop (mkF m 16 #[.val (.int p1)] [])) _
                refine XS.iloadN X0.here hx rfl (hb hby d_method_4_code_16) rfl ?_
                show Steps p.tables e below (s₁.setTop (mkF m 17 #[.val (.int p1)] [(.int p1)])) _
                refine XS.sipush X0.here hx rfl (hb hby d_method_4_code_17) ?_
                show Steps p.tables e below (s₁.setTop (mkF m 20 #[.val (.int p1)] [(.int (2005 : Int32)), (.int p1)])) _
                refine XS.icmpYes X0.here hx rfl (pc0 := 20) (pc' := 25) rfl (hb hby d_method_4_code_20) rfl (feq (show ¬ (p1 = (2005 : Int32)) from q180)).2 (by decide) (by decide) ?_
                show Steps p.tables e below (s₁.setTop (mkF m 25 #[.val (.int p1)] [])) _
                refine XS.iloadN X0.here hx rfl (hb hby d_method_4_code_25) rfl ?_
                show Steps p.tables e below (s₁.setTop (mkF m 26 #[.val (.int p1)] [(.int p1)])) _
                refine XS.bipush X0.here hx rfl (hb hby d_method_4_code_26) ?_
                show Steps p.tables e below (s₁.setTop (mkF m 28 #[.val (.int p1)] [(.int (-15 : Int32)), (.int p1)])) _
                refine XS.icmpNo X0.here hx rfl (hb hby d_method_4_code_28) rfl (feq (show ¬ (p1 = (-15 : Int32)) from q182)).1 ?_
                show Steps p.tables e below (s₁.setTop (mkF m 31 #[.val (.int p1)] [])) _
                refine XS.iloadN X0.here hx rfl (hb hby d_method_4_code_31) rfl ?_
                show Steps p.tables e below (s₁.setTop (mkF m 32 #[.val (.int p1)] [(.int p1)])) _
                refine XS.bipush X0.here hx rfl (hb hby d_method_4_code_32) ?_
                show Steps p.tables e below (s₁.setTop (mkF m 34 #[.val (.int p1)] [(.int (-9 : Int32)), (.int p1)])) _
                refine XS.icmpYes X0.here hx rfl (pc0 := 34) (pc' := 50) rfl (hb hby d_method_4_code_34) rfl (teq (show p1 = (-9 : Int32) from q184)).1 (by decide) (by decide) ?_
                show Steps p.tables e below (s₁.setTop (mkF m 50 #[.val (.int p1)] [])) _
                refine XS.iconst X0.here hx rfl (hb hby d_method_4_code_50) ?_
                show Steps p.tables e below (s₁.setTop (mkF m 51 #[.val (.int p1)] [(.int (1 : Int32))])) _
                exact retN X0 hx (t := .boolean) Bd.returns (by simp) (hb hby d_method_4_code_51) hr185
              · show Q_expect p1 h0 n0 _ s₁.heap _
                rw [e0]
                exact ⟨by simp [own_ask, q174, q176, q178, q180, q182, q184], N0, rfl⟩
            · skip
              by_cases q186 : p1 = (-16 : Int32)
              · skip
                obtain ⟨fs187, hr187, hrun187, hended187, hW187, hsame187⟩ := X0.leave (v := some (.int (1 : Int32))) (fun h => by rw [Bd.returns] at h; cases h)
                refine ⟨_, _, pre0 _ (P0 _ ?_), hrun187, hended187, _, _, rfl, ?_, ⟨⟨_, rfl⟩, hW187, hsame187.mono (Nat.le_of_ble_eq_true rfl) (Nat.le_of_ble_eq_true rfl)⟩⟩
                · refine XS.iloadN X0.here hx rfl (hb hby d_method_4_code_0) rfl ?_
                  show Steps p.tables e below (s₁.setTop (mkF m 1 #[.val (.int p1)] [(.int p1)])) _
                  refine XS.iconst X0.here hx rfl (hb hby d_method_4_code_1) ?_
                  show Steps p.tables e below (s₁.setTop (mkF m 2 #[.val (.int p1)] [(.int (1 : Int32)), (.int p1)])) _
                  refine XS.icmpNo X0.here hx rfl (hb hby d_method_4_code_2) rfl (feq (show ¬ (p1 = (1 : Int32)) from q174)).1 ?_
                  show Steps p.tables e below (s₁.setTop (mkF m 5 #[.val (.int p1)] [])) _
                  refine XS.iloadN X0.here hx rfl (hb hby d_method_4_code_5) rfl ?_
                  show Steps p.tables e below (s₁.setTop (mkF m 6 #[.val (.int p1)] [(.int p1)])) _
                  refine XS.bipush X0.here hx rfl (hb hby d_method_4_code_6) ?_
                  show Steps p.tables e below (s₁.setTop (mkF m 8 #[.val (.int p1)] [(.int (12 : Int32)), (.int p1)])) _
                  refine XS.icmpNo X0.here hx rfl (hb hby d_method_4_code_8) rfl (feq (show ¬ (p1 = (12 : Int32)) from q176)).1 ?_
                  show Steps p.tables e below (s₁.setTop (mkF m 11 #[.val (.int p1)] [])) _
                  refine XS.iloadN X0.here hx rfl (hb hby d_method_4_code_11) rfl ?_
                  show Steps p.tables e below (s₁.setTop (mkF m 12 #[.val (.int p1)] [(.int p1)])) _
                  refine XS.iconst X0.here hx rfl (hb hby d_method_4_code_12) ?_
                  show Steps p.tables e below (s₁.setTop (mkF m 13 #[.val (.int p1)] [(.int (-1 : Int32)), (.int p1)])) _
                  refine XS.icmpNo X0.here hx rfl (hb hby d_method_4_code_13) rfl (feq (show ¬ (p1 = (-1 : Int32)) from q178)).1 ?_
                  show Steps p.tables e below (s₁.setTop (mkF m 16 #[.val (.int p1)] [])) _
                  refine XS.iloadN X0.here hx rfl (hb hby d_method_4_code_16) rfl ?_
                  show Steps p.tables e below (s₁.setTop (mkF m 17 #[.val (.int p1)] [(.int p1)])) _
                  refine XS.sipush X0.here hx rfl (hb hby d_method_4_code_17) ?_
                  show Steps p.tables e below (s₁.setTop (mkF m 20 #[.val (.int p1)] [(.int (2005 : Int32)), (.int p1)])) _
                  refine XS.icmpYes X0.here hx rfl (pc0 := 20) (pc' := 25) rfl (hb hby d_method_4_code_20) rfl (feq (show ¬ (p1 = (2005 : Int32)) from q180)).2 (by decide) (by decide) ?_
                  show Steps p.tables e below (s₁.setTop (mkF m 25 #[.val (.int p1)] [])) _
                  refine XS.iloadN X0.here hx rfl (hb hby d_method_4_code_25) rfl ?_
                  show Steps p.tables e below (s₁.setTop (mkF m 26 #[.val (.int p1)] [(.int p1)])) _
                  refine XS.bipush X0.here hx rfl (hb hby d_method_4_code_26) ?_
                  show Steps p.tables e below (s₁.setTop (mkF m 28 #[.val (.int p1)] [(.int (-15 : Int32)), (.int p1)])) _
                  refine XS.icmpNo X0.here hx rfl (hb hby d_method_4_code_28) rfl (feq (show ¬ (p1 = (-15 : Int32)) from q182)).1 ?_
                  show Steps p.tables e below (s₁.setTop (mkF m 31 #[.val (.int p1)] [])) _
                  refine XS.iloadN X0.here hx rfl (hb hby d_method_4_code_31) rfl ?_
                  show Steps p.tables e below (s₁.setTop (mkF m 32 #[.val (.int p1)] [(.int p1)])) _
                  refine XS.bipush X0.here hx rfl (hb hby d_method_4_code_32) ?_
                  show Steps p.tables e below (s₁.setTop (mkF m 34 #[.val (.int p1)] [(.int (-9 : Int32)), (.int p1)])) _
                  refine XS.icmpNo X0.here hx rfl (hb hby d_method_4_code_34) rfl (feq (show ¬ (p1 = (-9 : Int32)) from q184)).1 ?_
                  show Steps p.tables e below (s₁.setTop (mkF m 37 #[.val (.int p1)] [])) _
                  refine XS.iloadN X0.here hx rfl (hb hby d_method_4_code_37) rfl ?_
                  show Steps p.tables e below (s₁.setTop (mkF m 38 #[.val (.int p1)] [(.int p1)])) _
                  refine XS.bipush X0.here hx rfl (hb hby d_method_4_code_38) ?_
                  show Steps p.tables e below (s₁.setTop (mkF m 40 #[.val (.int p1)] [(.int (-16 : Int32)), (.int p1)])) _
                  refine XS.icmpYes X0.here hx rfl (pc0 := 40) (pc' := 50) rfl (hb hby d_method_4_code_40) rfl (teq (show p1 = (-16 : Int32) from q186)).1 (by decide) (by decide) ?_
                  show Steps p.tables e below (s₁.setTop (mkF m 50 #[.val (.int p1)] [])) _
                  refine XS.iconst X0.here hx rfl (hb hby d_method_4_code_50) ?_
                  show Steps p.tables e below (s₁.setTop (mkF m 51 #[.val (.int p1)] [(.int (1 : Int32))])) _
                  exact retN X0 hx (t := .boolean) Bd.returns (by simp) (hb hby d_method_4_code_51) hr187
                · show Q_expect p1 h0 n0 _ s₁.heap _
                  rw [e0]
                  exact ⟨by simp [own_ask, q174, q176, q178, q180, q182, q184, q186], N0, rfl⟩
              · skip
                by_cases q188 : p1 = (2011 : Int32)
                · skip
                  obtain ⟨fs189, hr189, hrun189, hended189, hW189, hsame189⟩ := X0.leave (v := some (.int (1 : Int32))) (fun h => by rw [Bd.returns] at h; cases h)
                  refine ⟨_, _, pre0 _ (P0 _ ?_), hrun189, hended189, _, _, rfl, ?_, ⟨⟨_, rfl⟩, hW189, hsame189.mono (Nat.le_of_ble_eq_true rfl) (Nat.le_of_ble_eq_true rfl)⟩⟩
                  · refine XS.iloadN X0.here hx rfl (hb hby d_method_4_code_0) rfl ?_
                    show Steps p.tables e below (s₁.setTop (mkF m 1 #[.val (.int p1)] [(.int p1)])) _
                    refine XS.iconst X0.here hx rfl (hb hby d_method_4_code_1) ?_
                    show Steps p.tables e below (s₁.setTop (mkF m 2 #[.val (.int p1)] [(.int (1 : Int32)), (.int p1)])) _
                    refine XS.icmpNo X0.here hx rfl (hb hby d_method_4_code_2) rfl (feq (show ¬ (p1 = (1 : Int32)) from q174)).1 ?_
                    show Steps p.tables e below (s₁.setTop (mkF m 5 #[.val (.int p1)] [])) _
                    refine XS.iloadN X0.here hx rfl (hb hby d_method_4_code_5) rfl ?_
                    show Steps p.tables e below (s₁.setTop (mkF m 6 #[.val (.int p1)] [(.int p1)])) _
                    refine XS.bipush X0.here hx rfl (hb hby d_method_4_code_6) ?_
                    show Steps p.tables e below (s₁.setTop (mkF m 8 #[.val (.int p1)] [(.int (12 : Int32)), (.int p1)])) _
                    refine XS.icmpNo X0.here hx rfl (hb hby d_method_4_code_8) rfl (feq (show ¬ (p1 = (12 : Int32)) from q176)).1 ?_
                    show Steps p.tables e below (s₁.setTop (mkF m 11 #[.val (.int p1)] [])) _
                    refine XS.iloadN X0.here hx rfl (hb hby d_method_4_code_11) rfl ?_
                    show Steps p.tables e below (s₁.setTop (mkF m 12 #[.val (.int p1)] [(.int p1)])) _
                    refine XS.iconst X0.here hx rfl (hb hby d_method_4_code_12) ?_
                    show Steps p.tables e below (s₁.setTop (mkF m 13 #[.val (.int p1)] [(.int (-1 : Int32)), (.int p1)])) _
                    refine XS.icmpNo X0.here hx rfl (hb hby d_method_4_code_13) rfl (feq (show ¬ (p1 = (-1 : Int32)) from q178)).1 ?_
                    show Steps p.tables e below (s₁.setTop (mkF m 16 #[.val (.int p1)] [])) _
                    refine XS.iloadN X0.here hx rfl (hb hby d_method_4_code_16) rfl ?_
                    show Steps p.tables e below (s₁.setTop (mkF m 17 #[.val (.int p1)] [(.int p1)])) _
                    refine XS.sipush X0.here hx rfl (hb hby d_method_4_code_17) ?_
                    show Steps p.tables e below (s₁.setTop (mkF m 20 #[.val (.int p1)] [(.int (2005 : Int32)), (.int p1)])) _
                    refine XS.icmpYes X0.here hx rfl (pc0 := 20) (pc' := 25) rfl (hb hby d_method_4_code_20) rfl (feq (show ¬ (p1 = (2005 : Int32)) from q180)).2 (by decide) (by decide) ?_
                    show Steps p.tables e below (s₁.setTop (mkF m 25 #[.val (.int p1)] [])) _
                    refine XS.iloadN X0.here hx rfl (hb hby d_method_4_code_25) rfl ?_
                    show Steps p.tables e below (s₁.setTop (mkF m 26 #[.val (.int p1)] [(.int p1)])) _
                    refine XS.bipush X0.here hx rfl (hb hby d_method_4_code_26) ?_
                    show Steps p.tables e below (s₁.setTop (mkF m 28 #[.val (.int p1)] [(.int (-15 : Int32)), (.int p1)])) _
                    refine XS.icmpNo X0.here hx rfl (hb hby d_method_4_code_28) rfl (feq (show ¬ (p1 = (-15 : Int32)) from q182)).1 ?_
                    show Steps p.tables e below (s₁.setTop (mkF m 31 #[.val (.int p1)] [])) _
                    refine XS.iloadN X0.here hx rfl (hb hby d_method_4_code_31) rfl ?_
                    show Steps p.tables e below (s₁.setTop (mkF m 32 #[.val (.int p1)] [(.int p1)])) _
                    refine XS.bipush X0.here hx rfl (hb hby d_method_4_code_32) ?_
                    show Steps p.tables e below (s₁.setTop (mkF m 34 #[.val (.int p1)] [(.int (-9 : Int32)), (.int p1)])) _
                    refine XS.icmpNo X0.here hx rfl (hb hby d_method_4_code_34) rfl (feq (show ¬ (p1 = (-9 : Int32)) from q184)).1 ?_
                    show Steps p.tables e below (s₁.setTop (mkF m 37 #[.val (.int p1)] [])) _
                    refine XS.iloadN X0.here hx rfl (hb hby d_method_4_code_37) rfl ?_
                    show Steps p.tables e below (s₁.setTop (mkF m 38 #[.val (.int p1)] [(.int p1)])) _
                    refine XS.bipush X0.here hx rfl (hb hby d_method_4_code_38) ?_
                    show Steps p.tables e below (s₁.setTop (mkF m 40 #[.val (.int p1)] [(.int (-16 : Int32)), (.int p1)])) _
                    refine XS.icmpNo X0.here hx rfl (hb hby d_method_4_code_40) rfl (feq (show ¬ (p1 = (-16 : Int32)) from q186)).1 ?_
                    show Steps p.tables e below (s₁.setTop (mkF m 43 #[.val (.int p1)] [])) _
                    refine XS.iloadN X0.here hx rfl (hb hby d_method_4_code_43) rfl ?_
                    show Steps p.tables e below (s₁.setTop (mkF m 44 #[.val (.int p1)] [(.int p1)])) _
                    refine XS.sipush X0.here hx rfl (hb hby d_method_4_code_44) ?_
                    show Steps p.tables e below (s₁.setTop (mkF m 47 #[.val (.int p1)] [(.int (2011 : Int32)), (.int p1)])) _
                    refine XS.icmpNo X0.here hx rfl (hb hby d_method_4_code_47) rfl (teq (show p1 = (2011 : Int32) from q188)).2 ?_
                    show Steps p.tables e below (s₁.setTop (mkF m 50 #[.val (.int p1)] [])) _
                    refine XS.iconst X0.here hx rfl (hb hby d_method_4_code_50) ?_
                    show Steps p.tables e below (s₁.setTop (mkF m 51 #[.val (.int p1)] [(.int (1 : Int32))])) _
                    exact retN X0 hx (t := .boolean) Bd.returns (by simp) (hb hby d_method_4_code_51) hr189
                  · show Q_expect p1 h0 n0 _ s₁.heap _
                    rw [e0]
                    exact ⟨by simp [own_ask, q174, q176, q178, q180, q182, q184, q186, q188], N0, rfl⟩
                · skip
                  obtain ⟨fs190, hr190, hrun190, hended190, hW190, hsame190⟩ := X0.leave (v := some (.int (0 : Int32))) (fun h => by rw [Bd.returns] at h; cases h)
                  refine ⟨_, _, pre0 _ (P0 _ ?_), hrun190, hended190, _, _, rfl, ?_, ⟨⟨_, rfl⟩, hW190, hsame190.mono (Nat.le_of_ble_eq_true rfl) (Nat.le_of_ble_eq_true rfl)⟩⟩
                  · refine XS.iloadN X0.here hx rfl (hb hby d_method_4_code_0) rfl ?_
                    show Steps p.tables e below (s₁.setTop (mkF m 1 #[.val (.int p1)] [(.int p1)])) _
                    refine XS.iconst X0.here hx rfl (hb hby d_method_4_code_1) ?_
                    show Steps p.tables e below (s₁.setTop (mkF m 2 #[.val (.int p1)] [(.int (1 : Int32)), (.int p1)])) _
                    refine XS.icmpNo X0.here hx rfl (hb hby d_method_4_code_2) rfl (feq (show ¬ (p1 = (1 : Int32)) from q174)).1 ?_
                    show Steps p.tables e below (s₁.setTop (mkF m 5 #[.val (.int p1)] [])) _
                    refine XS.iloadN X0.here hx rfl (hb hby d_method_4_code_5) rfl ?_
                    show Steps p.tables e below (s₁.setTop (mkF m 6 #[.val (.int p1)] [(.int p1)])) _
                    refine XS.bipush X0.here hx rfl (hb hby d_method_4_code_6) ?_
                    show Steps p.tables e below (s₁.setTop (mkF m 8 #[.val (.int p1)] [(.int (12 : Int32)), (.int p1)])) _
                    refine XS.icmpNo X0.here hx rfl (hb hby d_method_4_code_8) rfl (feq (show ¬ (p1 = (12 : Int32)) from q176)).1 ?_
                    show Steps p.tables e below (s₁.setTop (mkF m 11 #[.val (.int p1)] [])) _
                    refine XS.iloadN X0.here hx rfl (hb hby d_method_4_code_11) rfl ?_
                    show Steps p.tables e below (s₁.setTop (mkF m 12 #[.val (.int p1)] [(.int p1)])) _
                    refine XS.iconst X0.here hx rfl (hb hby d_method_4_code_12) ?_
                    show Steps p.tables e below (s₁.setTop (mkF m 13 #[.val (.int p1)] [(.int (-1 : Int32)), (.int p1)])) _
                    refine XS.icmpNo X0.here hx rfl (hb hby d_method_4_code_13) rfl (feq (show ¬ (p1 = (-1 : Int32)) from q178)).1 ?_
                    show Steps p.tables e below (s₁.setTop (mkF m 16 #[.val (.int p1)] [])) _
                    refine XS.iloadN X0.here hx rfl (hb hby d_method_4_code_16) rfl ?_
                    show Steps p.tables e below (s₁.setTop (mkF m 17 #[.val (.int p1)] [(.int p1)])) _
                    refine XS.sipush X0.here hx rfl (hb hby d_method_4_code_17) ?_
                    show Steps p.tables e below (s₁.setTop (mkF m 20 #[.val (.int p1)] [(.int (2005 : Int32)), (.int p1)])) _
                    refine XS.icmpYes X0.here hx rfl (pc0 := 20) (pc' := 25) rfl (hb hby d_method_4_code_20) rfl (feq (show ¬ (p1 = (2005 : Int32)) from q180)).2 (by decide) (by decide) ?_
                    show Steps p.tables e below (s₁.setTop (mkF m 25 #[.val (.int p1)] [])) _
                    refine XS.iloadN X0.here hx rfl (hb hby d_method_4_code_25) rfl ?_
                    show Steps p.tables e below (s₁.setTop (mkF m 26 #[.val (.int p1)] [(.int p1)])) _
                    refine XS.bipush X0.here hx rfl (hb hby d_method_4_code_26) ?_
                    show Steps p.tables e below (s₁.setTop (mkF m 28 #[.val (.int p1)] [(.int (-15 : Int32)), (.int p1)])) _
                    refine XS.icmpNo X0.here hx rfl (hb hby d_method_4_code_28) rfl (feq (show ¬ (p1 = (-15 : Int32)) from q182)).1 ?_
                    show Steps p.tables e below (s₁.setTop (mkF m 31 #[.val (.int p1)] [])) _
                    refine XS.iloadN X0.here hx rfl (hb hby d_method_4_code_31) rfl ?_
                    show Steps p.tables e below (s₁.setTop (mkF m 32 #[.val (.int p1)] [(.int p1)])) _
                    refine XS.bipush X0.here hx rfl (hb hby d_method_4_code_32) ?_
                    show Steps p.tables e below (s₁.setTop (mkF m 34 #[.val (.int p1)] [(.int (-9 : Int32)), (.int p1)])) _
                    refine XS.icmpNo X0.here hx rfl (hb hby d_method_4_code_34) rfl (feq (show ¬ (p1 = (-9 : Int32)) from q184)).1 ?_
                    show Steps p.tables e below (s₁.setTop (mkF m 37 #[.val (.int p1)] [])) _
                    refine XS.iloadN X0.here hx rfl (hb hby d_method_4_code_37) rfl ?_
                    show Steps p.tables e below (s₁.setTop (mkF m 38 #[.val (.int p1)] [(.int p1)])) _
                    refine XS.bipush X0.here hx rfl (hb hby d_method_4_code_38) ?_
                    show Steps p.tables e below (s₁.setTop (mkF m 40 #[.val (.int p1)] [(.int (-16 : Int32)), (.int p1)])) _
                    refine XS.icmpNo X0.here hx rfl (hb hby d_method_4_code_40) rfl (feq (show ¬ (p1 = (-16 : Int32)) from q186)).1 ?_
                    show Steps p.tables e below (s₁.setTop (mkF m 43 #[.val (.int p1)] [])) _
                    refine XS.iloadN X0.here hx rfl (hb hby d_method_4_code_43) rfl ?_
                    show Steps p.tables e below (s₁.setTop (mkF m 44 #[.val (.int p1)] [(.int p1)])) _
                    refine XS.sipush X0.here hx rfl (hb hby d_method_4_code_44) ?_
                    show Steps p.tables e below (s₁.setTop (mkF m 47 #[.val (.int p1)] [(.int (2011 : Int32)), (.int p1)])) _
                    refine XS.icmpYes X0.here hx rfl (pc0 := 47) (pc' := 52) rfl (hb hby d_method_4_code_47) rfl (feq (show ¬ (p1 = (2011 : Int32)) from q188)).2 (by decide) (by decide) ?_
                    show Steps p.tables e below (s₁.setTop (mkF m 52 #[.val (.int p1)] [])) _
                    refine XS.iconst X0.here hx rfl (hb hby d_method_4_code_52) ?_
                    show Steps p.tables e below (s₁.setTop (mkF m 53 #[.val (.int p1)] [(.int (0 : Int32))])) _
                    exact retN X0 hx (t := .boolean) Bd.returns (by simp) (hb hby d_method_4_code_53) hr190
                  · show Q_expect p1 h0 n0 _ s₁.heap _
                    rw [e0]
                    exact ⟨by simp [own_ask, q174, q176, q178, q180, q182, q184, q186, q188], N0, rfl⟩

theorem own_and15 (x : Int32) : ¬ (x &&& (15 : Int32)) < 0 ∧ (x &&& (15 : Int32)) < (16 : Int32) := by
  have t : ∀ k : Fin 16, ¬ (Int32.ofNat k.val) < 0 ∧ (Int32.ofNat k.val) < (16 : Int32) := by decide +kernel
  have h : (x &&& 15).toBitVec.toNat < 16 := by
    simp only [Int32.toBitVec_and, BitVec.toNat_and]
    exact Nat.lt_succ_of_le Nat.and_le_right
  have e : (x &&& 15) = Int32.ofNat (x &&& 15).toBitVec.toNat := by
    apply Int32.toBitVec_inj.mp
    show _ = BitVec.ofNat 32 _
    rw [BitVec.ofNat_toNat]; simp
  rw [e]
  exact t ⟨_, h⟩

theorem pd__28I_29I : parseMethodDescriptor "(I)I" = some ⟨[.int], some .int⟩ := by decide +kernel
theorem pd__28_5bC_29V : parseMethodDescriptor "([C)V" = some ⟨[(.array .char)], none⟩ := by decide +kernel
theorem pd__28Ljava_2flang_2fString_3bILjava_2flang_2fString_3bZ_29V : parseMethodDescriptor "(Ljava/lang/String;ILjava/lang/String;Z)V" = some ⟨[(.object "java/lang/String"), .int, (.object "java/lang/String"), .boolean], none⟩ := by decide +kernel
theorem pd__28_29Z : parseMethodDescriptor "()Z" = some ⟨[], some .boolean⟩ := by decide +kernel
theorem pd__28I_29Z : parseMethodDescriptor "(I)Z" = some ⟨[.int], some .boolean⟩ := by decide +kernel
theorem ef_law (m : MethodId) (x0 : Int32) (x1 : Int32) (x2 : Int32) (x3 : Int32) : entryFrame m #[(.int x0), (.int x1), (.int x2), (.int x3)] maxLocals = mkF m 0 #[.val (.int x0), .val (.int x1), .val (.int x2), .val (.int x3), .unset, .unset, .unset, .unset, .unset] [] := by (first | (simp [entryFrame, mkF, argsToLocals, Value.category, maxLocals]; done) | rfl)
def Q_law  (h0 : Heap) (n0 : Nat) (v : Option Value) (h : Heap) (L : List Loc) : Prop := v = some (.int 1) ∧ Fr n0 L
set_option maxRecDepth 65536 in
set_option maxHeartbeats 40000000 in
theorem rm_law (l : Launch) (Z : State) (a0 : Array Value) (hw : ∀ d ∈ tables_1, d.before a0 Z = true) (ws : List Jvm.Cond) (p0 p1 p2 p3 : Int32) (G1 : Int32) (h0 : Heap) (n0 : Nat) (Z0 : n0 ≤ h0.size) (Sg : Sta Z Z.heap "java/lang/String" "COMPACT_STRINGS" "Z" (.int G1)) (P5 : ¬ (G1 = (0 : Int32))) (Ol : Old Z n0 h0) :
    MetFree l x (head1 (Jvm.Cond.code x code maxLocals ret :: ws) room_1) (fun a U => a = #[(.int p0), (.int p1), (.int p2), (.int p3)] ∧ Z.Warmed39 U.vm ∧ U.heap = h0) (fun _ _ _ _ _ => True) (fun _ U o U' => ∃ v L, o = .returned v ∧ Q_law  h0 n0 v U'.heap L ∧ ReturnedEndW U o U' L 32 2240) := by
  refine MetFree.of_bodySF (plainFor_of_name pn_com_example_clausewright_clausewright_model_ColumnIsTextPinLaw) hisR ?_
  intro p e s m args below meth c s₁ Bd hml0 hP hK
  obtain ⟨rfl, hZ, hh⟩ := hP
  have hx := Bd.exec
  have hby := Bd.bytes
  have hml : c.maxLocals = 9 := hml0
  have hown : s.vm.findClass "com/example/clausewright/clausewright/model/ColumnIsTextPinLaw" = some m.cls := findClass_of_methodNamed Bd.named
  have hnm := (name_of_methodNamed Bd.named Bd.method).1
  have X0 : Stand p l e room_1 (s.setVm s.vm) m #[(.int p0), (.int p1), (.int p2), (.int p3)] below meth c s₁ [] 0 0 := Stand.of_body Bd
  have e0 : s₁.heap = h0 := by rw [← hh, Bd.state]; rfl
  have N0 := Fr.nil n0
  have pre0 : ∀ t, Steps p.tables e below (s₁.setTop (mkF m 0 #[.val (.int p0), .val (.int p1), .val (.int p2), .val (.int p3), .unset, .unset, .unset, .unset, .unset] [])) t → Steps p.tables e below (s₁.setTop (entryFrame m #[(.int p0), (.int p1), (.int p2), (.int p3)] maxLocals)) t := fun t k => castTop (ef_law m p0 p1 p2 p3) k
  have P0 : ∀ t, Steps p.tables e below (s₁.setTop (mkF m 0 #[.val (.int p0), .val (.int p1), .val (.int p2), .val (.int p3), .unset, .unset, .unset, .unset, .unset] [])) t → Steps p.tables e below (s₁.setTop (mkF m 0 #[.val (.int p0), .val (.int p1), .val (.int p2), .val (.int p3), .unset, .unset, .unset, .unset, .unset] [])) t := fun t k => k
  have hS0 : s.Since s.vm h0.size := (State.WarmedH.refl s).since _
  by_cases q191 : (p1 &&& (16 : Int32)) = (0 : Int32)
  · skip
    obtain ⟨_, _, ⟨T192, L192, k192, n192⟩, -, X192, ⟨Lc192, hQ192, l192, y192, z192⟩, st192⟩ := Jvm.LawKit.callS X0 hx (y := (⟨"com/example/clausewright/clausewright/model/ColumnIsTextPinLaw", "pick", "(I)I"⟩ : MethodName)) hown (mvT hZ (hw _ (List.mem_of_getElem? (i := 0) rfl))) (mvT hZ (hw _ (List.mem_of_getElem? (i := 1) rfl))) (mvT hZ (hw _ (List.mem_of_getElem? (i := 2) rfl))) (mvT hZ (hw _ (List.mem_of_getElem? (i := 3) rfl))) (by decide) (backOf (W := 0) (rm_pick l Z a0 hw [] (p1 &&& (15 : Int32)) h0 n0 Z0 (own_and15 _)) hZ (hw _ (List.mem_of_getElem? (i := 3) rfl)) (hw _ (List.mem_of_getElem? (i := 2) rfl)) (by decide) (by decide)) (g := (mkF m 17 #[.val (.int p0), .val (.int p1), .val (.int p2), .val (.int p3), .unset, .unset, .unset, .unset, .unset] [(.int (p1 &&& (15 : Int32)))])) rfl (by rw [hml]; rfl) (argsL := [(.int (p1 &&& (15 : Int32)))]) (rest := []) (lenOf pd__28I_29I rfl) rfl (by show 2 * 0 + _ ≤ _; exact Nat.le_of_eq rfl) (hb hby at_17) (fun _ _ => ⟨rfl, e0, (Nat.le_of_ble_eq_true rfl : 0 + 1 ≤ _), (Nat.le_of_ble_eq_true rfl : 0 + 16 ≤ _)⟩)
    dsimp only [Pt.U, Pt.locs, Pt.cells, Pt.slots] at X192 l192 y192 z192 st192 hQ192
    subst l192 y192 z192
    obtain ⟨z192, rfl, Nq192, Kk192⟩ := hQ192
    have N193 := Fr.app N0 Nq192
    have P194 : ∀ t, Steps p.tables e below (T192.setTop (mkF m 20 #[.val (.int p0), .val (.int p1), .val (.int p2), .val (.int p3), .unset, .unset, .unset, .unset, .unset] [(.int z192)])) t → Steps p.tables e below (s₁.setTop (mkF m 0 #[.val (.int p0), .val (.int p1), .val (.int p2), .val (.int p3), .unset, .unset, .unset, .unset, .unset] [])) t := fun t k => P0 t (by
      refine XS.iloadN X0.here hx rfl (hb hby at_0) rfl ?_
      show Steps p.tables e below (s₁.setTop (mkF m 1 #[.val (.int p0), .val (.int p1), .val (.int p2), .val (.int p3), .unset, .unset, .unset, .unset, .unset] [(.int p1)])) _
      refine XS.bipush X0.here hx rfl (hb hby at_1) ?_
      show Steps p.tables e below (s₁.setTop (mkF m 3 #[.val (.int p0), .val (.int p1), .val (.int p2), .val (.int p3), .unset, .unset, .unset, .unset, .unset] [(.int (16 : Int32)), (.int p1)])) _
      refine XS.iand X0.here hx rfl (hb hby at_3) rfl ?_
      show Steps p.tables e below (s₁.setTop (mkF m 4 #[.val (.int p0), .val (.int p1), .val (.int p2), .val (.int p3), .unset, .unset, .unset, .unset, .unset] [(.int (p1 &&& (16 : Int32)))])) _
      refine XS.ifYes X0.here hx rfl (pc0 := 4) (pc' := 13) rfl (hb hby at_4) rfl ((if0 _ _).trans (teq (show (p1 &&& (16 : Int32)) = (0 : Int32) from q191)).1) (by decide) (by decide) ?_
      show Steps p.tables e below (s₁.setTop (mkF m 13 #[.val (.int p0), .val (.int p1), .val (.int p2), .val (.int p3), .unset, .unset, .unset, .unset, .unset] [])) _
      refine XS.iloadN X0.here hx rfl (hb hby at_13) rfl ?_
      show Steps p.tables e below (s₁.setTop (mkF m 14 #[.val (.int p0), .val (.int p1), .val (.int p2), .val (.int p3), .unset, .unset, .unset, .unset, .unset] [(.int p1)])) _
      refine XS.bipush X0.here hx rfl (hb hby at_14) ?_
      show Steps p.tables e below (s₁.setTop (mkF m 16 #[.val (.int p0), .val (.int p1), .val (.int p2), .val (.int p3), .unset, .unset, .unset, .unset, .unset] [(.int (15 : Int32)), (.int p1)])) _
      refine XS.iand X0.here hx rfl (hb hby at_16) rfl ?_
      show Steps p.tables e below (s₁.setTop (mkF m 17 #[.val (.int p0), .val (.int p1), .val (.int p2), .val (.int p3), .unset, .unset, .unset, .unset, .unset] [(.int (p1 &&& (15 : Int32)))])) _
      exact st192 _ k)
    have Z195 : n0 ≤ T192.heap.size := Nat.le_trans Z0 Kk192.1
    have K196 : Keep h0 T192.heap [] := (Keep.refl h0 []).trans Kk192 (all0)
    have O197 : Old Z n0 T192.heap := Ol.keep Kk192 all0
    have hk198 : h0.size ≤ T192.heap.size := Nat.le_trans (Nat.le_refl _) Kk192.1
    obtain ⟨T199, h199, k199, X199, e199, E199, A199, st199⟩ := newP X192 hx hZ (hw _ (List.mem_of_getElem? (i := 5) rfl)) rfl (g := (mkF m 23 #[.val (.int p0), .val (.int p1), .val (.int p2), .val (.int p3), .val (.int z192), .unset, .unset, .unset, .unset] [(.int (1 : Int32))])) rfl (hb hby at_23) rfl (by decide) (cap := 1) (by decide) (by decide) (by decide) (by decide)
    obtain ⟨b199, g199⟩ : ∃ z, z = T192.heap.size := ⟨_, rfl⟩
    rw [← g199] at A199 st199
    have g_b199 : n0 ≤ b199 := Nat.le_trans Z195 (Nat.le_of_eq g199.symm)
    have sz_b199 : h0.size ≤ b199 := Nat.le_trans K196.1 (Nat.le_of_eq g199.symm)
    have P200 : ∀ t, Steps p.tables e below (T199.setTop (mkF m 25 #[.val (.int p0), .val (.int p1), .val (.int p2), .val (.int p3), .val (.int z192), .unset, .unset, .unset, .unset] [(.ref b199)])) t → Steps p.tables e below (s₁.setTop (mkF m 0 #[.val (.int p0), .val (.int p1), .val (.int p2), .val (.int p3), .unset, .unset, .unset, .unset, .unset] [])) t := fun t k => P194 t (by
      show Steps p.tables e below (T192.setTop (mkF m 20 #[.val (.int p0), .val (.int p1), .val (.int p2), .val (.int p3), .unset, .unset, .unset, .unset, .unset] [(.int z192)])) _
      refine XS.istore X192.here hx rfl (hb hby at_20) rfl (l' := #[.val (.int p0), .val (.int p1), .val (.int p2), .val (.int p3), .val (.int z192), .unset, .unset, .unset, .unset]) rfl ?_
      show Steps p.tables e below (T192.setTop (mkF m 22 #[.val (.int p0), .val (.int p1), .val (.int p2), .val (.int p3), .val (.int z192), .unset, .unset, .unset, .unset] [])) _
      refine XS.iconst X192.here hx rfl (hb hby at_22) ?_
      show Steps p.tables e below (T192.setTop (mkF m 23 #[.val (.int p0), .val (.int p1), .val (.int p2), .val (.int p3), .val (.int z192), .unset, .unset, .unset, .unset] [(.int (1 : Int32))])) _
      exact st199 _ k)
    have Z201 : n0 ≤ h199.size := Nat.le_trans Z195 E199.1
    have K202 : Keep h0 h199 [] := K196.ext E199
    have O203 : Old Z n0 h199 := O197.ext E199
    have hk204 : h0.size ≤ h199.size := Nat.le_trans hk198 E199.1
    have v205 : Arv Z h199 b199 k199 .char (1 : Int32) [(.int (0 : Int32))] (.int (0 : Int32)) := (Arv.new A199 (by decide)).pad (pad_rep [] (.int (0 : Int32)) 1)
    obtain ⟨cl206, Ar206, q206, S206, N206, H206, G206⟩ := id v205
    obtain ⟨T206, h206, X206, e206, W206, st206⟩ := stC X199 hx hZ e199 Ar206 (j := (0 : Int32)) (inb_of S206 ⟨by decide, by decide⟩) (g := (mkF m 36 #[.val (.int p0), .val (.int p1), .val (.int p2), .val (.int p3), .val (.int z192), .val (.ref b199), .unset, .unset, .unset] [(.int ((p2 &&& (255 : Int32)).toUInt32.toUInt16.toUInt32.toInt32)), (.int (0 : Int32)), (.ref b199)])) rfl rfl (hb hby at_36)
    have v207 : Arv Z h206 b199 k199 .char (1 : Int32) [(.int (nar .char ((p2 &&& (255 : Int32)).toUInt32.toUInt16.toUInt32.toInt32)))] (.int (0 : Int32)) := Arv.set Ar206 q206 S206 N206 H206 G206 (fits_nar_char _) W206 0 rfl (Nat.le_of_ble_eq_true rfl)
    have P208 : ∀ t, Steps p.tables e below (T206.setTop (mkF m 37 #[.val (.int p0), .val (.int p1), .val (.int p2), .val (.int p3), .val (.int z192), .val (.ref b199), .unset, .unset, .unset] [])) t → Steps p.tables e below (s₁.setTop (mkF m 0 #[.val (.int p0), .val (.int p1), .val (.int p2), .val (.int p3), .unset, .unset, .unset, .unset, .unset] [])) t := fun t k => P200 t (by
      show Steps p.tables e below (T199.setTop (mkF m 25 #[.val (.int p0), .val (.int p1), .val (.int p2), .val (.int p3), .val (.int z192), .unset, .unset, .unset, .unset] [(.ref b199)])) _
      refine XS.astore X199.here hx rfl (hb hby at_25) rfl rfl (l' := #[.val (.int p0), .val (.int p1), .val (.int p2), .val (.int p3), .val (.int z192), .val (.ref b199), .unset, .unset, .unset]) rfl ?_
      show Steps p.tables e below (T199.setTop (mkF m 27 #[.val (.int p0), .val (.int p1), .val (.int p2), .val (.int p3), .val (.int z192), .val (.ref b199), .unset, .unset, .unset] [])) _
      refine XS.aload X199.here hx rfl (hb hby at_27) rfl rfl ?_
      show Steps p.tables e below (T199.setTop (mkF m 29 #[.val (.int p0), .val (.int p1), .val (.int p2), .val (.int p3), .val (.int z192), .val (.ref b199), .unset, .unset, .unset] [(.ref b199)])) _
      refine XS.iconst X199.here hx rfl (hb hby at_29) ?_
      show Steps p.tables e below (T199.setTop (mkF m 30 #[.val (.int p0), .val (.int p1), .val (.int p2), .val (.int p3), .val (.int z192), .val (.ref b199), .unset, .unset, .unset] [(.int (0 : Int32)), (.ref b199)])) _
      refine XS.iloadN X199.here hx rfl (hb hby at_30) rfl ?_
      show Steps p.tables e below (T199.setTop (mkF m 31 #[.val (.int p0), .val (.int p1), .val (.int p2), .val (.int p3), .val (.int z192), .val (.ref b199), .unset, .unset, .unset] [(.int p2), (.int (0 : Int32)), (.ref b199)])) _
      refine XS.sipush X199.here hx rfl (hb hby at_31) ?_
      show Steps p.tables e below (T199.setTop (mkF m 34 #[.val (.int p0), .val (.int p1), .val (.int p2), .val (.int p3), .val (.int z192), .val (.ref b199), .unset, .unset, .unset] [(.int (255 : Int32)), (.int p2), (.int (0 : Int32)), (.ref b199)])) _
      refine XS.iand X199.here hx rfl (hb hby at_34) rfl ?_
      show Steps p.tables e below (T199.setTop (mkF m 35 #[.val (.int p0), .val (.int p1), .val (.int p2), .val (.int p3), .val (.int z192), .val (.ref b199), .unset, .unset, .unset] [(.int (p2 &&& (255 : Int32))), (.int (0 : Int32)), (.ref b199)])) _
      refine XS.i2c X199.here hx rfl (hb hby at_35) rfl ?_
      show Steps p.tables e below (T199.setTop (mkF m 36 #[.val (.int p0), .val (.int p1), .val (.int p2), .val (.int p3), .val (.int z192), .val (.ref b199), .unset, .unset, .unset] [(.int ((p2 &&& (255 : Int32)).toUInt32.toUInt16.toUInt32.toInt32)), (.int (0 : Int32)), (.ref b199)])) _
      exact st206 _ k)
    have N209 := Fr.snoc X206 N193 g_b199
    have Z210 : n0 ≤ h206.size := Nat.le_trans Z201 (Keep.of_wr W206).1
    have K211 : Keep h0 h206 [] := K202.wr W206 (Or.inr sz_b199)
    have O212 : Old Z n0 h206 := O203.wr W206 g_b199
    have hk213 : h0.size ≤ h206.size := Nat.le_trans hk204 (Keep.of_wr W206).1
    obtain ⟨T214, h214, k214, X214, e214, E214, A214, st214⟩ := newP X206 hx hZ (hw _ (List.mem_of_getElem? (i := 5) rfl)) e206 (g := (mkF m 38 #[.val (.int p0), .val (.int p1), .val (.int p2), .val (.int p3), .val (.int z192), .val (.ref b199), .unset, .unset, .unset] [(.int (1 : Int32))])) rfl (hb hby at_38) rfl (by decide) (cap := 1) (by decide) (by decide) (by decide) (by decide)
    obtain ⟨b214, g214⟩ : ∃ z, z = h206.size := ⟨_, rfl⟩
    rw [← g214] at A214 st214
    have g_b214 : n0 ≤ b214 := Nat.le_trans Z210 (Nat.le_of_eq g214.symm)
    have sz_b214 : h0.size ≤ b214 := Nat.le_trans K211.1 (Nat.le_of_eq g214.symm)
    have P215 : ∀ t, Steps p.tables e below (T214.setTop (mkF m 40 #[.val (.int p0), .val (.int p1), .val (.int p2), .val (.int p3), .val (.int z192), .val (.ref b199), .unset, .unset, .unset] [(.ref b214)])) t → Steps p.tables e below (s₁.setTop (mkF m 0 #[.val (.int p0), .val (.int p1), .val (.int p2), .val (.int p3), .unset, .unset, .unset, .unset, .unset] [])) t := fun t k => P208 t (by
      show Steps p.tables e below (T206.setTop (mkF m 37 #[.val (.int p0), .val (.int p1), .val (.int p2), .val (.int p3), .val (.int z192), .val (.ref b199), .unset, .unset, .unset] [])) _
      refine XS.iconst X206.here hx rfl (hb hby at_37) ?_
      show Steps p.tables e below (T206.setTop (mkF m 38 #[.val (.int p0), .val (.int p1), .val (.int p2), .val (.int p3), .val (.int z192), .val (.ref b199), .unset, .unset, .unset] [(.int (1 : Int32))])) _
      exact st214 _ k)
    have Z216 : n0 ≤ h214.size := Nat.le_trans Z210 E214.1
    have K217 : Keep h0 h214 [] := K211.ext E214
    have O218 : Old Z n0 h214 := O212.ext E214
    have hk219 : h0.size ≤ h214.size := Nat.le_trans hk213 E214.1
    have v220 : Arv Z h214 b214 k214 .char (1 : Int32) [(.int (0 : Int32))] (.int (0 : Int32)) := (Arv.new A214 (by decide)).pad (pad_rep [] (.int (0 : Int32)) 1)
    obtain ⟨cl221, Ar221, q221, S221, N221, H221, G221⟩ := id v220
    obtain ⟨T221, h221, X221, e221, W221, st221⟩ := stC X214 hx hZ e214 Ar221 (j := (0 : Int32)) (inb_of S221 ⟨by decide, by decide⟩) (g := (mkF m 51 #[.val (.int p0), .val (.int p1), .val (.int p2), .val (.int p3), .val (.int z192), .val (.ref b199), .val (.ref b214), .unset, .unset] [(.int ((p3 &&& (255 : Int32)).toUInt32.toUInt16.toUInt32.toInt32)), (.int (0 : Int32)), (.ref b214)])) rfl rfl (hb hby at_51)
    have v222 : Arv Z h221 b214 k214 .char (1 : Int32) [(.int (nar .char ((p3 &&& (255 : Int32)).toUInt32.toUInt16.toUInt32.toInt32)))] (.int (0 : Int32)) := Arv.set Ar221 q221 S221 N221 H221 G221 (fits_nar_char _) W221 0 rfl (Nat.le_of_ble_eq_true rfl)
    have P223 : ∀ t, Steps p.tables e below (T221.setTop (mkF m 52 #[.val (.int p0), .val (.int p1), .val (.int p2), .val (.int p3), .val (.int z192), .val (.ref b199), .val (.ref b214), .unset, .unset] [])) t → Steps p.tables e below (s₁.setTop (mkF m 0 #[.val (.int p0), .val (.int p1), .val (.int p2), .val (.int p3), .unset, .unset, .unset, .unset, .unset] [])) t := fun t k => P215 t (by
      show Steps p.tables e below (T214.setTop (mkF m 40 #[.val (.int p0), .val (.int p1), .val (.int p2), .val (.int p3), .val (.int z192), .val (.ref b199), .unset, .unset, .unset] [(.ref b214)])) _
      refine XS.astore X214.here hx rfl (hb hby at_40) rfl rfl (l' := #[.val (.int p0), .val (.int p1), .val (.int p2), .val (.int p3), .val (.int z192), .val (.ref b199), .val (.ref b214), .unset, .unset]) rfl ?_
      show Steps p.tables e below (T214.setTop (mkF m 42 #[.val (.int p0), .val (.int p1), .val (.int p2), .val (.int p3), .val (.int z192), .val (.ref b199), .val (.ref b214), .unset, .unset] [])) _
      refine XS.aload X214.here hx rfl (hb hby at_42) rfl rfl ?_
      show Steps p.tables e below (T214.setTop (mkF m 44 #[.val (.int p0), .val (.int p1), .val (.int p2), .val (.int p3), .val (.int z192), .val (.ref b199), .val (.ref b214), .unset, .unset] [(.ref b214)])) _
      refine XS.iconst X214.here hx rfl (hb hby at_44) ?_
      show Steps p.tables e below (T214.setTop (mkF m 45 #[.val (.int p0), .val (.int p1), .val (.int p2), .val (.int p3), .val (.int z192), .val (.ref b199), .val (.ref b214), .unset, .unset] [(.int (0 : Int32)), (.ref b214)])) _
      refine XS.iloadN X214.here hx rfl (hb hby at_45) rfl ?_
      show Steps p.tables e below (T214.setTop (mkF m 46 #[.val (.int p0), .val (.int p1), .val (.int p2), .val (.int p3), .val (.int z192), .val (.ref b199), .val (.ref b214), .unset, .unset] [(.int p3), (.int (0 : Int32)), (.ref b214)])) _
      refine XS.sipush X214.here hx rfl (hb hby at_46) ?_
      show Steps p.tables e below (T214.setTop (mkF m 49 #[.val (.int p0), .val (.int p1), .val (.int p2), .val (.int p3), .val (.int z192), .val (.ref b199), .val (.ref b214), .unset, .unset] [(.int (255 : Int32)), (.int p3), (.int (0 : Int32)), (.ref b214)])) _
      refine XS.iand X214.here hx rfl (hb hby at_49) rfl ?_
      show Steps p.tables e below (T214.setTop (mkF m 50 #[.val (.int p0), .val (.int p1), .val (.int p2), .val (.int p3), .val (.int z192), .val (.ref b199), .val (.ref b214), .unset, .unset] [(.int (p3 &&& (255 : Int32))), (.int (0 : Int32)), (.ref b214)])) _
      refine XS.i2c X214.here hx rfl (hb hby at_50) rfl ?_
      show Steps p.tables e below (T214.setTop (mkF m 51 #[.val (.int p0), .val (.int p1), .val (.int p2), .val (.int p3), .val (.int z192), .val (.ref b199), .val (.ref b214), .unset, .unset] [(.int ((p3 &&& (255 : Int32)).toUInt32.toUInt16.toUInt32.toInt32)), (.int (0 : Int32)), (.ref b214)])) _
      exact st221 _ k)
    have N224 := Fr.snoc X221 N209 g_b214
    have Z225 : n0 ≤ h221.size := Nat.le_trans Z216 (Keep.of_wr W221).1
    have K226 : Keep h0 h221 [] := K217.wr W221 (Or.inr sz_b214)
    have O227 : Old Z n0 h221 := O218.wr W221 g_b214
    have hk228 : h0.size ≤ h221.size := Nat.le_trans hk219 (Keep.of_wr W221).1
    have P229 : ∀ t, Steps p.tables e below (T221.setTop (mkF m 56 #[.val (.int p0), .val (.int p1), .val (.int p2), .val (.int p3), .val (.int z192), .val (.ref b199), .val (.ref b214), .unset, .unset] [(.int (p1 &&& (32 : Int32)))])) t → Steps p.tables e below (s₁.setTop (mkF m 0 #[.val (.int p0), .val (.int p1), .val (.int p2), .val (.int p3), .unset, .unset, .unset, .unset, .unset] [])) t := fun t k => P223 t (by
      show Steps p.tables e below (T221.setTop (mkF m 52 #[.val (.int p0), .val (.int p1), .val (.int p2), .val (.int p3), .val (.int z192), .val (.ref b199), .val (.ref b214), .unset, .unset] [])) _
      refine XS.iloadN X221.here hx rfl (hb hby at_52) rfl ?_
      show Steps p.tables e below (T221.setTop (mkF m 53 #[.val (.int p0), .val (.int p1), .val (.int p2), .val (.int p3), .val (.int z192), .val (.ref b199), .val (.ref b214), .unset, .unset] [(.int p1)])) _
      refine XS.bipush X221.here hx rfl (hb hby at_53) ?_
      show Steps p.tables e below (T221.setTop (mkF m 55 #[.val (.int p0), .val (.int p1), .val (.int p2), .val (.int p3), .val (.int z192), .val (.ref b199), .val (.ref b214), .unset, .unset] [(.int (32 : Int32)), (.int p1)])) _
      refine XS.iand X221.here hx rfl (hb hby at_55) rfl ?_
      show Steps p.tables e below (T221.setTop (mkF m 56 #[.val (.int p0), .val (.int p1), .val (.int p2), .val (.int p3), .val (.int z192), .val (.ref b199), .val (.ref b214), .unset, .unset] [(.int (p1 &&& (32 : Int32)))])) _
      exact k)
    obtain ⟨b231, hb231⟩ : ∃ z : Int32, z = (if (p1 &&& (32 : Int32)) = (0 : Int32) then (0 : Int32) else (1 : Int32)) := ⟨_, rfl⟩
    have P232 : ∀ t, Steps p.tables e below (T221.setTop (mkF m 64 #[.val (.int p0), .val (.int p1), .val (.int p2), .val (.int p3), .val (.int z192), .val (.ref b199), .val (.ref b214), .unset, .unset] [(.int b231)])) t → Steps p.tables e below (s₁.setTop (mkF m 0 #[.val (.int p0), .val (.int p1), .val (.int p2), .val (.int p3), .unset, .unset, .unset, .unset, .unset] [])) t := fun t k => P229 t (by
      show Steps p.tables e below (T221.setTop (mkF m 56 #[.val (.int p0), .val (.int p1), .val (.int p2), .val (.int p3), .val (.int z192), .val (.ref b199), .val (.ref b214), .unset, .unset] [(.int (p1 &&& (32 : Int32)))])) _
      by_cases q230 : (p1 &&& (32 : Int32)) = (0 : Int32)
      · skip
        refine XS.ifYes X221.here hx rfl (pc0 := 56) (pc' := 63) rfl (hb hby at_56) rfl ((if0 _ _).trans (teq (show (p1 &&& (32 : Int32)) = (0 : Int32) from q230)).1) (by decide) (by decide) ?_
        show Steps p.tables e below (T221.setTop (mkF m 63 #[.val (.int p0), .val (.int p1), .val (.int p2), .val (.int p3), .val (.int z192), .val (.ref b199), .val (.ref b214), .unset, .unset] [])) _
        refine XS.iconst X221.here hx rfl (hb hby at_63) ?_
        show Steps p.tables e below (T221.setTop (mkF m 64 #[.val (.int p0), .val (.int p1), .val (.int p2), .val (.int p3), .val (.int z192), .val (.ref b199), .val (.ref b214), .unset, .unset] [(.int (0 : Int32))])) _
        have eb231 : b231 = (0 : Int32) := by rw [hb231, if_pos q230]
        rw [eb231] at k
        exact k
      · skip
        refine XS.ifNo X221.here hx rfl (hb hby at_56) rfl ((if0 _ _).trans (feq (show ¬ ((p1 &&& (32 : Int32)) = (0 : Int32)) from q230)).1) ?_
        show Steps p.tables e below (T221.setTop (mkF m 59 #[.val (.int p0), .val (.int p1), .val (.int p2), .val (.int p3), .val (.int z192), .val (.ref b199), .val (.ref b214), .unset, .unset] [])) _
        refine XS.iconst X221.here hx rfl (hb hby at_59) ?_
        show Steps p.tables e below (T221.setTop (mkF m 60 #[.val (.int p0), .val (.int p1), .val (.int p2), .val (.int p3), .val (.int z192), .val (.ref b199), .val (.ref b214), .unset, .unset] [(.int (1 : Int32))])) _
        refine XS.goto X221.here hx rfl (pc0 := 60) (pc' := 64) rfl (hb hby at_60) (by decide) (by decide) ?_
        show Steps p.tables e below (T221.setTop (mkF m 64 #[.val (.int p0), .val (.int p1), .val (.int p2), .val (.int p3), .val (.int z192), .val (.ref b199), .val (.ref b214), .unset, .unset] [(.int (1 : Int32))])) _
        have eb231 : b231 = (1 : Int32) := by rw [hb231, if_neg q230]
        rw [eb231] at k
        exact k)
    obtain ⟨T233, h233, X233, e233, E233, A233, D233, -, st233⟩ := newO X221 hx hZ hown (hw _ (List.mem_of_getElem? (i := 6) rfl)) (hw _ (List.mem_of_getElem? (i := 7) rfl)) (hw _ (List.mem_of_getElem? (i := 8) rfl)) e221 (g := (mkF m 66 #[.val (.int p0), .val (.int p1), .val (.int p2), .val (.int p3), .val (.int z192), .val (.ref b199), .val (.ref b214), .val (.int b231), .unset] [])) rfl (hb hby at_66) (by decide) (by decide)
    obtain ⟨b233, g233⟩ : ∃ z, z = h221.size := ⟨_, rfl⟩
    rw [← g233] at A233 D233 st233
    have g_b233 : n0 ≤ b233 := Nat.le_trans Z225 (Nat.le_of_eq g233.symm)
    have sz_b233 : h0.size ≤ b233 := Nat.le_trans K226.1 (Nat.le_of_eq g233.symm)
    have P234 : ∀ t, Steps p.tables e below (T233.setTop (mkF m 69 #[.val (.int p0), .val (.int p1), .val (.int p2), .val (.int p3), .val (.int z192), .val (.ref b199), .val (.ref b214), .val (.int b231), .unset] [(.ref b233)])) t → Steps p.tables e below (s₁.setTop (mkF m 0 #[.val (.int p0), .val (.int p1), .val (.int p2), .val (.int p3), .unset, .unset, .unset, .unset, .unset] [])) t := fun t k => P232 t (by
      show Steps p.tables e below (T221.setTop (mkF m 64 #[.val (.int p0), .val (.int p1), .val (.int p2), .val (.int p3), .val (.int z192), .val (.ref b199), .val (.ref b214), .unset, .unset] [(.int b231)])) _
      refine XS.istore X221.here hx rfl (hb hby at_64) rfl (l' := #[.val (.int p0), .val (.int p1), .val (.int p2), .val (.int p3), .val (.int z192), .val (.ref b199), .val (.ref b214), .val (.int b231), .unset]) rfl ?_
      show Steps p.tables e below (T221.setTop (mkF m 66 #[.val (.int p0), .val (.int p1), .val (.int p2), .val (.int p3), .val (.int z192), .val (.ref b199), .val (.ref b214), .val (.int b231), .unset] [])) _
      exact st233 _ k)
    have Z235 : n0 ≤ h233.size := Nat.le_trans Z225 E233.1
    have K236 : Keep h0 h233 [] := K226.ext E233
    have O237 : Old Z n0 h233 := O227.ext E233
    have hk238 : h0.size ≤ h233.size := Nat.le_trans hk228 E233.1
    have f239 : Fld Z h233 b233 "com/example/clausewright/clausewright/model/Column" "name" "Ljava/lang/String;" .null := D233 (Or.inr (hw _ (List.mem_of_getElem? (i := 56) rfl))) (ty := (.object "java/lang/String")) (by decide)
    have f240 : Fld Z h233 b233 "com/example/clausewright/clausewright/model/Column" "jdbcType" "I" (.int (0 : Int32)) := D233 (Or.inr (hw _ (List.mem_of_getElem? (i := 58) rfl))) (ty := .int) (by decide)
    have f241 : Fld Z h233 b233 "com/example/clausewright/clausewright/model/Column" "typeName" "Ljava/lang/String;" .null := D233 (Or.inr (hw _ (List.mem_of_getElem? (i := 60) rfl))) (ty := (.object "java/lang/String")) (by decide)
    have f242 : Fld Z h233 b233 "com/example/clausewright/clausewright/model/Column" "nullable" "Z" (.int (0 : Int32)) := D233 (Or.inr (hw _ (List.mem_of_getElem? (i := 62) rfl))) (ty := .boolean) (by decide)
    obtain ⟨T243, h243, X243, e243, E243, A243, D243, -, st243⟩ := newO X233 hx hZ hown (hw _ (List.mem_of_getElem? (i := 9) rfl)) (hw _ (List.mem_of_getElem? (i := 10) rfl)) (hw _ (List.mem_of_getElem? (i := 11) rfl)) e233 (g := (mkF m 70 #[.val (.int p0), .val (.int p1), .val (.int p2), .val (.int p3), .val (.int z192), .val (.ref b199), .val (.ref b214), .val (.int b231), .unset] [(.ref b233), (.ref b233)])) rfl (hb hby at_70) (by decide) (by decide)
    obtain ⟨b243, g243⟩ : ∃ z, z = h233.size := ⟨_, rfl⟩
    rw [← g243] at A243 D243 st243
    have g_b243 : n0 ≤ b243 := Nat.le_trans Z235 (Nat.le_of_eq g243.symm)
    have sz_b243 : h0.size ≤ b243 := Nat.le_trans K236.1 (Nat.le_of_eq g243.symm)
    have P244 : ∀ t, Steps p.tables e below (T243.setTop (mkF m 73 #[.val (.int p0), .val (.int p1), .val (.int p2), .val (.int p3), .val (.int z192), .val (.ref b199), .val (.ref b214), .val (.int b231), .unset] [(.ref b243), (.ref b233), (.ref b233)])) t → Steps p.tables e below (s₁.setTop (mkF m 0 #[.val (.int p0), .val (.int p1), .val (.int p2), .val (.int p3), .unset, .unset, .unset, .unset, .unset] [])) t := fun t k => P234 t (by
      show Steps p.tables e below (T233.setTop (mkF m 69 #[.val (.int p0), .val (.int p1), .val (.int p2), .val (.int p3), .val (.int z192), .val (.ref b199), .val (.ref b214), .val (.int b231), .unset] [(.ref b233)])) _
      refine XS.dup X233.here hx rfl (hb hby at_69) rfl rfl ?_
      show Steps p.tables e below (T233.setTop (mkF m 70 #[.val (.int p0), .val (.int p1), .val (.int p2), .val (.int p3), .val (.int z192), .val (.ref b199), .val (.ref b214), .val (.int b231), .unset] [(.ref b233), (.ref b233)])) _
      exact st243 _ k)
    have Z245 : n0 ≤ h243.size := Nat.le_trans Z235 E243.1
    have K246 : Keep h0 h243 [] := K236.ext E243
    have O247 : Old Z n0 h243 := O237.ext E243
    have hk248 : h0.size ≤ h243.size := Nat.le_trans hk238 E243.1
    have f249 : Fld Z h243 b243 "java/lang/String" "coder" "B" (.int (0 : Int32)) := D243 (Or.inr (hw _ (List.mem_of_getElem? (i := 35) rfl))) (ty := .byte) (by decide)
    have f250 : Fld Z h243 b243 "java/lang/String" "value" "[B" .null := D243 (Or.inr (hw _ (List.mem_of_getElem? (i := 37) rfl))) (ty := (.array .byte)) (by decide)
    have hp251 : ∀ c ∈ ([(nar .char ((p2 &&& (255 : Int32)).toUInt32.toUInt16.toUInt32.toInt32))] : List Int32), ¬ c < 0 ∧ ¬ (255 : Int32) < c := by
      intro c hc
      simp only [List.mem_cons, List.not_mem_nil, or_false] at hc
      subst hc
      exact and255_chars _
    have hwsb243 : ∀ d ∈ StrChars.Road.words, d.before a0 Z = true := fun d hd => hw d (own_strwords d hd)
    have f252 : Arv Z h243 b199 k199 .char (1 : Int32) [(.int (nar .char ((p2 &&& (255 : Int32)).toUInt32.toUInt16.toUInt32.toInt32)))] (.int (0 : Int32)) := ((((v207.ext E214).other W221 (Nat.ne_of_lt (Nat.lt_of_lt_of_le v207.lt (Nat.le_of_eq g214.symm)))).ext E233).ext E243)
    obtain ⟨_, _, ⟨T253, L253, k253, n253⟩, -, X253, ⟨Lc253, hQ253, l253, y253, z253⟩, st253⟩ := X243.specialBack hx (y := (⟨"java/lang/String", "<init>", "([C)V"⟩ : MethodName)) rfl hown (mvT hZ (hw _ (List.mem_of_getElem? (i := 12) rfl))) (mvT hZ (hw _ (List.mem_of_getElem? (i := 13) rfl))) (mvT hZ (hw _ (List.mem_of_getElem? (i := 14) rfl))) (by decide) (StrChars.Road.backV (W := 3) hZ hwsb243 (kI := 4) (hw _ (List.mem_of_getElem? (i := 10) rfl)) (cs := ([(nar .char ((p2 &&& (255 : Int32)).toUInt32.toUInt16.toUInt32.toInt32))] : List Int32)) (bs := (([(nar .char ((p2 &&& (255 : Int32)).toUInt32.toUInt16.toUInt32.toInt32))] : List Int32)).map (fun c => c.toInt8.toInt32)) (n := 1) g_b243 Z245 A243 f250 f249 f252 (Sg.ext O247.2) P5 rfl rfl (by decide) (by decide) hp251 rfl (by decide) (by decide)) (g := (mkF m 76 #[.val (.int p0), .val (.int p1), .val (.int p2), .val (.int p3), .val (.int z192), .val (.ref b199), .val (.ref b214), .val (.int b231), .unset] [(.ref b199), (.ref b243), (.ref b243), (.ref b233), (.ref b233)])) rfl (by rw [hml]; rfl) (Steps.refl _) (a := b243) (argsL := [(.ref b199)]) (rest := [(.ref b243), (.ref b233), (.ref b233)]) (lenOf pd__28_5bC_29V rfl) rfl (by show 2 * 0 + _ ≤ _; exact Nat.le_of_eq rfl) (hb hby at_76) (fun _ _ => ⟨rfl, e243, (Nat.le_of_ble_eq_true rfl : 5 + 1 ≤ _), (Nat.le_of_ble_eq_true rfl : 26 + 1 ≤ _)⟩)
    dsimp only [Pt.U, Pt.locs, Pt.cells, Pt.slots] at X253 l253 y253 z253 st253 hQ253
    subst l253 y253 z253
    obtain ⟨rfl, Nq253, Kk253, Ek253, Fc253, t253, kb253, u253, vt253, wt253, Fv253, Av253⟩ := hQ253
    have N254 := Fr.app N224 Nq253
    have P255 : ∀ t, Steps p.tables e below (T253.setTop (mkF m 79 #[.val (.int p0), .val (.int p1), .val (.int p2), .val (.int p3), .val (.int z192), .val (.ref b199), .val (.ref b214), .val (.int b231), .unset] [(.ref b243), (.ref b233), (.ref b233)])) t → Steps p.tables e below (s₁.setTop (mkF m 0 #[.val (.int p0), .val (.int p1), .val (.int p2), .val (.int p3), .unset, .unset, .unset, .unset, .unset] [])) t := fun t k => P244 t (by
      show Steps p.tables e below (T243.setTop (mkF m 73 #[.val (.int p0), .val (.int p1), .val (.int p2), .val (.int p3), .val (.int z192), .val (.ref b199), .val (.ref b214), .val (.int b231), .unset] [(.ref b243), (.ref b233), (.ref b233)])) _
      refine XS.dup X243.here hx rfl (hb hby at_73) rfl rfl ?_
      show Steps p.tables e below (T243.setTop (mkF m 74 #[.val (.int p0), .val (.int p1), .val (.int p2), .val (.int p3), .val (.int z192), .val (.ref b199), .val (.ref b214), .val (.int b231), .unset] [(.ref b243), (.ref b243), (.ref b233), (.ref b233)])) _
      refine XS.aload X243.here hx rfl (hb hby at_74) rfl rfl ?_
      show Steps p.tables e below (T243.setTop (mkF m 76 #[.val (.int p0), .val (.int p1), .val (.int p2), .val (.int p3), .val (.int z192), .val (.ref b199), .val (.ref b214), .val (.int b231), .unset] [(.ref b199), (.ref b243), (.ref b243), (.ref b233), (.ref b233)])) _
      exact st253.trans k)
    have Z256 : n0 ≤ T253.heap.size := Nat.le_trans Z245 Kk253.1
    have K257 : Keep h0 T253.heap [] := K246.trans Kk253 ((allS (Or.inr sz_b243) all0))
    have O258 : Old Z n0 T253.heap := O247.keep Kk253 (allS g_b243 all0)
    have hk259 : h0.size ≤ T253.heap.size := Nat.le_trans hk248 Kk253.1
    have g_t253 : n0 ≤ t253 := Nat.le_trans Z245 vt253
    have sz_t253 : h0.size ≤ t253 := Nat.le_trans K246.1 vt253
    obtain ⟨T260, h260, X260, e260, E260, A260, D260, -, st260⟩ := newO X253 hx hZ hown (hw _ (List.mem_of_getElem? (i := 9) rfl)) (hw _ (List.mem_of_getElem? (i := 10) rfl)) (hw _ (List.mem_of_getElem? (i := 11) rfl)) rfl (g := (mkF m 81 #[.val (.int p0), .val (.int p1), .val (.int p2), .val (.int p3), .val (.int z192), .val (.ref b199), .val (.ref b214), .val (.int b231), .unset] [(.int z192), (.ref b243), (.ref b233), (.ref b233)])) rfl (hb hby at_81) (by decide) (by decide)
    obtain ⟨b260, g260⟩ : ∃ z, z = T253.heap.size := ⟨_, rfl⟩
    rw [← g260] at A260 D260 st260
    have g_b260 : n0 ≤ b260 := Nat.le_trans Z256 (Nat.le_of_eq g260.symm)
    have sz_b260 : h0.size ≤ b260 := Nat.le_trans K257.1 (Nat.le_of_eq g260.symm)
    have P261 : ∀ t, Steps p.tables e below (T260.setTop (mkF m 84 #[.val (.int p0), .val (.int p1), .val (.int p2), .val (.int p3), .val (.int z192), .val (.ref b199), .val (.ref b214), .val (.int b231), .unset] [(.ref b260), (.int z192), (.ref b243), (.ref b233), (.ref b233)])) t → Steps p.tables e below (s₁.setTop (mkF m 0 #[.val (.int p0), .val (.int p1), .val (.int p2), .val (.int p3), .unset, .unset, .unset, .unset, .unset] [])) t := fun t k => P255 t (by
      show Steps p.tables e below (T253.setTop (mkF m 79 #[.val (.int p0), .val (.int p1), .val (.int p2), .val (.int p3), .val (.int z192), .val (.ref b199), .val (.ref b214), .val (.int b231), .unset] [(.ref b243), (.ref b233), (.ref b233)])) _
      refine XS.iload X253.here hx rfl (hb hby at_79) rfl ?_
      show Steps p.tables e below (T253.setTop (mkF m 81 #[.val (.int p0), .val (.int p1), .val (.int p2), .val (.int p3), .val (.int z192), .val (.ref b199), .val (.ref b214), .val (.int b231), .unset] [(.int z192), (.ref b243), (.ref b233), (.ref b233)])) _
      exact st260 _ k)
    have Z262 : n0 ≤ h260.size := Nat.le_trans Z256 E260.1
    have K263 : Keep h0 h260 [] := K257.ext E260
    have O264 : Old Z n0 h260 := O258.ext E260
    have hk265 : h0.size ≤ h260.size := Nat.le_trans hk259 E260.1
    have f266 : Fld Z h260 b260 "java/lang/String" "coder" "B" (.int (0 : Int32)) := D260 (Or.inr (hw _ (List.mem_of_getElem? (i := 35) rfl))) (ty := .byte) (by decide)
    have f267 : Fld Z h260 b260 "java/lang/String" "value" "[B" .null := D260 (Or.inr (hw _ (List.mem_of_getElem? (i := 37) rfl))) (ty := (.array .byte)) (by decide)
    have hp268 : ∀ c ∈ ([(nar .char ((p3 &&& (255 : Int32)).toUInt32.toUInt16.toUInt32.toInt32))] : List Int32), ¬ c < 0 ∧ ¬ (255 : Int32) < c := by
      intro c hc
      simp only [List.mem_cons, List.not_mem_nil, or_false] at hc
      subst hc
      exact and255_chars _
    have hwsb260 : ∀ d ∈ StrChars.Road.words, d.before a0 Z = true := fun d hd => hw d (own_strwords d hd)
    have f269 : Arv Z h260 b214 k214 .char (1 : Int32) [(.int (nar .char ((p3 &&& (255 : Int32)).toUInt32.toUInt16.toUInt32.toInt32)))] (.int (0 : Int32)) := ((((v222.ext E233).ext E243).keep Kk253 (ninS (Nat.ne_of_lt (Nat.lt_of_lt_of_le (v222.ext E233).lt (Nat.le_of_eq g243.symm))) nin0)).ext E260)
    obtain ⟨_, _, ⟨T270, L270, k270, n270⟩, -, X270, ⟨Lc270, hQ270, l270, y270, z270⟩, st270⟩ := X260.specialBack hx (y := (⟨"java/lang/String", "<init>", "([C)V"⟩ : MethodName)) rfl hown (mvT hZ (hw _ (List.mem_of_getElem? (i := 12) rfl))) (mvT hZ (hw _ (List.mem_of_getElem? (i := 13) rfl))) (mvT hZ (hw _ (List.mem_of_getElem? (i := 14) rfl))) (by decide) (StrChars.Road.backV (W := 5) hZ hwsb260 (kI := 4) (hw _ (List.mem_of_getElem? (i := 10) rfl)) (cs := ([(nar .char ((p3 &&& (255 : Int32)).toUInt32.toUInt16.toUInt32.toInt32))] : List Int32)) (bs := (([(nar .char ((p3 &&& (255 : Int32)).toUInt32.toUInt16.toUInt32.toInt32))] : List Int32)).map (fun c => c.toInt8.toInt32)) (n := 1) g_b260 Z262 A260 f267 f266 f269 (Sg.ext O264.2) P5 rfl rfl (by decide) (by decide) hp268 rfl (by decide) (by decide)) (g := (mkF m 87 #[.val (.int p0), .val (.int p1), .val (.int p2), .val (.int p3), .val (.int z192), .val (.ref b199), .val (.ref b214), .val (.int b231), .unset] [(.ref b214), (.ref b260), (.ref b260), (.int z192), (.ref b243), (.ref b233), (.ref b233)])) rfl (by rw [hml]; rfl) (Steps.refl _) (a := b260) (argsL := [(.ref b214)]) (rest := [(.ref b260), (.int z192), (.ref b243), (.ref b233), (.ref b233)]) (lenOf pd__28_5bC_29V rfl) rfl (by show 2 * 0 + _ ≤ _; exact Nat.le_of_eq rfl) (hb hby at_87) (fun _ _ => ⟨rfl, e260, (Nat.le_of_ble_eq_true rfl : 7 + 1 ≤ _), (Nat.le_of_ble_eq_true rfl : 31 + 1 ≤ _)⟩)
    dsimp only [Pt.U, Pt.locs, Pt.cells, Pt.slots] at X270 l270 y270 z270 st270 hQ270
    subst l270 y270 z270
    obtain ⟨rfl, Nq270, Kk270, Ek270, Fc270, t270, kb270, u270, vt270, wt270, Fv270, Av270⟩ := hQ270
    have N271 := Fr.app N254 Nq270
    have P272 : ∀ t, Steps p.tables e below (T270.setTop (mkF m 90 #[.val (.int p0), .val (.int p1), .val (.int p2), .val (.int p3), .val (.int z192), .val (.ref b199), .val (.ref b214), .val (.int b231), .unset] [(.ref b260), (.int z192), (.ref b243), (.ref b233), (.ref b233)])) t → Steps p.tables e below (s₁.setTop (mkF m 0 #[.val (.int p0), .val (.int p1), .val (.int p2), .val (.int p3), .unset, .unset, .unset, .unset, .unset] [])) t := fun t k => P261 t (by
      show Steps p.tables e below (T260.setTop (mkF m 84 #[.val (.int p0), .val (.int p1), .val (.int p2), .val (.int p3), .val (.int z192), .val (.ref b199), .val (.ref b214), .val (.int b231), .unset] [(.ref b260), (.int z192), (.ref b243), (.ref b233), (.ref b233)])) _
      refine XS.dup X260.here hx rfl (hb hby at_84) rfl rfl ?_
      show Steps p.tables e below (T260.setTop (mkF m 85 #[.val (.int p0), .val (.int p1), .val (.int p2), .val (.int p3), .val (.int z192), .val (.ref b199), .val (.ref b214), .val (.int b231), .unset] [(.ref b260), (.ref b260), (.int z192), (.ref b243), (.ref b233), (.ref b233)])) _
      refine XS.aload X260.here hx rfl (hb hby at_85) rfl rfl ?_
      show Steps p.tables e below (T260.setTop (mkF m 87 #[.val (.int p0), .val (.int p1), .val (.int p2), .val (.int p3), .val (.int z192), .val (.ref b199), .val (.ref b214), .val (.int b231), .unset] [(.ref b214), (.ref b260), (.ref b260), (.int z192), (.ref b243), (.ref b233), (.ref b233)])) _
      exact st270.trans k)
    have Z273 : n0 ≤ T270.heap.size := Nat.le_trans Z262 Kk270.1
    have K274 : Keep h0 T270.heap [] := K263.trans Kk270 ((allS (Or.inr sz_b260) all0))
    have O275 : Old Z n0 T270.heap := O264.keep Kk270 (allS g_b260 all0)
    have hk276 : h0.size ≤ T270.heap.size := Nat.le_trans hk265 Kk270.1
    have g_t270 : n0 ≤ t270 := Nat.le_trans Z262 vt270
    have sz_t270 : h0.size ≤ t270 := Nat.le_trans K263.1 vt270
    have f277 : Exa Z T270.heap b233 "com/example/clausewright/clausewright/model/Column" := ((((A233.ext E243).keep Kk253).ext E260).keep Kk270)
    have f278 : Fld Z T270.heap b233 "com/example/clausewright/clausewright/model/Column" "name" "Ljava/lang/String;" .null := ((((f239.ext E243).keep Kk253 (ninS (Nat.ne_of_lt (Nat.lt_of_lt_of_le f242.lt (Nat.le_of_eq g243.symm))) nin0)).ext E260).keep Kk270 (ninS (Nat.ne_of_lt (Nat.lt_of_lt_of_le ((f242.ext E243).keep Kk253 (ninS (Nat.ne_of_lt (Nat.lt_of_lt_of_le f242.lt (Nat.le_of_eq g243.symm))) nin0)).lt (Nat.le_of_eq g260.symm))) nin0))
    have f279 : Fld Z T270.heap b233 "com/example/clausewright/clausewright/model/Column" "jdbcType" "I" (.int (0 : Int32)) := ((((f240.ext E243).keep Kk253 (ninS (Nat.ne_of_lt (Nat.lt_of_lt_of_le f242.lt (Nat.le_of_eq g243.symm))) nin0)).ext E260).keep Kk270 (ninS (Nat.ne_of_lt (Nat.lt_of_lt_of_le ((f242.ext E243).keep Kk253 (ninS (Nat.ne_of_lt (Nat.lt_of_lt_of_le f242.lt (Nat.le_of_eq g243.symm))) nin0)).lt (Nat.le_of_eq g260.symm))) nin0))
    have f280 : Fld Z T270.heap b233 "com/example/clausewright/clausewright/model/Column" "typeName" "Ljava/lang/String;" .null := ((((f241.ext E243).keep Kk253 (ninS (Nat.ne_of_lt (Nat.lt_of_lt_of_le f242.lt (Nat.le_of_eq g243.symm))) nin0)).ext E260).keep Kk270 (ninS (Nat.ne_of_lt (Nat.lt_of_lt_of_le ((f242.ext E243).keep Kk253 (ninS (Nat.ne_of_lt (Nat.lt_of_lt_of_le f242.lt (Nat.le_of_eq g243.symm))) nin0)).lt (Nat.le_of_eq g260.symm))) nin0))
    have f281 : Fld Z T270.heap b233 "com/example/clausewright/clausewright/model/Column" "nullable" "Z" (.int (0 : Int32)) := ((((f242.ext E243).keep Kk253 (ninS (Nat.ne_of_lt (Nat.lt_of_lt_of_le f242.lt (Nat.le_of_eq g243.symm))) nin0)).ext E260).keep Kk270 (ninS (Nat.ne_of_lt (Nat.lt_of_lt_of_le ((f242.ext E243).keep Kk253 (ninS (Nat.ne_of_lt (Nat.lt_of_lt_of_le f242.lt (Nat.le_of_eq g243.symm))) nin0)).lt (Nat.le_of_eq g260.symm))) nin0))
    obtain ⟨_, _, ⟨T282, L282, k282, n282⟩, -, X282, hs282, hg282, ⟨Lc282, hQ282, l282, y282, z282⟩, st282⟩ := X270.specialBackS hx (y := (⟨"com/example/clausewright/clausewright/model/Column", "<init>", "(Ljava/lang/String;ILjava/lang/String;Z)V"⟩ : MethodName)) rfl hown (mvT hZ (hw _ (List.mem_of_getElem? (i := 38) rfl))) (mvT hZ (hw _ (List.mem_of_getElem? (i := 39) rfl))) (mvT hZ (hw _ (List.mem_of_getElem? (i := 40) rfl))) (by decide) (backOfS (W := 1) (rm_ctor l Z a0 hw [] b233 b243 z192 b260 b231 T270.heap n0 Z273 g_b233 f277 f278 f279 f280 f281) hZ (hw _ (List.mem_of_getElem? (i := 40) rfl)) (hw _ (List.mem_of_getElem? (i := 8) rfl)) (by decide) (by decide)) (g := (mkF m 92 #[.val (.int p0), .val (.int p1), .val (.int p2), .val (.int p3), .val (.int z192), .val (.ref b199), .val (.ref b214), .val (.int b231), .unset] [(.int b231), (.ref b260), (.int z192), (.ref b243), (.ref b233), (.ref b233)])) rfl (by rw [hml]; rfl) (Steps.refl _) (a := b233) (argsL := [(.ref b243), (.int z192), (.ref b260), (.int b231)]) (rest := [(.ref b233)]) (lenOf pd__28Ljava_2flang_2fString_3bILjava_2flang_2fString_3bZ_29V rfl) rfl (by show 2 * 0 + _ ≤ _; exact Nat.le_of_eq rfl) (hb hby at_92) (fun _ _ => ⟨rfl, rfl, (Nat.le_of_ble_eq_true rfl : 8 + 4 ≤ _), (Nat.le_of_ble_eq_true rfl : 32 + 56 ≤ _)⟩)
    dsimp only [Pt.U, Pt.locs, Pt.cells, Pt.slots] at X282 l282 y282 z282 st282 hQ282 hs282 hg282
    subst l282 y282 z282
    obtain ⟨rfl, Nq282, Kk282, Ek282, Fj282⟩ := hQ282
    obtain ⟨Xr282, hSr282, hZr282, ho282⟩ := rebS hS0 hk276 X282 hs282 hg282 hZ hown
    have N283 := Fr.app N271 Nq282
    have P284 : ∀ t, Steps p.tables e below (T282.setTop (mkF m 95 #[.val (.int p0), .val (.int p1), .val (.int p2), .val (.int p3), .val (.int z192), .val (.ref b199), .val (.ref b214), .val (.int b231), .unset] [(.ref b233)])) t → Steps p.tables e below (s₁.setTop (mkF m 0 #[.val (.int p0), .val (.int p1), .val (.int p2), .val (.int p3), .unset, .unset, .unset, .unset, .unset] [])) t := fun t k => P272 t (by
      show Steps p.tables e below (T270.setTop (mkF m 90 #[.val (.int p0), .val (.int p1), .val (.int p2), .val (.int p3), .val (.int z192), .val (.ref b199), .val (.ref b214), .val (.int b231), .unset] [(.ref b260), (.int z192), (.ref b243), (.ref b233), (.ref b233)])) _
      refine XS.iload X270.here hx rfl (hb hby at_90) rfl ?_
      show Steps p.tables e below (T270.setTop (mkF m 92 #[.val (.int p0), .val (.int p1), .val (.int p2), .val (.int p3), .val (.int z192), .val (.ref b199), .val (.ref b214), .val (.int b231), .unset] [(.int b231), (.ref b260), (.int z192), (.ref b243), (.ref b233), (.ref b233)])) _
      exact st282.trans k)
    have Z285 : n0 ≤ T282.heap.size := Nat.le_trans Z273 Kk282.1
    have K286 : Keep h0 T282.heap [] := K274.trans Kk282 ((allS (Or.inr sz_b233) all0))
    have O287 : Old Z n0 T282.heap := O275.keep Kk282 (allS g_b233 all0)
    obtain ⟨cq288, kq288, q288a, q288b, q288c⟩ := isOf hZr282 rfl Ek282
    obtain ⟨_, _, ⟨T288, L288, k288, n288⟩, -, X288, ⟨Lc288, hQ288, l288, y288, z288⟩, st288⟩ := Xr282.virtualBack hx (y := (⟨"com/example/clausewright/clausewright/model/Column", "isText", "()Z"⟩ : MethodName)) (z := (⟨"com/example/clausewright/clausewright/model/Column", "isText", "()Z"⟩ : MethodName)) ho282 (mvT hZr282 (hw _ (List.mem_of_getElem? (i := 63) rfl))) (mvT hZr282 (hw _ (List.mem_of_getElem? (i := 64) rfl))) (notFace_of_selects (args := #[]) (mvT hZr282 (hw _ (List.mem_of_getElem? (i := 66) rfl)))) (mvT hZr282 (hw _ (List.mem_of_getElem? (i := 66) rfl))) (mvT hZr282 (hw _ (List.mem_of_getElem? (i := 65) rfl))) (by decide) (backOf (W := 0) (rm_ask l Z a0 hw [] b233 z192 T282.heap n0 Z285 Fj282) hZr282 (hw _ (List.mem_of_getElem? (i := 67) rfl)) (hw _ (List.mem_of_getElem? (i := 8) rfl)) (by decide) (by decide)) q288a q288c (g := (mkF m 99 #[.val (.int p0), .val (.int p1), .val (.int p2), .val (.int p3), .val (.int z192), .val (.ref b199), .val (.ref b214), .val (.int b231), .val (.ref b233)] [(.ref b233)])) rfl (by rw [hml]; rfl) (Steps.refl _) (argsL := []) (rest := []) (lenOf pd__28_29Z rfl) rfl (by show 2 * 0 + _ ≤ _; exact Nat.le_of_eq rfl) (hb hby at_99) (fun _ _ => ⟨rfl, rfl, (Nat.le_of_ble_eq_true rfl : 12 + 0 ≤ _), (Nat.le_of_ble_eq_true rfl : 88 + 0 ≤ _)⟩)
    dsimp only [Pt.U, Pt.locs, Pt.cells, Pt.slots] at X288 l288 y288 z288 st288 hQ288
    subst l288 y288 z288
    obtain ⟨rfl, Nq288, e288⟩ := hQ288
    have N289 := Fr.app N283 Nq288
    have P290 : ∀ t, Steps p.tables e below (T288.setTop (mkF m 102 #[.val (.int p0), .val (.int p1), .val (.int p2), .val (.int p3), .val (.int z192), .val (.ref b199), .val (.ref b214), .val (.int b231), .val (.ref b233)] [(.int (own_ask z192))])) t → Steps p.tables e below (s₁.setTop (mkF m 0 #[.val (.int p0), .val (.int p1), .val (.int p2), .val (.int p3), .unset, .unset, .unset, .unset, .unset] [])) t := fun t k => P284 t (by
      show Steps p.tables e below (T282.setTop (mkF m 95 #[.val (.int p0), .val (.int p1), .val (.int p2), .val (.int p3), .val (.int z192), .val (.ref b199), .val (.ref b214), .val (.int b231), .unset] [(.ref b233)])) _
      refine XS.astore Xr282.here hx rfl (hb hby at_95) rfl rfl (l' := #[.val (.int p0), .val (.int p1), .val (.int p2), .val (.int p3), .val (.int z192), .val (.ref b199), .val (.ref b214), .val (.int b231), .val (.ref b233)]) rfl ?_
      show Steps p.tables e below (T282.setTop (mkF m 97 #[.val (.int p0), .val (.int p1), .val (.int p2), .val (.int p3), .val (.int z192), .val (.ref b199), .val (.ref b214), .val (.int b231), .val (.ref b233)] [])) _
      refine XS.aload Xr282.here hx rfl (hb hby at_97) rfl rfl ?_
      show Steps p.tables e below (T282.setTop (mkF m 99 #[.val (.int p0), .val (.int p1), .val (.int p2), .val (.int p3), .val (.int z192), .val (.ref b199), .val (.ref b214), .val (.int b231), .val (.ref b233)] [(.ref b233)])) _
      exact st288.trans k)
    obtain ⟨_, _, ⟨T291, L291, k291, n291⟩, -, X291, ⟨Lc291, hQ291, l291, y291, z291⟩, st291⟩ := Jvm.LawKit.callS X288 hx (y := (⟨"com/example/clausewright/clausewright/model/ColumnIsTextPinLaw", "expected", "(I)Z"⟩ : MethodName)) ho282 (mvT hZr282 (hw _ (List.mem_of_getElem? (i := 68) rfl))) (mvT hZr282 (hw _ (List.mem_of_getElem? (i := 69) rfl))) (mvT hZr282 (hw _ (List.mem_of_getElem? (i := 2) rfl))) (mvT hZr282 (hw _ (List.mem_of_getElem? (i := 70) rfl))) (by decide) (backOf (W := 1) (rm_expect l Z a0 hw [] z192 T282.heap n0 Z285 ) hZr282 (hw _ (List.mem_of_getElem? (i := 70) rfl)) (hw _ (List.mem_of_getElem? (i := 2) rfl)) (by decide) (by decide)) (g := (mkF m 104 #[.val (.int p0), .val (.int p1), .val (.int p2), .val (.int p3), .val (.int z192), .val (.ref b199), .val (.ref b214), .val (.int b231), .val (.ref b233)] [(.int z192), (.int (own_ask z192))])) rfl (by rw [hml]; rfl) (argsL := [(.int z192)]) (rest := [(.int (own_ask z192))]) (lenOf pd__28I_29Z rfl) rfl (by show 2 * 0 + _ ≤ _; exact Nat.le_of_eq rfl) (hb hby at_104) (fun _ _ => ⟨rfl, e288, (Nat.le_of_ble_eq_true rfl : 12 + 0 ≤ _), (Nat.le_of_ble_eq_true rfl : 88 + 0 ≤ _)⟩)
    dsimp only [Pt.U, Pt.locs, Pt.cells, Pt.slots] at X291 l291 y291 z291 st291 hQ291
    subst l291 y291 z291
    obtain ⟨rfl, Nq291, e291⟩ := hQ291
    have N292 := Fr.app N289 Nq291
    have P293 : ∀ t, Steps p.tables e below (T291.setTop (mkF m 107 #[.val (.int p0), .val (.int p1), .val (.int p2), .val (.int p3), .val (.int z192), .val (.ref b199), .val (.ref b214), .val (.int b231), .val (.ref b233)] [(.int (own_ask z192)), (.int (own_ask z192))])) t → Steps p.tables e below (s₁.setTop (mkF m 0 #[.val (.int p0), .val (.int p1), .val (.int p2), .val (.int p3), .unset, .unset, .unset, .unset, .unset] [])) t := fun t k => P290 t (by
      show Steps p.tables e below (T288.setTop (mkF m 102 #[.val (.int p0), .val (.int p1), .val (.int p2), .val (.int p3), .val (.int z192), .val (.ref b199), .val (.ref b214), .val (.int b231), .val (.ref b233)] [(.int (own_ask z192))])) _
      refine XS.iload X288.here hx rfl (hb hby at_102) rfl ?_
      show Steps p.tables e below (T288.setTop (mkF m 104 #[.val (.int p0), .val (.int p1), .val (.int p2), .val (.int p3), .val (.int z192), .val (.ref b199), .val (.ref b214), .val (.int b231), .val (.ref b233)] [(.int z192), (.int (own_ask z192))])) _
      exact st291 _ k)
    obtain ⟨fs294, hr294, hrun294, hended294, hRW294⟩ := X291.leaveW (v := some (.int (1 : Int32))) hSr282 (by rw [e291]; exact (Nat.le_refl _)) (fun h => by rw [Bd.returns] at h; cases h)
    refine ⟨_, _, pre0 _ (P293 _ ?_), hrun294, hended294, _, _, rfl, ?_, ⟨hRW294.1, hRW294.2.1, hRW294.2.2.1, hRW294.2.2.2.mono (Nat.le_of_ble_eq_true rfl) (Nat.le_of_ble_eq_true rfl)⟩⟩
    · show Steps p.tables e below (T291.setTop (mkF m 107 #[.val (.int p0), .val (.int p1), .val (.int p2), .val (.int p3), .val (.int z192), .val (.ref b199), .val (.ref b214), .val (.int b231), .val (.ref b233)] [(.int (own_ask z192)), (.int (own_ask z192))])) _
      refine XS.icmpNo X291.here hx rfl (hb hby at_107) rfl (teq (show (own_ask z192) = (own_ask z192) from (rfl : (own_ask z192) = (own_ask z192)))).2 ?_
      show Steps p.tables e below (T291.setTop (mkF m 110 #[.val (.int p0), .val (.int p1), .val (.int p2), .val (.int p3), .val (.int z192), .val (.ref b199), .val (.ref b214), .val (.int b231), .val (.ref b233)] [])) _
      refine XS.iconst X291.here hx rfl (hb hby at_110) ?_
      show Steps p.tables e below (T291.setTop (mkF m 111 #[.val (.int p0), .val (.int p1), .val (.int p2), .val (.int p3), .val (.int z192), .val (.ref b199), .val (.ref b214), .val (.int b231), .val (.ref b233)] [(.int (1 : Int32))])) _
      refine XS.goto X291.here hx rfl (pc0 := 111) (pc' := 115) rfl (hb hby at_111) (by decide) (by decide) ?_
      show Steps p.tables e below (T291.setTop (mkF m 115 #[.val (.int p0), .val (.int p1), .val (.int p2), .val (.int p3), .val (.int z192), .val (.ref b199), .val (.ref b214), .val (.int b231), .val (.ref b233)] [(.int (1 : Int32))])) _
      exact retN X291 hx (t := .boolean) Bd.returns (by simp) (hb hby at_115) hr294
    · show Q_law  h0 n0 _ T291.heap _
      rw [e291]
      exact ⟨rfl, N292⟩
  · skip
    obtain ⟨T295, h295, k295, X295, e295, E295, A295, st295⟩ := newP X0 hx hZ (hw _ (List.mem_of_getElem? (i := 5) rfl)) e0 (g := (mkF m 23 #[.val (.int p0), .val (.int p1), .val (.int p2), .val (.int p3), .val (.int p0), .unset, .unset, .unset, .unset] [(.int (1 : Int32))])) rfl (hb hby at_23) rfl (by decide) (cap := 1) (by decide) (by decide) (by decide) (by decide)
    obtain ⟨b295, g295⟩ : ∃ z, z = h0.size := ⟨_, rfl⟩
    rw [← g295] at A295 st295
    have g_b295 : n0 ≤ b295 := Nat.le_trans Z0 (Nat.le_of_eq g295.symm)
    have sz_b295 : h0.size ≤ b295 := Nat.le_trans (Keep.refl h0 []).1 (Nat.le_of_eq g295.symm)
    have P296 : ∀ t, Steps p.tables e below (T295.setTop (mkF m 25 #[.val (.int p0), .val (.int p1), .val (.int p2), .val (.int p3), .val (.int p0), .unset, .unset, .unset, .unset] [(.ref b295)])) t → Steps p.tables e below (s₁.setTop (mkF m 0 #[.val (.int p0), .val (.int p1), .val (.int p2), .val (.int p3), .unset, .unset, .unset, .unset, .unset] [])) t := fun t k => P0 t (by
      refine XS.iloadN X0.here hx rfl (hb hby at_0) rfl ?_
      show Steps p.tables e below (s₁.setTop (mkF m 1 #[.val (.int p0), .val (.int p1), .val (.int p2), .val (.int p3), .unset, .unset, .unset, .unset, .unset] [(.int p1)])) _
      refine XS.bipush X0.here hx rfl (hb hby at_1) ?_
      show Steps p.tables e below (s₁.setTop (mkF m 3 #[.val (.int p0), .val (.int p1), .val (.int p2), .val (.int p3), .unset, .unset, .unset, .unset, .unset] [(.int (16 : Int32)), (.int p1)])) _
      refine XS.iand X0.here hx rfl (hb hby at_3) rfl ?_
      show Steps p.tables e below (s₁.setTop (mkF m 4 #[.val (.int p0), .val (.int p1), .val (.int p2), .val (.int p3), .unset, .unset, .unset, .unset, .unset] [(.int (p1 &&& (16 : Int32)))])) _
      refine XS.ifNo X0.here hx rfl (hb hby at_4) rfl ((if0 _ _).trans (feq (show ¬ ((p1 &&& (16 : Int32)) = (0 : Int32)) from q191)).1) ?_
      show Steps p.tables e below (s₁.setTop (mkF m 7 #[.val (.int p0), .val (.int p1), .val (.int p2), .val (.int p3), .unset, .unset, .unset, .unset, .unset] [])) _
      refine XS.iloadN X0.here hx rfl (hb hby at_7) rfl ?_
      show Steps p.tables e below (s₁.setTop (mkF m 8 #[.val (.int p0), .val (.int p1), .val (.int p2), .val (.int p3), .unset, .unset, .unset, .unset, .unset] [(.int p0)])) _
      refine XS.istore X0.here hx rfl (hb hby at_8) rfl (l' := #[.val (.int p0), .val (.int p1), .val (.int p2), .val (.int p3), .val (.int p0), .unset, .unset, .unset, .unset]) rfl ?_
      show Steps p.tables e below (s₁.setTop (mkF m 10 #[.val (.int p0), .val (.int p1), .val (.int p2), .val (.int p3), .val (.int p0), .unset, .unset, .unset, .unset] [])) _
      refine XS.goto X0.here hx rfl (pc0 := 10) (pc' := 22) rfl (hb hby at_10) (by decide) (by decide) ?_
      show Steps p.tables e below (s₁.setTop (mkF m 22 #[.val (.int p0), .val (.int p1), .val (.int p2), .val (.int p3), .val (.int p0), .unset, .unset, .unset, .unset] [])) _
      refine XS.iconst X0.here hx rfl (hb hby at_22) ?_
      show Steps p.tables e below (s₁.setTop (mkF m 23 #[.val (.int p0), .val (.int p1), .val (.int p2), .val (.int p3), .val (.int p0), .unset, .unset, .unset, .unset] [(.int (1 : Int32))])) _
      exact st295 _ k)
    have Z297 : n0 ≤ h295.size := Nat.le_trans Z0 E295.1
    have K298 : Keep h0 h295 [] := (Keep.refl h0 []).ext E295
    have O299 : Old Z n0 h295 := Ol.ext E295
    have hk300 : h0.size ≤ h295.size := Nat.le_trans (Nat.le_refl _) E295.1
    have v301 : Arv Z h295 b295 k295 .char (1 : Int32) [(.int (0 : Int32))] (.int (0 : Int32)) := (Arv.new A295 (by decide)).pad (pad_rep [] (.int (0 : Int32)) 1)
    obtain ⟨cl302, Ar302, q302, S302, N302, H302, G302⟩ := id v301
    obtain ⟨T302, h302, X302, e302, W302, st302⟩ := stC X295 hx hZ e295 Ar302 (j := (0 : Int32)) (inb_of S302 ⟨by decide, by decide⟩) (g := (mkF m 36 #[.val (.int p0), .val (.int p1), .val (.int p2), .val (.int p3), .val (.int p0), .val (.ref b295), .unset, .unset, .unset] [(.int ((p2 &&& (255 : Int32)).toUInt32.toUInt16.toUInt32.toInt32)), (.int (0 : Int32)), (.ref b295)])) rfl rfl (hb hby at_36)
    have v303 : Arv Z h302 b295 k295 .char (1 : Int32) [(.int (nar .char ((p2 &&& (255 : Int32)).toUInt32.toUInt16.toUInt32.toInt32)))] (.int (0 : Int32)) := Arv.set Ar302 q302 S302 N302 H302 G302 (fits_nar_char _) W302 0 rfl (Nat.le_of_ble_eq_true rfl)
    have P304 : ∀ t, Steps p.tables e below (T302.setTop (mkF m 37 #[.val (.int p0), .val (.int p1), .val (.int p2), .val (.int p3), .val (.int p0), .val (.ref b295), .unset, .unset, .unset] [])) t → Steps p.tables e below (s₁.setTop (mkF m 0 #[.val (.int p0), .val (.int p1), .val (.int p2), .val (.int p3), .unset, .unset, .unset, .unset, .unset] [])) t := fun t k => P296 t (by
      show Steps p.tables e below (T295.setTop (mkF m 25 #[.val (.int p0), .val (.int p1), .val (.int p2), .val (.int p3), .val (.int p0), .unset, .unset, .unset, .unset] [(.ref b295)])) _
      refine XS.astore X295.here hx rfl (hb hby at_25) rfl rfl (l' := #[.val (.int p0), .val (.int p1), .val (.int p2), .val (.int p3), .val (.int p0), .val (.ref b295), .unset, .unset, .unset]) rfl ?_
      show Steps p.tables e below (T295.setTop (mkF m 27 #[.val (.int p0), .val (.int p1), .val (.int p2), .val (.int p3), .val (.int p0), .val (.ref b295), .unset, .unset, .unset] [])) _
      refine XS.aload X295.here hx rfl (hb hby at_27) rfl rfl ?_
      show Steps p.tables e below (T295.setTop (mkF m 29 #[.val (.int p0), .val (.int p1), .val (.int p2), .val (.int p3), .val (.int p0), .val (.ref b295), .unset, .unset, .unset] [(.ref b295)])) _
      refine XS.iconst X295.here hx rfl (hb hby at_29) ?_
      show Steps p.tables e below (T295.setTop (mkF m 30 #[.val (.int p0), .val (.int p1), .val (.int p2), .val (.int p3), .val (.int p0), .val (.ref b295), .unset, .unset, .unset] [(.int (0 : Int32)), (.ref b295)])) _
      refine XS.iloadN X295.here hx rfl (hb hby at_30) rfl ?_
      show Steps p.tables e below (T295.setTop (mkF m 31 #[.val (.int p0), .val (.int p1), .val (.int p2), .val (.int p3), .val (.int p0), .val (.ref b295), .unset, .unset, .unset] [(.int p2), (.int (0 : Int32)), (.ref b295)])) _
      refine XS.sipush X295.here hx rfl (hb hby at_31) ?_
      show Steps p.tables e below (T295.setTop (mkF m 34 #[.val (.int p0), .val (.int p1), .val (.int p2), .val (.int p3), .val (.int p0), .val (.ref b295), .unset, .unset, .unset] [(.int (255 : Int32)), (.int p2), (.int (0 : Int32)), (.ref b295)])) _
      refine XS.iand X295.here hx rfl (hb hby at_34) rfl ?_
      show Steps p.tables e below (T295.setTop (mkF m 35 #[.val (.int p0), .val (.int p1), .val (.int p2), .val (.int p3), .val (.int p0), .val (.ref b295), .unset, .unset, .unset] [(.int (p2 &&& (255 : Int32))), (.int (0 : Int32)), (.ref b295)])) _
      refine XS.i2c X295.here hx rfl (hb hby at_35) rfl ?_
      show Steps p.tables e below (T295.setTop (mkF m 36 #[.val (.int p0), .val (.int p1), .val (.int p2), .val (.int p3), .val (.int p0), .val (.ref b295), .unset, .unset, .unset] [(.int ((p2 &&& (255 : Int32)).toUInt32.toUInt16.toUInt32.toInt32)), (.int (0 : Int32)), (.ref b295)])) _
      exact st302 _ k)
    have N305 := Fr.snoc X302 N0 g_b295
    have Z306 : n0 ≤ h302.size := Nat.le_trans Z297 (Keep.of_wr W302).1
    have K307 : Keep h0 h302 [] := K298.wr W302 (Or.inr sz_b295)
    have O308 : Old Z n0 h302 := O299.wr W302 g_b295
    have hk309 : h0.size ≤ h302.size := Nat.le_trans hk300 (Keep.of_wr W302).1
    obtain ⟨T310, h310, k310, X310, e310, E310, A310, st310⟩ := newP X302 hx hZ (hw _ (List.mem_of_getElem? (i := 5) rfl)) e302 (g := (mkF m 38 #[.val (.int p0), .val (.int p1), .val (.int p2), .val (.int p3), .val (.int p0), .val (.ref b295), .unset, .unset, .unset] [(.int (1 : Int32))])) rfl (hb hby at_38) rfl (by decide) (cap := 1) (by decide) (by decide) (by decide) (by decide)
    obtain ⟨b310, g310⟩ : ∃ z, z = h302.size := ⟨_, rfl⟩
    rw [← g310] at A310 st310
    have g_b310 : n0 ≤ b310 := Nat.le_trans Z306 (Nat.le_of_eq g310.symm)
    have sz_b310 : h0.size ≤ b310 := Nat.le_trans K307.1 (Nat.le_of_eq g310.symm)
    have P311 : ∀ t, Steps p.tables e below (T310.setTop (mkF m 40 #[.val (.int p0), .val (.int p1), .val (.int p2), .val (.int p3), .val (.int p0), .val (.ref b295), .unset, .unset, .unset] [(.ref b310)])) t → Steps p.tables e below (s₁.setTop (mkF m 0 #[.val (.int p0), .val (.int p1), .val (.int p2), .val (.int p3), .unset, .unset, .unset, .unset, .unset] [])) t := fun t k => P304 t (by
      show Steps p.tables e below (T302.setTop (mkF m 37 #[.val (.int p0), .val (.int p1), .val (.int p2), .val (.int p3), .val (.int p0), .val (.ref b295), .unset, .unset, .unset] [])) _
      refine XS.iconst X302.here hx rfl (hb hby at_37) ?_
      show Steps p.tables e below (T302.setTop (mkF m 38 #[.val (.int p0), .val (.int p1), .val (.int p2), .val (.int p3), .val (.int p0), .val (.ref b295), .unset, .unset, .unset] [(.int (1 : Int32))])) _
      exact st310 _ k)
    have Z312 : n0 ≤ h310.size := Nat.le_trans Z306 E310.1
    have K313 : Keep h0 h310 [] := K307.ext E310
    have O314 : Old Z n0 h310 := O308.ext E310
    have hk315 : h0.size ≤ h310.size := Nat.le_trans hk309 E310.1
    have v316 : Arv Z h310 b310 k310 .char (1 : Int32) [(.int (0 : Int32))] (.int (0 : Int32)) := (Arv.new A310 (by decide)).pad (pad_rep [] (.int (0 : Int32)) 1)
    obtain ⟨cl317, Ar317, q317, S317, N317, H317, G317⟩ := id v316
    obtain ⟨T317, h317, X317, e317, W317, st317⟩ := stC X310 hx hZ e310 Ar317 (j := (0 : Int32)) (inb_of S317 ⟨by decide, by decide⟩) (g := (mkF m 51 #[.val (.int p0), .val (.int p1), .val (.int p2), .val (.int p3), .val (.int p0), .val (.ref b295), .val (.ref b310), .unset, .unset] [(.int ((p3 &&& (255 : Int32)).toUInt32.toUInt16.toUInt32.toInt32)), (.int (0 : Int32)), (.ref b310)])) rfl rfl (hb hby at_51)
    have v318 : Arv Z h317 b310 k310 .char (1 : Int32) [(.int (nar .char ((p3 &&& (255 : Int32)).toUInt32.toUInt16.toUInt32.toInt32)))] (.int (0 : Int32)) := Arv.set Ar317 q317 S317 N317 H317 G317 (fits_nar_char _) W317 0 rfl (Nat.le_of_ble_eq_true rfl)
    have P319 : ∀ t, Steps p.tables e below (T317.setTop (mkF m 52 #[.val (.int p0), .val (.int p1), .val (.int p2), .val (.int p3), .val (.int p0), .val (.ref b295), .val (.ref b310), .unset, .unset] [])) t → Steps p.tables e below (s₁.setTop (mkF m 0 #[.val (.int p0), .val (.int p1), .val (.int p2), .val (.int p3), .unset, .unset, .unset, .unset, .unset] [])) t := fun t k => P311 t (by
      show Steps p.tables e below (T310.setTop (mkF m 40 #[.val (.int p0), .val (.int p1), .val (.int p2), .val (.int p3), .val (.int p0), .val (.ref b295), .unset, .unset, .unset] [(.ref b310)])) _
      refine XS.astore X310.here hx rfl (hb hby at_40) rfl rfl (l' := #[.val (.int p0), .val (.int p1), .val (.int p2), .val (.int p3), .val (.int p0), .val (.ref b295), .val (.ref b310), .unset, .unset]) rfl ?_
      show Steps p.tables e below (T310.setTop (mkF m 42 #[.val (.int p0), .val (.int p1), .val (.int p2), .val (.int p3), .val (.int p0), .val (.ref b295), .val (.ref b310), .unset, .unset] [])) _
      refine XS.aload X310.here hx rfl (hb hby at_42) rfl rfl ?_
      show Steps p.tables e below (T310.setTop (mkF m 44 #[.val (.int p0), .val (.int p1), .val (.int p2), .val (.int p3), .val (.int p0), .val (.ref b295), .val (.ref b310), .unset, .unset] [(.ref b310)])) _
      refine XS.iconst X310.here hx rfl (hb hby at_44) ?_
      show Steps p.tables e below (T310.setTop (mkF m 45 #[.val (.int p0), .val (.int p1), .val (.int p2), .val (.int p3), .val (.int p0), .val (.ref b295), .val (.ref b310), .unset, .unset] [(.int (0 : Int32)), (.ref b310)])) _
      refine XS.iloadN X310.here hx rfl (hb hby at_45) rfl ?_
      show Steps p.tables e below (T310.setTop (mkF m 46 #[.val (.int p0), .val (.int p1), .val (.int p2), .val (.int p3), .val (.int p0), .val (.ref b295), .val (.ref b310), .unset, .unset] [(.int p3), (.int (0 : Int32)), (.ref b310)])) _
      refine XS.sipush X310.here hx rfl (hb hby at_46) ?_
      show Steps p.tables e below (T310.setTop (mkF m 49 #[.val (.int p0), .val (.int p1), .val (.int p2), .val (.int p3), .val (.int p0), .val (.ref b295), .val (.ref b310), .unset, .unset] [(.int (255 : Int32)), (.int p3), (.int (0 : Int32)), (.ref b310)])) _
      refine XS.iand X310.here hx rfl (hb hby at_49) rfl ?_
      show Steps p.tables e below (T310.setTop (mkF m 50 #[.val (.int p0), .val (.int p1), .val (.int p2), .val (.int p3), .val (.int p0), .val (.ref b295), .val (.ref b310), .unset, .unset] [(.int (p3 &&& (255 : Int32))), (.int (0 : Int32)), (.ref b310)])) _
      refine XS.i2c X310.here hx rfl (hb hby at_50) rfl ?_
      show Steps p.tables e below (T310.setTop (mkF m 51 #[.val (.int p0), .val (.int p1), .val (.int p2), .val (.int p3), .val (.int p0), .val (.ref b295), .val (.ref b310), .unset, .unset] [(.int ((p3 &&& (255 : Int32)).toUInt32.toUInt16.toUInt32.toInt32)), (.int (0 : Int32)), (.ref b310)])) _
      exact st317 _ k)
    have N320 := Fr.snoc X317 N305 g_b310
    have Z321 : n0 ≤ h317.size := Nat.le_trans Z312 (Keep.of_wr W317).1
    have K322 : Keep h0 h317 [] := K313.wr W317 (Or.inr sz_b310)
    have O323 : Old Z n0 h317 := O314.wr W317 g_b310
    have hk324 : h0.size ≤ h317.size := Nat.le_trans hk315 (Keep.of_wr W317).1
    have P325 : ∀ t, Steps p.tables e below (T317.setTop (mkF m 56 #[.val (.int p0), .val (.int p1), .val (.int p2), .val (.int p3), .val (.int p0), .val (.ref b295), .val (.ref b310), .unset, .unset] [(.int (p1 &&& (32 : Int32)))])) t → Steps p.tables e below (s₁.setTop (mkF m 0 #[.val (.int p0), .val (.int p1), .val (.int p2), .val (.int p3), .unset, .unset, .unset, .unset, .unset] [])) t := fun t k => P319 t (by
      show Steps p.tables e below (T317.setTop (mkF m 52 #[.val (.int p0), .val (.int p1), .val (.int p2), .val (.int p3), .val (.int p0), .val (.ref b295), .val (.ref b310), .unset, .unset] [])) _
      refine XS.iloadN X317.here hx rfl (hb hby at_52) rfl ?_
      show Steps p.tables e below (T317.setTop (mkF m 53 #[.val (.int p0), .val (.int p1), .val (.int p2), .val (.int p3), .val (.int p0), .val (.ref b295), .val (.ref b310), .unset, .unset] [(.int p1)])) _
      refine XS.bipush X317.here hx rfl (hb hby at_53) ?_
      show Steps p.tables e below (T317.setTop (mkF m 55 #[.val (.int p0), .val (.int p1), .val (.int p2), .val (.int p3), .val (.int p0), .val (.ref b295), .val (.ref b310), .unset, .unset] [(.int (32 : Int32)), (.int p1)])) _
      refine XS.iand X317.here hx rfl (hb hby at_55) rfl ?_
      show Steps p.tables e below (T317.setTop (mkF m 56 #[.val (.int p0), .val (.int p1), .val (.int p2), .val (.int p3), .val (.int p0), .val (.ref b295), .val (.ref b310), .unset, .unset] [(.int (p1 &&& (32 : Int32)))])) _
      exact k)
    obtain ⟨b327, hb327⟩ : ∃ z : Int32, z = (if (p1 &&& (32 : Int32)) = (0 : Int32) then (0 : Int32) else (1 : Int32)) := ⟨_, rfl⟩
    have P328 : ∀ t, Steps p.tables e below (T317.setTop (mkF m 64 #[.val (.int p0), .val (.int p1), .val (.int p2), .val (.int p3), .val (.int p0), .val (.ref b295), .val (.ref b310), .unset, .unset] [(.int b327)])) t → Steps p.tables e below (s₁.setTop (mkF m 0 #[.val (.int p0), .val (.int p1), .val (.int p2), .val (.int p3), .unset, .unset, .unset, .unset, .unset] [])) t := fun t k => P325 t (by
      show Steps p.tables e below (T317.setTop (mkF m 56 #[.val (.int p0), .val (.int p1), .val (.int p2), .val (.int p3), .val (.int p0), .val (.ref b295), .val (.ref b310), .unset, .unset] [(.int (p1 &&& (32 : Int32)))])) _
      by_cases q326 : (p1 &&& (32 : Int32)) = (0 : Int32)
      · skip
        refine XS.ifYes X317.here hx rfl (pc0 := 56) (pc' := 63) rfl (hb hby at_56) rfl ((if0 _ _).trans (teq (show (p1 &&& (32 : Int32)) = (0 : Int32) from q326)).1) (by decide) (by decide) ?_
        show Steps p.tables e below (T317.setTop (mkF m 63 #[.val (.int p0), .val (.int p1), .val (.int p2), .val (.int p3), .val (.int p0), .val (.ref b295), .val (.ref b310), .unset, .unset] [])) _
        refine XS.iconst X317.here hx rfl (hb hby at_63) ?_
        show Steps p.tables e below (T317.setTop (mkF m 64 #[.val (.int p0), .val (.int p1), .val (.int p2), .val (.int p3), .val (.int p0), .val (.ref b295), .val (.ref b310), .unset, .unset] [(.int (0 : Int32))])) _
        have eb327 : b327 = (0 : Int32) := by rw [hb327, if_pos q326]
        rw [eb327] at k
        exact k
      · skip
        refine XS.ifNo X317.here hx rfl (hb hby at_56) rfl ((if0 _ _).trans (feq (show ¬ ((p1 &&& (32 : Int32)) = (0 : Int32)) from q326)).1) ?_
        show Steps p.tables e below (T317.setTop (mkF m 59 #[.val (.int p0), .val (.int p1), .val (.int p2), .val (.int p3), .val (.int p0), .val (.ref b295), .val (.ref b310), .unset, .unset] [])) _
        refine XS.iconst X317.here hx rfl (hb hby at_59) ?_
        show Steps p.tables e below (T317.setTop (mkF m 60 #[.val (.int p0), .val (.int p1), .val (.int p2), .val (.int p3), .val (.int p0), .val (.ref b295), .val (.ref b310), .unset, .unset] [(.int (1 : Int32))])) _
        refine XS.goto X317.here hx rfl (pc0 := 60) (pc' := 64) rfl (hb hby at_60) (by decide) (by decide) ?_
        show Steps p.tables e below (T317.setTop (mkF m 64 #[.val (.int p0), .val (.int p1), .val (.int p2), .val (.int p3), .val (.int p0), .val (.ref b295), .val (.ref b310), .unset, .unset] [(.int (1 : Int32))])) _
        have eb327 : b327 = (1 : Int32) := by rw [hb327, if_neg q326]
        rw [eb327] at k
        exact k)
    obtain ⟨T329, h329, X329, e329, E329, A329, D329, -, st329⟩ := newO X317 hx hZ hown (hw _ (List.mem_of_getElem? (i := 6) rfl)) (hw _ (List.mem_of_getElem? (i := 7) rfl)) (hw _ (List.mem_of_getElem? (i := 8) rfl)) e317 (g := (mkF m 66 #[.val (.int p0), .val (.int p1), .val (.int p2), .val (.int p3), .val (.int p0), .val (.ref b295), .val (.ref b310), .val (.int b327), .unset] [])) rfl (hb hby at_66) (by decide) (by decide)
    obtain ⟨b329, g329⟩ : ∃ z, z = h317.size := ⟨_, rfl⟩
    rw [← g329] at A329 D329 st329
    have g_b329 : n0 ≤ b329 := Nat.le_trans Z321 (Nat.le_of_eq g329.symm)
    have sz_b329 : h0.size ≤ b329 := Nat.le_trans K322.1 (Nat.le_of_eq g329.symm)
    have P330 : ∀ t, Steps p.tables e below (T329.setTop (mkF m 69 #[.val (.int p0), .val (.int p1), .val (.int p2), .val (.int p3), .val (.int p0), .val (.ref b295), .val (.ref b310), .val (.int b327), .unset] [(.ref b329)])) t → Steps p.tables e below (s₁.setTop (mkF m 0 #[.val (.int p0), .val (.int p1), .val (.int p2), .val (.int p3), .unset, .unset, .unset, .unset, .unset] [])) t := fun t k => P328 t (by
      show Steps p.tables e below (T317.setTop (mkF m 64 #[.val (.int p0), .val (.int p1), .val (.int p2), .val (.int p3), .val (.int p0), .val (.ref b295), .val (.ref b310), .unset, .unset] [(.int b327)])) _
      refine XS.istore X317.here hx rfl (hb hby at_64) rfl (l' := #[.val (.int p0), .val (.int p1), .val (.int p2), .val (.int p3), .val (.int p0), .val (.ref b295), .val (.ref b310), .val (.int b327), .unset]) rfl ?_
      show Steps p.tables e below (T317.setTop (mkF m 66 #[.val (.int p0), .val (.int p1), .val (.int p2), .val (.int p3), .val (.int p0), .val (.ref b295), .val (.ref b310), .val (.int b327), .unset] [])) _
      exact st329 _ k)
    have Z331 : n0 ≤ h329.size := Nat.le_trans Z321 E329.1
    have K332 : Keep h0 h329 [] := K322.ext E329
    have O333 : Old Z n0 h329 := O323.ext E329
    have hk334 : h0.size ≤ h329.size := Nat.le_trans hk324 E329.1
    have f335 : Fld Z h329 b329 "com/example/clausewright/clausewright/model/Column" "name" "Ljava/lang/String;" .null := D329 (Or.inr (hw _ (List.mem_of_getElem? (i := 56) rfl))) (ty := (.object "java/lang/String")) (by decide)
    have f336 : Fld Z h329 b329 "com/example/clausewright/clausewright/model/Column" "jdbcType" "I" (.int (0 : Int32)) := D329 (Or.inr (hw _ (List.mem_of_getElem? (i := 58) rfl))) (ty := .int) (by decide)
    have f337 : Fld Z h329 b329 "com/example/clausewright/clausewright/model/Column" "typeName" "Ljava/lang/String;" .null := D329 (Or.inr (hw _ (List.mem_of_getElem? (i := 60) rfl))) (ty := (.object "java/lang/String")) (by decide)
    have f338 : Fld Z h329 b329 "com/example/clausewright/clausewright/model/Column" "nullable" "Z" (.int (0 : Int32)) := D329 (Or.inr (hw _ (List.mem_of_getElem? (i := 62) rfl))) (ty := .boolean) (by decide)
    obtain ⟨T339, h339, X339, e339, E339, A339, D339, -, st339⟩ := newO X329 hx hZ hown (hw _ (List.mem_of_getElem? (i := 9) rfl)) (hw _ (List.mem_of_getElem? (i := 10) rfl)) (hw _ (List.mem_of_getElem? (i := 11) rfl)) e329 (g := (mkF m 70 #[.val (.int p0), .val (.int p1), .val (.int p2), .val (.int p3), .val (.int p0), .val (.ref b295), .val (.ref b310), .val (.int b327), .unset] [(.ref b329), (.ref b329)])) rfl (hb hby at_70) (by decide) (by decide)
    obtain ⟨b339, g339⟩ : ∃ z, z = h329.size := ⟨_, rfl⟩
    rw [← g339] at A339 D339 st339
    have g_b339 : n0 ≤ b339 := Nat.le_trans Z331 (Nat.le_of_eq g339.symm)
    have sz_b339 : h0.size ≤ b339 := Nat.le_trans K332.1 (Nat.le_of_eq g339.symm)
    have P340 : ∀ t, Steps p.tables e below (T339.setTop (mkF m 73 #[.val (.int p0), .val (.int p1), .val (.int p2), .val (.int p3), .val (.int p0), .val (.ref b295), .val (.ref b310), .val (.int b327), .unset] [(.ref b339), (.ref b329), (.ref b329)])) t → Steps p.tables e below (s₁.setTop (mkF m 0 #[.val (.int p0), .val (.int p1), .val (.int p2), .val (.int p3), .unset, .unset, .unset, .unset, .unset] [])) t := fun t k => P330 t (by
      show Steps p.tables e below (T329.setTop (mkF m 69 #[.val (.int p0), .val (.int p1), .val (.int p2), .val (.int p3), .val (.int p0), .val (.ref b295), .val (.ref b310), .val (.int b327), .unset] [(.ref b329)])) _
      refine XS.dup X329.here hx rfl (hb hby at_69) rfl rfl ?_
      show Steps p.tables e below (T329.setTop (mkF m 70 #[.val (.int p0), .val (.int p1), .val (.int p2), .val (.int p3), .val (.int p0), .val (.ref b295), .val (.ref b310), .val (.int b327), .unset] [(.ref b329), (.ref b329)])) _
      exact st339 _ k)
    have Z341 : n0 ≤ h339.size := Nat.le_trans Z331 E339.1
    have K342 : Keep h0 h339 [] := K332.ext E339
    have O343 : Old Z n0 h339 := O333.ext E339
    have hk344 : h0.size ≤ h339.size := Nat.le_trans hk334 E339.1
    have f345 : Fld Z h339 b339 "java/lang/String" "coder" "B" (.int (0 : Int32)) := D339 (Or.inr (hw _ (List.mem_of_getElem? (i := 35) rfl))) (ty := .byte) (by decide)
    have f346 : Fld Z h339 b339 "java/lang/String" "value" "[B" .null := D339 (Or.inr (hw _ (List.mem_of_getElem? (i := 37) rfl))) (ty := (.array .byte)) (by decide)
    have hp347 : ∀ c ∈ ([(nar .char ((p2 &&& (255 : Int32)).toUInt32.toUInt16.toUInt32.toInt32))] : List Int32), ¬ c < 0 ∧ ¬ (255 : Int32) < c := by
      intro c hc
      simp only [List.mem_cons, List.not_mem_nil, or_false] at hc
      subst hc
      exact and255_chars _
    have hwsb339 : ∀ d ∈ StrChars.Road.words, d.before a0 Z = true := fun d hd => hw d (own_strwords d hd)
    have f348 : Arv Z h339 b295 k295 .char (1 : Int32) [(.int (nar .char ((p2 &&& (255 : Int32)).toUInt32.toUInt16.toUInt32.toInt32)))] (.int (0 : Int32)) := ((((v303.ext E310).other W317 (Nat.ne_of_lt (Nat.lt_of_lt_of_le v303.lt (Nat.le_of_eq g310.symm)))).ext E329).ext E339)
    obtain ⟨_, _, ⟨T349, L349, k349, n349⟩, -, X349, ⟨Lc349, hQ349, l349, y349, z349⟩, st349⟩ := X339.specialBack hx (y := (⟨"java/lang/String", "<init>", "([C)V"⟩ : MethodName)) rfl hown (mvT hZ (hw _ (List.mem_of_getElem? (i := 12) rfl))) (mvT hZ (hw _ (List.mem_of_getElem? (i := 13) rfl))) (mvT hZ (hw _ (List.mem_of_getElem? (i := 14) rfl))) (by decide) (StrChars.Road.backV (W := 3) hZ hwsb339 (kI := 4) (hw _ (List.mem_of_getElem? (i := 10) rfl)) (cs := ([(nar .char ((p2 &&& (255 : Int32)).toUInt32.toUInt16.toUInt32.toInt32))] : List Int32)) (bs := (([(nar .char ((p2 &&& (255 : Int32)).toUInt32.toUInt16.toUInt32.toInt32))] : List Int32)).map (fun c => c.toInt8.toInt32)) (n := 1) g_b339 Z341 A339 f346 f345 f348 (Sg.ext O343.2) P5 rfl rfl (by decide) (by decide) hp347 rfl (by decide) (by decide)) (g := (mkF m 76 #[.val (.int p0), .val (.int p1), .val (.int p2), .val (.int p3), .val (.int p0), .val (.ref b295), .val (.ref b310), .val (.int b327), .unset] [(.ref b295), (.ref b339), (.ref b339), (.ref b329), (.ref b329)])) rfl (by rw [hml]; rfl) (Steps.refl _) (a := b339) (argsL := [(.ref b295)]) (rest := [(.ref b339), (.ref b329), (.ref b329)]) (lenOf pd__28_5bC_29V rfl) rfl (by show 2 * 0 + _ ≤ _; exact Nat.le_of_eq rfl) (hb hby at_76) (fun _ _ => ⟨rfl, e339, (Nat.le_of_ble_eq_true rfl : 4 + 1 ≤ _), (Nat.le_of_ble_eq_true rfl : 10 + 1 ≤ _)⟩)
    dsimp only [Pt.U, Pt.locs, Pt.cells, Pt.slots] at X349 l349 y349 z349 st349 hQ349
    subst l349 y349 z349
    obtain ⟨rfl, Nq349, Kk349, Ek349, Fc349, t349, kb349, u349, vt349, wt349, Fv349, Av349⟩ := hQ349
    have N350 := Fr.app N320 Nq349
    have P351 : ∀ t, Steps p.tables e below (T349.setTop (mkF m 79 #[.val (.int p0), .val (.int p1), .val (.int p2), .val (.int p3), .val (.int p0), .val (.ref b295), .val (.ref b310), .val (.int b327), .unset] [(.ref b339), (.ref b329), (.ref b329)])) t → Steps p.tables e below (s₁.setTop (mkF m 0 #[.val (.int p0), .val (.int p1), .val (.int p2), .val (.int p3), .unset, .unset, .unset, .unset, .unset] [])) t := fun t k => P340 t (by
      show Steps p.tables e below (T339.setTop (mkF m 73 #[.val (.int p0), .val (.int p1), .val (.int p2), .val (.int p3), .val (.int p0), .val (.ref b295), .val (.ref b310), .val (.int b327), .unset] [(.ref b339), (.ref b329), (.ref b329)])) _
      refine XS.dup X339.here hx rfl (hb hby at_73) rfl rfl ?_
      show Steps p.tables e below (T339.setTop (mkF m 74 #[.val (.int p0), .val (.int p1), .val (.int p2), .val (.int p3), .val (.int p0), .val (.ref b295), .val (.ref b310), .val (.int b327), .unset] [(.ref b339), (.ref b339), (.ref b329), (.ref b329)])) _
      refine XS.aload X339.here hx rfl (hb hby at_74) rfl rfl ?_
      show Steps p.tables e below (T339.setTop (mkF m 76 #[.val (.int p0), .val (.int p1), .val (.int p2), .val (.int p3), .val (.int p0), .val (.ref b295), .val (.ref b310), .val (.int b327), .unset] [(.ref b295), (.ref b339), (.ref b339), (.ref b329), (.ref b329)])) _
      exact st349.trans k)
    have Z352 : n0 ≤ T349.heap.size := Nat.le_trans Z341 Kk349.1
    have K353 : Keep h0 T349.heap [] := K342.trans Kk349 ((allS (Or.inr sz_b339) all0))
    have O354 : Old Z n0 T349.heap := O343.keep Kk349 (allS g_b339 all0)
    have hk355 : h0.size ≤ T349.heap.size := Nat.le_trans hk344 Kk349.1
    have g_t349 : n0 ≤ t349 := Nat.le_trans Z341 vt349
    have sz_t349 : h0.size ≤ t349 := Nat.le_trans K342.1 vt349
    obtain ⟨T356, h356, X356, e356, E356, A356, D356, -, st356⟩ := newO X349 hx hZ hown (hw _ (List.mem_of_getElem? (i := 9) rfl)) (hw _ (List.mem_of_getElem? (i := 10) rfl)) (hw _ (List.mem_of_getElem? (i := 11) rfl)) rfl (g := (mkF m 81 #[.val (.int p0), .val (.int p1), .val (.int p2), .val (.int p3), .val (.int p0), .val (.ref b295), .val (.ref b310), .val (.int b327), .unset] [(.int p0), (.ref b339), (.ref b329), (.ref b329)])) rfl (hb hby at_81) (by decide) (by decide)
    obtain ⟨b356, g356⟩ : ∃ z, z = T349.heap.size := ⟨_, rfl⟩
    rw [← g356] at A356 D356 st356
    have g_b356 : n0 ≤ b356 := Nat.le_trans Z352 (Nat.le_of_eq g356.symm)
    have sz_b356 : h0.size ≤ b356 := Nat.le_trans K353.1 (Nat.le_of_eq g356.symm)
    have P357 : ∀ t, Steps p.tables e below (T356.setTop (mkF m 84 #[.val (.int p0), .val (.int p1), .val (.int p2), .val (.int p3), .val (.int p0), .val (.ref b295), .val (.ref b310), .val (.int b327), .unset] [(.ref b356), (.int p0), (.ref b339), (.ref b329), (.ref b329)])) t → Steps p.tables e below (s₁.setTop (mkF m 0 #[.val (.int p0), .val (.int p1), .val (.int p2), .val (.int p3), .unset, .unset, .unset, .unset, .unset] [])) t := fun t k => P351 t (by
      show Steps p.tables e below (T349.setTop (mkF m 79 #[.val (.int p0), .val (.int p1), .val (.int p2), .val (.int p3), .val (.int p0), .val (.ref b295), .val (.ref b310), .val (.int b327), .unset] [(.ref b339), (.ref b329), (.ref b329)])) _
      refine XS.iload X349.here hx rfl (hb hby at_79) rfl ?_
      show Steps p.tables e below (T349.setTop (mkF m 81 #[.val (.int p0), .val (.int p1), .val (.int p2), .val (.int p3), .val (.int p0), .val (.ref b295), .val (.ref b310), .val (.int b327), .unset] [(.int p0), (.ref b339), (.ref b329), (.ref b329)])) _
      exact st356 _ k)
    have Z358 : n0 ≤ h356.size := Nat.le_trans Z352 E356.1
    have K359 : Keep h0 h356 [] := K353.ext E356
    have O360 : Old Z n0 h356 := O354.ext E356
    have hk361 : h0.size ≤ h356.size := Nat.le_trans hk355 E356.1
    have f362 : Fld Z h356 b356 "java/lang/String" "coder" "B" (.int (0 : Int32)) := D356 (Or.inr (hw _ (List.mem_of_getElem? (i := 35) rfl))) (ty := .byte) (by decide)
    have f363 : Fld Z h356 b356 "java/lang/String" "value" "[B" .null := D356 (Or.inr (hw _ (List.mem_of_getElem? (i := 37) rfl))) (ty := (.array .byte)) (by decide)
    have hp364 : ∀ c ∈ ([(nar .char ((p3 &&& (255 : Int32)).toUInt32.toUInt16.toUInt32.toInt32))] : List Int32), ¬ c < 0 ∧ ¬ (255 : Int32) < c := by
      intro c hc
      simp only [List.mem_cons, List.not_mem_nil, or_false] at hc
      subst hc
      exact and255_chars _
    have hwsb356 : ∀ d ∈ StrChars.Road.words, d.before a0 Z = true := fun d hd => hw d (own_strwords d hd)
    have f365 : Arv Z h356 b310 k310 .char (1 : Int32) [(.int (nar .char ((p3 &&& (255 : Int32)).toUInt32.toUInt16.toUInt32.toInt32)))] (.int (0 : Int32)) := ((((v318.ext E329).ext E339).keep Kk349 (ninS (Nat.ne_of_lt (Nat.lt_of_lt_of_le (v318.ext E329).lt (Nat.le_of_eq g339.symm))) nin0)).ext E356)
    obtain ⟨_, _, ⟨T366, L366, k366, n366⟩, -, X366, ⟨Lc366, hQ366, l366, y366, z366⟩, st366⟩ := X356.specialBack hx (y := (⟨"java/lang/String", "<init>", "([C)V"⟩ : MethodName)) rfl hown (mvT hZ (hw _ (List.mem_of_getElem? (i := 12) rfl))) (mvT hZ (hw _ (List.mem_of_getElem? (i := 13) rfl))) (mvT hZ (hw _ (List.mem_of_getElem? (i := 14) rfl))) (by decide) (StrChars.Road.backV (W := 5) hZ hwsb356 (kI := 4) (hw _ (List.mem_of_getElem? (i := 10) rfl)) (cs := ([(nar .char ((p3 &&& (255 : Int32)).toUInt32.toUInt16.toUInt32.toInt32))] : List Int32)) (bs := (([(nar .char ((p3 &&& (255 : Int32)).toUInt32.toUInt16.toUInt32.toInt32))] : List Int32)).map (fun c => c.toInt8.toInt32)) (n := 1) g_b356 Z358 A356 f363 f362 f365 (Sg.ext O360.2) P5 rfl rfl (by decide) (by decide) hp364 rfl (by decide) (by decide)) (g := (mkF m 87 #[.val (.int p0), .val (.int p1), .val (.int p2), .val (.int p3), .val (.int p0), .val (.ref b295), .val (.ref b310), .val (.int b327), .unset] [(.ref b310), (.ref b356), (.ref b356), (.int p0), (.ref b339), (.ref b329), (.ref b329)])) rfl (by rw [hml]; rfl) (Steps.refl _) (a := b356) (argsL := [(.ref b310)]) (rest := [(.ref b356), (.int p0), (.ref b339), (.ref b329), (.ref b329)]) (lenOf pd__28_5bC_29V rfl) rfl (by show 2 * 0 + _ ≤ _; exact Nat.le_of_eq rfl) (hb hby at_87) (fun _ _ => ⟨rfl, e356, (Nat.le_of_ble_eq_true rfl : 6 + 1 ≤ _), (Nat.le_of_ble_eq_true rfl : 15 + 1 ≤ _)⟩)
    dsimp only [Pt.U, Pt.locs, Pt.cells, Pt.slots] at X366 l366 y366 z366 st366 hQ366
    subst l366 y366 z366
    obtain ⟨rfl, Nq366, Kk366, Ek366, Fc366, t366, kb366, u366, vt366, wt366, Fv366, Av366⟩ := hQ366
    have N367 := Fr.app N350 Nq366
    have P368 : ∀ t, Steps p.tables e below (T366.setTop (mkF m 90 #[.val (.int p0), .val (.int p1), .val (.int p2), .val (.int p3), .val (.int p0), .val (.ref b295), .val (.ref b310), .val (.int b327), .unset] [(.ref b356), (.int p0), (.ref b339), (.ref b329), (.ref b329)])) t → Steps p.tables e below (s₁.setTop (mkF m 0 #[.val (.int p0), .val (.int p1), .val (.int p2), .val (.int p3), .unset, .unset, .unset, .unset, .unset] [])) t := fun t k => P357 t (by
      show Steps p.tables e below (T356.setTop (mkF m 84 #[.val (.int p0), .val (.int p1), .val (.int p2), .val (.int p3), .val (.int p0), .val (.ref b295), .val (.ref b310), .val (.int b327), .unset] [(.ref b356), (.int p0), (.ref b339), (.ref b329), (.ref b329)])) _
      refine XS.dup X356.here hx rfl (hb hby at_84) rfl rfl ?_
      show Steps p.tables e below (T356.setTop (mkF m 85 #[.val (.int p0), .val (.int p1), .val (.int p2), .val (.int p3), .val (.int p0), .val (.ref b295), .val (.ref b310), .val (.int b327), .unset] [(.ref b356), (.ref b356), (.int p0), (.ref b339), (.ref b329), (.ref b329)])) _
      refine XS.aload X356.here hx rfl (hb hby at_85) rfl rfl ?_
      show Steps p.tables e below (T356.setTop (mkF m 87 #[.val (.int p0), .val (.int p1), .val (.int p2), .val (.int p3), .val (.int p0), .val (.ref b295), .val (.ref b310), .val (.int b327), .unset] [(.ref b310), (.ref b356), (.ref b356), (.int p0), (.ref b339), (.ref b329), (.ref b329)])) _
      exact st366.trans k)
    have Z369 : n0 ≤ T366.heap.size := Nat.le_trans Z358 Kk366.1
    have K370 : Keep h0 T366.heap [] := K359.trans Kk366 ((allS (Or.inr sz_b356) all0))
    have O371 : Old Z n0 T366.heap := O360.keep Kk366 (allS g_b356 all0)
    have hk372 : h0.size ≤ T366.heap.size := Nat.le_trans hk361 Kk366.1
    have g_t366 : n0 ≤ t366 := Nat.le_trans Z358 vt366
    have sz_t366 : h0.size ≤ t366 := Nat.le_trans K359.1 vt366
    have f373 : Exa Z T366.heap b329 "com/example/clausewright/clausewright/model/Column" := ((((A329.ext E339).keep Kk349).ext E356).keep Kk366)
    have f374 : Fld Z T366.heap b329 "com/example/clausewright/clausewright/model/Column" "name" "Ljava/lang/String;" .null := ((((f335.ext E339).keep Kk349 (ninS (Nat.ne_of_lt (Nat.lt_of_lt_of_le f338.lt (Nat.le_of_eq g339.symm))) nin0)).ext E356).keep Kk366 (ninS (Nat.ne_of_lt (Nat.lt_of_lt_of_le ((f338.ext E339).keep Kk349 (ninS (Nat.ne_of_lt (Nat.lt_of_lt_of_le f338.lt (Nat.le_of_eq g339.symm))) nin0)).lt (Nat.le_of_eq g356.symm))) nin0))
    have f375 : Fld Z T366.heap b329 "com/example/clausewright/clausewright/model/Column" "jdbcType" "I" (.int (0 : Int32)) := ((((f336.ext E339).keep Kk349 (ninS (Nat.ne_of_lt (Nat.lt_of_lt_of_le f338.lt (Nat.le_of_eq g339.symm))) nin0)).ext E356).keep Kk366 (ninS (Nat.ne_of_lt (Nat.lt_of_lt_of_le ((f338.ext E339).keep Kk349 (ninS (Nat.ne_of_lt (Nat.lt_of_lt_of_le f338.lt (Nat.le_of_eq g339.symm))) nin0)).lt (Nat.le_of_eq g356.symm))) nin0))
    have f376 : Fld Z T366.heap b329 "com/example/clausewright/clausewright/model/Column" "typeName" "Ljava/lang/String;" .null := ((((f337.ext E339).keep Kk349 (ninS (Nat.ne_of_lt (Nat.lt_of_lt_of_le f338.lt (Nat.le_of_eq g339.symm))) nin0)).ext E356).keep Kk366 (ninS (Nat.ne_of_lt (Nat.lt_of_lt_of_le ((f338.ext E339).keep Kk349 (ninS (Nat.ne_of_lt (Nat.lt_of_lt_of_le f338.lt (Nat.le_of_eq g339.symm))) nin0)).lt (Nat.le_of_eq g356.symm))) nin0))
    have f377 : Fld Z T366.heap b329 "com/example/clausewright/clausewright/model/Column" "nullable" "Z" (.int (0 : Int32)) := ((((f338.ext E339).keep Kk349 (ninS (Nat.ne_of_lt (Nat.lt_of_lt_of_le f338.lt (Nat.le_of_eq g339.symm))) nin0)).ext E356).keep Kk366 (ninS (Nat.ne_of_lt (Nat.lt_of_lt_of_le ((f338.ext E339).keep Kk349 (ninS (Nat.ne_of_lt (Nat.lt_of_lt_of_le f338.lt (Nat.le_of_eq g339.symm))) nin0)).lt (Nat.le_of_eq g356.symm))) nin0))
    obtain ⟨_, _, ⟨T378, L378, k378, n378⟩, -, X378, hs378, hg378, ⟨Lc378, hQ378, l378, y378, z378⟩, st378⟩ := X366.specialBackS hx (y := (⟨"com/example/clausewright/clausewright/model/Column", "<init>", "(Ljava/lang/String;ILjava/lang/String;Z)V"⟩ : MethodName)) rfl hown (mvT hZ (hw _ (List.mem_of_getElem? (i := 38) rfl))) (mvT hZ (hw _ (List.mem_of_getElem? (i := 39) rfl))) (mvT hZ (hw _ (List.mem_of_getElem? (i := 40) rfl))) (by decide) (backOfS (W := 1) (rm_ctor l Z a0 hw [] b329 b339 p0 b356 b327 T366.heap n0 Z369 g_b329 f373 f374 f375 f376 f377) hZ (hw _ (List.mem_of_getElem? (i := 40) rfl)) (hw _ (List.mem_of_getElem? (i := 8) rfl)) (by decide) (by decide)) (g := (mkF m 92 #[.val (.int p0), .val (.int p1), .val (.int p2), .val (.int p3), .val (.int p0), .val (.ref b295), .val (.ref b310), .val (.int b327), .unset] [(.int b327), (.ref b356), (.int p0), (.ref b339), (.ref b329), (.ref b329)])) rfl (by rw [hml]; rfl) (Steps.refl _) (a := b329) (argsL := [(.ref b339), (.int p0), (.ref b356), (.int b327)]) (rest := [(.ref b329)]) (lenOf pd__28Ljava_2flang_2fString_3bILjava_2flang_2fString_3bZ_29V rfl) rfl (by show 2 * 0 + _ ≤ _; exact Nat.le_of_eq rfl) (hb hby at_92) (fun _ _ => ⟨rfl, rfl, (Nat.le_of_ble_eq_true rfl : 7 + 4 ≤ _), (Nat.le_of_ble_eq_true rfl : 16 + 56 ≤ _)⟩)
    dsimp only [Pt.U, Pt.locs, Pt.cells, Pt.slots] at X378 l378 y378 z378 st378 hQ378 hs378 hg378
    subst l378 y378 z378
    obtain ⟨rfl, Nq378, Kk378, Ek378, Fj378⟩ := hQ378
    obtain ⟨Xr378, hSr378, hZr378, ho378⟩ := rebS hS0 hk372 X378 hs378 hg378 hZ hown
    have N379 := Fr.app N367 Nq378
    have P380 : ∀ t, Steps p.tables e below (T378.setTop (mkF m 95 #[.val (.int p0), .val (.int p1), .val (.int p2), .val (.int p3), .val (.int p0), .val (.ref b295), .val (.ref b310), .val (.int b327), .unset] [(.ref b329)])) t → Steps p.tables e below (s₁.setTop (mkF m 0 #[.val (.int p0), .val (.int p1), .val (.int p2), .val (.int p3), .unset, .unset, .unset, .unset, .unset] [])) t := fun t k => P368 t (by
      show Steps p.tables e below (T366.setTop (mkF m 90 #[.val (.int p0), .val (.int p1), .val (.int p2), .val (.int p3), .val (.int p0), .val (.ref b295), .val (.ref b310), .val (.int b327), .unset] [(.ref b356), (.int p0), (.ref b339), (.ref b329), (.ref b329)])) _
      refine XS.iload X366.here hx rfl (hb hby at_90) rfl ?_
      show Steps p.tables e below (T366.setTop (mkF m 92 #[.val (.int p0), .val (.int p1), .val (.int p2), .val (.int p3), .val (.int p0), .val (.ref b295), .val (.ref b310), .val (.int b327), .unset] [(.int b327), (.ref b356), (.int p0), (.ref b339), (.ref b329), (.ref b329)])) _
      exact st378.trans k)
    have Z381 : n0 ≤ T378.heap.size := Nat.le_trans Z369 Kk378.1
    have K382 : Keep h0 T378.heap [] := K370.trans Kk378 ((allS (Or.inr sz_b329) all0))
    have O383 : Old Z n0 T378.heap := O371.keep Kk378 (allS g_b329 all0)
    obtain ⟨cq384, kq384, q384a, q384b, q384c⟩ := isOf hZr378 rfl Ek378
    obtain ⟨_, _, ⟨T384, L384, k384, n384⟩, -, X384, ⟨Lc384, hQ384, l384, y384, z384⟩, st384⟩ := Xr378.virtualBack hx (y := (⟨"com/example/clausewright/clausewright/model/Column", "isText", "()Z"⟩ : MethodName)) (z := (⟨"com/example/clausewright/clausewright/model/Column", "isText", "()Z"⟩ : MethodName)) ho378 (mvT hZr378 (hw _ (List.mem_of_getElem? (i := 63) rfl))) (mvT hZr378 (hw _ (List.mem_of_getElem? (i := 64) rfl))) (notFace_of_selects (args := #[]) (mvT hZr378 (hw _ (List.mem_of_getElem? (i := 66) rfl)))) (mvT hZr378 (hw _ (List.mem_of_getElem? (i := 66) rfl))) (mvT hZr378 (hw _ (List.mem_of_getElem? (i := 65) rfl))) (by decide) (backOf (W := 0) (rm_ask l Z a0 hw [] b329 p0 T378.heap n0 Z381 Fj378) hZr378 (hw _ (List.mem_of_getElem? (i := 67) rfl)) (hw _ (List.mem_of_getElem? (i := 8) rfl)) (by decide) (by decide)) q384a q384c (g := (mkF m 99 #[.val (.int p0), .val (.int p1), .val (.int p2), .val (.int p3), .val (.int p0), .val (.ref b295), .val (.ref b310), .val (.int b327), .val (.ref b329)] [(.ref b329)])) rfl (by rw [hml]; rfl) (Steps.refl _) (argsL := []) (rest := []) (lenOf pd__28_29Z rfl) rfl (by show 2 * 0 + _ ≤ _; exact Nat.le_of_eq rfl) (hb hby at_99) (fun _ _ => ⟨rfl, rfl, (Nat.le_of_ble_eq_true rfl : 11 + 0 ≤ _), (Nat.le_of_ble_eq_true rfl : 72 + 0 ≤ _)⟩)
    dsimp only [Pt.U, Pt.locs, Pt.cells, Pt.slots] at X384 l384 y384 z384 st384 hQ384
    subst l384 y384 z384
    obtain ⟨rfl, Nq384, e384⟩ := hQ384
    have N385 := Fr.app N379 Nq384
    have P386 : ∀ t, Steps p.tables e below (T384.setTop (mkF m 102 #[.val (.int p0), .val (.int p1), .val (.int p2), .val (.int p3), .val (.int p0), .val (.ref b295), .val (.ref b310), .val (.int b327), .val (.ref b329)] [(.int (own_ask p0))])) t → Steps p.tables e below (s₁.setTop (mkF m 0 #[.val (.int p0), .val (.int p1), .val (.int p2), .val (.int p3), .unset, .unset, .unset, .unset, .unset] [])) t := fun t k => P380 t (by
      show Steps p.tables e below (T378.setTop (mkF m 95 #[.val (.int p0), .val (.int p1), .val (.int p2), .val (.int p3), .val (.int p0), .val (.ref b295), .val (.ref b310), .val (.int b327), .unset] [(.ref b329)])) _
      refine XS.astore Xr378.here hx rfl (hb hby at_95) rfl rfl (l' := #[.val (.int p0), .val (.int p1), .val (.int p2), .val (.int p3), .val (.int p0), .val (.ref b295), .val (.ref b310), .val (.int b327), .val (.ref b329)]) rfl ?_
      show Steps p.tables e below (T378.setTop (mkF m 97 #[.val (.int p0), .val (.int p1), .val (.int p2), .val (.int p3), .val (.int p0), .val (.ref b295), .val (.ref b310), .val (.int b327), .val (.ref b329)] [])) _
      refine XS.aload Xr378.here hx rfl (hb hby at_97) rfl rfl ?_
      show Steps p.tables e below (T378.setTop (mkF m 99 #[.val (.int p0), .val (.int p1), .val (.int p2), .val (.int p3), .val (.int p0), .val (.ref b295), .val (.ref b310), .val (.int b327), .val (.ref b329)] [(.ref b329)])) _
      exact st384.trans k)
    obtain ⟨_, _, ⟨T387, L387, k387, n387⟩, -, X387, ⟨Lc387, hQ387, l387, y387, z387⟩, st387⟩ := Jvm.LawKit.callS X384 hx (y := (⟨"com/example/clausewright/clausewright/model/ColumnIsTextPinLaw", "expected", "(I)Z"⟩ : MethodName)) ho378 (mvT hZr378 (hw _ (List.mem_of_getElem? (i := 68) rfl))) (mvT hZr378 (hw _ (List.mem_of_getElem? (i := 69) rfl))) (mvT hZr378 (hw _ (List.mem_of_getElem? (i := 2) rfl))) (mvT hZr378 (hw _ (List.mem_of_getElem? (i := 70) rfl))) (by decide) (backOf (W := 1) (rm_expect l Z a0 hw [] p0 T378.heap n0 Z381 ) hZr378 (hw _ (List.mem_of_getElem? (i := 70) rfl)) (hw _ (List.mem_of_getElem? (i := 2) rfl)) (by decide) (by decide)) (g := (mkF m 104 #[.val (.int p0), .val (.int p1), .val (.int p2), .val (.int p3), .val (.int p0), .val (.ref b295), .val (.ref b310), .val (.int b327), .val (.ref b329)] [(.int p0), (.int (own_ask p0))])) rfl (by rw [hml]; rfl) (argsL := [(.int p0)]) (rest := [(.int (own_ask p0))]) (lenOf pd__28I_29Z rfl) rfl (by show 2 * 0 + _ ≤ _; exact Nat.le_of_eq rfl) (hb hby at_104) (fun _ _ => ⟨rfl, e384, (Nat.le_of_ble_eq_true rfl : 11 + 0 ≤ _), (Nat.le_of_ble_eq_true rfl : 72 + 0 ≤ _)⟩)
    dsimp only [Pt.U, Pt.locs, Pt.cells, Pt.slots] at X387 l387 y387 z387 st387 hQ387
    subst l387 y387 z387
    obtain ⟨rfl, Nq387, e387⟩ := hQ387
    have N388 := Fr.app N385 Nq387
    have P389 : ∀ t, Steps p.tables e below (T387.setTop (mkF m 107 #[.val (.int p0), .val (.int p1), .val (.int p2), .val (.int p3), .val (.int p0), .val (.ref b295), .val (.ref b310), .val (.int b327), .val (.ref b329)] [(.int (own_ask p0)), (.int (own_ask p0))])) t → Steps p.tables e below (s₁.setTop (mkF m 0 #[.val (.int p0), .val (.int p1), .val (.int p2), .val (.int p3), .unset, .unset, .unset, .unset, .unset] [])) t := fun t k => P386 t (by
      show Steps p.tables e below (T384.setTop (mkF m 102 #[.val (.int p0), .val (.int p1), .val (.int p2), .val (.int p3), .val (.int p0), .val (.ref b295), .val (.ref b310), .val (.int b327), .val (.ref b329)] [(.int (own_ask p0))])) _
      refine XS.iload X384.here hx rfl (hb hby at_102) rfl ?_
      show Steps p.tables e below (T384.setTop (mkF m 104 #[.val (.int p0), .val (.int p1), .val (.int p2), .val (.int p3), .val (.int p0), .val (.ref b295), .val (.ref b310), .val (.int b327), .val (.ref b329)] [(.int p0), (.int (own_ask p0))])) _
      exact st387 _ k)
    obtain ⟨fs390, hr390, hrun390, hended390, hRW390⟩ := X387.leaveW (v := some (.int (1 : Int32))) hSr378 (by rw [e387]; exact (Nat.le_refl _)) (fun h => by rw [Bd.returns] at h; cases h)
    refine ⟨_, _, pre0 _ (P389 _ ?_), hrun390, hended390, _, _, rfl, ?_, ⟨hRW390.1, hRW390.2.1, hRW390.2.2.1, hRW390.2.2.2.mono (Nat.le_of_ble_eq_true rfl) (Nat.le_of_ble_eq_true rfl)⟩⟩
    · show Steps p.tables e below (T387.setTop (mkF m 107 #[.val (.int p0), .val (.int p1), .val (.int p2), .val (.int p3), .val (.int p0), .val (.ref b295), .val (.ref b310), .val (.int b327), .val (.ref b329)] [(.int (own_ask p0)), (.int (own_ask p0))])) _
      refine XS.icmpNo X387.here hx rfl (hb hby at_107) rfl (teq (show (own_ask p0) = (own_ask p0) from (rfl : (own_ask p0) = (own_ask p0)))).2 ?_
      show Steps p.tables e below (T387.setTop (mkF m 110 #[.val (.int p0), .val (.int p1), .val (.int p2), .val (.int p3), .val (.int p0), .val (.ref b295), .val (.ref b310), .val (.int b327), .val (.ref b329)] [])) _
      refine XS.iconst X387.here hx rfl (hb hby at_110) ?_
      show Steps p.tables e below (T387.setTop (mkF m 111 #[.val (.int p0), .val (.int p1), .val (.int p2), .val (.int p3), .val (.int p0), .val (.ref b295), .val (.ref b310), .val (.int b327), .val (.ref b329)] [(.int (1 : Int32))])) _
      refine XS.goto X387.here hx rfl (pc0 := 111) (pc' := 115) rfl (hb hby at_111) (by decide) (by decide) ?_
      show Steps p.tables e below (T387.setTop (mkF m 115 #[.val (.int p0), .val (.int p1), .val (.int p2), .val (.int p3), .val (.int p0), .val (.ref b295), .val (.ref b310), .val (.int b327), .val (.ref b329)] [(.int (1 : Int32))])) _
      exact retN X387 hx (t := .boolean) Bd.returns (by simp) (hb hby at_115) hr390
    · show Q_law  h0 n0 _ T387.heap _
      rw [e387]
      exact ⟨rfl, N388⟩

set_option maxRecDepth 65536 in
set_option maxHeartbeats 40000000 in
theorem comes_1 {Post : Tables → Env → Array Value → State → Outcome → State → Prop} (hpost : ∀ tb e args s v u, (limb_1_1.after args s (.returned v) u = true ∧ limb_1_2.after args s (.returned v) u = true ∧ True) → ReturnedEndW s (.returned v) u (Jvm.fieldLocs frame_1_writes args s ++ Jvm.arrayLocs frame_1_arrays args s ++ Jvm.staticLocs frame_1_statics s) 32 2240 → Post tb e args s (.returned v) u) :
    ArmFor flags0 classFile x code maxLocals ret World_1 tables_1 room_1 Calls_1 rest_1 Pre_1 Post := by
  intro l hfl _ _ p e ha hc hk s m args below hf hA hF happ hP
  obtain ⟨hcalls, hrest, hpre⟩ := hP
  obtain ⟨-, -, -, hnamed, -, -, -, hat⟩ := (Spec.applies_iff hf).mp happ
  obtain ⟨hg, hn⟩ := and_e (Cond.before_iff.mp (show (Jvm.Cond.and given_1 narrow_1).before args s = true from hpre))
  obtain ⟨hcnt, hg0⟩ := and_e hg
  obtain ⟨ga0, hg1⟩ := and_e hg0
  obtain ⟨ga1, hg2⟩ := and_e hg1
  obtain ⟨ga2, hg3⟩ := and_e hg2
  obtain ⟨w0, w1, w2, w3, rfl⟩ : ∃ w0 w1 w2 w3 : Value, args = #[w0, w1, w2, w3] := by
    have hs : args.size = 4 := by simpa [Cond.value, given_1] using hcnt
    obtain ⟨L⟩ := args
    match L, hs with
    | [w0, w1, w2, w3], _ => exact ⟨w0, w1, w2, w3, rfl⟩
  have hw := fun d (hd : d ∈ tables_1) => atoms_spec (ws := Jvm.Cond.code x code maxLocals ret :: tables_1) hat d (List.mem_cons_of_mem _ hd)
  have hfit : Fit s := fun {y c} hc i hi => by
    obtain ⟨ha, rfl⟩ := Array.getElem?_eq_some_iff.mp hc
    have q := List.all_eq_true.mp ((Array.all_eq_true_iff_forall_mem.mp hF) _ (Array.getElem_mem ha)) i (List.mem_range.mpr hi)
    simpa [Array.getElem?_eq_getElem hi] using q
  obtain ⟨i0, ei0⟩ := is_v ga0
  obtain rfl : w0 = (.int i0) := Option.some.inj ei0
  obtain ⟨i1, ei1⟩ := is_v ga1
  obtain rfl : w1 = (.int i1) := Option.some.inj ei1
  obtain ⟨i2, ei2⟩ := is_v ga2
  obtain rfl : w2 = (.int i2) := Option.some.inj ei2
  obtain ⟨i3, ei3⟩ := is_v hg3
  obtain rfl : w3 = (.int i3) := Option.some.inj ei3
  obtain ⟨hsets, hown0⟩ := atoms_of _ (rest_1_c_eq ▸ (show rest_1_c.before _ s = true from hrest))
  obtain ⟨G1, eG1⟩ := is_v (Cond.before_iff.mp (hsets _ (List.mem_of_getElem? (i := 1) rfl)))
  have Sg : Sta s s.heap "java/lang/String" "COMPACT_STRINGS" "Z" (.int G1) := Sta.start eG1 (Or.inl (hsets _ (List.mem_of_getElem? (i := 0) rfl)))
  have P5 : ¬ (G1 = (0 : Int32)) := gotF (Cond.eq_ints eG1 (Term.int_eval (0))) (not_v (Cond.before_iff.mp (hsets _ (List.mem_of_getElem? (i := 2) rfl))))
  obtain ⟨n, o, h1, h2, h3, _, L, rfl, ⟨rfl, N⟩, hq⟩ := rm_law l s _ hw tables_1 i0 i1 i2 i3 G1  s.heap s.heap.size (Nat.le_refl _) Sg P5 (Old.start s)  p e ha hc hk s m _ below hf ((Spec.applies_iff_loose hf).mp happ).1 ⟨rfl, State.Warmed39.refl s, rfl⟩ trivial
  refine ⟨n, _, h1, h2, h3, hpost _ _ _ _ _ _ ⟨Cond.after_iff.mpr rfl, Cond.after_iff.mpr (eq_i res_at (Term.int_eval (1)) rfl), trivial⟩ ⟨hq.1, hq.2.1, hq.2.2.1, (hq.2.2.2.sift fun y hy => Or.inr (N y hy)).mono (Nat.le_of_ble_eq_true rfl) (Nat.le_of_ble_eq_true rfl)⟩⟩
theorem main_1_1 : Claimed_1_1 := comes_1 fun _ _ _ _ _ _ h hF => ⟨h.1, hF⟩
theorem main_1_2 : Claimed_1_2 := comes_1 fun _ _ _ _ _ _ h hF => ⟨h.2.1, hF⟩

end Jvm.Pilot.@@N@@
namespace Jvm.Pilot.@@N@@
open Jvm Jvm.ClassFile Sem Op Lib Jvm.Free Jvm.Stand Jvm.Pilot.@@N@@.Jvm.D
/-! MADE BY PROGRAM (witnessworld.py) out of the Statement's table words and the real class files: 22 classes; the members and pool entries that the words name. The judged class is class 1, her method 1. -/
namespace start1
open Jvm.ClassFile
def u (s : String) : CpInfo := .utf8 (stringToUtf16 s)
/-- a pool by its gaps: so many unusable entries, then the entry; so many at the end -/
def gap : Nat → List CpInfo → List CpInfo
  | 0, r => r
  | n + 1, r => .unusable :: gap n r
def poolList (es : List (Nat × CpInfo)) (last : Nat) : List CpInfo := es.foldr (fun e r => gap e.1 (e.2 :: r)) (gap last [])
def pool (es : List (Nat × CpInfo)) (last : Nat) : Array CpInfo := ⟨poolList es last⟩
def fileOf (pool : Array CpInfo) (this : Nat) (attrs : Array Attribute := #[]) (ms : Array MethodInfo := #[]) (fl : Nat := 33) (sup : Nat := 0) (ifs : Array Nat := #[]) (fds : Array FieldInfo := #[]) : ClassFile where
  minorVersion := 0
  majorVersion := 65
  constantPool := pool
  accessFlags := fl
  thisClass := this
  superClass := sup
  interfaces := ifs
  fields := fds
  methods := ms
  attributes := attrs
def plain (name : String) (sup : Option ClassId) : Class where
  name := name
  kind := .ordinary
  loader := none
  accessFlags := 33
  super := sup
  interfaces := #[]
  cf := none
  fields := #[]
  methods := #[]
  instanceTypes := #[]
  staticTypes := #[]
  resolved := #[]
  callSites := []
  init := .initialized
  statics := none
  mirror := none

def pool0 : Array CpInfo := pool [(5, u "<init>"), (0, u "()V"), (1, .class_ 10), (1, u "java/lang/Object")] 113

def k0c0 : Code := { maxStack := 0, maxLocals := 1, code := object_method_1_code, exceptionTable := #[], attributes := #[] }
def k0m0 : Method := { name := "<init>", desc := "()V", sig := { parameters := [], returnType := none }, accessFlags := 1, code := some k0c0 }
/-- java/lang/Object -/
def k0 : Class := { plain "java/lang/Object" none with
  accessFlags := 33
  interfaces := #[]
  cf := some (fileOf pool0 8 #[] #[{ accessFlags := 1, nameIndex := 5, descriptorIndex := 6, attributes := #[] }] 33 0 #[] #[])
  fields := #[]
  methods := #[k0m0]
  instanceTypes := #[]
  staticTypes := #[]
  resolved := Array.replicate 124 none
  statics := none }

def pool1 : Array CpInfo := pool [(2, .class_ 4), (1, u "java/lang/Object"), (0, u "<init>"), (0, u "()V"), (0, .methodref 8 9), (0, .class_ 10), (0, .nameAndType 11 12), (0, u "com/example/clausewright/clausewright/model/ColumnIsTextPinLaw"), (0, u "pick"), (0, u "(I)I"), (0, .class_ 14), (0, u "com/example/clausewright/clausewright/model/Column"), (0, .class_ 16), (0, u "java/lang/String"), (0, .methodref 15 18), (0, .nameAndType 5 19), (0, u "([C)V"), (0, .methodref 13 21), (0, .nameAndType 5 22), (0, u "(Ljava/lang/String;ILjava/lang/String;Z)V"), (0, .methodref 13 24), (0, .nameAndType 25 26), (0, u "isText"), (0, u "()Z"), (0, .methodref 8 28), (0, .nameAndType 29 30), (0, u "expected"), (0, u "(I)Z"), (2, u "law"), (0, u "(IIII)Z")] 5

def k1m0 : Method := { name := "<init>", desc := "()V", sig := { parameters := [], returnType := none }, accessFlags := 1, code := none }
def k1c1 : Code := { maxStack := 7, maxLocals := 9, code := code, exceptionTable := #[], attributes := #[] }
def k1m1 : Method := { name := "law", desc := "(IIII)Z", sig := { parameters := [.int, .int, .int, .int], returnType := some .boolean }, accessFlags := 9, code := some k1c1 }
def k1c2 : Code := { maxStack := 3, maxLocals := 2, code := method_3_code, exceptionTable := #[], attributes := #[] }
def k1m2 : Method := { name := "pick", desc := "(I)I", sig := { parameters := [.int], returnType := some .int }, accessFlags := 10, code := some k1c2 }
def k1c3 : Code := { maxStack := 2, maxLocals := 1, code := method_4_code, exceptionTable := #[], attributes := #[] }
def k1m3 : Method := { name := "expected", desc := "(I)Z", sig := { parameters := [.int], returnType := some .boolean }, accessFlags := 10, code := some k1c3 }
/-- com/example/clausewright/clausewright/model/ColumnIsTextPinLaw -/
def k1 : Class := { plain "com/example/clausewright/clausewright/model/ColumnIsTextPinLaw" (some 0) with
  accessFlags := 49
  interfaces := #[]
  cf := some (fileOf pool1 8 #[] #[{ accessFlags := 1, nameIndex := 5, descriptorIndex := 6, attributes := #[] }, { accessFlags := 9, nameIndex := 33, descriptorIndex := 34, attributes := #[] }, { accessFlags := 10, nameIndex := 11, descriptorIndex := 12, attributes := #[] }, { accessFlags := 10, nameIndex := 29, descriptorIndex := 30, attributes := #[] }] 49 2 #[] #[])
  fields := #[]
  methods := #[k1m0, k1m1, k1m2, k1m3]
  instanceTypes := #[]
  staticTypes := #[]
  resolved := Array.replicate 40 none
  statics := none }

def pool2 : Array CpInfo := pool [(1, .methodref 2 3), (0, .class_ 4), (0, .nameAndType 5 6), (0, u "java/lang/Object"), (0, u "<init>"), (0, u "()V"), (0, .class_ 8), (0, u "java/lang/Record")] 13

def k2c0 : Code := { maxStack := 1, maxLocals := 1, code := jdk_30_method_1_code, exceptionTable := #[], attributes := #[] }
def k2m0 : Method := { name := "<init>", desc := "()V", sig := { parameters := [], returnType := none }, accessFlags := 4, code := some k2c0 }
/-- java/lang/Record -/
def k2 : Class := { plain "java/lang/Record" (some 0) with
  accessFlags := 1057
  interfaces := #[]
  cf := some (fileOf pool2 7 #[] #[{ accessFlags := 4, nameIndex := 5, descriptorIndex := 6, attributes := #[] }] 1057 2 #[] #[])
  fields := #[]
  methods := #[k2m0]
  instanceTypes := #[]
  staticTypes := #[]
  resolved := Array.replicate 22 none
  statics := none }

def pool3 : Array CpInfo := pool [(1, .methodref 2 3), (0, .class_ 4), (0, .nameAndType 5 6), (0, u "java/lang/Record"), (0, u "<init>"), (0, u "()V"), (0, .string 8), (0, u "name"), (0, .methodref 10 11), (0, .class_ 12), (0, .nameAndType 13 14), (0, u "java/util/Objects"), (0, u "requireNonNull"), (0, u "(Ljava/lang/Object;Ljava/lang/String;)Ljava/lang/Object;"), (0, .string 16), (0, u "typeName"), (0, .fieldref 18 19), (0, .class_ 20), (0, .nameAndType 8 21), (0, u "com/example/clausewright/clausewright/model/Column"), (0, u "Ljava/lang/String;"), (0, .fieldref 18 23), (0, .nameAndType 24 25), (0, u "jdbcType"), (0, u "I"), (0, .fieldref 18 27), (0, .nameAndType 16 21), (0, .fieldref 18 29), (0, .nameAndType 30 31), (0, u "nullable"), (0, u "Z"), (4, u "isText"), (0, u "()Z"), (38, u "(Ljava/lang/String;ILjava/lang/String;Z)V")] 38

def k3c0 : Code := { maxStack := 2, maxLocals := 5, code := prog_18_method_1_code, exceptionTable := #[], attributes := #[] }
def k3m0 : Method := { name := "<init>", desc := "(Ljava/lang/String;ILjava/lang/String;Z)V", sig := { parameters := [(.object "java/lang/String"), .int, (.object "java/lang/String"), .boolean], returnType := none }, accessFlags := 1, code := some k3c0 }
def k3c1 : Code := { maxStack := 1, maxLocals := 1, code := prog_18_method_5_code, exceptionTable := #[], attributes := #[] }
def k3m1 : Method := { name := "isText", desc := "()Z", sig := { parameters := [], returnType := some .boolean }, accessFlags := 1, code := some k3c1 }
/-- com/example/clausewright/clausewright/model/Column -/
def k3 : Class := { plain "com/example/clausewright/clausewright/model/Column" (some 2) with
  accessFlags := 49
  interfaces := #[]
  cf := some (fileOf pool3 18 #[] #[{ accessFlags := 1, nameIndex := 5, descriptorIndex := 76, attributes := #[] }, { accessFlags := 1, nameIndex := 36, descriptorIndex := 37, attributes := #[] }] 49 2 #[] #[{ accessFlags := 18, nameIndex := 8, descriptorIndex := 21, attributes := #[] }, { accessFlags := 18, nameIndex := 24, descriptorIndex := 25, attributes := #[] }, { accessFlags := 18, nameIndex := 16, descriptorIndex := 21, attributes := #[] }, { accessFlags := 18, nameIndex := 30, descriptorIndex := 31, attributes := #[] }])
  fields := #[{ name := "name", type := (.object "java/lang/String"), accessFlags := 18, slot := 0, constantValue := 0 }, { name := "jdbcType", type := .int, accessFlags := 18, slot := 1, constantValue := 0 }, { name := "typeName", type := (.object "java/lang/String"), accessFlags := 18, slot := 2, constantValue := 0 }, { name := "nullable", type := .boolean, accessFlags := 18, slot := 3, constantValue := 0 }]
  methods := #[k3m0, k3m1]
  instanceTypes := #[(.object "java/lang/String"), .int, (.object "java/lang/String"), .boolean]
  staticTypes := #[]
  resolved := Array.replicate 115 none
  statics := none }

def pool4 : Array CpInfo := pool [(1, .class_ 2), (0, u "java/io/Serializable"), (0, .class_ 4), (0, u "java/lang/Object")] 2

/-- java/io/Serializable -/
def k4 : Class := { plain "java/io/Serializable" (some 0) with
  accessFlags := 1537
  interfaces := #[]
  cf := some (fileOf pool4 1 #[] #[] 1537 3 #[] #[])
  fields := #[]
  methods := #[]
  instanceTypes := #[]
  staticTypes := #[]
  resolved := Array.replicate 7 none
  statics := none }

def pool5 : Array CpInfo := pool [(1, .class_ 2), (0, u "java/lang/Comparable"), (0, .class_ 4), (0, u "java/lang/Object")] 7

/-- java/lang/Comparable -/
def k5 : Class := { plain "java/lang/Comparable" (some 0) with
  accessFlags := 1537
  interfaces := #[]
  cf := some (fileOf pool5 1 #[] #[] 1537 3 #[] #[])
  fields := #[]
  methods := #[]
  instanceTypes := #[]
  staticTypes := #[]
  resolved := Array.replicate 12 none
  statics := none }

def pool6 : Array CpInfo := pool [(2, .class_ 4), (1, u "java/lang/CharSequence"), (42, .class_ 48), (0, u "java/lang/CharSequence$1CodePointIterator"), (10, .class_ 60), (0, u "java/lang/CharSequence$1CharIterator"), (5, .class_ 67), (0, u "java/lang/Object")] 63

/-- java/lang/CharSequence -/
def k6 : Class := { plain "java/lang/CharSequence" (some 0) with
  accessFlags := 1537
  interfaces := #[]
  cf := some (fileOf pool6 2 #[.nestMembers #[47, 59]] #[] 1537 66 #[] #[])
  fields := #[]
  methods := #[]
  instanceTypes := #[]
  staticTypes := #[]
  resolved := Array.replicate 131 none
  statics := none }

def pool7 : Array CpInfo := pool [(1, .class_ 2), (0, u "java/lang/constant/Constable"), (0, .class_ 4), (0, u "java/lang/Object")] 6

/-- java/lang/constant/Constable -/
def k7 : Class := { plain "java/lang/constant/Constable" (some 0) with
  accessFlags := 1537
  interfaces := #[]
  cf := some (fileOf pool7 1 #[] #[] 1537 3 #[] #[])
  fields := #[]
  methods := #[]
  instanceTypes := #[]
  staticTypes := #[]
  resolved := Array.replicate 11 none
  statics := none }

def pool8 : Array CpInfo := pool [(1, .class_ 2), (0, u "java/lang/constant/ConstantDesc"), (0, .class_ 4), (0, u "java/lang/Object")] 32

/-- java/lang/constant/ConstantDesc -/
def k8 : Class := { plain "java/lang/constant/ConstantDesc" (some 0) with
  accessFlags := 1537
  interfaces := #[]
  cf := some (fileOf pool8 1 #[] #[] 1537 3 #[] #[])
  fields := #[]
  methods := #[]
  instanceTypes := #[]
  staticTypes := #[]
  resolved := Array.replicate 37 none
  statics := none }

def pool9 : Array CpInfo := pool [(1, .methodref 2 3), (0, .class_ 4), (0, .nameAndType 5 6), (0, u "java/lang/Object"), (0, u "<init>"), (0, u "()V"), (2, .fieldref 10 11), (0, .class_ 12), (0, .nameAndType 13 14), (0, u "java/lang/String"), (0, u "value"), (0, u "[B"), (0, .fieldref 10 16), (0, .nameAndType 17 18), (0, u "coder"), (0, u "B"), (2, u "hash"), (0, u "I"), (2, u "hashIsZero"), (0, u "Z"), (0, .methodref 10 28), (0, .nameAndType 5 29), (0, u "([CIILjava/lang/Void;)V"), (8, .fieldref 10 39), (0, .nameAndType 40 26), (0, u "COMPACT_STRINGS"), (1, .class_ 44), (1, u "java/lang/StringUTF16"), (0, u "compress"), (1, .methodref 42 48), (0, .nameAndType 49 50), (0, u "coderFromArrayLen"), (0, u "([BI)B"), (126, .methodref 42 178), (0, .nameAndType 45 179), (0, u "([CII)[B"), (395, .class_ 576), (0, u "java/lang/CharSequence"), (22, u "CASE_INSENSITIVE_ORDER"), (0, u "Ljava/util/Comparator;"), (409, u "([C)V"), (90, u "serialPersistentFields"), (0, u "[Ljava/io/ObjectStreamField;"), (0, .class_ 1104), (0, u "java/lang/String$CaseInsensitiveComparator"), (1, .class_ 1107), (0, u "java/io/Serializable"), (0, .class_ 1109), (0, u "java/lang/Comparable"), (0, .class_ 1111), (0, u "java/lang/constant/Constable"), (0, .class_ 1113), (0, u "java/lang/constant/ConstantDesc"), (2, u "serialVersionUID"), (0, u "J"), (3, u "REPL"), (0, u "C"), (2, u "LATIN1"), (1, u "UTF16")] 323

def k9m0 : Method := { name := "<init>", desc := "()V", sig := { parameters := [], returnType := none }, accessFlags := 1, code := none }
def k9c1 : Code := { maxStack := 5, maxLocals := 2, code := jdk_42_method_3_code, exceptionTable := #[], attributes := #[] }
def k9m1 : Method := { name := "<init>", desc := "([C)V", sig := { parameters := [(.array .char)], returnType := none }, accessFlags := 1, code := some k9c1 }
def k9c2 : Code := { maxStack := 4, maxLocals := 6, code := jdk_42_method_149_code, exceptionTable := #[], attributes := #[] }
def k9m2 : Method := { name := "<init>", desc := "([CIILjava/lang/Void;)V", sig := { parameters := [(.array .char), .int, .int, (.object "java/lang/Void")], returnType := none }, accessFlags := 2, code := some k9c2 }
/-- java/lang/String -/
def k9 : Class := { plain "java/lang/String" (some 0) with
  accessFlags := 49
  interfaces := #[4, 5, 6, 7, 8]
  cf := some (fileOf pool9 10 #[.nestMembers #[1103]] #[{ accessFlags := 1, nameIndex := 5, descriptorIndex := 6, attributes := #[] }, { accessFlags := 1, nameIndex := 5, descriptorIndex := 1010, attributes := #[] }, { accessFlags := 2, nameIndex := 5, descriptorIndex := 29, attributes := #[] }] 49 2 #[1106, 1108, 575, 1110, 1112] #[{ accessFlags := 18, nameIndex := 13, descriptorIndex := 14, attributes := #[] }, { accessFlags := 18, nameIndex := 17, descriptorIndex := 18, attributes := #[] }, { accessFlags := 2, nameIndex := 21, descriptorIndex := 22, attributes := #[] }, { accessFlags := 2, nameIndex := 25, descriptorIndex := 26, attributes := #[] }, { accessFlags := 26, nameIndex := 1116, descriptorIndex := 1117, attributes := #[] }, { accessFlags := 24, nameIndex := 40, descriptorIndex := 26, attributes := #[] }, { accessFlags := 26, nameIndex := 1101, descriptorIndex := 1102, attributes := #[] }, { accessFlags := 26, nameIndex := 1121, descriptorIndex := 1122, attributes := #[] }, { accessFlags := 25, nameIndex := 599, descriptorIndex := 600, attributes := #[] }, { accessFlags := 24, nameIndex := 1125, descriptorIndex := 18, attributes := #[] }, { accessFlags := 24, nameIndex := 1127, descriptorIndex := 18, attributes := #[] }])
  fields := #[{ name := "value", type := (.array .byte), accessFlags := 18, slot := 0, constantValue := 0 }, { name := "coder", type := .byte, accessFlags := 18, slot := 1, constantValue := 0 }, { name := "hash", type := .int, accessFlags := 2, slot := 2, constantValue := 0 }, { name := "hashIsZero", type := .boolean, accessFlags := 2, slot := 3, constantValue := 0 }, { name := "serialVersionUID", type := .long, accessFlags := 26, slot := 0, constantValue := 0 }, { name := "COMPACT_STRINGS", type := .boolean, accessFlags := 24, slot := 1, constantValue := 0 }, { name := "serialPersistentFields", type := (.array (.object "java/io/ObjectStreamField")), accessFlags := 26, slot := 2, constantValue := 0 }, { name := "REPL", type := .char, accessFlags := 26, slot := 3, constantValue := 0 }, { name := "CASE_INSENSITIVE_ORDER", type := (.object "java/util/Comparator"), accessFlags := 25, slot := 4, constantValue := 0 }, { name := "LATIN1", type := .byte, accessFlags := 24, slot := 5, constantValue := 0 }, { name := "UTF16", type := .byte, accessFlags := 24, slot := 6, constantValue := 0 }]
  methods := #[k9m0, k9m1, k9m2]
  instanceTypes := #[(.array .byte), .byte, .int, .boolean]
  staticTypes := #[.long, .boolean, (.array (.object "java/io/ObjectStreamField")), .char, (.object "java/util/Comparator"), .byte, .byte]
  resolved := Array.replicate 1451 none
  statics := some 0 }

def pool10 : Array CpInfo := pool [(6, .class_ 8), (1, u "java/lang/Object"), (0, u "<init>"), (0, u "()V"), (1, .class_ 14), (1, u "java/lang/StringUTF16"), (31, u "$assertionsDisabled"), (0, u "Z"), (13, u "HI_BYTE_SHIFT"), (0, u "I"), (2, u "LO_BYTE_SHIFT"), (49, .methodref 12 116), (0, .nameAndType 117 118), (0, u "compress"), (0, u "([CI[BII)I"), (3, u "([CII)[B"), (138, u "coderFromArrayLen"), (0, u "([BI)B"), (106, .class_ 371), (1, u "java/lang/StringUTF16$LinesSpliterator"), (58, u "MAX_LENGTH"), (196, .class_ 628), (0, u "java/lang/StringUTF16$CodePointsSpliterator"), (0, .class_ 630), (0, u "java/lang/StringUTF16$CharsSpliterator")] 4

def k10m0 : Method := { name := "<init>", desc := "()V", sig := { parameters := [], returnType := none }, accessFlags := 0, code := none }
def k10c1 : Code := { maxStack := 2, maxLocals := 2, code := jdk_52_method_15_code, exceptionTable := #[], attributes := #[] }
def k10m1 : Method := { name := "coderFromArrayLen", desc := "([BI)B", sig := { parameters := [(.array .byte), .int], returnType := some .byte }, accessFlags := 8, code := some k10c1 }
def k10c2 : Code := { maxStack := 5, maxLocals := 6, code := jdk_52_method_16_code, exceptionTable := #[], attributes := #[] }
def k10m2 : Method := { name := "compress", desc := "([CII)[B", sig := { parameters := [(.array .char), .int, .int], returnType := some (.array .byte) }, accessFlags := 9, code := some k10c2 }
def k10c3 : Code := { maxStack := 3, maxLocals := 7, code := jdk_52_method_21_code, exceptionTable := #[], attributes := #[] }
def k10m3 : Method := { name := "compress", desc := "([CI[BII)I", sig := { parameters := [(.array .char), .int, (.array .byte), .int, .int], returnType := some .int }, accessFlags := 9, code := some k10c3 }
/-- java/lang/StringUTF16 -/
def k10 : Class := { plain "java/lang/StringUTF16" (some 0) with
  accessFlags := 48
  interfaces := #[]
  cf := some (fileOf pool10 12 #[.nestMembers #[627, 629, 369]] #[{ accessFlags := 0, nameIndex := 9, descriptorIndex := 10, attributes := #[] }, { accessFlags := 8, nameIndex := 261, descriptorIndex := 262, attributes := #[] }, { accessFlags := 9, nameIndex := 117, descriptorIndex := 122, attributes := #[] }, { accessFlags := 9, nameIndex := 117, descriptorIndex := 118, attributes := #[] }] 48 6 #[] #[{ accessFlags := 26, nameIndex := 61, descriptorIndex := 62, attributes := #[] }, { accessFlags := 26, nameIndex := 65, descriptorIndex := 62, attributes := #[] }, { accessFlags := 24, nameIndex := 430, descriptorIndex := 62, attributes := #[] }, { accessFlags := 4120, nameIndex := 46, descriptorIndex := 47, attributes := #[] }])
  fields := #[{ name := "HI_BYTE_SHIFT", type := .int, accessFlags := 26, slot := 0, constantValue := 0 }, { name := "LO_BYTE_SHIFT", type := .int, accessFlags := 26, slot := 1, constantValue := 0 }, { name := "MAX_LENGTH", type := .int, accessFlags := 24, slot := 2, constantValue := 0 }, { name := "$assertionsDisabled", type := .boolean, accessFlags := 4120, slot := 3, constantValue := 0 }]
  methods := #[k10m0, k10m1, k10m2, k10m3]
  instanceTypes := #[]
  staticTypes := #[.int, .int, .int, .boolean]
  resolved := Array.replicate 635 none
  statics := none }

def pool11 : Array CpInfo := pool [(2, .class_ 4), (1, u "java/lang/Object"), (0, u "<init>"), (0, u "()V"), (35, .class_ 44), (1, u "java/util/Objects"), (0, u "requireNonNull"), (48, u "(Ljava/lang/Object;Ljava/lang/String;)Ljava/lang/Object;")] 89

def k11m0 : Method := { name := "<init>", desc := "()V", sig := { parameters := [], returnType := none }, accessFlags := 2, code := none }
def k11c1 : Code := { maxStack := 3, maxLocals := 2, code := jdk_31_method_11_code, exceptionTable := #[], attributes := #[] }
def k11m1 : Method := { name := "requireNonNull", desc := "(Ljava/lang/Object;Ljava/lang/String;)Ljava/lang/Object;", sig := { parameters := [(.object "java/lang/Object"), (.object "java/lang/String")], returnType := some (.object "java/lang/Object") }, accessFlags := 9, code := some k11c1 }
/-- java/util/Objects -/
def k11 : Class := { plain "java/util/Objects" (some 0) with
  accessFlags := 49
  interfaces := #[]
  cf := some (fileOf pool11 42 #[] #[{ accessFlags := 2, nameIndex := 5, descriptorIndex := 6, attributes := #[] }, { accessFlags := 9, nameIndex := 45, descriptorIndex := 94, attributes := #[] }] 49 2 #[] #[])
  fields := #[]
  methods := #[k11m0, k11m1]
  instanceTypes := #[]
  staticTypes := #[]
  resolved := Array.replicate 184 none
  statics := none }

def pool12 : Array CpInfo := pool [(4, .class_ 6), (1, u "java/lang/Object"), (0, u "<init>"), (0, u "()V"), (5, .class_ 16), (1, u "java/lang/StringLatin1"), (104, u "$assertionsDisabled"), (0, u "Z"), (98, .class_ 223), (1, u "java/lang/StringLatin1$LinesSpliterator"), (166, .class_ 391), (0, u "java/lang/StringLatin1$CharsSpliterator")] 3

def k12m0 : Method := { name := "<init>", desc := "()V", sig := { parameters := [], returnType := none }, accessFlags := 0, code := none }
/-- java/lang/StringLatin1 -/
def k12 : Class := { plain "java/lang/StringLatin1" (some 0) with
  accessFlags := 48
  interfaces := #[]
  cf := some (fileOf pool12 14 #[.nestMembers #[390, 221]] #[{ accessFlags := 0, nameIndex := 7, descriptorIndex := 8, attributes := #[] }] 48 4 #[] #[{ accessFlags := 4120, nameIndex := 121, descriptorIndex := 122, attributes := #[] }])
  fields := #[{ name := "$assertionsDisabled", type := .boolean, accessFlags := 4120, slot := 0, constantValue := 0 }]
  methods := #[k12m0]
  instanceTypes := #[]
  staticTypes := #[.boolean]
  resolved := Array.replicate 395 none
  statics := none }

def pool13 : Array CpInfo := pool [(2, .class_ 4), (1, u "java/lang/Object"), (0, u "<init>"), (0, u "()V"), (17, .class_ 26), (1, u "jdk/internal/util/Preconditions"), (28, .class_ 56), (0, u "jdk/internal/util/Preconditions$4"), (57, .class_ 115), (0, u "jdk/internal/util/Preconditions$1"), (7, u "SIOOBE_FORMATTER"), (0, u "Ljava/util/function/BiFunction;"), (0, .class_ 126), (0, u "jdk/internal/util/Preconditions$2"), (3, u "AIOOBE_FORMATTER"), (0, .class_ 132), (0, u "jdk/internal/util/Preconditions$3"), (3, u "IOOBE_FORMATTER")] 57

def k13m0 : Method := { name := "<init>", desc := "()V", sig := { parameters := [], returnType := none }, accessFlags := 1, code := none }
/-- jdk/internal/util/Preconditions -/
def k13 : Class := { plain "jdk/internal/util/Preconditions" (some 0) with
  accessFlags := 33
  interfaces := #[]
  cf := some (fileOf pool13 24 #[.nestMembers #[55, 131, 125, 114]] #[{ accessFlags := 1, nameIndex := 5, descriptorIndex := 6, attributes := #[] }] 33 2 #[] #[{ accessFlags := 25, nameIndex := 123, descriptorIndex := 124, attributes := #[] }, { accessFlags := 25, nameIndex := 130, descriptorIndex := 124, attributes := #[] }, { accessFlags := 25, nameIndex := 136, descriptorIndex := 124, attributes := #[] }])
  fields := #[{ name := "SIOOBE_FORMATTER", type := (.object "java/util/function/BiFunction"), accessFlags := 25, slot := 0, constantValue := 0 }, { name := "AIOOBE_FORMATTER", type := (.object "java/util/function/BiFunction"), accessFlags := 25, slot := 1, constantValue := 0 }, { name := "IOOBE_FORMATTER", type := (.object "java/util/function/BiFunction"), accessFlags := 25, slot := 2, constantValue := 0 }]
  methods := #[k13m0]
  instanceTypes := #[]
  staticTypes := #[(.object "java/util/function/BiFunction"), (.object "java/util/function/BiFunction"), (.object "java/util/function/BiFunction")]
  resolved := Array.replicate 194 none
  statics := some 1 }

def pool14 : Array CpInfo := pool [(9, u "<init>"), (6, .class_ 18), (1, u "java/lang/Object"), (0, u "()V"), (1, .class_ 23), (1, u "jdk/internal/util/ArraysSupport"), (0, u "LOG2_ARRAY_LONG_INDEX_SCALE"), (0, u "I"), (2, u "U"), (0, u "Ljdk/internal/misc/Unsafe;"), (8, u "BIG_ENDIAN"), (0, u "Z"), (8, u "LOG2_BYTE_BIT_SIZE"), (4, u "LOG2_ARRAY_INT_INDEX_SCALE"), (54, u "JLA"), (0, u "Ljdk/internal/access/JavaLangAccess;"), (11, u "LOG2_ARRAY_BOOLEAN_INDEX_SCALE"), (9, u "LOG2_ARRAY_BYTE_INDEX_SCALE"), (5, u "LOG2_ARRAY_CHAR_INDEX_SCALE"), (5, u "LOG2_ARRAY_SHORT_INDEX_SCALE"), (18, u "LOG2_ARRAY_FLOAT_INDEX_SCALE"), (24, u "LOG2_ARRAY_DOUBLE_INDEX_SCALE"), (89, u "T_BOOLEAN"), (2, u "T_CHAR"), (1, u "T_FLOAT"), (1, u "T_DOUBLE"), (1, u "T_BYTE"), (1, u "T_SHORT"), (1, u "T_INT"), (1, u "T_LONG"), (1, u "SOFT_MAX_ARRAY_LENGTH")] 83

def k14m0 : Method := { name := "<init>", desc := "()V", sig := { parameters := [], returnType := none }, accessFlags := 2, code := none }
/-- jdk/internal/util/ArraysSupport -/
def k14 : Class := { plain "jdk/internal/util/ArraysSupport" (some 0) with
  accessFlags := 33
  interfaces := #[]
  cf := some (fileOf pool14 21 #[] #[{ accessFlags := 2, nameIndex := 9, descriptorIndex := 19, attributes := #[] }] 33 16 #[] #[{ accessFlags := 24, nameIndex := 28, descriptorIndex := 29, attributes := #[] }, { accessFlags := 26, nameIndex := 38, descriptorIndex := 39, attributes := #[] }, { accessFlags := 25, nameIndex := 121, descriptorIndex := 25, attributes := #[] }, { accessFlags := 25, nameIndex := 131, descriptorIndex := 25, attributes := #[] }, { accessFlags := 25, nameIndex := 137, descriptorIndex := 25, attributes := #[] }, { accessFlags := 25, nameIndex := 143, descriptorIndex := 25, attributes := #[] }, { accessFlags := 25, nameIndex := 53, descriptorIndex := 25, attributes := #[] }, { accessFlags := 25, nameIndex := 24, descriptorIndex := 25, attributes := #[] }, { accessFlags := 25, nameIndex := 162, descriptorIndex := 25, attributes := #[] }, { accessFlags := 25, nameIndex := 187, descriptorIndex := 25, attributes := #[] }, { accessFlags := 26, nameIndex := 48, descriptorIndex := 25, attributes := #[] }, { accessFlags := 25, nameIndex := 277, descriptorIndex := 25, attributes := #[] }, { accessFlags := 25, nameIndex := 280, descriptorIndex := 25, attributes := #[] }, { accessFlags := 25, nameIndex := 282, descriptorIndex := 25, attributes := #[] }, { accessFlags := 25, nameIndex := 284, descriptorIndex := 25, attributes := #[] }, { accessFlags := 25, nameIndex := 286, descriptorIndex := 25, attributes := #[] }, { accessFlags := 25, nameIndex := 288, descriptorIndex := 25, attributes := #[] }, { accessFlags := 25, nameIndex := 290, descriptorIndex := 25, attributes := #[] }, { accessFlags := 25, nameIndex := 292, descriptorIndex := 25, attributes := #[] }, { accessFlags := 26, nameIndex := 108, descriptorIndex := 109, attributes := #[] }, { accessFlags := 25, nameIndex := 294, descriptorIndex := 25, attributes := #[] }])
  fields := #[{ name := "U", type := (.object "jdk/internal/misc/Unsafe"), accessFlags := 24, slot := 0, constantValue := 0 }, { name := "BIG_ENDIAN", type := .boolean, accessFlags := 26, slot := 1, constantValue := 0 }, { name := "LOG2_ARRAY_BOOLEAN_INDEX_SCALE", type := .int, accessFlags := 25, slot := 2, constantValue := 0 }, { name := "LOG2_ARRAY_BYTE_INDEX_SCALE", type := .int, accessFlags := 25, slot := 3, constantValue := 0 }, { name := "LOG2_ARRAY_CHAR_INDEX_SCALE", type := .int, accessFlags := 25, slot := 4, constantValue := 0 }, { name := "LOG2_ARRAY_SHORT_INDEX_SCALE", type := .int, accessFlags := 25, slot := 5, constantValue := 0 }, { name := "LOG2_ARRAY_INT_INDEX_SCALE", type := .int, accessFlags := 25, slot := 6, constantValue := 0 }, { name := "LOG2_ARRAY_LONG_INDEX_SCALE", type := .int, accessFlags := 25, slot := 7, constantValue := 0 }, { name := "LOG2_ARRAY_FLOAT_INDEX_SCALE", type := .int, accessFlags := 25, slot := 8, constantValue := 0 }, { name := "LOG2_ARRAY_DOUBLE_INDEX_SCALE", type := .int, accessFlags := 25, slot := 9, constantValue := 0 }, { name := "LOG2_BYTE_BIT_SIZE", type := .int, accessFlags := 26, slot := 10, constantValue := 0 }, { name := "T_BOOLEAN", type := .int, accessFlags := 25, slot := 11, constantValue := 0 }, { name := "T_CHAR", type := .int, accessFlags := 25, slot := 12, constantValue := 0 }, { name := "T_FLOAT", type := .int, accessFlags := 25, slot := 13, constantValue := 0 }, { name := "T_DOUBLE", type := .int, accessFlags := 25, slot := 14, constantValue := 0 }, { name := "T_BYTE", type := .int, accessFlags := 25, slot := 15, constantValue := 0 }, { name := "T_SHORT", type := .int, accessFlags := 25, slot := 16, constantValue := 0 }, { name := "T_INT", type := .int, accessFlags := 25, slot := 17, constantValue := 0 }, { name := "T_LONG", type := .int, accessFlags := 25, slot := 18, constantValue := 0 }, { name := "JLA", type := (.object "jdk/internal/access/JavaLangAccess"), accessFlags := 26, slot := 19, constantValue := 0 }, { name := "SOFT_MAX_ARRAY_LENGTH", type := .int, accessFlags := 25, slot := 20, constantValue := 0 }]
  methods := #[k14m0]
  instanceTypes := #[]
  staticTypes := #[(.object "jdk/internal/misc/Unsafe"), .boolean, .int, .int, .int, .int, .int, .int, .int, .int, .int, .int, .int, .int, .int, .int, .int, .int, .int, (.object "jdk/internal/access/JavaLangAccess"), .int]
  resolved := Array.replicate 378 none
  statics := none }

def pool15 : Array CpInfo := pool [(1, u "java/lang/Cloneable"), (0, .class_ 1), (0, u "java/lang/Object"), (0, .class_ 3)] 3

/-- java/lang/Cloneable -/
def k15 : Class := { plain "java/lang/Cloneable" (some 0) with
  accessFlags := 1537
  interfaces := #[]
  cf := some (fileOf pool15 2 #[] #[] 1537 4 #[] #[])
  fields := #[]
  methods := #[]
  instanceTypes := #[]
  staticTypes := #[]
  resolved := Array.replicate 8 none
  statics := none }

/-- the primitive byte -/
def k16 : Class := { plain "byte" none with kind := .primitive 'B', accessFlags := 0x411 }
/-- [B -/
def k17 : Class := { plain "[B" (some 0) with kind := .array 16 .byte, interfaces := #[15, 4], accessFlags := 1041 }

/-- the primitive char -/
def k18 : Class := { plain "char" none with kind := .primitive 'C', accessFlags := 0x411 }
/-- [C -/
def k19 : Class := { plain "[C" (some 0) with kind := .array 18 .char, interfaces := #[15, 4], accessFlags := 1041 }

/-- the primitive int -/
def k20 : Class := { plain "int" none with kind := .primitive 'I', accessFlags := 0x411 }
/-- [I -/
def k21 : Class := { plain "[I" (some 0) with kind := .array 20 .int, interfaces := #[15, 4], accessFlags := 1041 }

def heap : Heap := #[{ cls := 9, slots := #[.long 0, .int 1, .null, .int 0, .null, .int 0, .int 0], vm := .statics 9 },
  { cls := 13, slots := #[.null, .null, .null], vm := .statics 13 }]
def classes : Array Class := #[k0, k1, k2, k3, k4, k5, k6, k7, k8, k9, k10, k11, k12, k13, k14, k15, k16, k17, k18, k19, k20, k21]
def interned : List (Array UInt16 × Addr) := []
def slotsUsed : Nat := 10
def theMethod : MethodId := ⟨1, 1⟩
def args0 : Array Value := #[.int 1, .int 2, .int 3, .int 4]
def aboutOver (below : List Frame) : State where
  vm := { classes := classes, interned := interned.toArray }
  heap := heap
  slotsUsed := slotsUsed
  threads := #[{ frames := .invoking theMethod args0 :: below }]
def below0 : List Frame := [.native { method := ⟨0, 0⟩, args := #[] }]
def about1 : State := aboutOver below0
def p0 : Program := .bare "" "" ""
def e0 : Env := launch0.env 0 0 0
theorem w_frames : about1.frames = Frame.invoking theMethod args0 :: below0 := rfl
set_option maxRecDepth 65536 in
theorem w_args : argsFit about1.vm theMethod args0 = true := by decide +kernel
set_option maxRecDepth 65536 in
theorem w_heap : heapFits about1 = true := by decide +kernel
set_option maxRecDepth 65536 in
theorem w_runnable : about1.curStatus? = some .runnable := by decide +kernel
set_option maxRecDepth 65536 in
theorem w_alone : about1.alone = true := by decide +kernel
set_option maxRecDepth 65536 in
theorem w_named : about1.methodNamed? x = some theMethod := by decide +kernel
set_option maxRecDepth 65536 in
theorem w_hears : about1.hears theMethod below0 = true := by decide +kernel
set_option maxRecDepth 65536 in
theorem w_ripe : about1.ripe theMethod args0 below0 = true := by decide +kernel
theorem w_running : about1.status = .running := rfl
set_option maxRecDepth 65536 in
theorem w_room : about1.hasRoom e0.platform room_1 = true :=
  launch0.hasRoom_least _ room_1 (by decide +kernel) (by decide +kernel) (by decide +kernel) (by decide +kernel) (by decide +kernel) (by decide +kernel)
theorem allAtoms_all (ts : List Jvm.Cond) (a : Array Jvm.Value) (st : Jvm.State) : (allAtoms ts).before a st = ts.all (fun c => c.before a st) := by
  induction ts with
  | nil => rfl
  | cons c t ih =>
    show (Jvm.Cond.and c (allAtoms t)).before a st = _
    rw [Jvm.Cond.before_and, ih, List.all_cons]
def words1 : List Jvm.Cond := Jvm.Cond.code x code maxLocals ret :: tables_1
/-- a 'code' word, met by the world's own term for the bytes: nothing is compared byte by byte -/
theorem code_word {y : MethodName} {bytes : ByteArray} {mx : Nat} {rt : Option FieldType} {a : Array Value} {s : State} {m : MethodId} {meth : Method} {c : Code} (h1 : s.methodNamed? y = some m) (h2 : s.vm.method? m = some meth) (h3 : meth.code = some c) (h4 : c.code = bytes)
    (h5 : (c.maxLocals == mx && c.exceptionTable.isEmpty && decide (c.maxStack ≤ mostOperands) && decide (meth.sig.returnType = rt) && !meth.locks && decide (parseMethodDescriptor y.desc = some meth.sig)) = true) : (Jvm.Cond.code y bytes mx rt).before a s = true := by
  simp only [Bool.and_eq_true, beq_iff_eq, Bool.not_eq_true', decide_eq_true_eq] at h5
  obtain ⟨⟨⟨⟨⟨g1, g2⟩, g3⟩, g4⟩, g5⟩, g6⟩ := h5
  simp [Cond.before, Cond.holds, Cond.value, h1, h2, h3, h4, g1, g2, g3, g4, g5, g6]
def isCode : Jvm.Cond → Bool
  | .code _ _ _ _ => true
  | _ => false
theorem all_split {L : List Jvm.Cond} {P : Jvm.Cond → Bool} (h1 : L.all (fun c => isCode c || P c) = true) (h2 : ∀ c ∈ L.filter isCode, P c = true) : L.all P = true := by
  refine List.all_eq_true.mpr fun c hc => ?_
  have h := List.all_eq_true.mp h1 c hc
  rcases Bool.eq_false_or_eq_true (isCode c) with hi | hi
  · exact h2 c (List.mem_filter.mpr ⟨hc, hi⟩)
  · simpa [hi] using h
set_option maxRecDepth 65536 in
theorem w_c0 : (Jvm.Cond.code x code maxLocals ret).before args0 about1 = true := code_word (m := ⟨1, 1⟩) (meth := k1m1) (c := k1c1) (by decide +kernel) rfl rfl rfl (by decide +kernel)
set_option maxRecDepth 65536 in
theorem w_c1 : (Jvm.Cond.code ({ cls := "com/example/clausewright/clausewright/model/ColumnIsTextPinLaw", name := "pick", desc := "(I)I" } : Jvm.MethodName) method_3_code (2 : Nat) (Option.some Jvm.ClassFile.FieldType.int)).before args0 about1 = true := code_word (m := ⟨1, 2⟩) (meth := k1m2) (c := k1c2) (by decide +kernel) rfl rfl rfl (by decide +kernel)
set_option maxRecDepth 65536 in
theorem w_c2 : (Jvm.Cond.code ({ cls := "java/lang/String", name := "<init>", desc := "([C)V" } : Jvm.MethodName) jdk_42_method_3_code (2 : Nat) (Option.none : Option Jvm.ClassFile.FieldType)).before args0 about1 = true := code_word (m := ⟨9, 1⟩) (meth := k9m1) (c := k9c1) (by decide +kernel) rfl rfl rfl (by decide +kernel)
set_option maxRecDepth 65536 in
theorem w_c3 : (Jvm.Cond.code ({ cls := "java/lang/String", name := "<init>", desc := "([CIILjava/lang/Void;)V" } : Jvm.MethodName) jdk_42_method_149_code (6 : Nat) (Option.none : Option Jvm.ClassFile.FieldType)).before args0 about1 = true := code_word (m := ⟨9, 2⟩) (meth := k9m2) (c := k9c2) (by decide +kernel) rfl rfl rfl (by decide +kernel)
set_option maxRecDepth 65536 in
theorem w_c4 : (Jvm.Cond.code ({ cls := "java/lang/Object", name := "<init>", desc := "()V" } : Jvm.MethodName) object_method_1_code (1 : Nat) (Option.none : Option Jvm.ClassFile.FieldType)).before args0 about1 = true := code_word (m := ⟨0, 0⟩) (meth := k0m0) (c := k0c0) (by decide +kernel) rfl rfl rfl (by decide +kernel)
set_option maxRecDepth 65536 in
theorem w_c5 : (Jvm.Cond.code ({ cls := "java/lang/StringUTF16", name := "compress", desc := "([CII)[B" } : Jvm.MethodName) jdk_52_method_16_code (6 : Nat) (Option.some (Jvm.ClassFile.FieldType.array Jvm.ClassFile.FieldType.byte))).before args0 about1 = true := code_word (m := ⟨10, 2⟩) (meth := k10m2) (c := k10c2) (by decide +kernel) rfl rfl rfl (by decide +kernel)
set_option maxRecDepth 65536 in
theorem w_c6 : (Jvm.Cond.code ({ cls := "java/lang/StringUTF16", name := "compress", desc := "([CI[BII)I" } : Jvm.MethodName) jdk_52_method_21_code (7 : Nat) (Option.some Jvm.ClassFile.FieldType.int)).before args0 about1 = true := code_word (m := ⟨10, 3⟩) (meth := k10m3) (c := k10c3) (by decide +kernel) rfl rfl rfl (by decide +kernel)
set_option maxRecDepth 65536 in
theorem w_c7 : (Jvm.Cond.code ({ cls := "java/lang/StringUTF16", name := "coderFromArrayLen", desc := "([BI)B" } : Jvm.MethodName) jdk_52_method_15_code (2 : Nat) (Option.some Jvm.ClassFile.FieldType.byte)).before args0 about1 = true := code_word (m := ⟨10, 1⟩) (meth := k10m1) (c := k10c1) (by decide +kernel) rfl rfl rfl (by decide +kernel)
set_option maxRecDepth 65536 in
theorem w_c8 : (Jvm.Cond.code ({ cls := "com/example/clausewright/clausewright/model/Column", name := "<init>", desc := "(Ljava/lang/String;ILjava/lang/String;Z)V" } : Jvm.MethodName) prog_18_method_1_code (5 : Nat) (Option.none : Option Jvm.ClassFile.FieldType)).before args0 about1 = true := code_word (m := ⟨3, 0⟩) (meth := k3m0) (c := k3c0) (by decide +kernel) rfl rfl rfl (by decide +kernel)
set_option maxRecDepth 65536 in
theorem w_c9 : (Jvm.Cond.code ({ cls := "java/lang/Record", name := "<init>", desc := "()V" } : Jvm.MethodName) jdk_30_method_1_code (1 : Nat) (Option.none : Option Jvm.ClassFile.FieldType)).before args0 about1 = true := code_word (m := ⟨2, 0⟩) (meth := k2m0) (c := k2c0) (by decide +kernel) rfl rfl rfl (by decide +kernel)
set_option maxRecDepth 65536 in
theorem w_c10 : (Jvm.Cond.code ({ cls := "java/util/Objects", name := "requireNonNull", desc := "(Ljava/lang/Object;Ljava/lang/String;)Ljava/lang/Object;" } : Jvm.MethodName) jdk_31_method_11_code (2 : Nat) (Option.some (Jvm.ClassFile.FieldType.object "java/lang/Object"))).before args0 about1 = true := code_word (m := ⟨11, 1⟩) (meth := k11m1) (c := k11c1) (by decide +kernel) rfl rfl rfl (by decide +kernel)
set_option maxRecDepth 65536 in
theorem w_c11 : (Jvm.Cond.code ({ cls := "com/example/clausewright/clausewright/model/Column", name := "isText", desc := "()Z" } : Jvm.MethodName) prog_18_method_5_code (1 : Nat) (Option.some Jvm.ClassFile.FieldType.boolean)).before args0 about1 = true := code_word (m := ⟨3, 1⟩) (meth := k3m1) (c := k3c1) (by decide +kernel) rfl rfl rfl (by decide +kernel)
set_option maxRecDepth 65536 in
theorem w_c12 : (Jvm.Cond.code ({ cls := "com/example/clausewright/clausewright/model/ColumnIsTextPinLaw", name := "expected", desc := "(I)Z" } : Jvm.MethodName) method_4_code (1 : Nat) (Option.some Jvm.ClassFile.FieldType.boolean)).before args0 about1 = true := code_word (m := ⟨1, 3⟩) (meth := k1m3) (c := k1c3) (by decide +kernel) rfl rfl rfl (by decide +kernel)
def codes1 : List Jvm.Cond := [Jvm.Cond.code x code maxLocals ret, Jvm.Cond.code ({ cls := "com/example/clausewright/clausewright/model/ColumnIsTextPinLaw", name := "pick", desc := "(I)I" } : Jvm.MethodName) method_3_code (2 : Nat) (Option.some Jvm.ClassFile.FieldType.int), Jvm.Cond.code ({ cls := "java/lang/String", name := "<init>", desc := "([C)V" } : Jvm.MethodName) jdk_42_method_3_code (2 : Nat) (Option.none : Option Jvm.ClassFile.FieldType), Jvm.Cond.code ({ cls := "java/lang/String", name := "<init>", desc := "([CIILjava/lang/Void;)V" } : Jvm.MethodName) jdk_42_method_149_code (6 : Nat) (Option.none : Option Jvm.ClassFile.FieldType), Jvm.Cond.code ({ cls := "java/lang/Object", name := "<init>", desc := "()V" } : Jvm.MethodName) object_method_1_code (1 : Nat) (Option.none : Option Jvm.ClassFile.FieldType), Jvm.Cond.code ({ cls := "java/lang/StringUTF16", name := "compress", desc := "([CII)[B" } : Jvm.MethodName) jdk_52_method_16_code (6 : Nat) (Option.some (Jvm.ClassFile.FieldType.array Jvm.ClassFile.FieldType.byte)), Jvm.Cond.code ({ cls := "java/lang/StringUTF16", name := "compress", desc := "([CI[BII)I" } : Jvm.MethodName) jdk_52_method_21_code (7 : Nat) (Option.some Jvm.ClassFile.FieldType.int), Jvm.Cond.code ({ cls := "java/lang/StringUTF16", name := "coderFromArrayLen", desc := "([BI)B" } : Jvm.MethodName) jdk_52_method_15_code (2 : Nat) (Option.some Jvm.ClassFile.FieldType.byte), Jvm.Cond.code ({ cls := "com/example/clausewright/clausewright/model/Column", name := "<init>", desc := "(Ljava/lang/String;ILjava/lang/String;Z)V" } : Jvm.MethodName) prog_18_method_1_code (5 : Nat) (Option.none : Option Jvm.ClassFile.FieldType), Jvm.Cond.code ({ cls := "java/lang/Record", name := "<init>", desc := "()V" } : Jvm.MethodName) jdk_30_method_1_code (1 : Nat) (Option.none : Option Jvm.ClassFile.FieldType), Jvm.Cond.code ({ cls := "java/util/Objects", name := "requireNonNull", desc := "(Ljava/lang/Object;Ljava/lang/String;)Ljava/lang/Object;" } : Jvm.MethodName) jdk_31_method_11_code (2 : Nat) (Option.some (Jvm.ClassFile.FieldType.object "java/lang/Object")), Jvm.Cond.code ({ cls := "com/example/clausewright/clausewright/model/Column", name := "isText", desc := "()Z" } : Jvm.MethodName) prog_18_method_5_code (1 : Nat) (Option.some Jvm.ClassFile.FieldType.boolean), Jvm.Cond.code ({ cls := "com/example/clausewright/clausewright/model/ColumnIsTextPinLaw", name := "expected", desc := "(I)Z" } : Jvm.MethodName) method_4_code (1 : Nat) (Option.some Jvm.ClassFile.FieldType.boolean)]
set_option maxRecDepth 65536 in
theorem codes_eq : words1.filter isCode = codes1 := rfl
theorem w_codes : ∀ c ∈ words1.filter isCode, c.before args0 about1 = true := by
  rw [codes_eq]
  intro c hc
  simp only [codes1, List.mem_cons, List.not_mem_nil, or_false] at hc
  rcases hc with rfl | rfl | rfl | rfl | rfl | rfl | rfl | rfl | rfl | rfl | rfl | rfl | rfl
  · exact w_c0
  · exact w_c1
  · exact w_c2
  · exact w_c3
  · exact w_c4
  · exact w_c5
  · exact w_c6
  · exact w_c7
  · exact w_c8
  · exact w_c9
  · exact w_c10
  · exact w_c11
  · exact w_c12
set_option maxRecDepth 65536 in
theorem w_t1 : (words1.take 24).all (fun c => isCode c || c.before args0 about1) = true := by decide +kernel
set_option maxRecDepth 65536 in
theorem w_t2 : ((words1.drop 24).take 24).all (fun c => isCode c || c.before args0 about1) = true := by decide +kernel
set_option maxRecDepth 65536 in
theorem w_t3 : ((words1.drop 24).drop 24).all (fun c => isCode c || c.before args0 about1) = true := by decide +kernel
theorem w_tables : (allAtoms (Jvm.Cond.code x code maxLocals ret :: tables_1)).before args0 about1 = true := by
  rw [allAtoms_all]
  show words1.all (fun c => c.before args0 about1) = true
  refine all_split ?_ w_codes
  rw [← List.take_append_drop 24 words1, List.all_append, w_t1, ← List.take_append_drop 24 (words1.drop 24), List.all_append, w_t2, w_t3]
  rfl
set_option maxRecDepth 65536 in
theorem w_rest : rest_1_c.before args0 about1 = true := by decide +kernel
set_option maxRecDepth 65536 in
theorem w_case : (Jvm.Cond.and given_1 narrow_1).before args0 about1 = true := by decide +kernel
theorem w_applies : (headSpec (Jvm.Cond.code x code maxLocals ret :: tables_1) room_1).applies x e0.platform about1 = true :=
  (Spec.applies_iff w_frames).mpr ⟨w_running, w_runnable, w_alone, w_named, w_hears, w_ripe, w_room, w_tables⟩
theorem atStart : AtStart classFile x code maxLocals ret World_1 tables_1 room_1 Calls_1 rest_1 Pre_1 launch0 p0 e0 about1 theMethod args0 below0 :=
  ⟨lists_1, trivial, launch0.admits_env _ _ _, launch0.least_env, fairChoices_fair.cas, fairChoices_fair.clock, w_frames, w_args, w_heap, w_applies, trivial, w_rest, w_case⟩
end start1
theorem witness_1 : WitnessClaimed_1 := ⟨start1.p0, start1.e0, start1.about1, start1.theMethod, start1.args0, start1.below0, start1.atStart⟩
end Jvm.Pilot.@@N@@
