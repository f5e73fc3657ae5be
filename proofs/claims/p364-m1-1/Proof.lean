import JvmDerived
import JvmDerived.Pilot.@@N@@Statement
import JvmDerived.Pilot.@@N@@Code
set_option linter.unusedVariables false
set_option linter.unusedSimpArgs false
namespace Jvm.RoadKit
open Sem ClassFile Op Lib Jvm.Stand Jvm.Free Jvm.LawKit
section New
variable {p : Program} {l : Launch} {e : Env} {R : Room} {s : State} {m : MethodId} {args : Array Value} {below : List Frame} {meth : Method} {c : Code} {T : State} {locs : List Loc} {cells slots : Nat}
theorem retI (X : Stand p l e R s m args below meth c T locs cells slots) (hx : p.tables.exec = Jvm.exec) {pc : Nat} {Ls : Array Slot} {z : Int32} {rest : List Value} (hret : meth.sig.returnType = some .int) (hd : decode c.code pc = .ok (.ireturn, 1)) {fs : List Frame}
    (hl : ∀ (f : JFrame) (acts : List Action), f.method = m → f.locked = none → f.entered = [] → (doReturn e (T.setTop f) acts (some (.int z))).1 = T.setFrames fs) : Steps p.tables e below (T.setTop (mkF m pc Ls (.int z :: rest))) (T.setFrames fs) :=
  retOut X hx hret rfl (Or.inl ⟨rfl, Or.inl rfl, _, rfl⟩) hd hl
theorem fitsRef {C : String} {v : Value} (h : v.isRef = true) : fits (.object C) v = true := by
  rcases ref_cases h with rfl | ⟨_, rfl⟩ <;> rfl
end New
end Jvm.RoadKit

/- laws to paste: Road.backV, Road.eqW, Road.codOf (cut by pick.py; bodies as the Statement names them) -/
namespace Jvm.Pilot.@@N@@
namespace StrChars
open Jvm Sem ClassFile Op Lib Jvm.Stand Jvm.Free.XT Jvm.Free.ALB Jvm.Free.JM Jvm.Free
open Jvm.Lib.Cold (StaticIs)
/-- a char array whose places are chars -/
def Ch (a : Addr) (A : Cell) (U : State) : Prop := Arr .char a A U ∧ Typed .char A
theorem Ch.mv {a : Addr} {A : Cell} {U U' : State} (h : Ch a A U) (hal : U.vm.Alike U'.vm) (hh : U'.heap = U.heap) : Ch a A U' := ⟨h.1.mv hal hh, h.2⟩
theorem Ch.keep {a : Addr} {A : Cell} {U U' : State} (h : Ch a A U) (hal : U.vm.Alike U'.vm) (hk : U'.heap[a]? = some A) : Ch a A U' := ⟨h.1.keep hal hk, h.2⟩
/-- what place i of a char[]'s cell holds -/
def cv (A : Cell) (i : Nat) : Int32 := match A.slots[i]? with | some (.int x) => x | _ => 0
theorem Ch.get {a : Addr} {A : Cell} {U : State} (h : Ch a A U) {i : Nat} (hi : i < A.slots.size) : A.slots[i]? = some (.int (cv A i)) := by
  have e := Array.getElem?_eq_getElem hi
  have f := h.2 i _ e
  unfold cv; rw [e]
  generalize A.slots[i] = v at f
  cases v <;> simp [fits] at f ⊢
/-- the byte that i2b leaves of a char -/
def lo8 (x : Int32) : Int32 := x.toInt8.toInt32
theorem fits_lo8 (y : Int32) : fits .byte (.int (lo8 y)) = true := by
  have h1 := y.toInt8.le_toInt
  have h2 := y.toInt8.toInt_lt
  simp only [lo8, fits, Bool.and_eq_true, decide_eq_true_eq, Int32.le_iff_toInt_le, Int8.toInt_toInt32, show (-128 : Int32).toInt = -128 from by decide, show (127 : Int32).toInt = 127 from by decide]
  omega
/-- A' is A but that each place j of lo .. hi - 1 holds f j -/
def Laid (A A' : Cell) (lo hi : Nat) (f : Nat → Value) : Prop := A'.cls = A.cls ∧ A'.vm = A.vm ∧ A'.slots.size = A.slots.size ∧ ∀ i, A'.slots[i]? = if lo ≤ i ∧ i < hi then some (f i) else A.slots[i]?
theorem Laid.zero (A : Cell) (lo : Nat) (f : Nat → Value) : Laid A A lo (lo + 0) f := ⟨rfl, rfl, rfl, fun i => by rw [if_neg (by omega)]⟩
theorem Laid.step {A Ak : Cell} {lo k : Nat} {f : Nat → Value} {v : Value} (h : Laid A Ak lo k f) (hlo : lo ≤ k) (hk : k < Ak.slots.size) (hv : v = f k) : Laid A (Ak.setSlot k v) lo (k + 1) f := by
  refine ⟨h.1, h.2.1, by simpa [Cell.setSlot] using h.2.2.1, fun i => ?_⟩
  by_cases e : k = i
  · subst e; rw [Cell.slots_setSlot_self v hk, if_pos (by omega), hv]
  · rw [Cell.slots_setSlot_ne v e, h.2.2.2 i]
    by_cases q : lo ≤ i ∧ i < k
    · rw [if_pos q, if_pos (by omega)]
    · rw [if_neg q, if_neg (by omega)]
def U16 : String := "java/lang/StringUTF16"
namespace Cmp5
def yN : MethodName := ⟨"java/lang/StringUTF16", "compress", "([CI[BII)I"⟩
abbrev yB : ByteArray := jdk_52_method_21_code
theorem d0 : decode yB 0 = .ok (.iconst 0, 1) := by decide +kernel
theorem d1 : decode yB 1 = .ok (.istore 5, 2) := by decide +kernel
theorem d3 : decode yB 3 = .ok (.iload 5, 2) := by decide +kernel
theorem d5 : decode yB 5 = .ok (.iload 4, 2) := by decide +kernel
theorem d7 : decode yB 7 = .ok (.if_icmp (.ge) 37, 3) := by decide +kernel
theorem d10 : decode yB 10 = .ok (.aload_n 0, 1) := by decide +kernel
theorem d11 : decode yB 11 = .ok (.iload_n 1, 1) := by decide +kernel
theorem d12 : decode yB 12 = .ok (.caload, 1) := by decide +kernel
theorem d13 : decode yB 13 = .ok (.istore 6, 2) := by decide +kernel
theorem d15 : decode yB 15 = .ok (.iload 6, 2) := by decide +kernel
theorem d17 : decode yB 17 = .ok (.sipush 255, 3) := by decide +kernel
theorem d20 : decode yB 20 = .ok (.if_icmp (.le) 6, 3) := by decide +kernel
theorem d26 : decode yB 26 = .ok (.aload_n 2, 1) := by decide +kernel
theorem d27 : decode yB 27 = .ok (.iload_n 3, 1) := by decide +kernel
theorem d28 : decode yB 28 = .ok (.iload 6, 2) := by decide +kernel
theorem d30 : decode yB 30 = .ok (.i2b, 1) := by decide +kernel
theorem d31 : decode yB 31 = .ok (.bastore, 1) := by decide +kernel
theorem d32 : decode yB 32 = .ok (.iinc 1 1, 3) := by decide +kernel
theorem d35 : decode yB 35 = .ok (.iinc 3 1, 3) := by decide +kernel
theorem d38 : decode yB 38 = .ok (.iinc 5 1, 3) := by decide +kernel
theorem d41 : decode yB 41 = .ok (.goto (-38), 3) := by decide +kernel
theorem d44 : decode yB 44 = .ok (.iload 4, 2) := by decide +kernel
theorem d46 : decode yB 46 = .ok (.ireturn, 1) := by decide +kernel
def site : List Cond := []
def tab : Cond := tabOf yN yB 7 (some .int) site
def P (b : Addr) (A : Cell) (d : Addr) (B : Cell) (o q len : Nat) (args : Array Value) (s : State) : Prop := args = #[.ref b, .int (Int32.ofNat o), .ref d, .int (Int32.ofNat q), .int (Int32.ofNat len)] ∧ Ch b A s ∧ Arr .byte d B s ∧ b ≠ d ∧ o + len ≤ A.slots.size ∧ q + len ≤ B.slots.size ∧ ∀ i, i < len → ¬ 255 < cv A (o + i)
def E (b : Addr) (A : Cell) (d : Addr) (B : Cell) (o q len : Nat) (r : Option Value) (s u : State) : Prop := r = some (.int (Int32.ofNat len)) ∧ ∃ B', Put d B' s u ∧ Laid B B' q (q + len) (fun j => Value.int (lo8 (cv A (o + (j - q)))))
/-- no char of the range above 255: len; the places written hold each char's low byte -/
theorem law (l : Launch) (b : Addr) (A : Cell) (d : Addr) (B : Cell) (o q len : Nat) : Law l yN 5 5 0 0 yB 7 (some .int) site (P b A d B o q len) (E b A d B o q len) (copyLocs d q len) 0 0 := by
  refine Law.of_walk (plainFor_of_name (by decide +kernel)) (by decide +kernel) (by decide +kernel) (by decide) (fun _ _ h => by rw [h.1]; rfl) (fun _ U U' hal hh h => ⟨h.1, h.2.1.mv hal hh, h.2.2.1.mv hal hh, h.2.2.2⟩) (fun r U U' V V' h1 hal h2 h => ⟨h.1, h.2.elim fun B' q => ⟨B', q.1.mv h1 h2, q.2⟩⟩) ?_
  intro p e s m args below meth c s₁ X0 hexec hbytes hml hret hlk hnm hown hh0 W hP
  obtain ⟨rfl, hA, hB, hne, l1, l2, hp⟩ := hP
  have c1 : Steps p.tables e below (s₁.setTop (entryFrame m #[.ref b, .int (Int32.ofNat o), .ref d, .int (Int32.ofNat q), .int (Int32.ofNat len)] 7)) (s₁.setTop (mkF m 0 #[.val (.ref b), .val (.int (Int32.ofNat o)), .val (.ref d), .val (.int (Int32.ofNat q)), .val (.int (Int32.ofNat len)), .unset, .unset] [])) := entry rfl
  have hA0 := hA.1.mv X0.warmed.alike hh0
  have hB0 := hB.mv X0.warmed.alike hh0
  have a31 := hA.1.2.2.2
  have c2 : Steps p.tables e below (s₁.setTop (entryFrame m #[.ref b, .int (Int32.ofNat o), .ref d, .int (Int32.ofNat q), .int (Int32.ofNat len)] 7)) (s₁.setTop (mkF m 3 #[.val (.ref b), .val (.int (Int32.ofNat o)), .val (.ref d), .val (.int (Int32.ofNat q)), .val (.int (Int32.ofNat len)), .val (.int 0), .unset] [])) := c1.trans (by
    refine iconstV X0.here hexec rfl 0 (hb hbytes d0) (by decide) ?_
    refine XS.istore X0.here hexec rfl (hb hbytes d1) rfl rfl ?_
    exact Steps.refl _)
  have loop : ∀ (r i : Nat), i + r = len → ∀ (z : Slot), (z = .unset ∨ ∃ w, z = .val w ∧ w.category = 1) → ∀ (Tl : State) (Bk : Cell), Stand p l e { frames := 0, locals := 0, cells := 0, slots := 0 } s m #[.ref b, .int (Int32.ofNat o), .ref d, .int (Int32.ofNat q), .int (Int32.ofNat len)] below meth c Tl ([] ++ copyLocs d q i) 0 0 → Put d Bk s₁ Tl → Laid B Bk q (q + i) (fun j => Value.int (lo8 (cv A (o + (j - q))))) →
      Steps p.tables e below (s₁.setTop (entryFrame m #[.ref b, .int (Int32.ofNat o), .ref d, .int (Int32.ofNat q), .int (Int32.ofNat len)] 7)) (Tl.setTop (mkF m 3 #[.val (.ref b), .val (.int (Int32.ofNat (o + i))), .val (.ref d), .val (.int (Int32.ofNat (q + i))), .val (.int (Int32.ofNat len)), .val (.int (Int32.ofNat i)), z] [])) → ∃ (T' : State) (B' : Cell) (z' : Slot), Stand p l e { frames := 0, locals := 0, cells := 0, slots := 0 } s m #[.ref b, .int (Int32.ofNat o), .ref d, .int (Int32.ofNat q), .int (Int32.ofNat len)] below meth c T' ([] ++ copyLocs d q len) 0 0 ∧ Put d B' s₁ T' ∧ Laid B B' q (q + len) (fun j => Value.int (lo8 (cv A (o + (j - q))))) ∧
      Steps p.tables e below (s₁.setTop (entryFrame m #[.ref b, .int (Int32.ofNat o), .ref d, .int (Int32.ofNat q), .int (Int32.ofNat len)] 7)) (T'.setTop (mkF m 3 #[.val (.ref b), .val (.int (Int32.ofNat (o + len))), .val (.ref d), .val (.int (Int32.ofNat (q + len))), .val (.int (Int32.ofNat len)), .val (.int (Int32.ofNat len)), z'] [])) := by
    intro r
    induction r with
    | zero =>
      intro i hi z hz Tl Bk Xl pl fl cl
      have hil : i = len := by omega
      rw [hil] at Xl fl cl
      exact ⟨Tl, Bk, z, Xl, pl, fl, cl⟩
    | succ r ih =>
      intro i hi z hz Tl Bk Xl pl fl cl
      have all := X0.warmed.alike.symm.trans Xl.warmed.alike
      have hAl := hA0.keep all (pl.other hne hA0.1)
      have hBk := hB0.like all pl.1 fl.1 fl.2.1 fl.2.2.1
      have hlt : q + i < Bk.slots.size := by rw [fl.2.2.1]; omega
      have c3 : Steps p.tables e below (s₁.setTop (entryFrame m #[.ref b, .int (Int32.ofNat o), .ref d, .int (Int32.ofNat q), .int (Int32.ofNat len)] 7)) (Tl.setTop (mkF m 12 #[.val (.ref b), .val (.int (Int32.ofNat (o + i))), .val (.ref d), .val (.int (Int32.ofNat (q + i))), .val (.int (Int32.ofNat len)), .val (.int (Int32.ofNat i)), z] [.int (Int32.ofNat (o + i)), .ref b])) := cl.trans (by
        refine XS.iload Xl.here hexec rfl (hb hbytes d3) rfl ?_
        refine XS.iload Xl.here hexec rfl (hb hbytes d5) rfl ?_
        refine XS.icmpNo Xl.here hexec rfl (hb hbytes d7) rfl (ii_ge_f (lt32 (by omega) (by omega))) ?_
        refine XS.aloadN Xl.here hexec rfl (hb hbytes d10) rfl rfl ?_
        refine XS.iloadN Xl.here hexec rfl (hb hbytes d11) rfl ?_
        exact Steps.refl _)
      have c4 : Steps p.tables e below (s₁.setTop (entryFrame m #[.ref b, .int (Int32.ofNat o), .ref d, .int (Int32.ofNat q), .int (Int32.ofNat len)] 7)) (Tl.setTop (mkF m 13 #[.val (.ref b), .val (.int (Int32.ofNat (o + i))), .val (.ref d), .val (.int (Int32.ofNat (q + i))), .val (.int (Int32.ofNat len)), .val (.int (Int32.ofNat i)), z] [.int (cv A (o + i))])) := c3.trans (by
        refine Xl.aget hexec hAl rfl (hA.get (i := o + i) (by omega)) rfl rfl (hb hbytes d12) ?_
        exact Steps.refl _)
      have c5 : Steps p.tables e below (s₁.setTop (entryFrame m #[.ref b, .int (Int32.ofNat o), .ref d, .int (Int32.ofNat q), .int (Int32.ofNat len)] 7)) (Tl.setTop (mkF m 15 #[.val (.ref b), .val (.int (Int32.ofNat (o + i))), .val (.ref d), .val (.int (Int32.ofNat (q + i))), .val (.int (Int32.ofNat len)), .val (.int (Int32.ofNat i)), .val (.int (cv A (o + i)))] [])) := c4.trans (by
        refine XS.istoreS Xl.here hexec rfl (hb hbytes d13) rfl rfl hz ?_
        exact Steps.refl _)
      have c6 : Steps p.tables e below (s₁.setTop (entryFrame m #[.ref b, .int (Int32.ofNat o), .ref d, .int (Int32.ofNat q), .int (Int32.ofNat len)] 7)) (Tl.setTop (mkF m 31 #[.val (.ref b), .val (.int (Int32.ofNat (o + i))), .val (.ref d), .val (.int (Int32.ofNat (q + i))), .val (.int (Int32.ofNat len)), .val (.int (Int32.ofNat i)), .val (.int (cv A (o + i)))] [.int (lo8 (cv A (o + i))), .int (Int32.ofNat (q + i)), .ref d])) := c5.trans (by
        refine XS.iload Xl.here hexec rfl (hb hbytes d15) rfl ?_
        refine sipushV Xl.here hexec rfl 255 (hb hbytes d17) (by decide) ?_
        refine XS.icmpYes Xl.here hexec rfl (pc0 := 20) rfl (hb hbytes d20) rfl (ii_le_t (hp i (by omega))) (by decide) rfl ?_
        refine XS.aloadN Xl.here hexec rfl (hb hbytes d26) rfl rfl ?_
        refine XS.iloadN Xl.here hexec rfl (hb hbytes d27) rfl ?_
        refine XS.iload Xl.here hexec rfl (hb hbytes d28) rfl ?_
        refine i2b Xl.here hexec rfl (hb hbytes d30) rfl ?_
        exact Steps.refl _)
      obtain ⟨T7, X7, p7, st7⟩ := Xl.aput hexec hBk rfl hlt rfl (fits_lo8 (cv A (o + i))) (g := (mkF m 31 #[.val (.ref b), .val (.int (Int32.ofNat (o + i))), .val (.ref d), .val (.int (Int32.ofNat (q + i))), .val (.int (Int32.ofNat len)), .val (.int (Int32.ofNat i)), .val (.int (cv A (o + i)))] [.int (lo8 (cv A (o + i))), .int (Int32.ofNat (q + i)), .ref d])) rfl (rest := []) rfl (hb hbytes d31)
      have c8 : Steps p.tables e below (s₁.setTop (entryFrame m #[.ref b, .int (Int32.ofNat o), .ref d, .int (Int32.ofNat q), .int (Int32.ofNat len)] 7)) (T7.setTop (mkF m 32 #[.val (.ref b), .val (.int (Int32.ofNat (o + i))), .val (.ref d), .val (.int (Int32.ofNat (q + i))), .val (.int (Int32.ofNat len)), .val (.int (Int32.ofNat i)), .val (.int (cv A (o + i)))] [])) := c6.trans (st7 _ (Steps.refl _))
      have c9 : Steps p.tables e below (s₁.setTop (entryFrame m #[.ref b, .int (Int32.ofNat o), .ref d, .int (Int32.ofNat q), .int (Int32.ofNat len)] 7)) (T7.setTop (mkF m 3 #[.val (.ref b), .val (.int (Int32.ofNat (o + i) + 1)), .val (.ref d), .val (.int (Int32.ofNat (q + i) + 1)), .val (.int (Int32.ofNat len)), .val (.int (Int32.ofNat i + 1)), .val (.int (cv A (o + i)))] [])) := c8.trans (by
        refine iincV X7.here hexec rfl 1 (hb hbytes d32) (by decide) rfl rfl ?_
        refine iincV X7.here hexec rfl 1 (hb hbytes d35) (by decide) rfl rfl ?_
        refine iincV X7.here hexec rfl 1 (hb hbytes d38) (by decide) rfl rfl ?_
        refine XS.goto X7.here hexec rfl (pc0 := 41) rfl (hb hbytes d41) (by decide) rfl ?_
        exact Steps.refl _)
      have c10 : Steps p.tables e below (s₁.setTop (entryFrame m #[.ref b, .int (Int32.ofNat o), .ref d, .int (Int32.ofNat q), .int (Int32.ofNat len)] 7)) (T7.setTop (mkF m 3 #[.val (.ref b), .val (.int (Int32.ofNat (o + (i + 1)))), .val (.ref d), .val (.int (Int32.ofNat (q + (i + 1)))), .val (.int (Int32.ofNat len)), .val (.int (Int32.ofNat (i + 1))), .val (.int (cv A (o + i)))] [])) := by
        have := c9
        rw [succ32, succ32, succ32] at this
        exact this
      exact ih (i + 1) (by omega) _ (Or.inr ⟨_, rfl, rfl⟩) T7 _ (by rw [copyLocs_step, ← List.append_assoc]; exact X7) (pl.trans p7) (fl.step (by omega) hlt (by simp)) c10
  obtain ⟨T9, B9, z9, X9, p9, f9, g9⟩ := loop len 0 (by omega) .unset (Or.inl rfl) s₁ B (by simpa [copyLocs] using X0) ⟨hB0.1, fun _ _ => rfl, rfl⟩ (Laid.zero _ _ _) c2
  have c11 : Steps p.tables e below (s₁.setTop (entryFrame m #[.ref b, .int (Int32.ofNat o), .ref d, .int (Int32.ofNat q), .int (Int32.ofNat len)] 7)) (T9.setTop (mkF m 46 #[.val (.ref b), .val (.int (Int32.ofNat (o + len))), .val (.ref d), .val (.int (Int32.ofNat (q + len))), .val (.int (Int32.ofNat len)), .val (.int (Int32.ofNat len)), z9] [.int (Int32.ofNat len)])) := g9.trans (by
    refine XS.iload X9.here hexec rfl (hb hbytes d3) rfl ?_
    refine XS.iload X9.here hexec rfl (hb hbytes d5) rfl ?_
    refine XS.icmpYes X9.here hexec rfl (pc0 := 7) rfl (hb hbytes d7) rfl (ii_ge_t (nlt32 (by omega) (Nat.le_refl _))) (by decide) rfl ?_
    refine XS.iload X9.here hexec rfl (hb hbytes d44) rfl ?_
    exact Steps.refl _)
  exact ⟨T9, some (.int (Int32.ofNat len)), _, _, _, X9, by simp, rfl, rfl, (fun h => by cases h), ⟨rfl, B9, p9.from hh0, f9⟩, fun fs hl => c11.trans (X9.ireturnOut hexec hret rfl (Or.inl rfl) (hb hbytes d46) hl)⟩
end Cmp5
namespace Cmp3
def yN : MethodName := ⟨"java/lang/StringUTF16", "compress", "([CII)[B"⟩
abbrev yB : ByteArray := jdk_52_method_16_code
theorem d0 : decode yB 0 = .ok (.iload_n 2, 1) := by decide +kernel
theorem d1 : decode yB 1 = .ok (.newarray .byte, 2) := by decide +kernel
theorem d3 : decode yB 3 = .ok (.astore_n 3, 1) := by decide +kernel
theorem d4 : decode yB 4 = .ok (.aload_n 0, 1) := by decide +kernel
theorem d5 : decode yB 5 = .ok (.iload_n 1, 1) := by decide +kernel
theorem d6 : decode yB 6 = .ok (.aload_n 3, 1) := by decide +kernel
theorem d7 : decode yB 7 = .ok (.iconst 0, 1) := by decide +kernel
theorem d8 : decode yB 8 = .ok (.iload_n 2, 1) := by decide +kernel
theorem d9 : decode yB 9 = .ok (.invokestatic 115, 3) := by decide +kernel
theorem d12 : decode yB 12 = .ok (.istore 4, 2) := by decide +kernel
theorem d14 : decode yB 14 = .ok (.iload 4, 2) := by decide +kernel
theorem d16 : decode yB 16 = .ok (.iload_n 2, 1) := by decide +kernel
theorem d17 : decode yB 17 = .ok (.if_icmp (.eq) 40, 3) := by decide +kernel
theorem d57 : decode yB 57 = .ok (.aload_n 3, 1) := by decide +kernel
theorem d58 : decode yB 58 = .ok (.areturn, 1) := by decide +kernel
def site : List Cond := [.arrayClass .byte, Cmp5.tab] ++ staticW U16 115 Cmp5.yN
def tab : Cond := tabOf yN yB 6 (some (.array .byte)) site
def P (b : Addr) (A : Cell) (o len : Nat) (args : Array Value) (s : State) : Prop := args = #[.ref b, .int (Int32.ofNat o), .int (Int32.ofNat len)] ∧ Ch b A s ∧ o + len ≤ A.slots.size ∧ len ≤ 536870912 ∧ ∀ i, i < len → ¬ 255 < cv A (o + i)
def E (b : Addr) (A : Cell) (o len : Nat) (r : Option Value) (s u : State) : Prop := NewArr .byte "[B" len (fun j => .int (lo8 (cv A (o + j)))) r s u ∧ u.heap.size = s.heap.size + 1
/-- no char of the range above 255: a new byte[] of their low bytes -/
theorem law (l : Launch) (b : Addr) (A : Cell) (o len : Nat) : Law l yN 3 3 1 18 yB 6 (some (.array .byte)) site (P b A o len) (E b A o len) [] 1 len := by
  refine Law.of_walk (plainFor_of_name (by decide +kernel)) (by decide +kernel) (by decide +kernel) (by decide) (fun _ _ h => by rw [h.1]; rfl) (fun _ U U' hal hh h => ⟨h.1, h.2.1.mv hal hh, h.2.2⟩) (fun r U U' V V' h1 hal h2 h => ⟨NewArr.mv r U U' V V' h1 hal h2 h.1, by rw [h1, h2]; exact h.2⟩) ?_
  intro p e s m args below meth c s₁ X0 hexec hbytes hml hret hlk hnm hown hh0 W hP
  obtain ⟨rfl, hA, l1, l2, hp⟩ := hP
  have a31 := hA.1.2.2.2
  have c1 : Steps p.tables e below (s₁.setTop (entryFrame m #[.ref b, .int (Int32.ofNat o), .int (Int32.ofNat len)] 6)) (s₁.setTop (mkF m 0 #[.val (.ref b), .val (.int (Int32.ofNat o)), .val (.int (Int32.ofNat len)), .unset, .unset, .unset] [])) := entry rfl
  have c2 : Steps p.tables e below (s₁.setTop (entryFrame m #[.ref b, .int (Int32.ofNat o), .int (Int32.ofNat len)] 6)) (s₁.setTop (mkF m 1 #[.val (.ref b), .val (.int (Int32.ofNat o)), .val (.int (Int32.ofNat len)), .unset, .unset, .unset] [.int (Int32.ofNat len)])) := c1.trans (by
    refine XS.iloadN X0.here hexec rfl (hb hbytes d0) rfl ?_
    exact Steps.refl _)
  obtain ⟨T3, B3, X3, ba3, bs3, bv3, bh3, bf3, st3⟩ := X0.anew hexec (atype := .byte) (wk W (.arrayClass .byte)) rfl (by show len * 1 ≤ _; omega) (by omega) (g := (mkF m 1 #[.val (.ref b), .val (.int (Int32.ofNat o)), .val (.int (Int32.ofNat len)), .unset, .unset, .unset] [.int (Int32.ofNat len)])) rfl (hb hbytes d1) (rest := []) rfl (Nat.le_refl _) (by show 0 + len ≤ len; omega)
  rw [hh0] at ba3 st3
  have kp3 : XT.Kept s T3 := (XT.Kept.of_eq hh0).push bh3
  have hA3 := hA.keep X3.warmed.alike (kp3 _ _ hA.1.1)
  have hne : b ≠ s.heap.size := hA.1.ne
  have c4 : Steps p.tables e below (s₁.setTop (entryFrame m #[.ref b, .int (Int32.ofNat o), .int (Int32.ofNat len)] 6)) (T3.setTop (mkF m 3 #[.val (.ref b), .val (.int (Int32.ofNat o)), .val (.int (Int32.ofNat len)), .unset, .unset, .unset] [.ref s.heap.size])) := c2.trans (st3 _ (Steps.refl _))
  have c5 : Steps p.tables e below (s₁.setTop (entryFrame m #[.ref b, .int (Int32.ofNat o), .int (Int32.ofNat len)] 6)) (T3.setTop (mkF m 9 #[.val (.ref b), .val (.int (Int32.ofNat o)), .val (.int (Int32.ofNat len)), .val (.ref s.heap.size), .unset, .unset] [.int (Int32.ofNat len), .int 0, .ref s.heap.size, .int (Int32.ofNat o), .ref b])) := c4.trans (by
    refine XS.astoreN X3.here hexec rfl (hb hbytes d3) rfl rfl rfl ?_
    refine XS.aloadN X3.here hexec rfl (hb hbytes d4) rfl rfl ?_
    refine XS.iloadN X3.here hexec rfl (hb hbytes d5) rfl ?_
    refine XS.aloadN X3.here hexec rfl (hb hbytes d6) rfl rfl ?_
    refine iconstV X3.here hexec rfl 0 (hb hbytes d7) (by decide) ?_
    refine XS.iloadN X3.here hexec rfl (hb hbytes d8) rfl ?_
    exact Steps.refl _)
  obtain ⟨v6, T6, X6, E6, g6⟩ := X3.callS hexec (Cmp5.law l b A s.heap.size B3 o 0 len) hown (wks W (staticW U16 115 Cmp5.yN)) (wk W Cmp5.tab) (W := 0) (Nat.le_of_ble_eq_true rfl) (Nat.le_of_ble_eq_true rfl) (Nat.le_refl _) (by show 0 + len + 0 ≤ len; omega) (g := (mkF m 9 #[.val (.ref b), .val (.int (Int32.ofNat o)), .val (.int (Int32.ofNat len)), .val (.ref s.heap.size), .unset, .unset] [.int (Int32.ofNat len), .int (Int32.ofNat 0), .ref s.heap.size, .int (Int32.ofNat o), .ref b])) rfl (by rw [hml]; rfl) c5 (argsL := [.ref b, .int (Int32.ofNat o), .ref s.heap.size, .int (Int32.ofNat 0), .int (Int32.ofNat len)]) (rest := []) rfl rfl (by show 2 * 0 + 0 ≤ _; decide) (hb hbytes d9) (⟨rfl, hA3, ba3, hne, l1, by rw [bs3]; simp, hp⟩)
  obtain ⟨rfl, B6, p6, f6⟩ := E6
  have c7 : Steps p.tables e below (s₁.setTop (entryFrame m #[.ref b, .int (Int32.ofNat o), .int (Int32.ofNat len)] 6)) (T6.setTop (mkF m 12 #[.val (.ref b), .val (.int (Int32.ofNat o)), .val (.int (Int32.ofNat len)), .val (.ref s.heap.size), .unset, .unset] [.int (Int32.ofNat len)])) := g6
  have c8 : Steps p.tables e below (s₁.setTop (entryFrame m #[.ref b, .int (Int32.ofNat o), .int (Int32.ofNat len)] 6)) (T6.setTop (mkF m 58 #[.val (.ref b), .val (.int (Int32.ofNat o)), .val (.int (Int32.ofNat len)), .val (.ref s.heap.size), .val (.int (Int32.ofNat len)), .unset] [.ref s.heap.size])) := c7.trans (by
    refine XS.istore X6.here hexec rfl (hb hbytes d12) rfl rfl ?_
    refine XS.iload X6.here hexec rfl (hb hbytes d14) rfl ?_
    refine XS.iloadN X6.here hexec rfl (hb hbytes d16) rfl ?_
    refine XS.icmpYes X6.here hexec rfl (pc0 := 17) rfl (hb hbytes d17) rfl (ii_eq_t rfl) (by decide) rfl ?_
    refine XS.aloadN X6.here hexec rfl (hb hbytes d57) rfl rfl ?_
    exact Steps.refl _)
  have X8 := X6.wide (L' := []) (cells' := 1) (slots' := len) (fun x hx hlt => by
    simp only [List.nil_append, copyLocs, List.mem_map, List.mem_range] at hx
    obtain ⟨i, -, rfl⟩ := hx
    exact absurd hlt (Nat.lt_irrefl _)) (Nat.le_refl _) (by omega)
  exact ⟨T6, some (.ref s.heap.size), _, _, _, X8, rfl, rfl, rfl, (fun h => by cases h), ⟨⟨rfl, B6, ba3.like (X3.warmed.alike.symm.trans X6.warmed.alike) p6.1 f6.1 f6.2.1 f6.2.2.1, f6.2.1.trans bv3, by rw [X6.warmed.alike.findClass, f6.1]; exact bf3, by rw [f6.2.2.1, bs3]; simp, fun j hj => by rw [f6.2.2.2 j, if_pos (by omega)]; rfl, kp3.put p6 (Nat.le_refl _)⟩, by rw [p6.2.2, bh3, hh0]; simp⟩, fun fs hl => c8.trans (X8.areturnOut hexec rfl hret rfl (hb hbytes d58) hl)⟩
end Cmp3
namespace CodL
def yN : MethodName := ⟨"java/lang/StringUTF16", "coderFromArrayLen", "([BI)B"⟩
abbrev yB : ByteArray := jdk_52_method_15_code
theorem d0 : decode yB 0 = .ok (.iload_n 1, 1) := by decide +kernel
theorem d1 : decode yB 1 = .ok (.aload_n 0, 1) := by decide +kernel
theorem d2 : decode yB 2 = .ok (.arraylength, 1) := by decide +kernel
theorem d3 : decode yB 3 = .ok (.isub, 1) := by decide +kernel
theorem d4 : decode yB 4 = .ok (.bipush 31, 2) := by decide +kernel
theorem d6 : decode yB 6 = .ok (.iushr, 1) := by decide +kernel
theorem d7 : decode yB 7 = .ok (.i2b, 1) := by decide +kernel
theorem d8 : decode yB 8 = .ok (.ireturn, 1) := by decide +kernel
def site : List Cond := []
def tab : Cond := tabOf yN yB 2 (some .byte) site
def P (d : Addr) (B : Cell) (args : Array Value) (s : State) : Prop := args = #[.ref d, .int (Int32.ofNat B.slots.size)] ∧ Arr .byte d B s
def E (r : Option Value) (s u : State) : Prop := XT.PureE (some (.int 0)) r s u
/-- an array as long as the number of chars: LATIN1 -/
theorem law (l : Launch) (d : Addr) (B : Cell) : Law l yN 2 2 0 0 yB 2 (some .byte) site (P d B) E [] 0 0 := by
  refine Law.of_walk (plainFor_of_name (by decide +kernel)) (by decide +kernel) (by decide +kernel) (by decide) (fun _ _ h => by rw [h.1]; rfl) (fun _ U U' hal hh h => ⟨h.1, h.2.mv hal hh⟩) (fun r U U' V V' h1 hal h2 h => XT.PureE.mv r U U' V V' h1 hal h2 h) ?_
  intro p e s m args below meth c s₁ X0 hexec hbytes hml hret hlk hnm hown hh0 W hP
  obtain ⟨rfl, hB⟩ := hP
  have hB0 := hB.mv X0.warmed.alike hh0
  have c1 : Steps p.tables e below (s₁.setTop (entryFrame m #[.ref d, .int (Int32.ofNat B.slots.size)] 2)) (s₁.setTop (mkF m 0 #[.val (.ref d), .val (.int (Int32.ofNat B.slots.size))] [])) := entry rfl
  have c2 : Steps p.tables e below (s₁.setTop (entryFrame m #[.ref d, .int (Int32.ofNat B.slots.size)] 2)) (s₁.setTop (mkF m 2 #[.val (.ref d), .val (.int (Int32.ofNat B.slots.size))] [.ref d, .int (Int32.ofNat B.slots.size)])) := c1.trans (by
    refine XS.iloadN X0.here hexec rfl (hb hbytes d0) rfl ?_
    refine XS.aloadN X0.here hexec rfl (hb hbytes d1) rfl rfl ?_
    exact Steps.refl _)
  have c3 : Steps p.tables e below (s₁.setTop (entryFrame m #[.ref d, .int (Int32.ofNat B.slots.size)] 2)) (s₁.setTop (mkF m 8 #[.val (.ref d), .val (.int (Int32.ofNat B.slots.size))] [.int (lo8 (ushr (Int32.ofNat B.slots.size - Int32.ofNat B.slots.size) 31))])) := c2.trans (by
    refine X0.alen hexec hB0 rfl rfl (hb hbytes d2) ?_
    refine XS.isub X0.here hexec rfl (hb hbytes d3) rfl ?_
    refine bipushV X0.here hexec rfl 31 (hb hbytes d4) (by decide) ?_
    refine iushr X0.here hexec rfl (hb hbytes d6) rfl ?_
    refine i2b X0.here hexec rfl (hb hbytes d7) rfl ?_
    exact Steps.refl _)
  have e0 : lo8 (ushr (Int32.ofNat B.slots.size - Int32.ofNat B.slots.size) 31) = 0 := by rw [Int32.sub_self]; decide
  rw [e0] at c3
  exact ⟨s₁, some (.int 0), _, _, _, X0, rfl, rfl, rfl, (fun h => by cases h), ⟨rfl, hh0⟩, fun fs hl => c3.trans (X0.ireturnOut hexec hret rfl (Or.inr (Or.inr (Or.inl rfl))) (hb hbytes d8) hl)⟩
end CodL
/-- the String at a is Latin-1 over a new byte[] (the heap's one new cell): the low bytes of the len chars of A from o on; every cell but a is kept -/
def Got (a : Addr) (D : Cell) (fV fC : Field) (A : Cell) (o len : Nat) (r : Option Value) (s u : State) : Prop := r = none ∧ ∃ D' V : Cell, Blank "java/lang/String" a D' u ∧ Same D D' [fV.slot, fC.slot] ∧ D'.slots[fV.slot]? = some (.ref s.heap.size) ∧ D'.slots[fC.slot]? = some (.int 0) ∧ Arr .byte s.heap.size V u ∧ V.vm = .none ∧ u.vm.findClass "[B" = some V.cls ∧ V.slots.size = len ∧ (∀ j, j < len → V.slots[j]? = some (.int (lo8 (cv A (o + j))))) ∧ (∀ (y : Addr) (c : Cell), y ≠ a → s.heap[y]? = some c → u.heap[y]? = some c) ∧ u.heap.size = s.heap.size + 1
theorem Got.mv {a : Addr} {D A : Cell} {fV fC : Field} {o len : Nat} : ∀ r (U U' V V' : State), U'.heap = U.heap → V.vm.Alike V'.vm → V'.heap = V.heap → Got a D fV fC A o len r U V → Got a D fV fC A o len r U' V' :=
  fun r U U' V V' h1 hal h2 ⟨e0, D', X, a1, a2, a3, a4, a5, a6, a7, a8, a9, a10, a11⟩ => ⟨e0, D', X, a1.mv hal h2, a2, by rw [h1]; exact a3, a4, by rw [h1]; exact a5.mv hal h2, a6, by rw [hal.findClass]; exact a7, a8, a9, by rw [h1, h2]; exact a10, by rw [h1, h2]; exact a11⟩
namespace New4
def yN : MethodName := ⟨"java/lang/String", "<init>", "([CIILjava/lang/Void;)V"⟩
abbrev yB : ByteArray := jdk_42_method_149_code
theorem d0 : decode yB 0 = .ok (.aload_n 0, 1) := by decide +kernel
theorem d1 : decode yB 1 = .ok (.invokespecial 1, 3) := by decide +kernel
theorem d4 : decode yB 4 = .ok (.iload_n 3, 1) := by decide +kernel
theorem d5 : decode yB 5 = .ok (.ifCond (.ne) 22, 3) := by decide +kernel
theorem d27 : decode yB 27 = .ok (.getstatic 38, 3) := by decide +kernel
theorem d30 : decode yB 30 = .ok (.ifCond (.eq) 28, 3) := by decide +kernel
theorem d33 : decode yB 33 = .ok (.aload_n 1, 1) := by decide +kernel
theorem d34 : decode yB 34 = .ok (.iload_n 2, 1) := by decide +kernel
theorem d35 : decode yB 35 = .ok (.iload_n 3, 1) := by decide +kernel
theorem d36 : decode yB 36 = .ok (.invokestatic 177, 3) := by decide +kernel
theorem d39 : decode yB 39 = .ok (.astore 5, 2) := by decide +kernel
theorem d41 : decode yB 41 = .ok (.aload_n 0, 1) := by decide +kernel
theorem d42 : decode yB 42 = .ok (.aload 5, 2) := by decide +kernel
theorem d44 : decode yB 44 = .ok (.iload_n 3, 1) := by decide +kernel
theorem d45 : decode yB 45 = .ok (.invokestatic 47, 3) := by decide +kernel
theorem d48 : decode yB 48 = .ok (.putfield 15, 3) := by decide +kernel
theorem d51 : decode yB 51 = .ok (.aload_n 0, 1) := by decide +kernel
theorem d52 : decode yB 52 = .ok (.aload 5, 2) := by decide +kernel
theorem d54 : decode yB 54 = .ok (.putfield 9, 3) := by decide +kernel
theorem d57 : decode yB 57 = .ok (.return_, 1) := by decide +kernel
def site : List Cond := [.fieldLink "java/lang/String" 38 "java/lang/String" "COMPACT_STRINGS" "Z", Cmp3.tab, CodL.tab, .laysFinal "java/lang/String" "java/lang/String" "value" "[B", .fieldLink "java/lang/String" 9 "java/lang/String" "value" "[B", .laysFinal "java/lang/String" "java/lang/String" "coder" "B", .fieldLink "java/lang/String" 15 "java/lang/String" "coder" "B"] ++ objW "java/lang/String" 1 ++ staticW "java/lang/String" 177 Cmp3.yN ++ staticW "java/lang/String" 47 CodL.yN
def tab : Cond := tabOf yN yB 6 none site
def P (a : Addr) (D : Cell) (fV fC : Field) (b : Addr) (A : Cell) (z : Int32) (o len : Nat) (args : Array Value) (s : State) : Prop := args = #[.ref a, .ref b, .int (Int32.ofNat o), .int (Int32.ofNat len), .null] ∧ Blank "java/lang/String" a D s ∧ Found "java/lang/String" "value" "[B" fV s ∧ Found "java/lang/String" "coder" "B" fC s ∧ Ch b A s ∧ StaticIs s "java/lang/String" "COMPACT_STRINGS" "Z" (.int z) ∧ ¬ z = 0 ∧ 0 < len ∧ o + len ≤ A.slots.size ∧ len ≤ 536870912 ∧ ∀ i, i < len → ¬ 255 < cv A (o + i)
def E (a : Addr) (D : Cell) (fV fC : Field) (A : Cell) (o len : Nat) (r : Option Value) (s u : State) : Prop := Got a D fV fC A o len r s u
/-- len > 0, no char of the range above 255: a Latin-1 String of their low bytes -/
theorem law (l : Launch) (a : Addr) (D : Cell) (fV fC : Field) (b : Addr) (A : Cell) (z : Int32) (o len : Nat) : Law l yN 5 4 2 35 yB 6 none site (P a D fV fC b A z o len) (E a D fV fC A o len) [⟨a, fC.slot⟩, ⟨a, fV.slot⟩] 1 len := by
  refine Law.of_walk (plainFor_of_name (by decide +kernel)) (by decide +kernel) (by decide +kernel) (by decide) (fun _ _ h => by rw [h.1]; rfl) (fun _ U U' hal hh h => ⟨h.1, h.2.1.mv hal hh, h.2.2.1.al hal, h.2.2.2.1.al hal, h.2.2.2.2.1.mv hal hh, h.2.2.2.2.2.1.there hal hh, h.2.2.2.2.2.2⟩) (fun r U U' V V' h1 hal h2 h => Got.mv r U U' V V' h1 hal h2 h) ?_
  intro p e s m args below meth c s₁ X0 hexec hbytes hml hret hlk hnm hown hh0 W hP
  obtain ⟨rfl, hB, f1, f2, hA, s1, hz, l0, l1, l2, hp⟩ := hP
  have a31 := hA.1.2.2.2
  have c1 : Steps p.tables e below (s₁.setTop (entryFrame m #[.ref a, .ref b, .int (Int32.ofNat o), .int (Int32.ofNat len), .null] 6)) (s₁.setTop (mkF m 0 #[.val (.ref a), .val (.ref b), .val (.int (Int32.ofNat o)), .val (.int (Int32.ofNat len)), .val .null, .unset] [])) := entry rfl
  have c2 : Steps p.tables e below (s₁.setTop (entryFrame m #[.ref a, .ref b, .int (Int32.ofNat o), .int (Int32.ofNat len), .null] 6)) (s₁.setTop (mkF m 1 #[.val (.ref a), .val (.ref b), .val (.int (Int32.ofNat o)), .val (.int (Int32.ofNat len)), .val .null, .unset] [.ref a])) := c1.trans (by
    refine XS.aloadN X0.here hexec rfl (hb hbytes d0) rfl rfl ?_
    exact Steps.refl _)
  obtain ⟨T3, X3, q3, st3⟩ := X0.oinit hexec hown (wks W (objW "java/lang/String" 1)) (g := (mkF m 1 #[.val (.ref a), .val (.ref b), .val (.int (Int32.ofNat o)), .val (.int (Int32.ofNat len)), .val .null, .unset] [.ref a])) rfl (by rw [hml]; rfl) (rest := []) rfl (hb hbytes d1) (W := 0) (by show 2 * 0 + 0 ≤ _; decide) (Nat.le_of_ble_eq_true rfl) (Nat.le_of_ble_eq_true rfl)
  have hh3 := q3.trans hh0
  have c4 : Steps p.tables e below (s₁.setTop (entryFrame m #[.ref a, .ref b, .int (Int32.ofNat o), .int (Int32.ofNat len), .null] 6)) (T3.setTop (mkF m 27 #[.val (.ref a), .val (.ref b), .val (.int (Int32.ofNat o)), .val (.int (Int32.ofNat len)), .val .null, .unset] [])) := (c2.trans (st3 _ (Steps.refl _))).trans (by
    refine XS.iloadN X3.here hexec rfl (hb hbytes d4) rfl ?_
    refine XS.ifYes X3.here hexec rfl (pc0 := 5) rfl (hb hbytes d5) rfl (i0_ne_t (nz32 (by omega) l0)) (by decide) rfl ?_
    exact Steps.refl _)
  obtain ⟨T5, X5, q5, st5⟩ := X3.sget hexec hown (wk W (.fieldLink "java/lang/String" 38 "java/lang/String" "COMPACT_STRINGS" "Z")) s1 (fun _ _ h => by rw [hh3]; exact h) (g := (mkF m 27 #[.val (.ref a), .val (.ref b), .val (.int (Int32.ofNat o)), .val (.int (Int32.ofNat len)), .val .null, .unset] [])) rfl (hb hbytes d27)
  have hh5 := q5.trans hh3
  have c6 : Steps p.tables e below (s₁.setTop (entryFrame m #[.ref a, .ref b, .int (Int32.ofNat o), .int (Int32.ofNat len), .null] 6)) (T5.setTop (mkF m 30 #[.val (.ref a), .val (.ref b), .val (.int (Int32.ofNat o)), .val (.int (Int32.ofNat len)), .val .null, .unset] [.int z])) := c4.trans (st5 _ (Steps.refl _))
  have c7 : Steps p.tables e below (s₁.setTop (entryFrame m #[.ref a, .ref b, .int (Int32.ofNat o), .int (Int32.ofNat len), .null] 6)) (T5.setTop (mkF m 36 #[.val (.ref a), .val (.ref b), .val (.int (Int32.ofNat o)), .val (.int (Int32.ofNat len)), .val .null, .unset] [.int (Int32.ofNat len), .int (Int32.ofNat o), .ref b])) := c6.trans (by
    refine XS.ifNo X5.here hexec rfl (hb hbytes d30) rfl (i0_eq_f hz) ?_
    refine XS.aloadN X5.here hexec rfl (hb hbytes d33) rfl rfl ?_
    refine XS.iloadN X5.here hexec rfl (hb hbytes d34) rfl ?_
    refine XS.iloadN X5.here hexec rfl (hb hbytes d35) rfl ?_
    exact Steps.refl _)
  obtain ⟨v8, T8, X8, E8, g8⟩ := X5.callS hexec (Cmp3.law l b A o len) hown (wks W (staticW "java/lang/String" 177 Cmp3.yN)) (wk W Cmp3.tab) (W := 0) (Nat.le_of_ble_eq_true rfl) (Nat.le_of_ble_eq_true rfl) (Nat.le_refl _) (by show 0 + len ≤ len; omega) (g := (mkF m 36 #[.val (.ref a), .val (.ref b), .val (.int (Int32.ofNat o)), .val (.int (Int32.ofNat len)), .val .null, .unset] [.int (Int32.ofNat len), .int (Int32.ofNat o), .ref b])) rfl (by rw [hml]; rfl) c7 (argsL := [.ref b, .int (Int32.ofNat o), .int (Int32.ofNat len)]) (rest := []) rfl rfl (by show 2 * 0 + 0 ≤ _; decide) (hb hbytes d36) (⟨rfl, hA.mv X5.warmed.alike hh5, l1, l2, hp⟩)
  obtain ⟨e8, z8⟩ := E8
  obtain ⟨rfl, N, n1, n2, n3, n4, n5, n6⟩ := NewArr.mv _ T5 s _ _ hh5.symm (Vm.Alike.refl _) rfl e8
  rw [hh5] at z8
  have hB1 := hB.keep X8.warmed.alike (n6 _ _ hB.1)
  have hne : s.heap.size ≠ a := (Nat.ne_of_lt (Array.getElem?_eq_some_iff.mp hB.1).1).symm
  have c9 : Steps p.tables e below (s₁.setTop (entryFrame m #[.ref a, .ref b, .int (Int32.ofNat o), .int (Int32.ofNat len), .null] 6)) (T8.setTop (mkF m 39 #[.val (.ref a), .val (.ref b), .val (.int (Int32.ofNat o)), .val (.int (Int32.ofNat len)), .val .null, .unset] [.ref s.heap.size])) := g8
  have c10 : Steps p.tables e below (s₁.setTop (entryFrame m #[.ref a, .ref b, .int (Int32.ofNat o), .int (Int32.ofNat len), .null] 6)) (T8.setTop (mkF m 45 #[.val (.ref a), .val (.ref b), .val (.int (Int32.ofNat o)), .val (.int (Int32.ofNat len)), .val .null, .val (.ref s.heap.size)] [.int (Int32.ofNat N.slots.size), .ref s.heap.size, .ref a])) := by
    have hc : Steps p.tables e below (s₁.setTop (entryFrame m #[.ref a, .ref b, .int (Int32.ofNat o), .int (Int32.ofNat len), .null] 6)) (T8.setTop (mkF m 45 #[.val (.ref a), .val (.ref b), .val (.int (Int32.ofNat o)), .val (.int (Int32.ofNat len)), .val .null, .val (.ref s.heap.size)] [.int (Int32.ofNat len), .ref s.heap.size, .ref a])) := c9.trans (by
      refine XS.astore X8.here hexec rfl (hb hbytes d39) rfl rfl rfl ?_
      refine XS.aloadN X8.here hexec rfl (hb hbytes d41) rfl rfl ?_
      refine XS.aload X8.here hexec rfl (hb hbytes d42) rfl rfl ?_
      refine XS.iloadN X8.here hexec rfl (hb hbytes d44) rfl ?_
      exact Steps.refl _)
    rw [n4]; exact hc
  obtain ⟨v11, T11, X11, E11, g11⟩ := X8.callS hexec (CodL.law l s.heap.size N) hown (wks W (staticW "java/lang/String" 47 CodL.yN)) (wk W CodL.tab) (W := 1) (Nat.le_of_ble_eq_true rfl) (Nat.le_of_ble_eq_true rfl) (Nat.le_refl _) (by show 0 + len + 0 ≤ len; omega) (g := (mkF m 45 #[.val (.ref a), .val (.ref b), .val (.int (Int32.ofNat o)), .val (.int (Int32.ofNat len)), .val .null, .val (.ref s.heap.size)] [.int (Int32.ofNat N.slots.size), .ref s.heap.size, .ref a])) rfl (by rw [hml]; rfl) c10 (argsL := [.ref s.heap.size, .int (Int32.ofNat N.slots.size)]) (rest := [.ref a]) rfl rfl (by show 2 * 0 + (1 + 0) ≤ _; decide) (hb hbytes d45) (⟨rfl, n1⟩)
  obtain ⟨rfl, q11⟩ := E11
  have hB11 := hB1.mv (X8.warmed.alike.symm.trans X11.warmed.alike) q11
  have c12 : Steps p.tables e below (s₁.setTop (entryFrame m #[.ref a, .ref b, .int (Int32.ofNat o), .int (Int32.ofNat len), .null] 6)) (T11.setTop (mkF m 48 #[.val (.ref a), .val (.ref b), .val (.int (Int32.ofNat o)), .val (.int (Int32.ofNat len)), .val .null, .val (.ref s.heap.size)] [.int 0, .ref a])) := g11
  obtain ⟨T13, X13, p13, bl13, sl13, st13⟩ := X11.finit hexec hown (wk W (.fieldLink "java/lang/String" 15 "java/lang/String" "coder" "B")) (Or.inr ⟨_, (wk W (.laysFinal "java/lang/String" "java/lang/String" "coder" "B"))⟩) (Or.inl ⟨rfl, hnm⟩) f2 (Or.inl rfl) hB11 (t := .byte) (by decide +kernel) rfl (g := (mkF m 48 #[.val (.ref a), .val (.ref b), .val (.int (Int32.ofNat o)), .val (.int (Int32.ofNat len)), .val .null, .val (.ref s.heap.size)] [.int 0, .ref a])) rfl (rest := []) rfl (hb hbytes d48)
  have c14 : Steps p.tables e below (s₁.setTop (entryFrame m #[.ref a, .ref b, .int (Int32.ofNat o), .int (Int32.ofNat len), .null] 6)) (T13.setTop (mkF m 54 #[.val (.ref a), .val (.ref b), .val (.int (Int32.ofNat o)), .val (.int (Int32.ofNat len)), .val .null, .val (.ref s.heap.size)] [.ref s.heap.size, .ref a])) := (c12.trans (st13 _ (Steps.refl _))).trans (by
    refine XS.aloadN X13.here hexec rfl (hb hbytes d51) rfl rfl ?_
    refine XS.aload X13.here hexec rfl (hb hbytes d52) rfl rfl ?_
    exact Steps.refl _)
  obtain ⟨T15, X15, p15, bl15, sl15, st15⟩ := X13.finit hexec hown (wk W (.fieldLink "java/lang/String" 9 "java/lang/String" "value" "[B")) (Or.inr ⟨_, (wk W (.laysFinal "java/lang/String" "java/lang/String" "value" "[B"))⟩) (Or.inl ⟨rfl, hnm⟩) f1 (Or.inl rfl) bl13 (t := (.array .byte)) (by decide +kernel) rfl (g := (mkF m 54 #[.val (.ref a), .val (.ref b), .val (.int (Int32.ofNat o)), .val (.int (Int32.ofNat len)), .val .null, .val (.ref s.heap.size)] [.ref s.heap.size, .ref a])) rfl (rest := []) rfl (hb hbytes d54)
  have c16 : Steps p.tables e below (s₁.setTop (entryFrame m #[.ref a, .ref b, .int (Int32.ofNat o), .int (Int32.ofNat len), .null] 6)) (T15.setTop (mkF m 57 #[.val (.ref a), .val (.ref b), .val (.int (Int32.ofNat o)), .val (.int (Int32.ofNat len)), .val .null, .val (.ref s.heap.size)] [])) := c14.trans (st15 _ (Steps.refl _))
  have ap := apart (Or.inr ⟨_, (wk W (.laysFinal "java/lang/String" "java/lang/String" "value" "[B"))⟩) (Or.inr ⟨_, (wk W (.laysFinal "java/lang/String" "java/lang/String" "coder" "B"))⟩) f1 f2 (t₁ := .array .byte) (t₂ := .byte) (by decide +kernel) (by decide +kernel) (by decide)
  have al := X8.warmed.alike.symm.trans X15.warmed.alike
  have n7 : T11.heap[s.heap.size]? = some N := by rw [q11]; exact n1.1
  exact ⟨T15, none, _, _, _, X15, by simp, rfl, by omega, (fun _ => rfl), ⟨rfl, _, N, bl15, ((Same.refl D _).set _ (by simp)).set _ (by simp), sl15, (Cell.slots_setSlot_ne _ ap).trans sl13, n1.keep al (p15.other hne (p13.other hne n7)), n2, by rw [al.findClass]; exact n3, n4, n5, fun y c h1 h2 => p15.other h1 (p13.other h1 (by rw [q11]; exact n6 y c h2)), by rw [p15.2.2, p13.2.2, q11]; exact z8⟩, fun fs hl => c16.trans (X15.returnOut hexec hret (hb hbytes d57) hl)⟩
end New4
namespace New1
def yN : MethodName := ⟨"java/lang/String", "<init>", "([C)V"⟩
abbrev yB : ByteArray := jdk_42_method_3_code
theorem d0 : decode yB 0 = .ok (.aload_n 0, 1) := by decide +kernel
theorem d1 : decode yB 1 = .ok (.aload_n 1, 1) := by decide +kernel
theorem d2 : decode yB 2 = .ok (.iconst 0, 1) := by decide +kernel
theorem d3 : decode yB 3 = .ok (.aload_n 1, 1) := by decide +kernel
theorem d4 : decode yB 4 = .ok (.arraylength, 1) := by decide +kernel
theorem d5 : decode yB 5 = .ok (.aconst_null, 1) := by decide +kernel
theorem d6 : decode yB 6 = .ok (.invokespecial 27, 3) := by decide +kernel
theorem d9 : decode yB 9 = .ok (.return_, 1) := by decide +kernel
def site : List Cond := [New4.tab] ++ initW "java/lang/String" 27 New4.yN
def tab : Cond := tabOf yN yB 2 none site
def P (a : Addr) (D : Cell) (fV fC : Field) (b : Addr) (A : Cell) (z : Int32) (args : Array Value) (s : State) : Prop := args = #[.ref a, .ref b] ∧ Blank "java/lang/String" a D s ∧ Found "java/lang/String" "value" "[B" fV s ∧ Found "java/lang/String" "coder" "B" fC s ∧ Ch b A s ∧ StaticIs s "java/lang/String" "COMPACT_STRINGS" "Z" (.int z) ∧ ¬ z = 0 ∧ 0 < A.slots.size ∧ A.slots.size ≤ 536870912 ∧ ∀ i, i < A.slots.size → ¬ 255 < cv A i
def E (a : Addr) (D : Cell) (fV fC : Field) (A : Cell) (r : Option Value) (s u : State) : Prop := Got a D fV fC A 0 A.slots.size r s u
/-- new String(chars), not empty, no char above 255: a Latin-1 String of their low bytes -/
theorem law (l : Launch) (a : Addr) (D : Cell) (fV fC : Field) (b : Addr) (A : Cell) (z : Int32) : Law l yN 2 1 3 52 yB 2 none site (P a D fV fC b A z) (E a D fV fC A) [⟨a, fC.slot⟩, ⟨a, fV.slot⟩] 1 A.slots.size := by
  refine Law.of_walk (plainFor_of_name (by decide +kernel)) (by decide +kernel) (by decide +kernel) (by decide) (fun _ _ h => by rw [h.1]; rfl) (fun _ U U' hal hh h => ⟨h.1, h.2.1.mv hal hh, h.2.2.1.al hal, h.2.2.2.1.al hal, h.2.2.2.2.1.mv hal hh, h.2.2.2.2.2.1.there hal hh, h.2.2.2.2.2.2⟩) (fun r U U' V V' h1 hal h2 h => Got.mv r U U' V V' h1 hal h2 h) ?_
  intro p e s m args below meth c s₁ X0 hexec hbytes hml hret hlk hnm hown hh0 W hP
  obtain ⟨rfl, hB, f1, f2, hA, s1, hz, l0, l2, hp⟩ := hP
  have c1 : Steps p.tables e below (s₁.setTop (entryFrame m #[.ref a, .ref b] 2)) (s₁.setTop (mkF m 0 #[.val (.ref a), .val (.ref b)] [])) := entry rfl
  have c2 : Steps p.tables e below (s₁.setTop (entryFrame m #[.ref a, .ref b] 2)) (s₁.setTop (mkF m 6 #[.val (.ref a), .val (.ref b)] [.null, .int (Int32.ofNat A.slots.size), .int 0, .ref b, .ref a])) := c1.trans (by
    refine XS.aloadN X0.here hexec rfl (hb hbytes d0) rfl rfl ?_
    refine XS.aloadN X0.here hexec rfl (hb hbytes d1) rfl rfl ?_
    refine iconstV X0.here hexec rfl 0 (hb hbytes d2) (by decide) ?_
    refine XS.aloadN X0.here hexec rfl (hb hbytes d3) rfl rfl ?_
    refine X0.alen hexec (hA.1.mv X0.warmed.alike hh0) rfl rfl (hb hbytes d4) ?_
    refine XS.aconstNull X0.here hexec rfl (hb hbytes d5) ?_
    exact Steps.refl _)
  obtain ⟨v3, T3, X3, E3, g3⟩ := X0.callN hexec (New4.law l a D fV fC b A z 0 A.slots.size) rfl hown (wks W (initW "java/lang/String" 27 New4.yN)) (W New4.tab (by simp only [site, List.mem_cons, List.mem_append, true_or, or_true])) (W := 0) (Nat.le_of_ble_eq_true rfl) (Nat.le_of_ble_eq_true rfl) (Nat.le_refl _) (by show 0 + A.slots.size ≤ A.slots.size; omega) (g := (mkF m 6 #[.val (.ref a), .val (.ref b)] [.null, .int (Int32.ofNat A.slots.size), .int (Int32.ofNat 0), .ref b, .ref a])) rfl (by rw [hml]; rfl) c2 (argsL := [.ref b, .int (Int32.ofNat 0), .int (Int32.ofNat A.slots.size), .null]) (rest := []) rfl rfl (by show 2 * 0 + 0 ≤ _; decide) (hb hbytes d6) (⟨rfl, hB.mv X0.warmed.alike hh0, f1.al X0.warmed.alike, f2.al X0.warmed.alike, hA.mv X0.warmed.alike hh0, s1.there X0.warmed.alike hh0, hz, l0, by omega, l2, fun i hi => by rw [Nat.zero_add]; exact hp i hi⟩)
  have e0 := Got.mv _ s₁ s _ _ hh0.symm (Vm.Alike.refl _) rfl E3
  obtain rfl := e0.1
  have c4 : Steps p.tables e below (s₁.setTop (entryFrame m #[.ref a, .ref b] 2)) (T3.setTop (mkF m 9 #[.val (.ref a), .val (.ref b)] [])) := g3
  exact ⟨T3, none, _, _, _, X3, by simp, rfl, by omega, (fun _ => rfl), e0, fun fs hl => c4.trans (X3.returnOut hexec hret (hb hbytes d9) hl)⟩
theorem pays {l : Launch} {R : Room} {p : Program} {e : Env} {below : List Frame} {s : State} {sargs : Array Value} {len W : Nat} (a : Addr) (D : Cell) (fV fC : Field) (b : Addr) (A : Cell) (z : Int32) (htab : tab.before sargs s = true) (hfr : 4 ≤ R.frames) (hlo : W + 65 ≤ R.locals) :
    Back l R p e below s sargs yN len W (fun A₁ a₁ => A₁.cells + 1 ≤ R.cells ∧ A₁.slots + A.slots.size ≤ R.slots ∧ P a D fV fC b A z a₁ A₁.U) (fun A₁ _ v₁ B₁ => E a D fV fC A v₁ A₁.U B₁.U ∧ B₁.locs = A₁.locs ++ [⟨a, fC.slot⟩, ⟨a, fV.slot⟩] ∧ B₁.cells = A₁.cells + 1 ∧ B₁.slots = A₁.slots + A.slots.size) :=
  (law l a D fV fC b A z).pays htab hfr (by omega)
end New1
/-- the byte, read back as charAt reads it, is the char -/
theorem lo8_mask {x : Int32} (h0 : ¬ x < 0) (h1 : ¬ 255 < x) : lo8 x &&& 255 = x := by
  have t : ∀ k : Fin 256, lo8 (Int32.ofNat k.val) &&& 255 = Int32.ofNat k.val := by decide +kernel
  rw [Int32.lt_iff_toInt_lt] at h0 h1
  have e0 : (0 : Int32).toInt = 0 := rfl
  have e1 : (255 : Int32).toInt = 255 := rfl
  obtain ⟨k, hk⟩ : ∃ k : Nat, x.toInt = k := ⟨x.toInt.toNat, by omega⟩
  have hx : x = Int32.ofNat k := Int32.toInt_inj.mp (by rw [hk, Int32.toInt_ofNat_small (by omega)])
  rw [hx]
  exact t ⟨k, by omega⟩
end StrChars
namespace StrChars.Road
open Jvm Sem ClassFile Op Lib Jvm.Stand Jvm.Free Jvm.Free.XT
open Jvm.Lib.Cold (StaticIs)
abbrev ST : String := "java/lang/String"
/-- every table word that New1's law asks, flat -/
abbrev words : List Jvm.Cond := [.code New1.yN New1.yB 2 none, .initialized ST, .methodLink ST 27 New4.yN, .instanceMethod New4.yN,
  .code New4.yN New4.yB 6 none, .fieldLink ST 38 ST "COMPACT_STRINGS" "Z", .laysFinal ST ST "value" "[B", .fieldLink ST 9 ST "value" "[B", .laysFinal ST ST "coder" "B", .fieldLink ST 15 ST "coder" "B",
  .methodLink ST 1 Lib.objectInit, .instanceMethod Lib.objectInit, .code Lib.objectInit ⟨#[0xb1]⟩ 1 none, .methodLink ST 177 Cmp3.yN, .static Cmp3.yN, .methodLink ST 47 CodL.yN, .static CodL.yN,
  .code Cmp3.yN Cmp3.yB 6 (some (.array .byte)), .initialized U16, .arrayClass .byte, .methodLink U16 115 Cmp5.yN, .static Cmp5.yN, .code Cmp5.yN Cmp5.yB 7 (some .int), .code CodL.yN CodL.yB 2 (some .byte)]
theorem tab_of {a : Array Value} {s : State} (h : ∀ w ∈ words, w.before a s = true) : New1.tab.before a s = true := by
  have h5 : Cmp5.tab.before a s = true := unparts (wk h (.code Cmp5.yN Cmp5.yB 7 (some .int))) (wks h (.initialized Cmp5.yN.cls :: Cmp5.site))
  have hc : CodL.tab.before a s = true := unparts (wk h (.code CodL.yN CodL.yB 2 (some .byte))) (wks h (.initialized CodL.yN.cls :: CodL.site))
  have q5 : ∀ w ∈ Cmp5.tab :: words, w.before a s = true := fun w hw => (List.mem_cons.mp hw).elim (fun e => e ▸ h5) (h w)
  have h3 : Cmp3.tab.before a s = true := unparts (wk q5 (.code Cmp3.yN Cmp3.yB 6 (some (.array .byte)))) (wks q5 (.initialized Cmp3.yN.cls :: Cmp3.site))
  have q3 : ∀ w ∈ Cmp3.tab :: CodL.tab :: words, w.before a s = true := fun w hw => (List.mem_cons.mp hw).elim (fun e => e ▸ h3) fun hw => (List.mem_cons.mp hw).elim (fun e => e ▸ hc) (h w)
  have h4 : New4.tab.before a s = true := unparts (wk q3 (.code New4.yN New4.yB 6 none)) (wks q3 (.initialized New4.yN.cls :: New4.site))
  have q4 : ∀ w ∈ New4.tab :: words, w.before a s = true := fun w hw => (List.mem_cons.mp hw).elim (fun e => e ▸ h4) (h w)
  exact unparts (wk q4 (.code New1.yN New1.yB 2 none)) (wks q4 (.initialized New1.yN.cls :: New1.site))
/-- the words ride from the start Z to the walk's own state -/
theorem moved {Z s : State} {a0 args : Array Value} (hZ : Z.Warmed39 s.vm) (hw : ∀ d ∈ words, d.before a0 Z = true) : ∀ d ∈ words, d.before args s = true := fun d hd => by
  have q := hw d hd
  have t : ∀ d ∈ words, d = .arrayClass .byte ∨ (d.onTables && d.keepsFace) = true := by decide +kernel
  rcases t d hd with rfl | t
  · exact RoadKit.mvA hZ q
  · exact RoadKit.mv hZ q t
/-- WHAT COMES BACK, over the tables of the start Z: h the heap at the call, h' behind it -/
def Q (Z : State) (x : Addr) (A : Cell) (h : Heap) (v : Option Value) (h' : Heap) (L : List Loc) : Prop := v = none ∧ (∀ y ∈ L, y.base = x) ∧ RoadKit.Keep h h' [x] ∧ h'.size = h.size + 1 ∧ RoadKit.Exa Z h' x ST ∧ RoadKit.Fld Z h' x ST "value" "[B" (.ref h.size) ∧ RoadKit.Fld Z h' x ST "coder" "B" (.int 0) ∧
  (∃ V : Cell, RoadKit.Arr Z h' h.size V .byte ∧ V.vm = .none ∧ Z.vm.findClass "[B" = some V.cls ∧ V.slots.size = A.slots.size ∧ ∀ j, j < A.slots.size → V.slots[j]? = some (.int (lo8 (cv A j)))) ∧
  ∀ (O n d : String) (w : Value), RoadKit.Fld Z h x O n d w → RoadKit.slotOf Z O n d ≠ RoadKit.slotOf Z ST "value" "[B" → RoadKit.slotOf Z O n d ≠ RoadKit.slotOf Z ST "coder" "B" → RoadKit.Fld Z h' x O n d w
/-- **new String(chars) AT A CALL, IN THE ROAD'S FORM**: for specialBack behind newO: x the fresh String, b the char[] with the cell A -/
theorem back {p : Program} {l : Launch} {e : Env} {R : Room} {s : State} {args : Array Value} {below : List Frame} {len W : Nat} {Z : State} {a0 : Array Value} {h : Heap} (hZ : Z.Warmed39 s.vm) (hw : ∀ d ∈ words, d.before a0 Z = true) {kI : Nat} (wi : (Jvm.Cond.instantiable ST kI).before a0 Z = true)
    {x b : Addr} {A : Cell} {z : Int32} {v0 c0 : Value} (E : RoadKit.Exa Z h x ST) (V : RoadKit.Fld Z h x ST "value" "[B" v0) (C : RoadKit.Fld Z h x ST "coder" "B" c0) (K : RoadKit.Arr Z h b A .char) (hty : Typed .char A) (S : RoadKit.Sta Z h ST "COMPACT_STRINGS" "Z" (.int z)) (hz : ¬ z = 0)
    (l0 : 0 < A.slots.size) (l2 : A.slots.size ≤ 536870912) (hp : ∀ i, i < A.slots.size → ¬ 255 < cv A i) (hfr : 4 ≤ R.frames) (hlo : W + 65 ≤ R.locals) :
    Back l R p e below s args New1.yN len W (fun P a => a = #[.ref x, .ref b] ∧ P.U.heap = h ∧ P.cells + 1 ≤ R.cells ∧ P.slots + A.slots.size ≤ R.slots)
      (fun P _ v B => ∃ L, Q Z x A h v B.U.heap L ∧ B.locs = P.locs ++ L ∧ B.cells = P.cells + 1 ∧ B.slots = P.slots + A.slots.size) := by
  intro m meth c P g ig mk a X hg hsize hdg hW hn hp'
  obtain ⟨rfl, rfl, r1, r2⟩ := hp'
  have al : Z.vm.Alike P.U.vm := hZ.alike.trans X.warmed.alike
  obtain ⟨D, cfV, kV, iV, fV, hD, gV, stV, knV, obV, asV, slV⟩ := id V
  obtain ⟨D', cfC, kC, iC, fC, hD', gC, stC, -, -, asC, slC⟩ := id C
  cases hD.symm.trans hD'
  obtain ⟨D2, kD, e1, e2, e3, e4, e5⟩ := id E
  cases hD.symm.trans e1
  obtain ⟨c2, k2, i1, i2, i3, -⟩ := Cond.instantiable_spec wi
  cases e2.symm.trans i1
  cases e3.symm.trans i2
  obtain ⟨kU, u1, u2⟩ := al.2.2 _ _ e3
  have hB : Blank ST x D P.U := ⟨hD, ⟨knV, fun q hq => by rw [hq] at obV; cases obV⟩, by rw [al.findClass]; exact e2, kU, u1, by rw [u2]; exact i3, by rw [u2]; exact e5 i3⟩
  have F1 : Found ST "value" "[B" fV P.U := ⟨SBG.found_only al ⟨cfV, kV, iV, gV⟩, stV⟩
  have F2 : Found ST "coder" "B" fC P.U := ⟨SBG.found_only al ⟨cfC, kC, iC, gC⟩, stC⟩
  have hA : Ch b A P.U := ⟨⟨K.1, State.isArrayOf_alike al K.2.1, K.2.2, by omega⟩, hty⟩
  have hS : StaticIs P.U ST "COMPACT_STRINGS" "Z" (.int z) := by
    obtain ⟨cfS, iS, kS, fS, st, cS, t1, t2, t3, t4, t5, t6, t7⟩ := S
    exact StaticIs.there (s := { Z with heap := P.U.heap }) ⟨cfS, iS, kS, fS, st, cS, t1, t2, t3, t4, t5, (fun q => by rw [q] at t6; cases t6), t7⟩ al rfl
  obtain ⟨v, B, X', ⟨⟨hv, E', V', q1, q2, q3, q4, q5, q6, q7, q8, q9, q10, q11⟩, hl, hc, hs⟩, st⟩ := New1.pays x D fV fC b A z (tab_of (moved hZ hw)) hfr hlo m meth c P g ig mk _ X hg hsize hdg hW hn ⟨r1, r2, rfl, hB, F1, F2, hA, hS, hz, l0, l2, hp⟩
  have al' : Z.vm.Alike B.U.vm := hZ.alike.trans X'.warmed.alike
  have hsz : E'.slots.size = D.slots.size := by
    obtain ⟨-, -, -, kB, w1, w2, w3⟩ := q1
    obtain ⟨kB', y1, y2⟩ := al'.2.2 _ _ e3
    rw [q2.2.1] at w1
    cases w1.symm.trans y1
    rw [w3, e5 i3, y2]
  refine ⟨v, B, X', ⟨_, ⟨hv, ?_, ⟨by omega, fun y cy hy hn' => q10 y cy (by simpa using hn') hy, fun y cy hy => ?_⟩, q11, ⟨E', _, q1.1, by rw [q2.2.1]; exact e2, by rw [q2.2.1]; exact e3, by rw [q2.1]; exact obV, fun _ => by rw [hsz]; exact e5 i3⟩,
    ⟨E', cfV, kV, iV, fV, q1.1, gV, stV, by rw [q2.1]; exact knV, by rw [q2.1]; exact obV, by rw [q2.2.1]; exact asV, q3⟩, ⟨E', cfC, kC, iC, fC, q1.1, gC, stC, by rw [q2.1]; exact knV, by rw [q2.1]; exact obV, by rw [q2.2.1]; exact asC, q4⟩,
    ⟨V', ⟨q5.1, State.isArrayOf_alike al'.symm q5.2.1, q5.2.2.1⟩, q6, by rw [← al'.findClass]; exact q7, q8, fun j hj => by have := q9 j hj; rwa [Nat.zero_add] at this⟩, fun O n d w F n1 n2 => ?_⟩, hl, hc, hs⟩, st⟩
  · intro y hy
    simp only [List.mem_cons, List.not_mem_nil, or_false] at hy
    rcases hy with rfl | rfl <;> rfl
  · by_cases q : y = x
    · subst q
      cases hD.symm.trans hy
      exact ⟨E', q1.1, q2.2.1, q2.1, hsz⟩
    · exact ⟨cy, q10 y cy q hy, rfl, rfl, rfl⟩
  · obtain ⟨D3, cf, k, i, f, g1, g2, g3, g4, g5, g6, g7⟩ := F
    cases hD.symm.trans g1
    simp only [RoadKit.slotOf, g2, gV, gC, Option.map_some, Option.getD_some] at n1 n2
    exact ⟨E', cf, k, i, f, q1.1, g2, g3, by rw [q2.1]; exact g4, by rw [q2.1]; exact g5, by rw [q2.2.1]; exact g6, by rw [q2.2.2 f.slot (by simp [n1, n2])]; exact g7⟩
end StrChars.Road
namespace StrChars.Road
open Jvm Sem ClassFile Op Lib Jvm.Stand Jvm.Free Jvm.Free.XT
/-- WHAT COMES BACK, the byte[] as a list of values -/
def QA (Z : State) (x : Addr) (zn : Int32) (cs : List Int32) (h : Heap) (v : Option Value) (h' : Heap) (L : List Loc) : Prop := v = none ∧ (∀ y ∈ L, y.base = x) ∧ RoadKit.Keep h h' [x] ∧ h'.size = h.size + 1 ∧ RoadKit.Exa Z h' x ST ∧ RoadKit.Fld Z h' x ST "value" "[B" (.ref h.size) ∧ RoadKit.Fld Z h' x ST "coder" "B" (.int 0) ∧
  (∃ kb, Z.vm.findClass "[B" = some kb ∧ RoadKit.Arv Z h' h.size kb .byte zn (cs.map fun c => .int (lo8 c)) (.int 0)) ∧
  ∀ (O n d : String) (w : Value), RoadKit.Fld Z h x O n d w → RoadKit.slotOf Z O n d ≠ RoadKit.slotOf Z ST "value" "[B" → RoadKit.slotOf Z O n d ≠ RoadKit.slotOf Z ST "coder" "B" → RoadKit.Fld Z h' x O n d w
/-- **new String(chars) AT A CALL, THE ARRAYS AS LISTS**: the char[] at b holds cs, not empty, no char above 255 -/
theorem backArv {p : Program} {l : Launch} {e : Env} {R : Room} {s : State} {args : Array Value} {below : List Frame} {len W : Nat} {Z : State} {a0 : Array Value} {h : Heap} (hZ : Z.Warmed39 s.vm) (hw : ∀ d ∈ words, d.before a0 Z = true) {kI : Nat} (wi : (Jvm.Cond.instantiable ST kI).before a0 Z = true)
    {x b : Addr} {k : ClassId} {zn z : Int32} {cs : List Int32} {dv v0 c0 : Value} (E : RoadKit.Exa Z h x ST) (V : RoadKit.Fld Z h x ST "value" "[B" v0) (C : RoadKit.Fld Z h x ST "coder" "B" c0) (K : RoadKit.Arv Z h b k .char zn (cs.map Value.int) dv) (S : RoadKit.Sta Z h ST "COMPACT_STRINGS" "Z" (.int z)) (hz : ¬ z = 0)
    (hlen : zn.toNatClampNeg = cs.length) (h0 : 0 < cs.length) (hbig : cs.length ≤ 536870912) (hall : ∀ c ∈ cs, ¬ 255 < c) (hfr : 4 ≤ R.frames) (hlo : W + 65 ≤ R.locals) :
    Back l R p e below s args New1.yN len W (fun P a => a = #[.ref x, .ref b] ∧ P.U.heap = h ∧ P.cells + 1 ≤ R.cells ∧ P.slots + cs.length ≤ R.slots)
      (fun P _ v B => ∃ L, QA Z x zn cs h v B.U.heap L ∧ B.locs = P.locs ++ L ∧ B.cells = P.cells + 1 ∧ B.slots = P.slots + cs.length) := by
  obtain ⟨A, K1, K2, K3, K4, K5, K6⟩ := K
  have e : A.slots.size = cs.length := K3.trans hlen
  have hat : ∀ (i : Nat) (hi : i < cs.length), A.slots[i]? = some (.int cs[i]) := fun i hi => by rw [K5 i (by omega)]; simp [List.getD_eq_getElem?_getD, hi]
  have hcv : ∀ (i : Nat) (hi : i < cs.length), cv A i = cs[i] := fun i hi => by unfold cv; rw [hat i hi]
  have hty : Typed .char A := fun i v hv => by
    have hi : i < A.slots.size := (Array.getElem?_eq_some_iff.mp hv).1
    have q := K5 i hi
    rw [hv] at q
    rw [Option.some.inj q]
    exact K6 i hi
  refine Back.mono (back hZ hw wi E V C K1 hty S hz (by omega) (by omega) (fun i hi => by rw [hcv i (by omega)]; exact hall _ (List.getElem_mem _)) hfr hlo) (fun P a hp => ⟨hp.1, hp.2.1, hp.2.2.1, by rw [e]; exact hp.2.2.2⟩) (fun P a v B hp hq => ?_)
  obtain ⟨L, ⟨q1, q2, q3, q4, q5, q6, q7, ⟨V', v1, v2, v3, v4, v5⟩, q9⟩, hl, hc, hs⟩ := hq
  refine ⟨L, ⟨q1, q2, q3, q4, q5, q6, q7, ⟨V'.cls, v3, V', v1, rfl, by rw [v4, e, hlen], K4, fun i hi => ?_, fun i hi => ?_⟩, q9⟩, hl, hc, by rw [hs, e]⟩
  · have hi' : i < cs.length := by omega
    rw [v5 i (by omega), hcv i hi']; simp [List.getD_eq_getElem?_getD, hi']
  · have hi' : i < cs.length := by omega
    simp only [List.getD_eq_getElem?_getD, List.getElem?_map, List.getElem?_eq_getElem hi', Option.map_some, Option.getD_some]
    exact fits_lo8 _
end StrChars.Road
namespace StrChars.Road
open Jvm Sem ClassFile Op Lib Jvm.Stand Jvm.Free Jvm.Free.XT
/-- WHAT COMES BACK, in the writer's own shape -/
def QV (Z : State) (x : Addr) (N : Int32) (bs : List Int32) (h : Heap) (n0 : Nat) (v : Option Value) (h' : Heap) (L : List Loc) : Prop := v = none ∧ RoadKit.Fr n0 L ∧ RoadKit.Keep h h' [x] ∧ RoadKit.Exa Z h' x ST ∧ RoadKit.Fld Z h' x ST "coder" "B" (.int 0) ∧
  ∃ (t : Addr) (kb : ClassId), n0 ≤ t ∧ h.size ≤ t ∧ ¬ t = x ∧ RoadKit.Fld Z h' x ST "value" "[B" (.ref t) ∧ RoadKit.Arv Z h' t kb .byte N (bs.map Value.int) (.int 0)
/-- **new String(chars) AT A CALL, FOR THE WRITER**: a char[] of n known ints, each 0 to 255 -/
theorem backV {p : Program} {l : Launch} {e : Env} {R : Room} {s : State} {args : Array Value} {below : List Frame} {len W : Nat} {Z : State} {a0 : Array Value} {h : Heap} (hZ : Z.Warmed39 s.vm) (hw : ∀ d ∈ words, d.before a0 Z = true) {kI : Nat} (wi : (Jvm.Cond.instantiable ST kI).before a0 Z = true)
    {x b : Addr} {kC : ClassId} {cs bs : List Int32} {d v0 c0 : Value} {z N : Int32} {n n0 : Nat} (hx0 : n0 ≤ x) (hh0 : n0 ≤ h.size) (E : RoadKit.Exa Z h x ST) (V : RoadKit.Fld Z h x ST "value" "[B" v0) (C : RoadKit.Fld Z h x ST "coder" "B" c0) (K : RoadKit.Arv Z h b kC .char N (cs.map Value.int) d) (S : RoadKit.Sta Z h ST "COMPACT_STRINGS" "Z" (.int z)) (hz : ¬ z = 0)
    (hn : cs.length = n) (hN : N = Int32.ofNat n) (l0 : 0 < n) (l2 : n ≤ 4000) (hp : ∀ c ∈ cs, ¬ c < 0 ∧ ¬ (255 : Int32) < c) (hb : bs = cs.map (fun c => c.toInt8.toInt32)) (hfr : 4 ≤ R.frames) (hlo : W + 65 ≤ R.locals) :
    Back l R p e below s args (⟨"java/lang/String", "<init>", "([C)V"⟩ : MethodName) len W (fun P a => a = #[.ref x, .ref b] ∧ P.U.heap = h ∧ P.cells + 1 ≤ R.cells ∧ P.slots + n ≤ R.slots)
      (fun P _ v B => ∃ L, QV Z x N bs h n0 v B.U.heap L ∧ B.locs = P.locs ++ L ∧ B.cells = P.cells + 1 ∧ B.slots = P.slots + n) := by
  subst hn hN hb
  refine Back.mono (backArv hZ hw wi E V C K S hz (n32 (by omega)) l0 (by omega) (fun c hc => (hp c hc).2) hfr hlo) (fun P a hp => hp) (fun P a v B hp hq => ?_)
  obtain ⟨L, ⟨q1, q2, q3, q4, q5, q6, q7, ⟨kb, v1, v2⟩, q9⟩, hl, hc, hs⟩ := hq
  exact ⟨L, ⟨q1, fun y hy => by rw [q2 y hy]; exact hx0, q3, q5, q7, h.size, kb, hh0, Nat.le_refl _, Nat.ne_of_gt E.lt, q6, by rw [List.map_map]; exact v2⟩, hl, hc, hs⟩
end StrChars.Road
namespace StrChars
open Jvm Sem ClassFile Op Lib Jvm.Stand Jvm.Free.XT Jvm.Free.ALB Jvm.Free.JM Jvm.Free
open Jvm.Lib.Cold (StaticIs)
def hi8 (x : Int32) : Int32 := lo8 (x >>> ((8 : Int32) &&& 31))
/-- what StringUTF16.getChar makes of two bytes -/
def pairCh (u v : Int32) : Int32 := (((u &&& 255) <<< ((0 : Int32) &&& 31)) ||| ((v &&& 255) <<< ((8 : Int32) &&& 31))).toUInt32.toUInt16.toUInt32.toInt32
theorem lo8_and (x : Int32) : (lo8 x &&& 255).toBitVec.toNat = x.toBitVec.toNat % 256 := by
  have h : (lo8 x).toBitVec = (x.toBitVec.signExtend 8).signExtend 32 := by rw [lo8, Int8.toBitVec_toInt32, Int32.toBitVec_toInt8]
  rw [Int32.toBitVec_and, BitVec.toNat_and, h]
  have e : ((x.toBitVec.signExtend 8).signExtend 32).toNat % 256 = x.toBitVec.toNat % 256 := by
    rw [BitVec.toNat_signExtend]
    have hlt := x.toBitVec.isLt
    simp only [BitVec.toNat_setWidth, BitVec.toNat_signExtend]
    split <;> split <;> omega
  rw [← e]
  exact Nat.and_two_pow_sub_one_eq_mod _ 8
theorem pair_says {c : Int32} (h0 : ¬ c < 0) (h1 : ¬ 65535 < c) : pairCh (lo8 c) (hi8 c) = c := by
  rw [Int32.lt_iff_toInt_lt] at h0 h1
  have e0 : (0 : Int32).toInt = 0 := rfl
  have e1 : (65535 : Int32).toInt = 65535 := rfl
  have hc : c.toInt = c.toBitVec.toNat := by
    have := c.toBitVec.isLt
    have e : c.toInt = c.toBitVec.toInt := rfl
    rw [e] at h0 h1
    rw [e]
    rw [BitVec.toInt_eq_toNat_cond] at h0 h1 ⊢
    split at h0 <;> split <;> omega
  have hn : c.toBitVec.toNat < 65536 := by omega
  have a1 := lo8_and c
  have a2 : (hi8 c &&& 255).toBitVec.toNat = c.toBitVec.toNat / 256 := by
    rw [hi8, lo8_and]
    have e : ((8 : Int32) &&& 31) = 8 := by decide
    rw [e, Int32.toBitVec_shiftRight]
    have e2 : ((8 : Int32).toBitVec.smod 32) = 8#32 := by decide
    rw [e2, BitVec.sshiftRight_eq', BitVec.toNat_sshiftRight_of_msb_false (by rw [BitVec.msb_eq_false_iff_two_mul_lt]; omega)]
    show c.toBitVec.toNat >>> 8 % 256 = _
    rw [Nat.shiftRight_eq_div_pow]
    omega
  unfold pairCh
  apply Int32.toBitVec_inj.mp
  apply BitVec.eq_of_toNat_eq
  have f0 : ((0 : Int32) &&& 31) = 0 := by decide
  have f8 : ((8 : Int32) &&& 31) = 8 := by decide
  rw [f0, f8]
  have g : (((lo8 c &&& 255) <<< (0 : Int32)) ||| ((hi8 c &&& 255) <<< (8 : Int32))).toBitVec.toNat = c.toBitVec.toNat := by
    rw [Int32.toBitVec_or, Int32.toBitVec_shiftLeft, Int32.toBitVec_shiftLeft]
    have s0 : ((0 : Int32).toBitVec.smod 32) = 0#32 := by decide
    have s8 : ((8 : Int32).toBitVec.smod 32) = 8#32 := by decide
    rw [s0, s8, BitVec.toNat_or]
    simp only [BitVec.shiftLeft_eq', BitVec.toNat_shiftLeft, a1, a2]
    show (c.toBitVec.toNat % 256) <<< 0 % 2 ^ 32 ||| (c.toBitVec.toNat / 256) <<< 8 % 2 ^ 32 = _
    rw [Nat.shiftLeft_zero, Nat.mod_eq_of_lt (show c.toBitVec.toNat % 256 < 2 ^ 32 by omega), Nat.mod_eq_of_lt (show (c.toBitVec.toNat / 256) <<< 8 < 2 ^ 32 by rw [Nat.shiftLeft_eq]; omega), Nat.or_comm, ← Nat.shiftLeft_add_eq_or_of_lt (by omega), Nat.shiftLeft_eq]
    omega
  show BitVec.toNat (((((lo8 c &&& 255) <<< (0 : Int32)) ||| ((hi8 c &&& 255) <<< (8 : Int32))).toBitVec.setWidth 16).setWidth 32) = _
  rw [BitVec.toNat_setWidth, BitVec.toNat_setWidth, g]
  omega
end StrChars
namespace StrChars
open Jvm Sem ClassFile Op Lib Jvm.Stand Jvm.Free.XT Jvm.Free.ALB Jvm.Free.JM Jvm.Free
open Jvm.Lib.Cold (StaticIs)
/-- the array's cell V codes the n chars f 0 .. f (n - 1) by the coder cd, as the JDK does: coder 1 just where some char is above 255 -/
def Cod (cd : Int32) (n : Nat) (f : Nat → Int32) (V : Cell) : Prop := (cd = 0 ∧ V.slots.size = n ∧ ∀ j, j < n → V.slots[j]? = some (.int (lo8 (f j))) ∧ ¬ 255 < f j) ∨ (cd = 1 ∧ V.slots.size = 2 * n ∧ (∀ j, j < n → V.slots[2 * j]? = some (.int (lo8 (f j))) ∧ V.slots[2 * j + 1]? = some (.int (hi8 (f j)))) ∧ ∃ j, j < n ∧ 255 < f j)
/-- **x is a String of the n chars f 0 .. f (n - 1)**, Latin-1 or UTF-16; its array at t has the cell V -/
def Txt (x t : Addr) (V : Cell) (cd : Int32) (n : Nat) (f : Nat → Int32) (U : State) : Prop := Exact "java/lang/String" x U ∧ Has x "java/lang/String" "value" "[B" (.ref t) U ∧ Has x "java/lang/String" "coder" "B" (.int cd) U ∧ XT.Arr .byte t V U ∧ Cod cd n f V ∧ ∀ j, j < n → ¬ f j < 0 ∧ ¬ 65535 < f j
theorem Txt.mv {x t : Addr} {V : Cell} {cd : Int32} {n : Nat} {f : Nat → Int32} {U U' : State} (h : Txt x t V cd n f U) (hal : U.vm.Alike U'.vm) (hh : U'.heap = U.heap) : Txt x t V cd n f U' := ⟨h.1.mv hal hh, h.2.1.mv hal hh, h.2.2.1.mv hal hh, h.2.2.2.1.mv hal hh, h.2.2.2.2⟩
end StrChars
namespace StrChars.Road
open Jvm Sem ClassFile Op Lib Jvm.Stand Jvm.Free Jvm.Free.XT
open Jvm.Lib.Cold (StaticIs)
theorem consq {a : Array Value} {s : State} {c : Jvm.Cond} {L : List Jvm.Cond} (h0 : c.before a s = true) (h : ∀ w ∈ L, w.before a s = true) : ∀ w ∈ c :: L, w.before a s = true := fun w hw => (List.mem_cons.mp hw).elim (fun e => e ▸ h0) (h w)
/-- the bytes of the chars cs, low before high -/
def wideBytes : List Int32 → List Value
  | [] => []
  | c :: cs => .int (lo8 c) :: .int (hi8 c) :: wideBytes cs
theorem wide_lo (d : Value) : ∀ (cs : List Int32) (j : Nat), j < cs.length → (wideBytes cs).getD (2 * j) d = .int (lo8 (cs.getD j 0))
  | [], j, h => absurd h (Nat.not_lt_zero j)
  | c :: cs, 0, _ => rfl
  | c :: cs, j + 1, h => by
    have q := wide_lo d cs j (by simpa using h)
    rw [show 2 * (j + 1) = 2 * j + 1 + 1 from by omega]
    simpa [wideBytes] using q
theorem wide_hi (d : Value) : ∀ (cs : List Int32) (j : Nat), j < cs.length → (wideBytes cs).getD (2 * j + 1) d = .int (hi8 (cs.getD j 0))
  | [], j, h => absurd h (Nat.not_lt_zero j)
  | c :: cs, 0, _ => rfl
  | c :: cs, j + 1, h => by
    have q := wide_hi d cs j (by simpa using h)
    rw [show 2 * (j + 1) + 1 = 2 * j + 1 + 1 + 1 from by omega]
    simpa [wideBytes] using q
theorem low_at (d : Value) (cs : List Int32) (j : Nat) (h : j < cs.length) : (cs.map fun c => Value.int (lo8 c)).getD j d = .int (lo8 (cs.getD j 0)) := by
  simp [List.getD_eq_getElem?_getD, h]
/-- an array of N2 bytes vs codes the chars cs by the coder cd -/
def CodA (cs : List Int32) (cd N2 : Int32) (vs : List Value) : Prop := (cd = 0 ∧ N2 = Int32.ofNat cs.length ∧ vs = (cs.map fun c => Value.int (lo8 c)) ∧ ∀ c ∈ cs, ¬ 255 < c) ∨ (cd = 1 ∧ N2 = Int32.ofNat (2 * cs.length) ∧ vs = wideBytes cs ∧ ∃ c ∈ cs, 255 < c)
theorem CodA.cod {cs : List Int32} {cd N2 : Int32} {vs : List Value} {V : Cell} (h : CodA cs cd N2 vs) (hn : 2 * cs.length < 2 ^ 31) (hs : V.slots.size = N2.toNatClampNeg) (hv : RoadKit.Has V vs (.int 0)) : Cod cd cs.length (fun j => cs.getD j 0) V := by
  rcases h with ⟨rfl, rfl, rfl, h⟩ | ⟨rfl, rfl, rfl, c, hc, hw⟩
  · rw [n32 (by omega)] at hs
    exact Or.inl ⟨rfl, hs, fun j hj => ⟨by rw [hv j (by omega), low_at _ _ _ hj], by
      have e : cs.getD j 0 = cs[j] := by simp [List.getD_eq_getElem?_getD, hj]
      show ¬ 255 < cs.getD j 0
      rw [e]; exact h _ (List.getElem_mem _)⟩⟩
  · rw [n32 (by omega)] at hs
    obtain ⟨j, hj, rfl⟩ := List.getElem_of_mem hc
    exact Or.inr ⟨rfl, hs, fun j hj => ⟨by rw [hv _ (by omega), wide_lo _ _ _ hj], by rw [hv _ (by omega), wide_hi _ _ _ hj]⟩, j, hj, by
      have e : cs.getD j 0 = cs[j] := by simp [List.getD_eq_getElem?_getD, hj]
      show 255 < cs.getD j 0
      rw [e]; exact hw⟩
/-- an object of exactly java/lang/String, its two fields found: as the laws ask it -/
theorem strObj {Z U : State} {a0 : Array Value} {kI : Nat} (wi : (Jvm.Cond.instantiable ST kI).before a0 Z = true) (al : Z.vm.Alike U.vm) {x : Addr} {v0 c0 : Value} (E : RoadKit.Exa Z U.heap x ST) (V : RoadKit.Fld Z U.heap x ST "value" "[B" v0) (C : RoadKit.Fld Z U.heap x ST "coder" "B" c0) :
    ∃ (D : Cell) (fV fC : Field), Blank ST x D U ∧ Found ST "value" "[B" fV U ∧ Found ST "coder" "B" fC U ∧ D.slots[fV.slot]? = some v0 ∧ D.slots[fC.slot]? = some c0 ∧ RoadKit.slotOf Z ST "value" "[B" = fV.slot ∧ RoadKit.slotOf Z ST "coder" "B" = fC.slot := by
  obtain ⟨D, cfV, kV, iV, fV, hD, gV, stV, knV, obV, asV, slV⟩ := V
  obtain ⟨D', cfC, kC, iC, fC, hD', gC, stC, -, -, asC, slC⟩ := C
  cases hD.symm.trans hD'
  obtain ⟨D2, kD, e1, e2, e3, e4, e5⟩ := E
  cases hD.symm.trans e1
  obtain ⟨c2, k2, i1, i2, i3, -⟩ := Cond.instantiable_spec wi
  cases e2.symm.trans i1
  cases e3.symm.trans i2
  obtain ⟨kU, u1, u2⟩ := al.2.2 _ _ e3
  exact ⟨D, fV, fC, ⟨hD, ⟨knV, fun q hq => by rw [hq] at obV; cases obV⟩, by rw [al.findClass]; exact e2, kU, u1, by rw [u2]; exact i3, by rw [u2]; exact e5 i3⟩, ⟨SBG.found_only al ⟨cfV, kV, iV, gV⟩, stV⟩, ⟨SBG.found_only al ⟨cfC, kC, iC, gC⟩, stC⟩, slV, slC, by simp [RoadKit.slotOf, gV], by simp [RoadKit.slotOf, gC]⟩
theorem sta_is {Z U : State} (al : Z.vm.Alike U.vm) {C n d : String} {v : Value} (S : RoadKit.Sta Z U.heap C n d v) : StaticIs U C n d v := by
  obtain ⟨cfS, iS, kS, fS, st, cS, t1, t2, t3, t4, t5, t6, t7⟩ := S
  exact StaticIs.there (s := { Z with heap := U.heap }) ⟨cfS, iS, kS, fS, st, cS, t1, t2, t3, t4, t5, (fun q => by rw [q] at t6; cases t6), t7⟩ al rfl
end StrChars.Road
namespace StrChars
open Jvm Sem ClassFile Op Lib Jvm.Stand Jvm.Free.XT Jvm.Free.ALB Jvm.Free.JM Jvm.Free
open Jvm.Lib.Cold (StaticIs)
/-- what place i of a byte[]'s cell holds -/
def yv (A : Cell) (i : Nat) : Int32 := match A.slots[i]? with | some (.int x) => x | _ => 0
theorem yv_get {a : Addr} {A : Cell} {U : State} (h : XT.Arr .byte a A U) (ht : Typed .byte A) {i : Nat} (hi : i < A.slots.size) : A.slots[i]? = some (.int (yv A i)) := by
  have e := Array.getElem?_eq_getElem hi
  have f := ht i _ e
  unfold yv; rw [e]
  generalize A.slots[i] = v at f
  cases v <;> simp [fits] at f ⊢
/-- the two arrays are equal, place for place -/
def EqC (A B : Cell) : Prop := A.slots.size = B.slots.size ∧ ∀ i, i < A.slots.size → yv A i = yv B i
/-- a boolean that says whether p -/
def Says01 (q : Prop) (r : Option Value) (s u : State) : Prop := ∃ v : Int32, r = some (.int v) ∧ u.heap = s.heap ∧ ((v = 1 ∧ q) ∨ (v = 0 ∧ ¬ q))
theorem Says01.mv {q : Prop} : ∀ r (U U' V V' : State), U'.heap = U.heap → V.vm.Alike V'.vm → V'.heap = V.heap → Says01 q r U V → Says01 q r U' V' :=
  fun r U U' V V' h1 _ h2 ⟨v, a, b, c⟩ => ⟨v, a, by rw [h1, h2]; exact b, c⟩
namespace LEq
def yN : MethodName := ⟨"java/lang/StringLatin1", "equals", "([B[B)Z"⟩
abbrev yB : ByteArray := jdk_43_method_13_code
theorem d0 : decode yB 0 = .ok (.aload_n 0, 1) := by decide +kernel
theorem d1 : decode yB 1 = .ok (.arraylength, 1) := by decide +kernel
theorem d2 : decode yB 2 = .ok (.aload_n 1, 1) := by decide +kernel
theorem d3 : decode yB 3 = .ok (.arraylength, 1) := by decide +kernel
theorem d4 : decode yB 4 = .ok (.if_icmp (.ne) 30, 3) := by decide +kernel
theorem d7 : decode yB 7 = .ok (.iconst 0, 1) := by decide +kernel
theorem d8 : decode yB 8 = .ok (.istore_n 2, 1) := by decide +kernel
theorem d9 : decode yB 9 = .ok (.iload_n 2, 1) := by decide +kernel
theorem d10 : decode yB 10 = .ok (.aload_n 0, 1) := by decide +kernel
theorem d11 : decode yB 11 = .ok (.arraylength, 1) := by decide +kernel
theorem d12 : decode yB 12 = .ok (.if_icmp (.ge) 20, 3) := by decide +kernel
theorem d15 : decode yB 15 = .ok (.aload_n 0, 1) := by decide +kernel
theorem d16 : decode yB 16 = .ok (.iload_n 2, 1) := by decide +kernel
theorem d17 : decode yB 17 = .ok (.baload, 1) := by decide +kernel
theorem d18 : decode yB 18 = .ok (.aload_n 1, 1) := by decide +kernel
theorem d19 : decode yB 19 = .ok (.iload_n 2, 1) := by decide +kernel
theorem d20 : decode yB 20 = .ok (.baload, 1) := by decide +kernel
theorem d21 : decode yB 21 = .ok (.if_icmp (.eq) 5, 3) := by decide +kernel
theorem d24 : decode yB 24 = .ok (.iconst 0, 1) := by decide +kernel
theorem d25 : decode yB 25 = .ok (.ireturn, 1) := by decide +kernel
theorem d26 : decode yB 26 = .ok (.iinc 2 1, 3) := by decide +kernel
theorem d29 : decode yB 29 = .ok (.goto (-20), 3) := by decide +kernel
theorem d32 : decode yB 32 = .ok (.iconst 1, 1) := by decide +kernel
theorem d33 : decode yB 33 = .ok (.ireturn, 1) := by decide +kernel
theorem d34 : decode yB 34 = .ok (.iconst 0, 1) := by decide +kernel
theorem d35 : decode yB 35 = .ok (.ireturn, 1) := by decide +kernel
def site : List Cond := []
def tab : Cond := tabOf yN yB 3 (some .boolean) site
def P (a : Addr) (A : Cell) (b : Addr) (B : Cell) (args : Array Value) (s : State) : Prop := args = #[.ref a, .ref b] ∧ XT.Arr .byte a A s ∧ Typed .byte A ∧ XT.Arr .byte b B s ∧ Typed .byte B
/-- whether two byte[] are equal, place for place -/
theorem law (l : Launch) (a : Addr) (A : Cell) (b : Addr) (B : Cell) : Law l yN 2 2 0 0 yB 3 (some .boolean) site (P a A b B) (Says01 (EqC A B)) [] 0 0 := by
  refine Law.of_walk (plainFor_of_name (by decide +kernel)) (by decide +kernel) (by decide +kernel) (by decide) (fun _ _ h => by rw [h.1]; rfl) (fun _ U U' hal hh h => ⟨h.1, h.2.1.mv hal hh, h.2.2.1, h.2.2.2.1.mv hal hh, h.2.2.2.2⟩) (fun r U U' V V' h1 hal h2 h => Says01.mv r U U' V V' h1 hal h2 h) ?_
  intro p e s m args below meth c s₁ X0 hexec hbytes hml hret hlk hnm hown hh0 W hP
  obtain ⟨rfl, hA, tA, hB, tB⟩ := hP
  have a31 := hA.2.2.2
  have b31 := hB.2.2.2
  have hA0 := hA.mv X0.warmed.alike hh0
  have hB0 := hB.mv X0.warmed.alike hh0
  have c1 : Steps p.tables e below (s₁.setTop (entryFrame m #[.ref a, .ref b] 3)) (s₁.setTop (mkF m 0 #[.val (.ref a), .val (.ref b), .unset] [])) := entry rfl
  have c2 : Steps p.tables e below (s₁.setTop (entryFrame m #[.ref a, .ref b] 3)) (s₁.setTop (mkF m 4 #[.val (.ref a), .val (.ref b), .unset] [.int (Int32.ofNat B.slots.size), .int (Int32.ofNat A.slots.size)])) := c1.trans (by
    refine XS.aloadN X0.here hexec rfl (hb hbytes d0) rfl rfl ?_
    refine X0.alen hexec hA0 rfl rfl (hb hbytes d1) ?_
    refine XS.aloadN X0.here hexec rfl (hb hbytes d2) rfl rfl ?_
    refine X0.alen hexec hB0 rfl rfl (hb hbytes d3) ?_
    exact Steps.refl _)
  by_cases hs : A.slots.size = B.slots.size
  · have c3 : Steps p.tables e below (s₁.setTop (entryFrame m #[.ref a, .ref b] 3)) (s₁.setTop (mkF m 9 #[.val (.ref a), .val (.ref b), .val (.int 0)] [])) := c2.trans (by
      refine XS.icmpNo X0.here hexec rfl (hb hbytes d4) rfl (ii_ne_f (by rw [hs])) ?_
      refine iconstV X0.here hexec rfl 0 (hb hbytes d7) (by decide) ?_
      refine XS.istoreN X0.here hexec rfl (hb hbytes d8) rfl rfl ?_
      exact Steps.refl _)
    have loop : ∀ (r i : Nat), i + r = A.slots.size → (∀ j, j < i → yv A j = yv B j) → Steps p.tables e below (s₁.setTop (entryFrame m #[.ref a, .ref b] 3)) (s₁.setTop (mkF m 9 #[.val (.ref a), .val (.ref b), .val (.int (Int32.ofNat i))] [])) → ∃ (pc : Nat) (Ls : Array Slot) (v : Int32), (pc = 25 ∨ pc = 33) ∧ ((v = 1 ∧ EqC A B) ∨ (v = 0 ∧ ¬ EqC A B)) ∧ Steps p.tables e below (s₁.setTop (entryFrame m #[.ref a, .ref b] 3)) (s₁.setTop (mkF m pc Ls [.int v])) := by
      intro r
      induction r with
      | zero =>
        intro i hi he cl
        exact ⟨33, _, 1, Or.inr rfl, Or.inl ⟨rfl, hs, fun j hj => he j (by omega)⟩, cl.trans (by
          refine XS.iloadN X0.here hexec rfl (hb hbytes d9) rfl ?_
          refine XS.aloadN X0.here hexec rfl (hb hbytes d10) rfl rfl ?_
          refine X0.alen hexec hA0 rfl rfl (hb hbytes d11) ?_
          refine XS.icmpYes X0.here hexec rfl (pc0 := 12) rfl (hb hbytes d12) rfl (ii_ge_t (nlt32 (by omega) (by omega))) (by decide) rfl ?_
          refine iconstV X0.here hexec rfl 1 (hb hbytes d32) (by decide) ?_
          exact Steps.refl _)⟩
      | succ r ih =>
        intro i hi he cl
        have c4 : Steps p.tables e below (s₁.setTop (entryFrame m #[.ref a, .ref b] 3)) (s₁.setTop (mkF m 21 #[.val (.ref a), .val (.ref b), .val (.int (Int32.ofNat i))] [.int (yv B i), .int (yv A i)])) := cl.trans (by
          refine XS.iloadN X0.here hexec rfl (hb hbytes d9) rfl ?_
          refine XS.aloadN X0.here hexec rfl (hb hbytes d10) rfl rfl ?_
          refine X0.alen hexec hA0 rfl rfl (hb hbytes d11) ?_
          refine XS.icmpNo X0.here hexec rfl (hb hbytes d12) rfl (ii_ge_f (lt32 (by omega) (by omega))) ?_
          refine XS.aloadN X0.here hexec rfl (hb hbytes d15) rfl rfl ?_
          refine XS.iloadN X0.here hexec rfl (hb hbytes d16) rfl ?_
          refine X0.aget hexec hA0 rfl (yv_get hA tA (i := i) (by omega)) rfl rfl (hb hbytes d17) ?_
          refine XS.aloadN X0.here hexec rfl (hb hbytes d18) rfl rfl ?_
          refine XS.iloadN X0.here hexec rfl (hb hbytes d19) rfl ?_
          refine X0.aget hexec hB0 rfl (yv_get hB tB (i := i) (by omega)) rfl rfl (hb hbytes d20) ?_
          exact Steps.refl _)
        by_cases hv : yv A i = yv B i
        · have c5 : Steps p.tables e below (s₁.setTop (entryFrame m #[.ref a, .ref b] 3)) (s₁.setTop (mkF m 9 #[.val (.ref a), .val (.ref b), .val (.int (Int32.ofNat i + 1))] [])) := c4.trans (by
            refine XS.icmpYes X0.here hexec rfl (pc0 := 21) rfl (hb hbytes d21) rfl (ii_eq_t hv) (by decide) rfl ?_
            refine iincV X0.here hexec rfl 1 (hb hbytes d26) (by decide) rfl rfl ?_
            refine XS.goto X0.here hexec rfl (pc0 := 29) rfl (hb hbytes d29) (by decide) rfl ?_
            exact Steps.refl _)
          rw [succ32] at c5
          exact ih (i + 1) (by omega) (fun j hj => by
            by_cases e : j = i
            · rw [e]; exact hv
            · exact he j (by omega)) c5
        · exact ⟨25, _, 0, Or.inl rfl, Or.inr ⟨rfl, fun q => hv (q.2 i (by omega))⟩, c4.trans (by
            refine XS.icmpNo X0.here hexec rfl (hb hbytes d21) rfl (ii_eq_f hv) ?_
            refine iconstV X0.here hexec rfl 0 (hb hbytes d24) (by decide) ?_
            exact Steps.refl _)⟩
    obtain ⟨pc, Ls, v, hpc, hv, cz⟩ := loop A.slots.size 0 (by omega) (fun j hj => absurd hj (Nat.not_lt_zero j)) c3
    have nv : narrow .boolean (.int v) = .int v := by rcases hv with ⟨rfl, -⟩ | ⟨rfl, -⟩ <;> rfl
    rcases hpc with rfl | rfl
    · exact ⟨s₁, some (.int v), _, _, _, X0, rfl, rfl, rfl, (fun h => by cases h), ⟨v, rfl, hh0, hv⟩, fun fs hl => cz.trans (X0.ireturnOut hexec hret nv (Or.inr (Or.inl rfl)) (hb hbytes d25) hl)⟩
    · exact ⟨s₁, some (.int v), _, _, _, X0, rfl, rfl, rfl, (fun h => by cases h), ⟨v, rfl, hh0, hv⟩, fun fs hl => cz.trans (X0.ireturnOut hexec hret nv (Or.inr (Or.inl rfl)) (hb hbytes d33) hl)⟩
  · have c3 : Steps p.tables e below (s₁.setTop (entryFrame m #[.ref a, .ref b] 3)) (s₁.setTop (mkF m 35 #[.val (.ref a), .val (.ref b), .unset] [.int 0])) := c2.trans (by
      refine XS.icmpYes X0.here hexec rfl (pc0 := 4) rfl (hb hbytes d4) rfl (ii_ne_t (ne32 a31 b31 hs)) (by decide) rfl ?_
      refine iconstV X0.here hexec rfl 0 (hb hbytes d34) (by decide) ?_
      exact Steps.refl _)
    exact ⟨s₁, some (.int 0), _, _, _, X0, rfl, rfl, rfl, (fun h => by cases h), ⟨0, rfl, hh0, Or.inr ⟨rfl, fun q => hs q.1⟩⟩, fun fs hl => c3.trans (X0.ireturnOut hexec hret rfl (Or.inr (Or.inl rfl)) (hb hbytes d35) hl)⟩
end LEq
theorem Cod.ty {cd : Int32} {n : Nat} {f : Nat → Int32} {V : Cell} (h : Cod cd n f V) : Typed .byte V := fun i v hv => by
  have hi : i < V.slots.size := (Array.getElem?_eq_some_iff.mp hv).1
  rcases h with ⟨-, k1, k2⟩ | ⟨-, k1, k2, -⟩
  · rw [(k2 i (by omega)).1] at hv; cases hv; exact fits_lo8 _
  · rcases Nat.mod_two_eq_zero_or_one i with e | e
    · obtain ⟨j, rfl⟩ : ∃ j, i = 2 * j := ⟨i / 2, by omega⟩
      rw [(k2 j (by omega)).1] at hv; cases hv; exact fits_lo8 _
    · obtain ⟨j, rfl⟩ : ∃ j, i = 2 * j + 1 := ⟨i / 2, by omega⟩
      rw [(k2 j (by omega)).2] at hv; cases hv; exact fits_lo8 _
/-- the same text -/
def SameT (n : Nat) (f : Nat → Int32) (k : Nat) (g : Nat → Int32) : Prop := n = k ∧ ∀ j, j < n → f j = g j
theorem lo8_inj {x y : Int32} (h0 : ¬ x < 0) (h1 : ¬ 255 < x) (k0 : ¬ y < 0) (k1 : ¬ 255 < y) (h : lo8 x = lo8 y) : x = y := by
  rw [← lo8_mask h0 h1, ← lo8_mask k0 k1, h]
/-- arrays coded by one coder are equal just where the texts are -/
theorem Cod.eqv {cd : Int32} {n k : Nat} {f g : Nat → Int32} {V V' : Cell} (h : Cod cd n f V) (h' : Cod cd k g V') (hf : ∀ j, j < n → ¬ f j < 0 ∧ ¬ 65535 < f j) (hg : ∀ j, j < k → ¬ g j < 0 ∧ ¬ 65535 < g j) : EqC V V' ↔ SameT n f k g := by
  have yvv : ∀ {W : Cell} {i : Nat} {x : Int32}, W.slots[i]? = some (.int x) → yv W i = x := fun q => by unfold yv; rw [q]
  rcases h with ⟨rfl, k1, k2⟩ | ⟨rfl, k1, k2, -⟩
  · rcases h' with ⟨-, m1, m2⟩ | ⟨e, -⟩
    · constructor
      · rintro ⟨e1, e2⟩
        refine ⟨by omega, fun j hj => ?_⟩
        have q := e2 j (by omega)
        rw [yvv (k2 j hj).1, yvv (m2 j (by omega)).1] at q
        exact lo8_inj (hf j hj).1 (k2 j hj).2 (hg j (by omega)).1 (m2 j (by omega)).2 q
      · rintro ⟨rfl, e2⟩
        refine ⟨by omega, fun j hj => ?_⟩
        rw [yvv (k2 j (by omega)).1, yvv (m2 j (by omega)).1, e2 j (by omega)]
    · exact absurd e (by decide)
  · rcases h' with ⟨e, -⟩ | ⟨-, m1, m2, -⟩
    · exact absurd e (by decide)
    · constructor
      · rintro ⟨e1, e2⟩
        refine ⟨by omega, fun j hj => ?_⟩
        have q1 := e2 (2 * j) (by omega)
        have q2 := e2 (2 * j + 1) (by omega)
        rw [yvv (k2 j hj).1, yvv (m2 j (by omega)).1] at q1
        rw [yvv (k2 j hj).2, yvv (m2 j (by omega)).2] at q2
        rw [← pair_says (hf j hj).1 (hf j hj).2, ← pair_says (hg j (by omega)).1 (hg j (by omega)).2, q1, q2]
      · rintro ⟨rfl, e2⟩
        refine ⟨by omega, fun i hi => ?_⟩
        rcases Nat.mod_two_eq_zero_or_one i with e | e
        · obtain ⟨j, rfl⟩ : ∃ j, i = 2 * j := ⟨i / 2, by omega⟩
          rw [yvv (k2 j (by omega)).1, yvv (m2 j (by omega)).1, e2 j (by omega)]
        · obtain ⟨j, rfl⟩ : ∃ j, i = 2 * j + 1 := ⟨i / 2, by omega⟩
          rw [yvv (k2 j (by omega)).2, yvv (m2 j (by omega)).2, e2 j (by omega)]
/-- two codings differ: so do the texts -/
theorem Cod.dif {cd cd' : Int32} {n k : Nat} {f g : Nat → Int32} {V V' : Cell} (h : Cod cd n f V) (h' : Cod cd' k g V') (hne : ¬ cd = cd') : ¬ SameT n f k g := by
  rintro ⟨rfl, e⟩
  rcases h with ⟨rfl, -, k2⟩ | ⟨rfl, -, -, j, hj, hw⟩
  · rcases h' with ⟨rfl, -⟩ | ⟨-, -, -, j, hj, hw⟩
    · exact hne rfl
    · exact (k2 j hj).2 (by rw [e j hj]; exact hw)
  · rcases h' with ⟨-, -, m2⟩ | ⟨rfl, -⟩
    · exact (m2 j hj).2 (by rw [← e j hj]; exact hw)
    · exact hne rfl
/-- an object of exactly C is an instance of C -/
theorem cinst {p : Program} {l : Launch} {e : Env} {R : Room} {s : State} {m : MethodId} {args : Array Value} {below : List Frame} {meth : Method} {c : Code} {T : State} {locs : List Loc} {cells slots : Nat} (X : Stand p l e R s m args below meth c T locs cells slots) (hexec : p.tables.exec = Jvm.exec) {own C : String} {index : Nat} (hown : s.vm.findClass own = some m.cls) (hlink : (Cond.classLink own index C).before args s = true) {a : Addr} (hE : Exact C a T)
    {g : JFrame} (hg : g.method = m) {rest : List Value} (hstack : g.stack = .ref a :: rest) (hdg : decode c.code g.pc = .ok (.instanceof index, 3)) :
    ∃ T', Stand p l e R s m args below meth c T' locs cells slots ∧ T'.heap = T.heap ∧ ∀ target, Steps p.tables e below (T'.setTop { g with pc := g.pc + 3, stack := .int 1 :: rest }) target → Steps p.tables e below (T.setTop g) target := by
  obtain ⟨cB, h1, D, h2, h3, h4⟩ := hE
  have h1' : s.vm.findClass C = some cB := by rw [← X.warmed.alike.findClass]; exact h1
  obtain ⟨vm', X', st⟩ := X.instanceofYes hexec hown hlink h2 h4 h1' (by rw [h3]; exact Jvm.Free.SB.assignable_self _ _) hg hstack hdg
  exact ⟨_, X', rfl, st⟩
theorem cself {p : Program} {l : Launch} {e : Env} {R : Room} {s : State} {m : MethodId} {args : Array Value} {below : List Frame} {meth : Method} {c : Code} {T : State} {locs : List Loc} {cells slots : Nat} (X : Stand p l e R s m args below meth c T locs cells slots) (hexec : p.tables.exec = Jvm.exec) {own C : String} {index : Nat} (hown : s.vm.findClass own = some m.cls) (hlink : (Cond.classLink own index C).before args s = true) {a : Addr} (hE : Exact C a T)
    {g : JFrame} (hg : g.method = m) {rest : List Value} (hstack : g.stack = .ref a :: rest) (hdg : decode c.code g.pc = .ok (.checkcast index, 3)) :
    ∃ T', Stand p l e R s m args below meth c T' locs cells slots ∧ T'.heap = T.heap ∧ ∀ target, Steps p.tables e below (T'.setTop { g with pc := g.pc + 3, stack := .ref a :: rest }) target → Steps p.tables e below (T.setTop g) target := by
  obtain ⟨cB, h1, D, h2, h3, h4⟩ := hE
  have h1' : s.vm.findClass C = some cB := by rw [← X.warmed.alike.findClass]; exact h1
  obtain ⟨vm', X', st⟩ := X.checkcastYes hexec hown hlink h2 h4 h1' (by rw [h3]; exact Jvm.Free.SB.assignable_self _ _) hg hstack hdg
  exact ⟨_, X', rfl, fun t h => st t (by rw [← hstack] at h; exact h)⟩
namespace SEq
def yN : MethodName := ⟨"java/lang/String", "equals", "(Ljava/lang/Object;)Z"⟩
abbrev yB : ByteArray := jdk_42_method_66_code
theorem d0 : decode yB 0 = .ok (.aload_n 0, 1) := by decide +kernel
theorem d1 : decode yB 1 = .ok (.aload_n 1, 1) := by decide +kernel
theorem d2 : decode yB 2 = .ok (.if_acmp (.ne) 5, 3) := by decide +kernel
theorem d5 : decode yB 5 = .ok (.iconst 1, 1) := by decide +kernel
theorem d6 : decode yB 6 = .ok (.ireturn, 1) := by decide +kernel
theorem d7 : decode yB 7 = .ok (.aload_n 1, 1) := by decide +kernel
theorem d8 : decode yB 8 = .ok (.instanceof 10, 3) := by decide +kernel
theorem d11 : decode yB 11 = .ok (.ifCond (.eq) 43, 3) := by decide +kernel
theorem d14 : decode yB 14 = .ok (.aload_n 1, 1) := by decide +kernel
theorem d15 : decode yB 15 = .ok (.checkcast 10, 3) := by decide +kernel
theorem d18 : decode yB 18 = .ok (.astore_n 2, 1) := by decide +kernel
theorem d19 : decode yB 19 = .ok (.getstatic 38, 3) := by decide +kernel
theorem d22 : decode yB 22 = .ok (.ifCond (.eq) 14, 3) := by decide +kernel
theorem d25 : decode yB 25 = .ok (.aload_n 0, 1) := by decide +kernel
theorem d26 : decode yB 26 = .ok (.getfield 15, 3) := by decide +kernel
theorem d29 : decode yB 29 = .ok (.aload_n 2, 1) := by decide +kernel
theorem d30 : decode yB 30 = .ok (.getfield 15, 3) := by decide +kernel
theorem d33 : decode yB 33 = .ok (.if_icmp (.ne) 21, 3) := by decide +kernel
theorem d36 : decode yB 36 = .ok (.aload_n 0, 1) := by decide +kernel
theorem d37 : decode yB 37 = .ok (.getfield 9, 3) := by decide +kernel
theorem d40 : decode yB 40 = .ok (.aload_n 2, 1) := by decide +kernel
theorem d41 : decode yB 41 = .ok (.getfield 9, 3) := by decide +kernel
theorem d44 : decode yB 44 = .ok (.invokestatic 541, 3) := by decide +kernel
theorem d47 : decode yB 47 = .ok (.ifCond (.eq) 7, 3) := by decide +kernel
theorem d50 : decode yB 50 = .ok (.iconst 1, 1) := by decide +kernel
theorem d51 : decode yB 51 = .ok (.goto 4, 3) := by decide +kernel
theorem d54 : decode yB 54 = .ok (.iconst 0, 1) := by decide +kernel
theorem d55 : decode yB 55 = .ok (.ireturn, 1) := by decide +kernel
def site : List Cond := [.classLink "java/lang/String" 10 "java/lang/String", .fieldLink "java/lang/String" 38 "java/lang/String" "COMPACT_STRINGS" "Z", .fieldLink "java/lang/String" 15 "java/lang/String" "coder" "B", .fieldLink "java/lang/String" 9 "java/lang/String" "value" "[B", LEq.tab] ++ staticW "java/lang/String" 541 LEq.yN
def tab : Cond := tabOf yN yB 3 (some .boolean) site
def P (x t : Addr) (V : Cell) (cd : Int32) (n : Nat) (f : Nat → Int32) (y t' : Addr) (V' : Cell) (cd' : Int32) (k : Nat) (g : Nat → Int32) (z : Int32) (args : Array Value) (s : State) : Prop := args = #[.ref x, .ref y] ∧ Txt x t V cd n f s ∧ Txt y t' V' cd' k g s ∧ StaticIs s "java/lang/String" "COMPACT_STRINGS" "Z" (.int z) ∧ ¬ z = 0
/-- equals(Object) of two Strings: whether the texts are the same -/
theorem law (l : Launch) (x t : Addr) (V : Cell) (cd : Int32) (n : Nat) (f : Nat → Int32) (y t' : Addr) (V' : Cell) (cd' : Int32) (k : Nat) (g : Nat → Int32) (z : Int32) : Law l yN 2 1 1 14 yB 3 (some .boolean) site (P x t V cd n f y t' V' cd' k g z) (Says01 (SameT n f k g)) [] 0 0 := by
  refine Law.of_walk (plainFor_of_name (by decide +kernel)) (by decide +kernel) (by decide +kernel) (by decide) (fun _ _ h => by rw [h.1]; rfl) (fun _ U U' hal hh h => ⟨h.1, h.2.1.mv hal hh, h.2.2.1.mv hal hh, h.2.2.2.1.there hal hh, h.2.2.2.2⟩) (fun r U U' V V' h1 hal h2 h => Says01.mv r U U' V V' h1 hal h2 h) ?_
  intro p e s m args below meth c s₁ X0 hexec hbytes hml hret hlk hnm hown hh0 W hP
  obtain ⟨rfl, hx, hy, s1, hz⟩ := hP
  have c1 : Steps p.tables e below (s₁.setTop (entryFrame m #[.ref x, .ref y] 3)) (s₁.setTop (mkF m 2 #[.val (.ref x), .val (.ref y), .unset] [.ref y, .ref x])) := Steps.trans (entry rfl) (by
    show Steps p.tables e below (s₁.setTop (mkF m 0 #[.val (.ref x), .val (.ref y), .unset] [])) _
    refine XS.aloadN X0.here hexec rfl (hb hbytes d0) rfl rfl ?_
    refine XS.aloadN X0.here hexec rfl (hb hbytes d1) rfl rfl ?_
    exact Steps.refl _)
  by_cases hxy : x = y
  · have c2 : Steps p.tables e below (s₁.setTop (entryFrame m #[.ref x, .ref y] 3)) (s₁.setTop (mkF m 6 #[.val (.ref x), .val (.ref y), .unset] [.int 1])) := c1.trans (by
      refine acmpNo X0.here hexec rfl (hb hbytes d2) rfl rfl rfl (by simp [acmp, hxy]) ?_
      refine iconstV X0.here hexec rfl 1 (hb hbytes d5) (by decide) ?_
      exact Steps.refl _)
    subst hxy
    have ec : cd = cd' := by
      obtain ⟨D, fd, a1, a2, a3⟩ := hx.2.2.1
      obtain ⟨D', fd', b1, b2, b3⟩ := hy.2.2.1
      cases a1.symm.trans b1
      obtain ⟨q1, q2, q3, q4⟩ := a2.1
      obtain ⟨r1, r2, r3, r4⟩ := b2.1
      cases q4.symm.trans r4
      cases a3.symm.trans b3; rfl
    have et : t = t' := by
      obtain ⟨D, fd, a1, a2, a3⟩ := hx.2.1
      obtain ⟨D', fd', b1, b2, b3⟩ := hy.2.1
      cases a1.symm.trans b1
      obtain ⟨q1, q2, q3, q4⟩ := a2.1
      obtain ⟨r1, r2, r3, r4⟩ := b2.1
      cases q4.symm.trans r4
      cases a3.symm.trans b3; rfl
    subst ec et
    have ev : V = V' := by cases hx.2.2.2.1.1.symm.trans hy.2.2.2.1.1; rfl
    subst ev
    have hs : SameT n f k g := (Cod.eqv hx.2.2.2.2.1 hy.2.2.2.2.1 hx.2.2.2.2.2 hy.2.2.2.2.2).mp ⟨rfl, fun _ _ => rfl⟩
    exact ⟨s₁, some (.int 1), _, _, _, X0, rfl, rfl, rfl, (fun h => by cases h), ⟨1, rfl, hh0, Or.inl ⟨rfl, hs⟩⟩, fun fs hl => c2.trans (X0.ireturnOut hexec hret rfl (Or.inr (Or.inl rfl)) (hb hbytes d6) hl)⟩
  · have c2 : Steps p.tables e below (s₁.setTop (entryFrame m #[.ref x, .ref y] 3)) (s₁.setTop (mkF m 8 #[.val (.ref x), .val (.ref y), .unset] [.ref y])) := c1.trans (by
      refine acmpYes X0.here hexec rfl (pc0 := 2) rfl (hb hbytes d2) rfl rfl rfl (by simp [acmp, hxy]) (by decide) rfl ?_
      refine XS.aloadN X0.here hexec rfl (hb hbytes d7) rfl rfl ?_
      exact Steps.refl _)
    obtain ⟨T3, X3, q3, st3⟩ := cinst X0 hexec hown (wk W (.classLink "java/lang/String" 10 "java/lang/String")) (hy.mv X0.warmed.alike hh0).1 (g := (mkF m 8 #[.val (.ref x), .val (.ref y), .unset] [.ref y])) rfl (rest := []) rfl (hb hbytes d8)
    have hh3 := q3.trans hh0
    have c4 : Steps p.tables e below (s₁.setTop (entryFrame m #[.ref x, .ref y] 3)) (T3.setTop (mkF m 15 #[.val (.ref x), .val (.ref y), .unset] [.ref y])) := (c2.trans (st3 _ (Steps.refl _))).trans (by
      refine XS.ifNo X3.here hexec rfl (hb hbytes d11) rfl (i0_eq_f (by decide)) ?_
      refine XS.aloadN X3.here hexec rfl (hb hbytes d14) rfl rfl ?_
      exact Steps.refl _)
    obtain ⟨T5, X5, q5, st5⟩ := cself X3 hexec hown (wk W (.classLink "java/lang/String" 10 "java/lang/String")) (hy.mv X3.warmed.alike hh3).1 (g := (mkF m 15 #[.val (.ref x), .val (.ref y), .unset] [.ref y])) rfl (rest := []) rfl (hb hbytes d15)
    have hh5 := q5.trans hh3
    have c6 : Steps p.tables e below (s₁.setTop (entryFrame m #[.ref x, .ref y] 3)) (T5.setTop (mkF m 19 #[.val (.ref x), .val (.ref y), .val (.ref y)] [])) := (c4.trans (st5 _ (Steps.refl _))).trans (by
      refine XS.astoreN X5.here hexec rfl (hb hbytes d18) rfl rfl rfl ?_
      exact Steps.refl _)
    obtain ⟨T7, X7, q7, st7⟩ := X5.sget hexec hown (wk W (.fieldLink "java/lang/String" 38 "java/lang/String" "COMPACT_STRINGS" "Z")) s1 (fun _ _ h => by rw [hh5]; exact h) (g := (mkF m 19 #[.val (.ref x), .val (.ref y), .val (.ref y)] [])) rfl (hb hbytes d19)
    have hh7 := q7.trans hh5
    have c8 : Steps p.tables e below (s₁.setTop (entryFrame m #[.ref x, .ref y] 3)) (T7.setTop (mkF m 26 #[.val (.ref x), .val (.ref y), .val (.ref y)] [.ref x])) := (c6.trans (st7 _ (Steps.refl _))).trans (by
      refine XS.ifNo X7.here hexec rfl (hb hbytes d22) rfl (i0_eq_f hz) ?_
      refine XS.aloadN X7.here hexec rfl (hb hbytes d25) rfl rfl ?_
      exact Steps.refl _)
    obtain ⟨T9, X9, q9, st9⟩ := X7.hget hexec hown (wk W (.fieldLink "java/lang/String" 15 "java/lang/String" "coder" "B")) (hx.mv X7.warmed.alike hh7).2.2.1 (g := (mkF m 26 #[.val (.ref x), .val (.ref y), .val (.ref y)] [.ref x])) rfl (rest := []) rfl (hb hbytes d26)
    have hh9 := q9.trans hh7
    have c10 : Steps p.tables e below (s₁.setTop (entryFrame m #[.ref x, .ref y] 3)) (T9.setTop (mkF m 30 #[.val (.ref x), .val (.ref y), .val (.ref y)] [.ref y, .int cd])) := (c8.trans (st9 _ (Steps.refl _))).trans (by
      refine XS.aloadN X9.here hexec rfl (hb hbytes d29) rfl rfl ?_
      exact Steps.refl _)
    obtain ⟨T11, X11, q11, st11⟩ := X9.hget hexec hown (wk W (.fieldLink "java/lang/String" 15 "java/lang/String" "coder" "B")) (hy.mv X9.warmed.alike hh9).2.2.1 (g := (mkF m 30 #[.val (.ref x), .val (.ref y), .val (.ref y)] [.ref y, .int cd])) rfl (rest := [.int cd]) rfl (hb hbytes d30)
    have hh11 := q11.trans hh9
    have c12 : Steps p.tables e below (s₁.setTop (entryFrame m #[.ref x, .ref y] 3)) (T11.setTop (mkF m 33 #[.val (.ref x), .val (.ref y), .val (.ref y)] [.int cd', .int cd])) := c10.trans (st11 _ (Steps.refl _))
    by_cases hcd : cd = cd'
    · subst hcd
      have c13 : Steps p.tables e below (s₁.setTop (entryFrame m #[.ref x, .ref y] 3)) (T11.setTop (mkF m 37 #[.val (.ref x), .val (.ref y), .val (.ref y)] [.ref x])) := c12.trans (by
        refine XS.icmpNo X11.here hexec rfl (hb hbytes d33) rfl (ii_ne_f rfl) ?_
        refine XS.aloadN X11.here hexec rfl (hb hbytes d36) rfl rfl ?_
        exact Steps.refl _)
      obtain ⟨T14, X14, q14, st14⟩ := X11.hget hexec hown (wk W (.fieldLink "java/lang/String" 9 "java/lang/String" "value" "[B")) (hx.mv X11.warmed.alike hh11).2.1 (g := (mkF m 37 #[.val (.ref x), .val (.ref y), .val (.ref y)] [.ref x])) rfl (rest := []) rfl (hb hbytes d37)
      have hh14 := q14.trans hh11
      have c15 : Steps p.tables e below (s₁.setTop (entryFrame m #[.ref x, .ref y] 3)) (T14.setTop (mkF m 41 #[.val (.ref x), .val (.ref y), .val (.ref y)] [.ref y, .ref t])) := (c13.trans (st14 _ (Steps.refl _))).trans (by
        refine XS.aloadN X14.here hexec rfl (hb hbytes d40) rfl rfl ?_
        exact Steps.refl _)
      obtain ⟨T16, X16, q16, st16⟩ := X14.hget hexec hown (wk W (.fieldLink "java/lang/String" 9 "java/lang/String" "value" "[B")) (hy.mv X14.warmed.alike hh14).2.1 (g := (mkF m 41 #[.val (.ref x), .val (.ref y), .val (.ref y)] [.ref y, .ref t])) rfl (rest := [.ref t]) rfl (hb hbytes d41)
      have hh16 := q16.trans hh14
      have c17 : Steps p.tables e below (s₁.setTop (entryFrame m #[.ref x, .ref y] 3)) (T16.setTop (mkF m 44 #[.val (.ref x), .val (.ref y), .val (.ref y)] [.ref t', .ref t])) := c15.trans (st16 _ (Steps.refl _))
      obtain ⟨v18, T18, X18, E18, g18⟩ := X16.callS hexec (LEq.law l t V t' V') hown (wks W (staticW "java/lang/String" 541 LEq.yN)) (wk W LEq.tab) (W := 0) (Nat.le_of_ble_eq_true rfl) (Nat.le_of_ble_eq_true rfl) (Nat.le_refl _) (Nat.le_refl _) (g := (mkF m 44 #[.val (.ref x), .val (.ref y), .val (.ref y)] [.ref t', .ref t])) rfl (by rw [hml]; rfl) c17 (argsL := [.ref t, .ref t']) (rest := []) rfl rfl (by show 2 * 0 + 0 ≤ _; decide) (hb hbytes d44) (⟨rfl, hx.2.2.2.1.mv X16.warmed.alike hh16, hx.2.2.2.2.1.ty, hy.2.2.2.1.mv X16.warmed.alike hh16, hy.2.2.2.2.1.ty⟩)
      obtain ⟨v, rfl, q18, hv⟩ := E18
      have iff := Cod.eqv hx.2.2.2.2.1 hy.2.2.2.2.1 hx.2.2.2.2.2 hy.2.2.2.2.2
      rcases hv with ⟨rfl, he⟩ | ⟨rfl, he⟩
      · have c19 : Steps p.tables e below (s₁.setTop (entryFrame m #[.ref x, .ref y] 3)) (T18.setTop (mkF m 55 #[.val (.ref x), .val (.ref y), .val (.ref y)] [.int 1])) := Steps.trans g18 (by
          refine XS.ifNo X18.here hexec rfl (hb hbytes d47) rfl (i0_eq_f (by decide)) ?_
          refine iconstV X18.here hexec rfl 1 (hb hbytes d50) (by decide) ?_
          refine XS.goto X18.here hexec rfl (pc0 := 51) rfl (hb hbytes d51) (by decide) rfl ?_
          exact Steps.refl _)
        exact ⟨T18, some (.int 1), _, _, _, X18, rfl, rfl, rfl, (fun h => by cases h), ⟨1, rfl, q18.trans hh16, Or.inl ⟨rfl, iff.mp he⟩⟩, fun fs hl => c19.trans (X18.ireturnOut hexec hret rfl (Or.inr (Or.inl rfl)) (hb hbytes d55) hl)⟩
      · have c19 : Steps p.tables e below (s₁.setTop (entryFrame m #[.ref x, .ref y] 3)) (T18.setTop (mkF m 55 #[.val (.ref x), .val (.ref y), .val (.ref y)] [.int 0])) := Steps.trans g18 (by
          refine XS.ifYes X18.here hexec rfl (pc0 := 47) rfl (hb hbytes d47) rfl (i0_eq_t rfl) (by decide) rfl ?_
          refine iconstV X18.here hexec rfl 0 (hb hbytes d54) (by decide) ?_
          exact Steps.refl _)
        exact ⟨T18, some (.int 0), _, _, _, X18, rfl, rfl, rfl, (fun h => by cases h), ⟨0, rfl, q18.trans hh16, Or.inr ⟨rfl, fun q => he (iff.mpr q)⟩⟩, fun fs hl => c19.trans (X18.ireturnOut hexec hret rfl (Or.inr (Or.inl rfl)) (hb hbytes d55) hl)⟩
    · have c13 : Steps p.tables e below (s₁.setTop (entryFrame m #[.ref x, .ref y] 3)) (T11.setTop (mkF m 55 #[.val (.ref x), .val (.ref y), .val (.ref y)] [.int 0])) := c12.trans (by
        refine XS.icmpYes X11.here hexec rfl (pc0 := 33) rfl (hb hbytes d33) rfl (ii_ne_t hcd) (by decide) rfl ?_
        refine iconstV X11.here hexec rfl 0 (hb hbytes d54) (by decide) ?_
        exact Steps.refl _)
      exact ⟨T11, some (.int 0), _, _, _, X11, rfl, rfl, rfl, (fun h => by cases h), ⟨0, rfl, hh11, Or.inr ⟨rfl, Cod.dif hx.2.2.2.2.1 hy.2.2.2.2.1 hcd⟩⟩, fun fs hl => c13.trans (X11.ireturnOut hexec hret rfl (Or.inr (Or.inl rfl)) (hb hbytes d55) hl)⟩
theorem pays {l : Launch} {R : Room} {p : Program} {e : Env} {below : List Frame} {s : State} {sargs : Array Value} {len W : Nat} (x t : Addr) (V : Cell) (cd : Int32) (n : Nat) (f : Nat → Int32) (y t' : Addr) (V' : Cell) (cd' : Int32) (k : Nat) (g : Nat → Int32) (z : Int32) (htab : tab.before sargs s = true) (hfr : 2 ≤ R.frames) (hlo : W + 28 ≤ R.locals) :
    Back l R p e below s sargs yN len W (fun A₁ a₁ => A₁.cells + 0 ≤ R.cells ∧ A₁.slots + 0 ≤ R.slots ∧ P x t V cd n f y t' V' cd' k g z a₁ A₁.U) (fun A₁ _ v₁ B₁ => Says01 (SameT n f k g) v₁ A₁.U B₁.U ∧ B₁.locs = A₁.locs ++ [] ∧ B₁.cells = A₁.cells + 0 ∧ B₁.slots = A₁.slots + 0) :=
  (law l x t V cd n f y t' V' cd' k g z).pays htab hfr (by omega)
end SEq
end StrChars
namespace StrChars.Road
open Jvm Sem ClassFile Op Lib Jvm.Stand Jvm.Free Jvm.Free.XT
open Jvm.Lib.Cold (StaticIs)
/-- the words of String.equals(Object) -/
abbrev wordsEq : List Jvm.Cond := [.code SEq.yN SEq.yB 3 (some .boolean), .initialized ST, .classLink ST 10 ST, .fieldLink ST 38 ST "COMPACT_STRINGS" "Z", .fieldLink ST 15 ST "coder" "B", .fieldLink ST 9 ST "value" "[B", .methodLink ST 541 LEq.yN, .static LEq.yN, .code LEq.yN LEq.yB 3 (some .boolean), .initialized "java/lang/StringLatin1"]
theorem tabEq_of {a : Array Value} {s : State} (h : ∀ w ∈ wordsEq, w.before a s = true) : SEq.tab.before a s = true := by
  have hl : LEq.tab.before a s = true := unparts (wk h (.code LEq.yN LEq.yB 3 (some .boolean))) (wks h (.initialized LEq.yN.cls :: LEq.site))
  have q := consq hl h
  exact unparts (wk q (.code SEq.yN SEq.yB 3 (some .boolean))) (wks q (.initialized SEq.yN.cls :: SEq.site))
theorem movedEq {Z s : State} {a0 args : Array Value} (hZ : Z.Warmed39 s.vm) (hw : ∀ d ∈ wordsEq, d.before a0 Z = true) : ∀ d ∈ wordsEq, d.before args s = true := fun d hd => by
  have t : ∀ d ∈ wordsEq, (d.onTables && d.keepsFace) = true := by decide +kernel
  exact RoadKit.mv hZ (hw d hd) (t d hd)
/-- the road's facts of a String, as the laws ask it -/
theorem txt_of {Z U : State} {a0 : Array Value} {kI : Nat} (wi : (Jvm.Cond.instantiable ST kI).before a0 Z = true) (al : Z.vm.Alike U.vm) {x t : Addr} {kb : ClassId} {cs : List Int32} {cd N2 : Int32} {vs : List Value} (E : RoadKit.Exa Z U.heap x ST) (V : RoadKit.Fld Z U.heap x ST "value" "[B" (.ref t)) (C : RoadKit.Fld Z U.heap x ST "coder" "B" (.int cd)) (K : RoadKit.Arv Z U.heap t kb .byte N2 vs (.int 0)) (hc : CodA cs cd N2 vs) (hb : ∀ c ∈ cs, ¬ c < 0 ∧ ¬ (65535 : Int32) < c) (l2 : cs.length ≤ 4000) :
    ∃ A, Txt x t A cd cs.length (fun j => cs.getD j 0) U := by
  obtain ⟨A, K1, K2, K3, K4, K5, K6⟩ := K
  have hcod := hc.cod (by omega) K3 K5
  obtain ⟨D, fV, fC, hB, F1, F2, g1, g2, -, -⟩ := strObj wi al E V C
  exact ⟨A, ⟨_, hB.2.2.1, D, hB.1, rfl, by cases q : D.vm <;> first | rfl | exact absurd q (hB.2.1.2 _)⟩, Has.of hB F1 g1, Has.of hB F2 g2, ⟨K1.1, State.isArrayOf_alike al K1.2.1, K1.2.2, by rcases hcod with ⟨-, q, -⟩ | ⟨-, q, -⟩ <;> omega⟩, hcod, fun j hj => by
    have e : cs.getD j 0 = cs[j] := by simp [List.getD_eq_getElem?_getD, hj]
    show ¬ cs.getD j 0 < 0 ∧ ¬ 65535 < cs.getD j 0
    rw [e]; exact hb _ (List.getElem_mem _)⟩
theorem same_list (cs ds : List Int32) : SameT cs.length (fun j => cs.getD j 0) ds.length (fun j => ds.getD j 0) ↔ cs = ds := by
  constructor
  · rintro ⟨e, q⟩
    refine List.ext_getElem e fun j h1 h2 => ?_
    have := q j h1
    simpa [List.getD_eq_getElem?_getD, h1, h2] using this
  · rintro rfl
    exact ⟨rfl, fun _ _ => rfl⟩
/-- **equals(Object) OF TWO SUCH STRINGS**: 1 just where the chars are the same -/
theorem eqW {p : Program} {l : Launch} {e : Env} {R : Room} {s : State} {args : Array Value} {below : List Frame} {len W : Nat} {Z : State} {a0 : Array Value} {h : Heap} (hZ : Z.Warmed39 s.vm) (hw : ∀ d ∈ wordsEq, d.before a0 Z = true) {kI : Nat} (wi : (Jvm.Cond.instantiable ST kI).before a0 Z = true)
    {x t : Addr} {kb : ClassId} {cs : List Int32} {cd N2 : Int32} {vs : List Value} (E : RoadKit.Exa Z h x ST) (V : RoadKit.Fld Z h x ST "value" "[B" (.ref t)) (C : RoadKit.Fld Z h x ST "coder" "B" (.int cd)) (K : RoadKit.Arv Z h t kb .byte N2 vs (.int 0)) (hc : CodA cs cd N2 vs) (hb : ∀ c ∈ cs, ¬ c < 0 ∧ ¬ (65535 : Int32) < c) (l2 : cs.length ≤ 4000)
    {y t' : Addr} {kb' : ClassId} {ds : List Int32} {cd' N2' : Int32} {vs' : List Value} (E' : RoadKit.Exa Z h y ST) (V' : RoadKit.Fld Z h y ST "value" "[B" (.ref t')) (C' : RoadKit.Fld Z h y ST "coder" "B" (.int cd')) (K' : RoadKit.Arv Z h t' kb' .byte N2' vs' (.int 0)) (hc' : CodA ds cd' N2' vs') (hb' : ∀ c ∈ ds, ¬ c < 0 ∧ ¬ (65535 : Int32) < c) (l2' : ds.length ≤ 4000)
    {z : Int32} (S : RoadKit.Sta Z h ST "COMPACT_STRINGS" "Z" (.int z)) (hz : ¬ z = 0) (hfr : 2 ≤ R.frames) (hlo : W + 28 ≤ R.locals) :
    Back l R p e below s args (⟨"java/lang/String", "equals", "(Ljava/lang/Object;)Z"⟩ : MethodName) len W (fun P a => a = #[.ref x, .ref y] ∧ P.U.heap = h ∧ P.cells + 0 ≤ R.cells ∧ P.slots + 0 ≤ R.slots)
      (fun P _ v B => ∃ L, (((v = some (.int 1) ∧ cs = ds) ∨ (v = some (.int 0) ∧ ¬ cs = ds)) ∧ L = [] ∧ B.U.heap = h) ∧ B.locs = P.locs ++ L ∧ B.cells = P.cells + 0 ∧ B.slots = P.slots + 0) := by
  intro m meth c P g ig mk a X hg hsize hdg hW hn hp'
  obtain ⟨rfl, rfl, r1, r2⟩ := hp'
  have al : Z.vm.Alike P.U.vm := hZ.alike.trans X.warmed.alike
  obtain ⟨A, hx⟩ := txt_of wi al E V C K hc hb l2
  obtain ⟨A', hy⟩ := txt_of wi al E' V' C' K' hc' hb' l2'
  obtain ⟨v, B, X', ⟨⟨w, hv, hh, hq⟩, hl, hk, hs⟩, st⟩ := SEq.pays x t A cd cs.length (fun j => cs.getD j 0) y t' A' cd' ds.length (fun j => ds.getD j 0) z (tabEq_of (movedEq hZ hw)) hfr hlo m meth c P g ig mk _ X hg hsize hdg hW hn ⟨r1, r2, rfl, hx, hy, sta_is al S, hz⟩
  refine ⟨v, B, X', ⟨[], ⟨?_, rfl, hh⟩, hl, hk, hs⟩, st⟩
  rcases hq with ⟨rfl, q⟩ | ⟨rfl, q⟩
  · exact Or.inl ⟨hv, (same_list cs ds).mp q⟩
  · exact Or.inr ⟨hv, fun e => q ((same_list cs ds).mpr e)⟩
end StrChars.Road
namespace StrChars.Road
open Jvm Sem ClassFile Op Lib Jvm.Stand Jvm.Free Jvm.Free.XT
open Jvm.Lib.Cold (StaticIs)
/-- what backV says of its String, as the contracts of this text ask it: cs's low bytes, coder 0 -/
theorem codOf {cs : List Int32} {n : Nat} (hn : cs.length = n) (hb : ∀ c ∈ cs, ¬ 255 < c) : CodA cs 0 (Int32.ofNat n) ((cs.map lo8).map Value.int) := Or.inl ⟨rfl, by rw [hn], by simp [List.map_map, Function.comp_def], hb⟩
end StrChars.Road
end Jvm.Pilot.@@N@@

namespace Jvm.Pilot.@@N@@
open Jvm Jvm.ClassFile Sem Op Lib Jvm.Free Jvm.Stand Jvm.LawKit Jvm.RoadKit Bundle Jvm.Pilot.@@N@@.Jvm.D

theorem and255_chars (x : Int32) : ¬ nar .char ((x &&& (255 : Int32)).toUInt32.toUInt16.toUInt32.toInt32) < 0 ∧ ¬ (255 : Int32) < nar .char ((x &&& (255 : Int32)).toUInt32.toUInt16.toUInt32.toInt32) := by
  have t : ∀ k : Fin 256, ¬ nar .char ((Int32.ofNat k.val).toUInt32.toUInt16.toUInt32.toInt32) < 0 ∧ ¬ (255 : Int32) < nar .char ((Int32.ofNat k.val).toUInt32.toUInt16.toUInt32.toInt32) := by decide +kernel
  have h : (x &&& 255).toBitVec.toNat < 256 := by
    simp only [Int32.toBitVec_and, BitVec.toNat_and]
    exact Nat.lt_succ_of_le Nat.and_le_right
  have e : (x &&& 255) = Int32.ofNat (x &&& 255).toBitVec.toNat := by
    apply Int32.toBitVec_inj.mp
    show _ = BitVec.ofNat 32 _
    rw [BitVec.ofNat_toNat]; simp
  rw [e]
  exact t ⟨_, h⟩
theorem own_strwords : ∀ d ∈ StrChars.Road.words, d ∈ tables_1 := by decide +kernel

theorem own_up (cs : List Int32) (h : ∀ c ∈ cs, ¬ c < 0 ∧ ¬ (255 : Int32) < c) : ∀ c ∈ cs, ¬ c < 0 ∧ ¬ (65535 : Int32) < c := fun c hc => ⟨(h c hc).1, fun q => (h c hc).2 (by rw [Int32.lt_iff_toInt_lt] at q ⊢; have e1 : (65535 : Int32).toInt = 65535 := rfl; have e2 : (255 : Int32).toInt = 255 := rfl; omega)⟩

theorem own_strAtoms : ∀ d ∈ Bundle.stringAtoms, d ∈ tables_1 := by decide +kernel
theorem own_wS {Z : State} {a0 : Array Value} (hw : ∀ d ∈ tables_1, d.before a0 Z = true) : ∀ d ∈ Bundle.stringAtoms, d.before a0 Z = true := fun d hd => hw d (own_strAtoms d hd)

abbrev own_EL : List (String × Nat) := consts_1
theorem own_EW {Z : State} {a0 : Array Value} (hw : ∀ d ∈ tables_1, d.before a0 Z = true) : EW Z a0 own_EL := (EW.cons (hw _ (List.mem_of_getElem? (i := 78) rfl)) (by decide) (EW.cons (hw _ (List.mem_of_getElem? (i := 25) rfl)) (by decide) EW.nil))
theorem own_safeNull {Z : State} {EL : List (String × Nat)} {vm : Vm} {h : Heap} {x : Addr} {a0 : Array Value} {n : Nat} (hal : Z.vm.Alike vm) (E : Exa Z h x "java/lang/String") (F : Fld Z h x "java/lang/String" "value" "[B" .null) (wi : (Cond.instantiable "java/lang/String" n).before a0 Z = true) : Safe Z EL vm h x := fun B => by
  obtain ⟨p, -, u, a, -, q, -, F', e⟩ := B
  obtain ⟨cS, ⟨⟨s1, s2, s3, ⟨cv, kv, iv, s4, s4'⟩, -, s6, -, s8, -, s10, s11, s12, -⟩, -, -⟩, -, hB, -⟩ := F'
  rcases e with rfl | rfl
  · obtain ⟨kv', z4⟩ := ff_back (U := Wst Z vm h) hal s4
    have G : Fld Z h q.sa "java/lang/String" "value" "[B" (.ref q.sd) := ⟨q.sC, cv, kv', iv, q.fSV, s1, z4, s6, s2, s3, by rw [← hal.assignable]; exact s4', s8⟩
    exact Fld.ne F G (by simp) rfl
  · have hA : Arr Z h q.sd q.SA .byte := ⟨s10, State.isArrayOf_alike (s := Wst Z vm h) hal.symm s11, s12⟩
    exact ne_arr E wi hA rfl

theorem own_eqwords : ∀ d ∈ StrChars.Road.wordsEq, d ∈ tables_1 := by decide +kernel

theorem own_eqcase {v : Option Value} {P : Prop} (h : (v = some (.int 1) ∧ P) ∨ (v = some (.int 0) ∧ ¬ P)) : ∃ b : Int32, v = some (.int b) ∧ ((b = 1 ∧ P) ∨ (b = 0 ∧ ¬ P)) := by
  rcases h with ⟨h, q⟩ | ⟨h, q⟩
  · exact ⟨1, h, Or.inl ⟨rfl, q⟩⟩
  · exact ⟨0, h, Or.inr ⟨rfl, q⟩⟩

theorem own_selPriv {s : State} {args args' : Array Value} {y y2 : MethodName} (hcl : y.cls = y2.cls) (hi : (Cond.instanceMethod y).before args s = true) (hp : s.PrivateAt y) (h2 : (Cond.selects y2.cls y2 y2).before args' s = true) (hy : y.cls ≠ "java/lang/invoke/MethodHandle" ∧ y.cls ≠ "java/lang/invoke/VarHandle") : (Cond.selects y.cls y y).before args s = true := by
  obtain ⟨mk, methM, hn, hm, hst, hab⟩ := Cond.instanceMethod_spec hi
  obtain ⟨c2, r2, m2, q1, q2, q3, q4, kP, hkP, hkPi⟩ := Cond.selects_spec h2
  have e1 := findClass_of_methodNamed hn
  have e2 := findClass_of_methodNamed q3
  rw [← hcl] at e2
  have e3 : m2.cls = mk.cls := Option.some.inj (e2.symm.trans e1)
  rw [e3] at hkP
  have e4 := State.methodFound?_of_named hn hy
  have e5 := selectMethod_private (p := {}) (c := mk.cls) hm (hp mk methM hn hm)
  simp [Cond.before, Cond.holds, Cond.value, e1, e4, hn, e5, hkP, hkPi]

theorem own_i8 (x : Int32) : x.toInt8.toInt32.toInt8.toInt32 = x.toInt8.toInt32 := by simp

theorem d_jdk_42_method_149_code_0 : decode jdk_42_method_149_code 0 = .ok (.aload_n 0, 1) := by decide +kernel
theorem d_jdk_42_method_149_code_1 : decode jdk_42_method_149_code 1 = .ok (.invokespecial 1, 3) := by decide +kernel
theorem d_jdk_42_method_149_code_4 : decode jdk_42_method_149_code 4 = .ok (.iload_n 3, 1) := by decide +kernel
theorem d_jdk_42_method_149_code_5 : decode jdk_42_method_149_code 5 = .ok (.ifCond .ne 22, 3) := by decide +kernel
theorem d_jdk_42_method_149_code_8 : decode jdk_42_method_149_code 8 = .ok (.aload_n 0, 1) := by decide +kernel
theorem d_jdk_42_method_149_code_9 : decode jdk_42_method_149_code 9 = .ok (.ldc 7, 2) := by decide +kernel
theorem d_jdk_42_method_149_code_11 : decode jdk_42_method_149_code 11 = .ok (.getfield 9, 3) := by decide +kernel
theorem d_jdk_42_method_149_code_14 : decode jdk_42_method_149_code 14 = .ok (.putfield 9, 3) := by decide +kernel
theorem d_jdk_42_method_149_code_17 : decode jdk_42_method_149_code 17 = .ok (.aload_n 0, 1) := by decide +kernel
theorem d_jdk_42_method_149_code_18 : decode jdk_42_method_149_code 18 = .ok (.ldc 7, 2) := by decide +kernel
theorem d_jdk_42_method_149_code_20 : decode jdk_42_method_149_code 20 = .ok (.getfield 15, 3) := by decide +kernel
theorem d_jdk_42_method_149_code_23 : decode jdk_42_method_149_code 23 = .ok (.putfield 15, 3) := by decide +kernel
theorem d_jdk_42_method_149_code_26 : decode jdk_42_method_149_code 26 = .ok (.return_, 1) := by decide +kernel
theorem pn_java_lang_String : plainName "java/lang/String" = true := by first | (simp [plainName, overriddenIn]; done) | decide +kernel
theorem ef_init4e (m : MethodId) (x0 : Addr) (x1 : Addr) (x2 : Int32) (x3 : Int32) : entryFrame m #[(.ref x0), (.ref x1), (.int x2), (.int x3), .null] 6 = mkF m 0 #[.val (.ref x0), .val (.ref x1), .val (.int x2), .val (.int x3), .val .null, .unset] [] := by (first | (simp [entryFrame, mkF, argsToLocals, Value.category]; done) | rfl)
def Q_init4e (Z : State) (a1 : Addr) (h0 : Heap) (n0 : Nat) (v : Option Value) (h : Heap) (L : List Loc) : Prop := v = none ∧ Fr n0 L ∧ Keep h0 h [a1] ∧ Exa Z h a1 "java/lang/String" ∧ Fld Z h a1 "java/lang/String" "coder" "B" (.int 0) ∧ ∃ (t : Addr) (k : ClassId), Fld Z h a1 "java/lang/String" "value" "[B" (.ref t) ∧ Arv Z h t k .byte (0 : Int32) ([] : List Value) (.int 0)
set_option maxRecDepth 65536 in
set_option maxHeartbeats 40000000 in
theorem rm_init4e (l : Launch) (Z : State) (a0 : Array Value) (hw : ∀ d ∈ tables_1, d.before a0 Z = true) (ws : List Jvm.Cond) (a1 b1 : Addr) (h0 : Heap) (n0 : Nat) (Z0 : n0 ≤ h0.size) (g_a1 : n0 ≤ a1) (E1 : Exa Z h0 a1 "java/lang/String") (Fv : Fld Z h0 a1 "java/lang/String" "value" "[B" .null) (Fc : Fld Z h0 a1 "java/lang/String" "coder" "B" (.int (0 : Int32))) :
    MetFree l (⟨"java/lang/String", "<init>", "([CIILjava/lang/Void;)V"⟩ : MethodName) (head1 (Jvm.Cond.code (⟨"java/lang/String", "<init>", "([CIILjava/lang/Void;)V"⟩ : MethodName) jdk_42_method_149_code 6 none :: ws) ({ frames := 1, cells := 4, slots := 8, locals := 12 } : Room)) (fun a U => a = #[(.ref a1), (.ref b1), (.int (0 : Int32)), (.int (0 : Int32)), .null] ∧ Z.Warmed39 U.vm ∧ U.heap = h0 ∧ CHv Z own_EL U.vm h0) (fun _ _ _ _ _ => True) (fun _ U o U' => ∃ v L, o = .returned v ∧ Q_init4e Z a1 h0 n0 v U'.heap L ∧ CHr Z own_EL U.vm U.heap U'.vm U'.heap ∧ ReturnedEndW U o U' L ({ frames := 1, cells := 4, slots := 8, locals := 12 } : Room).cells ({ frames := 1, cells := 4, slots := 8, locals := 12 } : Room).slots) := by
  refine MetFree.of_bodySF (plainFor_of_name pn_java_lang_String) hisR ?_
  intro p e s m args below meth c s₁ Bd hml0 hP hK
  obtain ⟨rfl, hZ, hh, hCH0⟩ := hP
  have hx := Bd.exec
  have hby := Bd.bytes
  have hml : c.maxLocals = 6 := hml0
  have hown : s.vm.findClass "java/lang/String" = some m.cls := findClass_of_methodNamed Bd.named
  have hnm := (name_of_methodNamed Bd.named Bd.method).1
  have X0 : Stand p l e ({ frames := 1, cells := 4, slots := 8, locals := 12 } : Room) (s.setVm s.vm) m #[(.ref a1), (.ref b1), (.int (0 : Int32)), (.int (0 : Int32)), .null] below meth c s₁ [] 0 0 := Stand.of_body Bd
  have e0 : s₁.heap = h0 := by rw [← hh, Bd.state]; rfl
  have N0 := Fr.nil n0
  have pre0 : ∀ t, Steps p.tables e below (s₁.setTop (mkF m 0 #[.val (.ref a1), .val (.ref b1), .val (.int (0 : Int32)), .val (.int (0 : Int32)), .val .null, .unset] [])) t → Steps p.tables e below (s₁.setTop (entryFrame m #[(.ref a1), (.ref b1), (.int (0 : Int32)), (.int (0 : Int32)), .null] 6)) t := fun t k => castTop (ef_init4e m a1 b1 (0 : Int32) (0 : Int32)) k
  have P0 : ∀ t, Steps p.tables e below (s₁.setTop (mkF m 0 #[.val (.ref a1), .val (.ref b1), .val (.int (0 : Int32)), .val (.int (0 : Int32)), .val .null, .unset] [])) t → Steps p.tables e below (s₁.setTop (mkF m 0 #[.val (.ref a1), .val (.ref b1), .val (.int (0 : Int32)), .val (.int (0 : Int32)), .val .null, .unset] [])) t := fun t k => k
  have hS0 : s.Since s.vm h0.size := (State.WarmedH.refl s).since _
  have hCR0 : CHr Z own_EL s.vm h0 s.vm h0 := CHr.refl hCH0
  have sf_a1 : Safe Z own_EL s.vm h0 a1 := own_safeNull hZ.alike E1 Fv (hw _ (List.mem_of_getElem? (i := 13) rfl))
  obtain ⟨T1, X1, e1, st1⟩ := initO X0 hx hZ hown (hw _ (List.mem_of_getElem? (i := 22) rfl)) (hw _ (List.mem_of_getElem? (i := 23) rfl)) (hw _ (List.mem_of_getElem? (i := 24) rfl)) e0 (g := (mkF m 1 #[.val (.ref a1), .val (.ref b1), .val (.int (0 : Int32)), .val (.int (0 : Int32)), .val .null, .unset] [(.ref a1)])) rfl (by rw [hml]; rfl) rfl (hb hby d_jdk_42_method_149_code_1) (by decide) (W := 0) (by show 2 * 0 + _ ≤ _; exact Nat.le_of_eq rfl) (by decide)
  have P2 : ∀ t, Steps p.tables e below (T1.setTop (mkF m 4 #[.val (.ref a1), .val (.ref b1), .val (.int (0 : Int32)), .val (.int (0 : Int32)), .val .null, .unset] [])) t → Steps p.tables e below (s₁.setTop (mkF m 0 #[.val (.ref a1), .val (.ref b1), .val (.int (0 : Int32)), .val (.int (0 : Int32)), .val .null, .unset] [])) t := fun t k => P0 t (by
    refine XS.aloadN X0.here hx rfl (hb hby d_jdk_42_method_149_code_0) rfl rfl ?_
    show Steps p.tables e below (s₁.setTop (mkF m 1 #[.val (.ref a1), .val (.ref b1), .val (.int (0 : Int32)), .val (.int (0 : Int32)), .val .null, .unset] [(.ref a1)])) _
    exact st1 _ k)
  obtain ⟨y3, T3, h3, k3, t3, kb3, X3, e3, E3, hS3, hk3, hZ3, ho3, Ea3, Fc3, Fv3, Av3, la3, lb3, cr3, Li3, ne3, st3⟩ := ldcCH X1 hx hZ hown (hw _ (List.mem_of_getElem? (i := 25) rfl)) (own_wS hw) e1 hS0 (Nat.le_refl _) (own_EW hw) (by decide) hCH0 (vs := ([] : List Value)) (z := (0 : Int32)) ⟨by decide, by decide⟩ (by decide) (by decide) (g := (mkF m 9 #[.val (.ref a1), .val (.ref b1), .val (.int (0 : Int32)), .val (.int (0 : Int32)), .val .null, .unset] [(.ref a1)])) rfl (hb hby d_jdk_42_method_149_code_9) (n := 0) (by decide) (by decide) (Nat.le_of_ble_eq_true rfl) (Nat.le_of_ble_eq_true rfl)
  have P4 : ∀ t, Steps p.tables e below (T3.setTop (mkF m 11 #[.val (.ref a1), .val (.ref b1), .val (.int (0 : Int32)), .val (.int (0 : Int32)), .val .null, .unset] [(.ref y3), (.ref a1)])) t → Steps p.tables e below (s₁.setTop (mkF m 0 #[.val (.ref a1), .val (.ref b1), .val (.int (0 : Int32)), .val (.int (0 : Int32)), .val .null, .unset] [])) t := fun t k => P2 t (by
    show Steps p.tables e below (T1.setTop (mkF m 4 #[.val (.ref a1), .val (.ref b1), .val (.int (0 : Int32)), .val (.int (0 : Int32)), .val .null, .unset] [])) _
    refine XS.iloadN X1.here hx rfl (hb hby d_jdk_42_method_149_code_4) rfl ?_
    show Steps p.tables e below (T1.setTop (mkF m 5 #[.val (.ref a1), .val (.ref b1), .val (.int (0 : Int32)), .val (.int (0 : Int32)), .val .null, .unset] [(.int (0 : Int32))])) _
    refine XS.ifNo X1.here hx rfl (hb hby d_jdk_42_method_149_code_5) rfl ((if0 _ _).trans (teq (show (0 : Int32) = (0 : Int32) from (by decide))).2) ?_
    show Steps p.tables e below (T1.setTop (mkF m 8 #[.val (.ref a1), .val (.ref b1), .val (.int (0 : Int32)), .val (.int (0 : Int32)), .val .null, .unset] [])) _
    refine XS.aloadN X1.here hx rfl (hb hby d_jdk_42_method_149_code_8) rfl rfl ?_
    show Steps p.tables e below (T1.setTop (mkF m 9 #[.val (.ref a1), .val (.ref b1), .val (.int (0 : Int32)), .val (.int (0 : Int32)), .val .null, .unset] [(.ref a1)])) _
    exact st3 _ k)
  have Z5 : n0 ≤ h3.size := Nat.le_trans Z0 E3.1
  have K6 : Keep h0 h3 [a1] := (Keep.refl h0 [a1]).ext E3
  have R7 : CHr Z own_EL s.vm h0 T3.vm h3 := hCR0.trans cr3
  obtain ⟨T8, X8, e8, st8⟩ := getF X3 hx hZ3 ho3 (host := "") (Or.inl (hw _ (List.mem_of_getElem? (i := 31) rfl))) Via.refl e3 Fv3 (g := (mkF m 11 #[.val (.ref a1), .val (.ref b1), .val (.int (0 : Int32)), .val (.int (0 : Int32)), .val .null, .unset] [(.ref y3), (.ref a1)])) rfl rfl (hb hby d_jdk_42_method_149_code_11)
  have P9 : ∀ t, Steps p.tables e below (T8.setTop (mkF m 14 #[.val (.ref a1), .val (.ref b1), .val (.int (0 : Int32)), .val (.int (0 : Int32)), .val .null, .unset] [(.ref t3), (.ref a1)])) t → Steps p.tables e below (s₁.setTop (mkF m 0 #[.val (.ref a1), .val (.ref b1), .val (.int (0 : Int32)), .val (.int (0 : Int32)), .val .null, .unset] [])) t := fun t k => P4 t (by
    show Steps p.tables e below (T3.setTop (mkF m 11 #[.val (.ref a1), .val (.ref b1), .val (.int (0 : Int32)), .val (.int (0 : Int32)), .val .null, .unset] [(.ref y3), (.ref a1)])) _
    exact st8 _ k)
  have f10 : Fld Z h3 a1 "java/lang/String" "value" "[B" .null := (Fv.ext E3)
  have f11 : Exa Z h3 a1 "java/lang/String" := (E1.ext E3)
  obtain ⟨T12, h12, X12, e12, W12, st12⟩ := putF X8 hx hZ3 ho3 (host := "") (Or.inl (hw _ (List.mem_of_getElem? (i := 31) rfl))) Via.refl e8 f10 f11 (Or.inr ⟨(hw _ (List.mem_of_getElem? (i := 27) rfl)), rfl, hnm⟩) (hw _ (List.mem_of_getElem? (i := 13) rfl)) (ty := (.array .byte)) (by decide) rfl rfl (g := (mkF m 14 #[.val (.ref a1), .val (.ref b1), .val (.int (0 : Int32)), .val (.int (0 : Int32)), .val .null, .unset] [(.ref t3), (.ref a1)])) rfl rfl (hb hby d_jdk_42_method_149_code_14)
  have P13 : ∀ t, Steps p.tables e below (T12.setTop (mkF m 17 #[.val (.ref a1), .val (.ref b1), .val (.int (0 : Int32)), .val (.int (0 : Int32)), .val .null, .unset] [])) t → Steps p.tables e below (s₁.setTop (mkF m 0 #[.val (.ref a1), .val (.ref b1), .val (.int (0 : Int32)), .val (.int (0 : Int32)), .val .null, .unset] [])) t := fun t k => P9 t (by
    show Steps p.tables e below (T8.setTop (mkF m 14 #[.val (.ref a1), .val (.ref b1), .val (.int (0 : Int32)), .val (.int (0 : Int32)), .val .null, .unset] [(.ref t3), (.ref a1)])) _
    exact st12 _ k)
  have f14 := f10.same W12
  have N15 := Fr.snoc X12 N0 g_a1
  have Z16 : n0 ≤ h12.size := Nat.le_trans Z5 (Keep.of_wr W12).1
  have K17 : Keep h0 h12 [a1] := K6.wr W12 (Or.inl (List.mem_of_getElem? (i := 0) rfl))
  have hk18 : k3 ≤ h12.size := Nat.le_trans hk3 (Keep.of_wr W12).1
  have C19 : CHr Z own_EL T3.vm h3 T3.vm h12 := CHr.wr W12 (CHr.safe cr3 E1.lt sf_a1) cr3.1
  have R20 : CHr Z own_EL s.vm h0 T3.vm h12 := R7.trans C19
  obtain ⟨y21, T21, h21, k21, t21, kb21, X21, e21, E21, hS21, hk21, hZ21, ho21, Ea21, Fc21, Fv21, Av21, la21, lb21, cr21, Li21, ne21, st21⟩ := ldcCH X12 hx hZ3 ho3 (hw _ (List.mem_of_getElem? (i := 25) rfl)) (own_wS hw) e12 hS3 hk18 (own_EW hw) (by decide) C19.1 (vs := ([] : List Value)) (z := (0 : Int32)) ⟨by decide, by decide⟩ (by decide) (by decide) (g := (mkF m 18 #[.val (.ref a1), .val (.ref b1), .val (.int (0 : Int32)), .val (.int (0 : Int32)), .val .null, .unset] [(.ref a1)])) rfl (hb hby d_jdk_42_method_149_code_18) (n := 0) (by decide) (by decide) (Nat.le_of_ble_eq_true rfl) (Nat.le_of_ble_eq_true rfl)
  have P22 : ∀ t, Steps p.tables e below (T21.setTop (mkF m 20 #[.val (.ref a1), .val (.ref b1), .val (.int (0 : Int32)), .val (.int (0 : Int32)), .val .null, .unset] [(.ref y21), (.ref a1)])) t → Steps p.tables e below (s₁.setTop (mkF m 0 #[.val (.ref a1), .val (.ref b1), .val (.int (0 : Int32)), .val (.int (0 : Int32)), .val .null, .unset] [])) t := fun t k => P13 t (by
    show Steps p.tables e below (T12.setTop (mkF m 17 #[.val (.ref a1), .val (.ref b1), .val (.int (0 : Int32)), .val (.int (0 : Int32)), .val .null, .unset] [])) _
    refine XS.aloadN X12.here hx rfl (hb hby d_jdk_42_method_149_code_17) rfl rfl ?_
    show Steps p.tables e below (T12.setTop (mkF m 18 #[.val (.ref a1), .val (.ref b1), .val (.int (0 : Int32)), .val (.int (0 : Int32)), .val .null, .unset] [(.ref a1)])) _
    exact st21 _ k)
  have Z23 : n0 ≤ h21.size := Nat.le_trans Z16 E21.1
  have K24 : Keep h0 h21 [a1] := K17.ext E21
  have R25 : CHr Z own_EL s.vm h0 T21.vm h21 := R20.trans cr21
  obtain ⟨T26, X26, e26, st26⟩ := getF X21 hx hZ21 ho21 (host := "") (Or.inl (hw _ (List.mem_of_getElem? (i := 32) rfl))) Via.refl e21 Fc21 (g := (mkF m 20 #[.val (.ref a1), .val (.ref b1), .val (.int (0 : Int32)), .val (.int (0 : Int32)), .val .null, .unset] [(.ref y21), (.ref a1)])) rfl rfl (hb hby d_jdk_42_method_149_code_20)
  have P27 : ∀ t, Steps p.tables e below (T26.setTop (mkF m 23 #[.val (.ref a1), .val (.ref b1), .val (.int (0 : Int32)), .val (.int (0 : Int32)), .val .null, .unset] [(.int (0 : Int32)), (.ref a1)])) t → Steps p.tables e below (s₁.setTop (mkF m 0 #[.val (.ref a1), .val (.ref b1), .val (.int (0 : Int32)), .val (.int (0 : Int32)), .val .null, .unset] [])) t := fun t k => P22 t (by
    show Steps p.tables e below (T21.setTop (mkF m 20 #[.val (.ref a1), .val (.ref b1), .val (.int (0 : Int32)), .val (.int (0 : Int32)), .val .null, .unset] [(.ref y21), (.ref a1)])) _
    exact st26 _ k)
  have f28 : Fld Z h21 a1 "java/lang/String" "coder" "B" (.int (0 : Int32)) := (((Fc.ext E3).other W12 (Or.inr (slot_ne (Or.inr (hw _ (List.mem_of_getElem? (i := 28) rfl))) (Or.inr (hw _ (List.mem_of_getElem? (i := 27) rfl))) (by decide) (t := .byte) (t' := (.array .byte)) (by decide) (by decide)))).ext E21)
  have f29 : Exa Z h21 a1 "java/lang/String" := ((f11.wr W12).ext E21)
  obtain ⟨T30, h30, X30, e30, W30, st30⟩ := putFN X26 hx hZ21 ho21 (hw _ (List.mem_of_getElem? (i := 32) rfl)) Via.refl e26 f28 f29 (Or.inr ⟨(hw _ (List.mem_of_getElem? (i := 28) rfl)), rfl, hnm⟩) (hw _ (List.mem_of_getElem? (i := 13) rfl)) (ty := .byte) (v' := .int (0 : Int32)) (by decide) rfl rfl (g := (mkF m 23 #[.val (.ref a1), .val (.ref b1), .val (.int (0 : Int32)), .val (.int (0 : Int32)), .val .null, .unset] [(.int (0 : Int32)), (.ref a1)])) rfl rfl (hb hby d_jdk_42_method_149_code_23)
  have P31 : ∀ t, Steps p.tables e below (T30.setTop (mkF m 26 #[.val (.ref a1), .val (.ref b1), .val (.int (0 : Int32)), .val (.int (0 : Int32)), .val .null, .unset] [])) t → Steps p.tables e below (s₁.setTop (mkF m 0 #[.val (.ref a1), .val (.ref b1), .val (.int (0 : Int32)), .val (.int (0 : Int32)), .val .null, .unset] [])) t := fun t k => P27 t (by
    show Steps p.tables e below (T26.setTop (mkF m 23 #[.val (.ref a1), .val (.ref b1), .val (.int (0 : Int32)), .val (.int (0 : Int32)), .val .null, .unset] [(.int (0 : Int32)), (.ref a1)])) _
    exact st30 _ k)
  have f32 := f28.same W30
  have N33 := Fr.snoc X30 N15 g_a1
  have Z34 : n0 ≤ h30.size := Nat.le_trans Z23 (Keep.of_wr W30).1
  have K35 : Keep h0 h30 [a1] := K24.wr W30 (Or.inl (List.mem_of_getElem? (i := 0) rfl))
  have hk36 : k21 ≤ h30.size := Nat.le_trans hk21 (Keep.of_wr W30).1
  have C37 : CHr Z own_EL T21.vm h21 T21.vm h30 := CHr.wr W30 (CHr.safe ((cr3.trans C19).trans cr21) E1.lt sf_a1) cr21.1
  have R38 : CHr Z own_EL s.vm h0 T21.vm h30 := R25.trans C37
  have f39 : Exa Z h30 a1 "java/lang/String" := (f29.wr W30)
  have f40 : Fld Z h30 a1 "java/lang/String" "value" "[B" (.ref t3) := ((f14.ext E21).other W30 (Or.inr (slot_ne (Or.inr (hw _ (List.mem_of_getElem? (i := 27) rfl))) (Or.inr (hw _ (List.mem_of_getElem? (i := 28) rfl))) (by decide) (t := (.array .byte)) (t' := .byte) (by decide) (by decide))))
  have f41 : Arv Z h30 t3 kb3 .byte (0 : Int32) ([] : List Value) (.int 0) := (((Av3.other W12 (Ne.symm (Exa.neArv (E1.ext E3) Av3 (hw _ (List.mem_of_getElem? (i := 13) rfl))))).ext E21).other W30 (Ne.symm (Exa.neArv (E1.ext E3) Av3 (hw _ (List.mem_of_getElem? (i := 13) rfl)))))
  obtain ⟨fs42, hr42, hrun42, hended42, hRW42⟩ := X30.leaveW (v := none) hS21 (by rw [e30]; exact hk36) (fun _ => rfl)
  have hce42 : CHr Z own_EL s.vm s.heap T30.vm T30.heap := by
    rw [hh, e30]
    exact R38.trans (CHv.at X30 hZ21 (own_EW hw) C37.1)
  refine ⟨_, _, pre0 _ (P31 _ ?_), hrun42, hended42, _, _, rfl, ?_, hce42, ⟨hRW42.1, hRW42.2.1, hRW42.2.2.1, hRW42.2.2.2.mono (Nat.le_of_ble_eq_true rfl) (Nat.le_of_ble_eq_true rfl)⟩⟩
  · show Steps p.tables e below (T30.setTop (mkF m 26 #[.val (.ref a1), .val (.ref b1), .val (.int (0 : Int32)), .val (.int (0 : Int32)), .val .null, .unset] [])) _
    exact X30.returnOut hx Bd.returns (hb hby d_jdk_42_method_149_code_26) hr42
  · show Q_init4e Z a1 h0 n0 _ T30.heap _
    rw [e30]
    exact ⟨rfl, N33, K35, f39, f32, t3, _, f40, f41⟩
theorem d_jdk_42_method_3_code_0 : decode jdk_42_method_3_code 0 = .ok (.aload_n 0, 1) := by decide +kernel
theorem d_jdk_42_method_3_code_1 : decode jdk_42_method_3_code 1 = .ok (.aload_n 1, 1) := by decide +kernel
theorem d_jdk_42_method_3_code_2 : decode jdk_42_method_3_code 2 = .ok (.iconst 0, 1) := by decide +kernel
theorem d_jdk_42_method_3_code_3 : decode jdk_42_method_3_code 3 = .ok (.aload_n 1, 1) := by decide +kernel
theorem d_jdk_42_method_3_code_4 : decode jdk_42_method_3_code 4 = .ok (.arraylength, 1) := by decide +kernel
theorem d_jdk_42_method_3_code_5 : decode jdk_42_method_3_code 5 = .ok (.aconst_null, 1) := by decide +kernel
theorem d_jdk_42_method_3_code_6 : decode jdk_42_method_3_code 6 = .ok (.invokespecial 27, 3) := by decide +kernel
theorem pd__28_5bCIILjava_2flang_2fVoid_3b_29V : parseMethodDescriptor "([CIILjava/lang/Void;)V" = some ⟨[(.array .char), .int, .int, (.object "java/lang/Void")], none⟩ := by decide +kernel
theorem d_jdk_42_method_3_code_9 : decode jdk_42_method_3_code 9 = .ok (.return_, 1) := by decide +kernel
theorem ef_init1e (m : MethodId) (x0 : Addr) (x1 : Addr) : entryFrame m #[(.ref x0), (.ref x1)] 2 = mkF m 0 #[.val (.ref x0), .val (.ref x1)] [] := by (first | (simp [entryFrame, mkF, argsToLocals, Value.category]; done) | rfl)
def Q_init1e (Z : State) (a1 : Addr) (h0 : Heap) (n0 : Nat) (v : Option Value) (h : Heap) (L : List Loc) : Prop := v = none ∧ Fr n0 L ∧ Keep h0 h [a1] ∧ Exa Z h a1 "java/lang/String" ∧ Fld Z h a1 "java/lang/String" "coder" "B" (.int 0) ∧ ∃ (t : Addr) (k : ClassId), Fld Z h a1 "java/lang/String" "value" "[B" (.ref t) ∧ Arv Z h t k .byte (0 : Int32) ([] : List Value) (.int 0)
set_option maxRecDepth 65536 in
set_option maxHeartbeats 40000000 in
theorem rm_init1e (l : Launch) (Z : State) (a0 : Array Value) (hw : ∀ d ∈ tables_1, d.before a0 Z = true) (ws : List Jvm.Cond) (a1 b1 : Addr) (kb : ClassId) (h0 : Heap) (n0 : Nat) (Z0 : n0 ≤ h0.size) (g_a1 : n0 ≤ a1) (E1 : Exa Z h0 a1 "java/lang/String") (Fv : Fld Z h0 a1 "java/lang/String" "value" "[B" .null) (Fc : Fld Z h0 a1 "java/lang/String" "coder" "B" (.int (0 : Int32))) (Ab : Arv Z h0 b1 kb .char (0 : Int32) ([] : List Value) (.int (0 : Int32))) :
    MetFree l (⟨"java/lang/String", "<init>", "([C)V"⟩ : MethodName) (head1 (Jvm.Cond.code (⟨"java/lang/String", "<init>", "([C)V"⟩ : MethodName) jdk_42_method_3_code 2 none :: ws) ({ frames := 2, cells := 4, slots := 8, locals := 29 } : Room)) (fun a U => a = #[(.ref a1), (.ref b1)] ∧ Z.Warmed39 U.vm ∧ U.heap = h0 ∧ CHv Z own_EL U.vm h0) (fun _ _ _ _ _ => True) (fun _ U o U' => ∃ v L, o = .returned v ∧ Q_init1e Z a1 h0 n0 v U'.heap L ∧ CHr Z own_EL U.vm U.heap U'.vm U'.heap ∧ ReturnedEndW U o U' L ({ frames := 2, cells := 4, slots := 8, locals := 29 } : Room).cells ({ frames := 2, cells := 4, slots := 8, locals := 29 } : Room).slots) := by
  refine MetFree.of_bodySF (plainFor_of_name pn_java_lang_String) hisR ?_
  intro p e s m args below meth c s₁ Bd hml0 hP hK
  obtain ⟨rfl, hZ, hh, hCH0⟩ := hP
  have hx := Bd.exec
  have hby := Bd.bytes
  have hml : c.maxLocals = 2 := hml0
  have hown : s.vm.findClass "java/lang/String" = some m.cls := findClass_of_methodNamed Bd.named
  have hnm := (name_of_methodNamed Bd.named Bd.method).1
  have X0 : Stand p l e ({ frames := 2, cells := 4, slots := 8, locals := 29 } : Room) (s.setVm s.vm) m #[(.ref a1), (.ref b1)] below meth c s₁ [] 0 0 := Stand.of_body Bd
  have e0 : s₁.heap = h0 := by rw [← hh, Bd.state]; rfl
  have N0 := Fr.nil n0
  have pre0 : ∀ t, Steps p.tables e below (s₁.setTop (mkF m 0 #[.val (.ref a1), .val (.ref b1)] [])) t → Steps p.tables e below (s₁.setTop (entryFrame m #[(.ref a1), (.ref b1)] 2)) t := fun t k => castTop (ef_init1e m a1 b1) k
  have P0 : ∀ t, Steps p.tables e below (s₁.setTop (mkF m 0 #[.val (.ref a1), .val (.ref b1)] [])) t → Steps p.tables e below (s₁.setTop (mkF m 0 #[.val (.ref a1), .val (.ref b1)] [])) t := fun t k => k
  have hS0 : s.Since s.vm h0.size := (State.WarmedH.refl s).since _
  have hCR0 : CHr Z own_EL s.vm h0 s.vm h0 := CHr.refl hCH0
  have sf_a1 : Safe Z own_EL s.vm h0 a1 := own_safeNull hZ.alike E1 Fv (hw _ (List.mem_of_getElem? (i := 13) rfl))
  obtain ⟨cl43, Ar43, -, S43, N43, -, -⟩ := id Ab
  obtain ⟨_, _, ⟨T44, L44, k44, n44⟩, -, X44, hs44, hg44, ⟨Lc44, hQ44, l44, y44, z44, cr44⟩, st44⟩ := X0.specialBackS hx (y := (⟨"java/lang/String", "<init>", "([CIILjava/lang/Void;)V"⟩ : MethodName)) rfl hown (mvT hZ (hw _ (List.mem_of_getElem? (i := 18) rfl))) (mvT hZ (hw _ (List.mem_of_getElem? (i := 19) rfl))) (mvT hZ (hw _ (List.mem_of_getElem? (i := 21) rfl))) (by decide) (backOfSH (W := 0) (rm_init4e l Z a0 hw [] a1 b1 h0 n0 Z0 g_a1 E1 Fv Fc) hZ (hw _ (List.mem_of_getElem? (i := 21) rfl)) (hw _ (List.mem_of_getElem? (i := 14) rfl)) (by decide) (by decide) (own_EW hw) hCH0) (g := (mkF m 6 #[.val (.ref a1), .val (.ref b1)] [.null, (.int (0 : Int32)), (.int (0 : Int32)), (.ref b1), (.ref a1)])) rfl (by rw [hml]; rfl) (Steps.refl _) (a := a1) (argsL := [(.ref b1), (.int (0 : Int32)), (.int (0 : Int32)), .null]) (rest := []) (lenOf pd__28_5bCIILjava_2flang_2fVoid_3b_29V rfl) rfl (by show 2 * 0 + _ ≤ _; exact Nat.le_of_eq rfl) (hb hby d_jdk_42_method_3_code_6) (fun _ _ => ⟨rfl, e0, (Nat.le_of_ble_eq_true rfl : 0 + 4 ≤ _), (Nat.le_of_ble_eq_true rfl : 0 + 8 ≤ _)⟩)
  dsimp only [Pt.U, Pt.locs, Pt.cells, Pt.slots] at X44 l44 y44 z44 st44 hQ44 hs44 hg44 cr44
  subst l44 y44 z44
  obtain ⟨rfl, Nq44, Kk44, Ek44, Fc44, t44, k44, Fv44, Av44⟩ := hQ44
  obtain ⟨Xr44, hSr44, hZr44, ho44⟩ := rebS hS0 (by rw [e0]; exact (Nat.le_refl _)) X44 hs44 hg44 hZ hown
  have N45 := Fr.app N0 Nq44
  have P46 : ∀ t, Steps p.tables e below (T44.setTop (mkF m 9 #[.val (.ref a1), .val (.ref b1)] [])) t → Steps p.tables e below (s₁.setTop (mkF m 0 #[.val (.ref a1), .val (.ref b1)] [])) t := fun t k => P0 t (by
    refine XS.aloadN X0.here hx rfl (hb hby d_jdk_42_method_3_code_0) rfl rfl ?_
    show Steps p.tables e below (s₁.setTop (mkF m 1 #[.val (.ref a1), .val (.ref b1)] [(.ref a1)])) _
    refine XS.aloadN X0.here hx rfl (hb hby d_jdk_42_method_3_code_1) rfl rfl ?_
    show Steps p.tables e below (s₁.setTop (mkF m 2 #[.val (.ref a1), .val (.ref b1)] [(.ref b1), (.ref a1)])) _
    refine XS.iconst X0.here hx rfl (hb hby d_jdk_42_method_3_code_2) ?_
    show Steps p.tables e below (s₁.setTop (mkF m 3 #[.val (.ref a1), .val (.ref b1)] [(.int (0 : Int32)), (.ref b1), (.ref a1)])) _
    refine XS.aloadN X0.here hx rfl (hb hby d_jdk_42_method_3_code_3) rfl rfl ?_
    show Steps p.tables e below (s₁.setTop (mkF m 4 #[.val (.ref a1), .val (.ref b1)] [(.ref b1), (.int (0 : Int32)), (.ref b1), (.ref a1)])) _
    refine X0.arraylength hx (by rw [e0]; exact Ar43.1) (State.isArrayOf_alike hZ.alike Ar43.2.1) (g := (mkF m 4 #[.val (.ref a1), .val (.ref b1)] [(.ref b1), (.int (0 : Int32)), (.ref b1), (.ref a1)])) rfl rfl (hb hby d_jdk_42_method_3_code_4) _ ?_
    rw [len_of S43 N43]
    show Steps p.tables e below (s₁.setTop (mkF m 5 #[.val (.ref a1), .val (.ref b1)] [(.int (0 : Int32)), (.int (0 : Int32)), (.ref b1), (.ref a1)])) _
    refine XS.aconstNull X0.here hx rfl (hb hby d_jdk_42_method_3_code_5) ?_
    show Steps p.tables e below (s₁.setTop (mkF m 6 #[.val (.ref a1), .val (.ref b1)] [.null, (.int (0 : Int32)), (.int (0 : Int32)), (.ref b1), (.ref a1)])) _
    exact st44.trans k)
  have Z47 : n0 ≤ T44.heap.size := Nat.le_trans Z0 Kk44.1
  have K48 : Keep h0 T44.heap [a1] := (Keep.refl h0 [a1]).trans Kk44 ((allS (Or.inl (List.mem_of_getElem? (i := 0) rfl)) all0))
  have R49 : CHr Z own_EL s.vm h0 T44.vm T44.heap := hCR0.trans cr44
  obtain ⟨fs50, hr50, hrun50, hended50, hRW50⟩ := Xr44.leaveW (v := none) hSr44 (Nat.le_refl _) (fun _ => rfl)
  have hce50 : CHr Z own_EL s.vm s.heap T44.vm T44.heap := by
    rw [hh]
    exact R49.trans (CHv.at Xr44 hZr44 (own_EW hw) cr44.1)
  refine ⟨_, _, pre0 _ (P46 _ ?_), hrun50, hended50, _, _, rfl, ?_, hce50, ⟨hRW50.1, hRW50.2.1, hRW50.2.2.1, hRW50.2.2.2.mono (Nat.le_of_ble_eq_true rfl) (Nat.le_of_ble_eq_true rfl)⟩⟩
  · show Steps p.tables e below (T44.setTop (mkF m 9 #[.val (.ref a1), .val (.ref b1)] [])) _
    exact Xr44.returnOut hx Bd.returns (hb hby d_jdk_42_method_3_code_9) hr50
  · show Q_init1e Z a1 h0 n0 _ T44.heap _
    exact ⟨rfl, N45, K48, Ek44, Fc44, t44, _, Fv44, Av44⟩

theorem d_jdk_43_method_3_code_0 : decode jdk_43_method_3_code 0 = .ok (.iload_n 0, 1) := by decide +kernel
theorem d_jdk_43_method_3_code_1 : decode jdk_43_method_3_code 1 = .ok (.sipush 255, 3) := by decide +kernel
theorem d_jdk_43_method_3_code_4 : decode jdk_43_method_3_code 4 = .ok (.if_icmp .gt 7, 3) := by decide +kernel
theorem d_jdk_43_method_3_code_7 : decode jdk_43_method_3_code 7 = .ok (.iconst 1, 1) := by decide +kernel
theorem d_jdk_43_method_3_code_8 : decode jdk_43_method_3_code 8 = .ok (.goto 4, 3) := by decide +kernel
theorem d_jdk_43_method_3_code_12 : decode jdk_43_method_3_code 12 = .ok (.ireturn, 1) := by decide +kernel
theorem pn_java_lang_StringLatin1 : plainName "java/lang/StringLatin1" = true := by first | (simp [plainName, overriddenIn]; done) | decide +kernel
theorem ef_canEnc (m : MethodId) (x0 : Int32) : entryFrame m #[(.int x0)] 1 = mkF m 0 #[.val (.int x0)] [] := by (first | (simp [entryFrame, mkF, argsToLocals, Value.category]; done) | rfl)
def Q_canEnc  (h0 : Heap) (n0 : Nat) (v : Option Value) (h : Heap) (L : List Loc) : Prop := v = some (.int 1) ∧ Fr n0 L ∧ h = h0
set_option maxRecDepth 65536 in
set_option maxHeartbeats 40000000 in
theorem rm_canEnc (l : Launch) (Z : State) (a0 : Array Value) (hw : ∀ d ∈ tables_1, d.before a0 Z = true) (ws : List Jvm.Cond) (p1 : Int32) (h0 : Heap) (n0 : Nat) (Z0 : n0 ≤ h0.size) (hp1 : ¬ (255 : Int32) < p1) :
    MetFree l (⟨"java/lang/StringLatin1", "canEncode", "(C)Z"⟩ : MethodName) (head1 (Jvm.Cond.code (⟨"java/lang/StringLatin1", "canEncode", "(C)Z"⟩ : MethodName) jdk_43_method_3_code 1 (some .boolean) :: ws) ({ frames := 0, cells := 0, slots := 0, locals := 0 } : Room)) (fun a U => a = #[(.int p1)] ∧ Z.Warmed39 U.vm ∧ U.heap = h0) (fun _ _ _ _ _ => True) (fun _ U o U' => ∃ v L, o = .returned v ∧ Q_canEnc  h0 n0 v U'.heap L ∧ FrameEnd U o U' L ({ frames := 0, cells := 0, slots := 0, locals := 0 } : Room).cells ({ frames := 0, cells := 0, slots := 0, locals := 0 } : Room).slots) := by
  refine MetFree.of_bodySF (plainFor_of_name pn_java_lang_StringLatin1) hisR ?_
  intro p e s m args below meth c s₁ Bd hml0 hP hK
  obtain ⟨rfl, hZ, hh⟩ := hP
  have hx := Bd.exec
  have hby := Bd.bytes
  have hml : c.maxLocals = 1 := hml0
  have hown : s.vm.findClass "java/lang/StringLatin1" = some m.cls := findClass_of_methodNamed Bd.named
  have hnm := (name_of_methodNamed Bd.named Bd.method).1
  have X0 : Stand p l e ({ frames := 0, cells := 0, slots := 0, locals := 0 } : Room) s m #[(.int p1)] below meth c s₁ [] 0 0 := Stand.of_body Bd
  have e0 : s₁.heap = h0 := by rw [← hh, Bd.state]; rfl
  have N0 := Fr.nil n0
  have pre0 : ∀ t, Steps p.tables e below (s₁.setTop (mkF m 0 #[.val (.int p1)] [])) t → Steps p.tables e below (s₁.setTop (entryFrame m #[(.int p1)] 1)) t := fun t k => castTop (ef_canEnc m p1) k
  have P0 : ∀ t, Steps p.tables e below (s₁.setTop (mkF m 0 #[.val (.int p1)] [])) t → Steps p.tables e below (s₁.setTop (mkF m 0 #[.val (.int p1)] [])) t := fun t k => k
  obtain ⟨fs51, hr51, hrun51, hended51, hW51, hsame51⟩ := X0.leave (v := some (.int (1 : Int32))) (fun h => by rw [Bd.returns] at h; cases h)
  refine ⟨_, _, pre0 _ (P0 _ ?_), hrun51, hended51, _, _, rfl, ?_, ⟨⟨_, rfl⟩, hW51, hsame51.mono (Nat.le_of_ble_eq_true rfl) (Nat.le_of_ble_eq_true rfl)⟩⟩
  · refine XS.iloadN X0.here hx rfl (hb hby d_jdk_43_method_3_code_0) rfl ?_
    show Steps p.tables e below (s₁.setTop (mkF m 1 #[.val (.int p1)] [(.int p1)])) _
    refine XS.sipush X0.here hx rfl (hb hby d_jdk_43_method_3_code_1) ?_
    show Steps p.tables e below (s₁.setTop (mkF m 4 #[.val (.int p1)] [(.int (255 : Int32)), (.int p1)])) _
    refine XS.icmpNo X0.here hx rfl (hb hby d_jdk_43_method_3_code_4) rfl (flt (show ¬ ((255 : Int32) < p1) from hp1)).2.2.1 ?_
    show Steps p.tables e below (s₁.setTop (mkF m 7 #[.val (.int p1)] [])) _
    refine XS.iconst X0.here hx rfl (hb hby d_jdk_43_method_3_code_7) ?_
    show Steps p.tables e below (s₁.setTop (mkF m 8 #[.val (.int p1)] [(.int (1 : Int32))])) _
    refine XS.goto X0.here hx rfl (pc0 := 8) (pc' := 12) rfl (hb hby d_jdk_43_method_3_code_8) (by decide) (by decide) ?_
    show Steps p.tables e below (s₁.setTop (mkF m 12 #[.val (.int p1)] [(.int (1 : Int32))])) _
    exact retN X0 hx (t := .boolean) Bd.returns (by simp) (hb hby d_jdk_43_method_3_code_12) hr51
  · show Q_canEnc  h0 n0 _ s₁.heap _
    rw [e0]
    exact ⟨rfl, N0, rfl⟩
theorem d_jdk_43_method_46_code_0 : decode jdk_43_method_46_code 0 = .ok (.iconst 1, 1) := by decide +kernel
theorem d_jdk_43_method_46_code_1 : decode jdk_43_method_46_code 1 = .ok (.newarray .byte, 2) := by decide +kernel
theorem d_jdk_43_method_46_code_3 : decode jdk_43_method_46_code 3 = .ok (.dup, 1) := by decide +kernel
theorem d_jdk_43_method_46_code_4 : decode jdk_43_method_46_code 4 = .ok (.iconst 0, 1) := by decide +kernel
theorem d_jdk_43_method_46_code_5 : decode jdk_43_method_46_code 5 = .ok (.iload_n 0, 1) := by decide +kernel
theorem d_jdk_43_method_46_code_6 : decode jdk_43_method_46_code 6 = .ok (.i2b, 1) := by decide +kernel
theorem d_jdk_43_method_46_code_7 : decode jdk_43_method_46_code 7 = .ok (.bastore, 1) := by decide +kernel
theorem d_jdk_43_method_46_code_8 : decode jdk_43_method_46_code 8 = .ok (.areturn, 1) := by decide +kernel
theorem ef_toBytes (m : MethodId) (x0 : Int32) : entryFrame m #[(.int x0)] 1 = mkF m 0 #[.val (.int x0)] [] := by (first | (simp [entryFrame, mkF, argsToLocals, Value.category]; done) | rfl)
def Q_toBytes (Z : State) (p1 : Int32) (h0 : Heap) (n0 : Nat) (v : Option Value) (h : Heap) (L : List Loc) : Prop := ∃ (b : Addr) (k : ClassId), v = some (.ref b) ∧ Fr n0 L ∧ h0.size ≤ b ∧ Keep h0 h [] ∧ Arv Z h b k .byte (1 : Int32) [(.int (p1.toInt8.toInt32).toInt8.toInt32)] (.int (0 : Int32))
set_option maxRecDepth 65536 in
set_option maxHeartbeats 40000000 in
theorem rm_toBytes (l : Launch) (Z : State) (a0 : Array Value) (hw : ∀ d ∈ tables_1, d.before a0 Z = true) (ws : List Jvm.Cond) (p1 : Int32) (h0 : Heap) (n0 : Nat) (Z0 : n0 ≤ h0.size)  :
    MetFree l (⟨"java/lang/StringLatin1", "toBytes", "(C)[B"⟩ : MethodName) (head1 (Jvm.Cond.code (⟨"java/lang/StringLatin1", "toBytes", "(C)[B"⟩ : MethodName) jdk_43_method_46_code 1 (some (.array .byte)) :: ws) ({ frames := 0, cells := 1, slots := 1, locals := 0 } : Room)) (fun a U => a = #[(.int p1)] ∧ Z.Warmed39 U.vm ∧ U.heap = h0) (fun _ _ _ _ _ => True) (fun _ U o U' => ∃ v L, o = .returned v ∧ Q_toBytes Z p1 h0 n0 v U'.heap L ∧ FrameEnd U o U' L ({ frames := 0, cells := 1, slots := 1, locals := 0 } : Room).cells ({ frames := 0, cells := 1, slots := 1, locals := 0 } : Room).slots) := by
  refine MetFree.of_bodySF (plainFor_of_name pn_java_lang_StringLatin1) hisR ?_
  intro p e s m args below meth c s₁ Bd hml0 hP hK
  obtain ⟨rfl, hZ, hh⟩ := hP
  have hx := Bd.exec
  have hby := Bd.bytes
  have hml : c.maxLocals = 1 := hml0
  have hown : s.vm.findClass "java/lang/StringLatin1" = some m.cls := findClass_of_methodNamed Bd.named
  have hnm := (name_of_methodNamed Bd.named Bd.method).1
  have X0 : Stand p l e ({ frames := 0, cells := 1, slots := 1, locals := 0 } : Room) s m #[(.int p1)] below meth c s₁ [] 0 0 := Stand.of_body Bd
  have e0 : s₁.heap = h0 := by rw [← hh, Bd.state]; rfl
  have N0 := Fr.nil n0
  have pre0 : ∀ t, Steps p.tables e below (s₁.setTop (mkF m 0 #[.val (.int p1)] [])) t → Steps p.tables e below (s₁.setTop (entryFrame m #[(.int p1)] 1)) t := fun t k => castTop (ef_toBytes m p1) k
  have P0 : ∀ t, Steps p.tables e below (s₁.setTop (mkF m 0 #[.val (.int p1)] [])) t → Steps p.tables e below (s₁.setTop (mkF m 0 #[.val (.int p1)] [])) t := fun t k => k
  obtain ⟨T52, h52, k52, X52, e52, E52, A52, st52⟩ := newP X0 hx hZ (hw _ (List.mem_of_getElem? (i := 26) rfl)) e0 (g := (mkF m 1 #[.val (.int p1)] [(.int (1 : Int32))])) rfl (hb hby d_jdk_43_method_46_code_1) rfl (by decide) (cap := 1) (by decide) (by decide) (by decide) (by decide)
  obtain ⟨b52, g52⟩ : ∃ z, z = h0.size := ⟨_, rfl⟩
  rw [← g52] at A52 st52
  have g_b52 : n0 ≤ b52 := Nat.le_trans Z0 (Nat.le_of_eq g52.symm)
  have sz_b52 : h0.size ≤ b52 := Nat.le_trans (Keep.refl h0 []).1 (Nat.le_of_eq g52.symm)
  have P53 : ∀ t, Steps p.tables e below (T52.setTop (mkF m 3 #[.val (.int p1)] [(.ref b52)])) t → Steps p.tables e below (s₁.setTop (mkF m 0 #[.val (.int p1)] [])) t := fun t k => P0 t (by
    refine XS.iconst X0.here hx rfl (hb hby d_jdk_43_method_46_code_0) ?_
    show Steps p.tables e below (s₁.setTop (mkF m 1 #[.val (.int p1)] [(.int (1 : Int32))])) _
    exact st52 _ k)
  have Z54 : n0 ≤ h52.size := Nat.le_trans Z0 E52.1
  have K55 : Keep h0 h52 [] := (Keep.refl h0 []).ext E52
  have v56 : Arv Z h52 b52 k52 .byte (1 : Int32) [(.int (0 : Int32))] (.int (0 : Int32)) := (Arv.new A52 (by decide)).pad (pad_rep [] (.int (0 : Int32)) 1)
  obtain ⟨cl57, Ar57, q57, S57, N57, H57, G57⟩ := id v56
  obtain ⟨T57, h57, X57, e57, W57, st57⟩ := stB X52 hx hZ e52 Ar57 (j := (0 : Int32)) (inb_of S57 ⟨by decide, by decide⟩) (g := (mkF m 7 #[.val (.int p1)] [(.int (p1.toInt8.toInt32)), (.int (0 : Int32)), (.ref b52), (.ref b52)])) rfl rfl (hb hby d_jdk_43_method_46_code_7)
  have v58 : Arv Z h57 b52 k52 .byte (1 : Int32) [(.int (p1.toInt8.toInt32).toInt8.toInt32)] (.int (0 : Int32)) := Arv.set Ar57 q57 S57 N57 H57 G57 (fits_nar_byte _) W57 0 rfl (Nat.le_of_ble_eq_true rfl)
  have P59 : ∀ t, Steps p.tables e below (T57.setTop (mkF m 8 #[.val (.int p1)] [(.ref b52)])) t → Steps p.tables e below (s₁.setTop (mkF m 0 #[.val (.int p1)] [])) t := fun t k => P53 t (by
    show Steps p.tables e below (T52.setTop (mkF m 3 #[.val (.int p1)] [(.ref b52)])) _
    refine XS.dup X52.here hx rfl (hb hby d_jdk_43_method_46_code_3) rfl rfl ?_
    show Steps p.tables e below (T52.setTop (mkF m 4 #[.val (.int p1)] [(.ref b52), (.ref b52)])) _
    refine XS.iconst X52.here hx rfl (hb hby d_jdk_43_method_46_code_4) ?_
    show Steps p.tables e below (T52.setTop (mkF m 5 #[.val (.int p1)] [(.int (0 : Int32)), (.ref b52), (.ref b52)])) _
    refine XS.iloadN X52.here hx rfl (hb hby d_jdk_43_method_46_code_5) rfl ?_
    show Steps p.tables e below (T52.setTop (mkF m 6 #[.val (.int p1)] [(.int p1), (.int (0 : Int32)), (.ref b52), (.ref b52)])) _
    refine XS.i2b X52.here hx rfl (hb hby d_jdk_43_method_46_code_6) rfl ?_
    show Steps p.tables e below (T52.setTop (mkF m 7 #[.val (.int p1)] [(.int (p1.toInt8.toInt32)), (.int (0 : Int32)), (.ref b52), (.ref b52)])) _
    exact st57 _ k)
  have N60 := Fr.snoc X57 N0 g_b52
  have Z61 : n0 ≤ h57.size := Nat.le_trans Z54 (Keep.of_wr W57).1
  have K62 : Keep h0 h57 [] := K55.wr W57 (Or.inr sz_b52)
  obtain ⟨fs63, hr63, hrun63, hended63, hW63, hsame63⟩ := X57.leave (v := some (.ref b52)) (fun h => by rw [Bd.returns] at h; cases h)
  refine ⟨_, _, pre0 _ (P59 _ ?_), hrun63, hended63, _, _, rfl, ?_, ⟨⟨_, rfl⟩, hW63, hsame63.mono (Nat.le_of_ble_eq_true rfl) (Nat.le_of_ble_eq_true rfl)⟩⟩
  · show Steps p.tables e below (T57.setTop (mkF m 8 #[.val (.int p1)] [(.ref b52)])) _
    exact retOut X57 hx Bd.returns rfl (Or.inr (Or.inr (Or.inr (Or.inr ⟨rfl, rfl, rfl⟩)))) (hb hby d_jdk_43_method_46_code_8) hr63
  · show Q_toBytes Z p1 h0 n0 _ T57.heap _
    rw [e57]
    exact ⟨b52, _, rfl, N60, sz_b52, K62, v58⟩
theorem d_jdk_42_method_151_code_0 : decode jdk_42_method_151_code 0 = .ok (.aload_n 0, 1) := by decide +kernel
theorem d_jdk_42_method_151_code_1 : decode jdk_42_method_151_code 1 = .ok (.invokespecial 1, 3) := by decide +kernel
theorem d_jdk_42_method_151_code_4 : decode jdk_42_method_151_code 4 = .ok (.aload_n 0, 1) := by decide +kernel
theorem d_jdk_42_method_151_code_5 : decode jdk_42_method_151_code 5 = .ok (.aload_n 1, 1) := by decide +kernel
theorem d_jdk_42_method_151_code_6 : decode jdk_42_method_151_code 6 = .ok (.putfield 9, 3) := by decide +kernel
theorem d_jdk_42_method_151_code_9 : decode jdk_42_method_151_code 9 = .ok (.aload_n 0, 1) := by decide +kernel
theorem d_jdk_42_method_151_code_10 : decode jdk_42_method_151_code 10 = .ok (.iload_n 2, 1) := by decide +kernel
theorem d_jdk_42_method_151_code_11 : decode jdk_42_method_151_code 11 = .ok (.putfield 15, 3) := by decide +kernel
theorem d_jdk_42_method_151_code_14 : decode jdk_42_method_151_code 14 = .ok (.return_, 1) := by decide +kernel
theorem ef_strBB (m : MethodId) (x0 : Addr) (x1 : Addr) (x2 : Int32) : entryFrame m #[(.ref x0), (.ref x1), (.int x2)] 3 = mkF m 0 #[.val (.ref x0), .val (.ref x1), .val (.int x2)] [] := by (first | (simp [entryFrame, mkF, argsToLocals, Value.category]; done) | rfl)
def Q_strBB (Z : State) (a1 t1 : Addr) (h0 : Heap) (n0 : Nat) (v : Option Value) (h : Heap) (L : List Loc) : Prop := v = none ∧ Fr n0 L ∧ Keep h0 h [a1] ∧ Exa Z h a1 "java/lang/String" ∧ Fld Z h a1 "java/lang/String" "value" "[B" (.ref t1) ∧ Fld Z h a1 "java/lang/String" "coder" "B" (.int (0 : Int32))
set_option maxRecDepth 65536 in
set_option maxHeartbeats 40000000 in
theorem rm_strBB (l : Launch) (Z : State) (a0 : Array Value) (hw : ∀ d ∈ tables_1, d.before a0 Z = true) (ws : List Jvm.Cond) (a1 t1 : Addr) (h0 : Heap) (n0 : Nat) (Z0 : n0 ≤ h0.size) (g_a1 : n0 ≤ a1) (E1 : Exa Z h0 a1 "java/lang/String") (Fv : Fld Z h0 a1 "java/lang/String" "value" "[B" .null) (Fc : Fld Z h0 a1 "java/lang/String" "coder" "B" (.int (0 : Int32))) :
    MetFree l (⟨"java/lang/String", "<init>", "([BB)V"⟩ : MethodName) (head1 (Jvm.Cond.code (⟨"java/lang/String", "<init>", "([BB)V"⟩ : MethodName) jdk_42_method_151_code 3 none :: ws) ({ frames := 1, cells := 0, slots := 0, locals := 12 } : Room)) (fun a U => a = #[(.ref a1), (.ref t1), (.int (0 : Int32))] ∧ Z.Warmed39 U.vm ∧ U.heap = h0) (fun _ _ _ _ _ => True) (fun _ U o U' => ∃ v L, o = .returned v ∧ Q_strBB Z a1 t1 h0 n0 v U'.heap L ∧ FrameEnd U o U' L ({ frames := 1, cells := 0, slots := 0, locals := 12 } : Room).cells ({ frames := 1, cells := 0, slots := 0, locals := 12 } : Room).slots) := by
  refine MetFree.of_bodySF (plainFor_of_name pn_java_lang_String) hisR ?_
  intro p e s m args below meth c s₁ Bd hml0 hP hK
  obtain ⟨rfl, hZ, hh⟩ := hP
  have hx := Bd.exec
  have hby := Bd.bytes
  have hml : c.maxLocals = 3 := hml0
  have hown : s.vm.findClass "java/lang/String" = some m.cls := findClass_of_methodNamed Bd.named
  have hnm := (name_of_methodNamed Bd.named Bd.method).1
  have X0 : Stand p l e ({ frames := 1, cells := 0, slots := 0, locals := 12 } : Room) s m #[(.ref a1), (.ref t1), (.int (0 : Int32))] below meth c s₁ [] 0 0 := Stand.of_body Bd
  have e0 : s₁.heap = h0 := by rw [← hh, Bd.state]; rfl
  have N0 := Fr.nil n0
  have pre0 : ∀ t, Steps p.tables e below (s₁.setTop (mkF m 0 #[.val (.ref a1), .val (.ref t1), .val (.int (0 : Int32))] [])) t → Steps p.tables e below (s₁.setTop (entryFrame m #[(.ref a1), (.ref t1), (.int (0 : Int32))] 3)) t := fun t k => castTop (ef_strBB m a1 t1 (0 : Int32)) k
  have P0 : ∀ t, Steps p.tables e below (s₁.setTop (mkF m 0 #[.val (.ref a1), .val (.ref t1), .val (.int (0 : Int32))] [])) t → Steps p.tables e below (s₁.setTop (mkF m 0 #[.val (.ref a1), .val (.ref t1), .val (.int (0 : Int32))] [])) t := fun t k => k
  obtain ⟨T64, X64, e64, st64⟩ := initO X0 hx hZ hown (hw _ (List.mem_of_getElem? (i := 22) rfl)) (hw _ (List.mem_of_getElem? (i := 23) rfl)) (hw _ (List.mem_of_getElem? (i := 24) rfl)) e0 (g := (mkF m 1 #[.val (.ref a1), .val (.ref t1), .val (.int (0 : Int32))] [(.ref a1)])) rfl (by rw [hml]; rfl) rfl (hb hby d_jdk_42_method_151_code_1) (by decide) (W := 0) (by show 2 * 0 + _ ≤ _; exact Nat.le_of_eq rfl) (by decide)
  have P65 : ∀ t, Steps p.tables e below (T64.setTop (mkF m 4 #[.val (.ref a1), .val (.ref t1), .val (.int (0 : Int32))] [])) t → Steps p.tables e below (s₁.setTop (mkF m 0 #[.val (.ref a1), .val (.ref t1), .val (.int (0 : Int32))] [])) t := fun t k => P0 t (by
    refine XS.aloadN X0.here hx rfl (hb hby d_jdk_42_method_151_code_0) rfl rfl ?_
    show Steps p.tables e below (s₁.setTop (mkF m 1 #[.val (.ref a1), .val (.ref t1), .val (.int (0 : Int32))] [(.ref a1)])) _
    exact st64 _ k)
  obtain ⟨T66, h66, X66, e66, W66, st66⟩ := putF X64 hx hZ hown (host := "") (Or.inl (hw _ (List.mem_of_getElem? (i := 31) rfl))) Via.refl e64 Fv E1 (Or.inr ⟨(hw _ (List.mem_of_getElem? (i := 27) rfl)), rfl, hnm⟩) (hw _ (List.mem_of_getElem? (i := 13) rfl)) (ty := (.array .byte)) (by decide) rfl rfl (g := (mkF m 6 #[.val (.ref a1), .val (.ref t1), .val (.int (0 : Int32))] [(.ref t1), (.ref a1)])) rfl rfl (hb hby d_jdk_42_method_151_code_6)
  have P67 : ∀ t, Steps p.tables e below (T66.setTop (mkF m 9 #[.val (.ref a1), .val (.ref t1), .val (.int (0 : Int32))] [])) t → Steps p.tables e below (s₁.setTop (mkF m 0 #[.val (.ref a1), .val (.ref t1), .val (.int (0 : Int32))] [])) t := fun t k => P65 t (by
    show Steps p.tables e below (T64.setTop (mkF m 4 #[.val (.ref a1), .val (.ref t1), .val (.int (0 : Int32))] [])) _
    refine XS.aloadN X64.here hx rfl (hb hby d_jdk_42_method_151_code_4) rfl rfl ?_
    show Steps p.tables e below (T64.setTop (mkF m 5 #[.val (.ref a1), .val (.ref t1), .val (.int (0 : Int32))] [(.ref a1)])) _
    refine XS.aloadN X64.here hx rfl (hb hby d_jdk_42_method_151_code_5) rfl rfl ?_
    show Steps p.tables e below (T64.setTop (mkF m 6 #[.val (.ref a1), .val (.ref t1), .val (.int (0 : Int32))] [(.ref t1), (.ref a1)])) _
    exact st66 _ k)
  have f68 := Fv.same W66
  have N69 := Fr.snoc X66 N0 g_a1
  have Z70 : n0 ≤ h66.size := Nat.le_trans Z0 (Keep.of_wr W66).1
  have K71 : Keep h0 h66 [a1] := (Keep.refl h0 [a1]).wr W66 (Or.inl (List.mem_of_getElem? (i := 0) rfl))
  have f72 : Fld Z h66 a1 "java/lang/String" "coder" "B" (.int (0 : Int32)) := (Fc.other W66 (Or.inr (slot_ne (Or.inr (hw _ (List.mem_of_getElem? (i := 28) rfl))) (Or.inr (hw _ (List.mem_of_getElem? (i := 27) rfl))) (by decide) (t := .byte) (t' := (.array .byte)) (by decide) (by decide))))
  have f73 : Exa Z h66 a1 "java/lang/String" := (E1.wr W66)
  obtain ⟨T74, h74, X74, e74, W74, st74⟩ := putFN X66 hx hZ hown (hw _ (List.mem_of_getElem? (i := 32) rfl)) Via.refl e66 f72 f73 (Or.inr ⟨(hw _ (List.mem_of_getElem? (i := 28) rfl)), rfl, hnm⟩) (hw _ (List.mem_of_getElem? (i := 13) rfl)) (ty := .byte) (v' := .int (0 : Int32)) (by decide) rfl rfl (g := (mkF m 11 #[.val (.ref a1), .val (.ref t1), .val (.int (0 : Int32))] [(.int (0 : Int32)), (.ref a1)])) rfl rfl (hb hby d_jdk_42_method_151_code_11)
  have P75 : ∀ t, Steps p.tables e below (T74.setTop (mkF m 14 #[.val (.ref a1), .val (.ref t1), .val (.int (0 : Int32))] [])) t → Steps p.tables e below (s₁.setTop (mkF m 0 #[.val (.ref a1), .val (.ref t1), .val (.int (0 : Int32))] [])) t := fun t k => P67 t (by
    show Steps p.tables e below (T66.setTop (mkF m 9 #[.val (.ref a1), .val (.ref t1), .val (.int (0 : Int32))] [])) _
    refine XS.aloadN X66.here hx rfl (hb hby d_jdk_42_method_151_code_9) rfl rfl ?_
    show Steps p.tables e below (T66.setTop (mkF m 10 #[.val (.ref a1), .val (.ref t1), .val (.int (0 : Int32))] [(.ref a1)])) _
    refine XS.iloadN X66.here hx rfl (hb hby d_jdk_42_method_151_code_10) rfl ?_
    show Steps p.tables e below (T66.setTop (mkF m 11 #[.val (.ref a1), .val (.ref t1), .val (.int (0 : Int32))] [(.int (0 : Int32)), (.ref a1)])) _
    exact st74 _ k)
  have f76 := f72.same W74
  have N77 := Fr.snoc X74 N69 g_a1
  have Z78 : n0 ≤ h74.size := Nat.le_trans Z70 (Keep.of_wr W74).1
  have K79 : Keep h0 h74 [a1] := K71.wr W74 (Or.inl (List.mem_of_getElem? (i := 0) rfl))
  have f80 : Exa Z h74 a1 "java/lang/String" := (f73.wr W74)
  have f81 : Fld Z h74 a1 "java/lang/String" "value" "[B" (.ref t1) := (f68.other W74 (Or.inr (slot_ne (Or.inr (hw _ (List.mem_of_getElem? (i := 27) rfl))) (Or.inr (hw _ (List.mem_of_getElem? (i := 28) rfl))) (by decide) (t := (.array .byte)) (t' := .byte) (by decide) (by decide))))
  obtain ⟨fs82, hr82, hrun82, hended82, hW82, hsame82⟩ := X74.leave (v := none) (fun _ => rfl)
  refine ⟨_, _, pre0 _ (P75 _ ?_), hrun82, hended82, _, _, rfl, ?_, ⟨⟨_, rfl⟩, hW82, hsame82.mono (Nat.le_of_ble_eq_true rfl) (Nat.le_of_ble_eq_true rfl)⟩⟩
  · show Steps p.tables e below (T74.setTop (mkF m 14 #[.val (.ref a1), .val (.ref t1), .val (.int (0 : Int32))] [])) _
    exact X74.returnOut hx Bd.returns (hb hby d_jdk_42_method_151_code_14) hr82
  · show Q_strBB Z a1 t1 h0 n0 _ T74.heap _
    rw [e74]
    exact ⟨rfl, N77, K79, f80, f81, f76⟩
theorem d_jdk_42_method_139_code_0 : decode jdk_42_method_139_code 0 = .ok (.getstatic 38, 3) := by decide +kernel
theorem d_jdk_42_method_139_code_3 : decode jdk_42_method_139_code 3 = .ok (.ifCond .eq 23, 3) := by decide +kernel
theorem d_jdk_42_method_139_code_6 : decode jdk_42_method_139_code 6 = .ok (.iload_n 0, 1) := by decide +kernel
theorem d_jdk_42_method_139_code_7 : decode jdk_42_method_139_code 7 = .ok (.invokestatic 1015, 3) := by decide +kernel
theorem pd__28C_29Z : parseMethodDescriptor "(C)Z" = some ⟨[.char], some .boolean⟩ := by decide +kernel
theorem d_jdk_42_method_139_code_10 : decode jdk_42_method_139_code 10 = .ok (.ifCond .eq 16, 3) := by decide +kernel
theorem d_jdk_42_method_139_code_13 : decode jdk_42_method_139_code 13 = .ok (.new 10, 3) := by decide +kernel
theorem d_jdk_42_method_139_code_16 : decode jdk_42_method_139_code 16 = .ok (.dup, 1) := by decide +kernel
theorem d_jdk_42_method_139_code_17 : decode jdk_42_method_139_code 17 = .ok (.iload_n 0, 1) := by decide +kernel
theorem d_jdk_42_method_139_code_18 : decode jdk_42_method_139_code 18 = .ok (.invokestatic 1018, 3) := by decide +kernel
theorem pd__28C_29_5bB : parseMethodDescriptor "(C)[B" = some ⟨[.char], some (.array .byte)⟩ := by decide +kernel
theorem d_jdk_42_method_139_code_21 : decode jdk_42_method_139_code 21 = .ok (.iconst 0, 1) := by decide +kernel
theorem d_jdk_42_method_139_code_22 : decode jdk_42_method_139_code 22 = .ok (.invokespecial 209, 3) := by decide +kernel
theorem pd__28_5bBB_29V : parseMethodDescriptor "([BB)V" = some ⟨[(.array .byte), .byte], none⟩ := by decide +kernel
theorem d_jdk_42_method_139_code_25 : decode jdk_42_method_139_code 25 = .ok (.areturn, 1) := by decide +kernel
theorem ef_valueOf (m : MethodId) (x0 : Int32) : entryFrame m #[(.int x0)] 1 = mkF m 0 #[.val (.int x0)] [] := by (first | (simp [entryFrame, mkF, argsToLocals, Value.category]; done) | rfl)
def Q_valueOf (Z : State) (p1 : Int32) (h0 : Heap) (n0 : Nat) (v : Option Value) (h : Heap) (L : List Loc) : Prop := ∃ (a t : Addr) (k : ClassId), v = some (.ref a) ∧ Fr n0 L ∧ h0.size ≤ a ∧ h0.size ≤ t ∧ Keep h0 h [] ∧ Exa Z h a "java/lang/String" ∧ Fld Z h a "java/lang/String" "value" "[B" (.ref t) ∧ Fld Z h a "java/lang/String" "coder" "B" (.int (0 : Int32)) ∧ Arv Z h t k .byte (1 : Int32) [(.int (p1.toInt8.toInt32).toInt8.toInt32)] (.int (0 : Int32))
set_option maxRecDepth 65536 in
set_option maxHeartbeats 40000000 in
theorem rm_valueOf (l : Launch) (Z : State) (a0 : Array Value) (hw : ∀ d ∈ tables_1, d.before a0 Z = true) (ws : List Jvm.Cond) (p1 : Int32) (G1 : Int32) (h0 : Heap) (n0 : Nat) (Z0 : n0 ≤ h0.size) (Sg : Sta Z Z.heap "java/lang/String" "COMPACT_STRINGS" "Z" (.int G1)) (P5 : ¬ (G1 = (0 : Int32))) (hp1 : ¬ (255 : Int32) < p1) (Ol : Old Z n0 h0) :
    MetFree l (⟨"java/lang/String", "valueOf", "(C)Ljava/lang/String;"⟩ : MethodName) (head1 (Jvm.Cond.code (⟨"java/lang/String", "valueOf", "(C)Ljava/lang/String;"⟩ : MethodName) jdk_42_method_139_code 1 (some (.object "java/lang/String")) :: ws) ({ frames := 2, cells := 2, slots := 5, locals := 27 } : Room)) (fun a U => a = #[(.int p1)] ∧ Z.Warmed39 U.vm ∧ U.heap = h0) (fun _ _ _ _ _ => True) (fun _ U o U' => ∃ v L, o = .returned v ∧ Q_valueOf Z p1 h0 n0 v U'.heap L ∧ FrameEnd U o U' L ({ frames := 2, cells := 2, slots := 5, locals := 27 } : Room).cells ({ frames := 2, cells := 2, slots := 5, locals := 27 } : Room).slots) := by
  refine MetFree.of_bodySF (plainFor_of_name pn_java_lang_String) hisR ?_
  intro p e s m args below meth c s₁ Bd hml0 hP hK
  obtain ⟨rfl, hZ, hh⟩ := hP
  have hx := Bd.exec
  have hby := Bd.bytes
  have hml : c.maxLocals = 1 := hml0
  have hown : s.vm.findClass "java/lang/String" = some m.cls := findClass_of_methodNamed Bd.named
  have hnm := (name_of_methodNamed Bd.named Bd.method).1
  have X0 : Stand p l e ({ frames := 2, cells := 2, slots := 5, locals := 27 } : Room) s m #[(.int p1)] below meth c s₁ [] 0 0 := Stand.of_body Bd
  have e0 : s₁.heap = h0 := by rw [← hh, Bd.state]; rfl
  have N0 := Fr.nil n0
  have pre0 : ∀ t, Steps p.tables e below (s₁.setTop (mkF m 0 #[.val (.int p1)] [])) t → Steps p.tables e below (s₁.setTop (entryFrame m #[(.int p1)] 1)) t := fun t k => castTop (ef_valueOf m p1) k
  have P0 : ∀ t, Steps p.tables e below (s₁.setTop (mkF m 0 #[.val (.int p1)] [])) t → Steps p.tables e below (s₁.setTop (mkF m 0 #[.val (.int p1)] [])) t := fun t k => k
  obtain ⟨T83, X83, e83, st83⟩ := getS2 X0 hx hZ hown (host := "") (Or.inl (hw _ (List.mem_of_getElem? (i := 85) rfl))) Via.refl e0 (Sg.ext Ol.2) (g := (mkF m 0 #[.val (.int p1)] [])) rfl (hb hby d_jdk_42_method_139_code_0)
  have P84 : ∀ t, Steps p.tables e below (T83.setTop (mkF m 3 #[.val (.int p1)] [(.int G1)])) t → Steps p.tables e below (s₁.setTop (mkF m 0 #[.val (.int p1)] [])) t := fun t k => P0 t (by
    exact st83 _ k)
  obtain ⟨_, _, ⟨T85, L85, k85, n85⟩, -, X85, ⟨Lc85, hQ85, l85, y85, z85⟩, st85⟩ := Jvm.LawKit.callS X83 hx (y := (⟨"java/lang/StringLatin1", "canEncode", "(C)Z"⟩ : MethodName)) hown (mvT hZ (hw _ (List.mem_of_getElem? (i := 109) rfl))) (mvT hZ (hw _ (List.mem_of_getElem? (i := 110) rfl))) (mvT hZ (hw _ (List.mem_of_getElem? (i := 88) rfl))) (mvT hZ (hw _ (List.mem_of_getElem? (i := 111) rfl))) (by decide) (backOf (W := 0) (rm_canEnc l Z a0 hw [] p1 h0 n0 Z0 hp1) hZ (hw _ (List.mem_of_getElem? (i := 111) rfl)) (hw _ (List.mem_of_getElem? (i := 88) rfl)) (by decide) (by decide)) (g := (mkF m 7 #[.val (.int p1)] [(.int p1)])) rfl (by rw [hml]; rfl) (argsL := [(.int p1)]) (rest := []) (lenOf pd__28C_29Z rfl) rfl (by show 2 * 0 + _ ≤ _; exact Nat.le_of_eq rfl) (hb hby d_jdk_42_method_139_code_7) (fun _ _ => ⟨rfl, e83, (Nat.le_of_ble_eq_true rfl : 0 + 0 ≤ _), (Nat.le_of_ble_eq_true rfl : 0 + 0 ≤ _)⟩)
  dsimp only [Pt.U, Pt.locs, Pt.cells, Pt.slots] at X85 l85 y85 z85 st85 hQ85
  subst l85 y85 z85
  obtain ⟨rfl, Nq85, e85⟩ := hQ85
  have N86 := Fr.app N0 Nq85
  have P87 : ∀ t, Steps p.tables e below (T85.setTop (mkF m 10 #[.val (.int p1)] [(.int (1 : Int32))])) t → Steps p.tables e below (s₁.setTop (mkF m 0 #[.val (.int p1)] [])) t := fun t k => P84 t (by
    show Steps p.tables e below (T83.setTop (mkF m 3 #[.val (.int p1)] [(.int G1)])) _
    refine XS.ifNo X83.here hx rfl (hb hby d_jdk_42_method_139_code_3) rfl ((if0 _ _).trans (feq (show ¬ (G1 = (0 : Int32)) from P5)).1) ?_
    show Steps p.tables e below (T83.setTop (mkF m 6 #[.val (.int p1)] [])) _
    refine XS.iloadN X83.here hx rfl (hb hby d_jdk_42_method_139_code_6) rfl ?_
    show Steps p.tables e below (T83.setTop (mkF m 7 #[.val (.int p1)] [(.int p1)])) _
    exact st85 _ k)
  obtain ⟨T88, h88, X88, e88, E88, A88, D88, -, st88⟩ := newO X85 hx hZ hown (hw _ (List.mem_of_getElem? (i := 84) rfl)) (hw _ (List.mem_of_getElem? (i := 13) rfl)) (hw _ (List.mem_of_getElem? (i := 14) rfl)) e85 (g := (mkF m 13 #[.val (.int p1)] [])) rfl (hb hby d_jdk_42_method_139_code_13) (by decide) (by decide)
  obtain ⟨b88, g88⟩ : ∃ z, z = h0.size := ⟨_, rfl⟩
  rw [← g88] at A88 D88 st88
  have g_b88 : n0 ≤ b88 := Nat.le_trans Z0 (Nat.le_of_eq g88.symm)
  have sz_b88 : h0.size ≤ b88 := Nat.le_trans (Keep.refl h0 []).1 (Nat.le_of_eq g88.symm)
  have P89 : ∀ t, Steps p.tables e below (T88.setTop (mkF m 16 #[.val (.int p1)] [(.ref b88)])) t → Steps p.tables e below (s₁.setTop (mkF m 0 #[.val (.int p1)] [])) t := fun t k => P87 t (by
    show Steps p.tables e below (T85.setTop (mkF m 10 #[.val (.int p1)] [(.int (1 : Int32))])) _
    refine XS.ifNo X85.here hx rfl (hb hby d_jdk_42_method_139_code_10) rfl ((if0 _ _).trans (feq (show ¬ ((1 : Int32) = (0 : Int32)) from (by decide))).1) ?_
    show Steps p.tables e below (T85.setTop (mkF m 13 #[.val (.int p1)] [])) _
    exact st88 _ k)
  have Z90 : n0 ≤ h88.size := Nat.le_trans Z0 E88.1
  have K91 : Keep h0 h88 [] := (Keep.refl h0 []).ext E88
  have O92 : Old Z n0 h88 := Ol.ext E88
  have f93 : Fld Z h88 b88 "java/lang/String" "value" "[B" .null := D88 (Or.inr (hw _ (List.mem_of_getElem? (i := 27) rfl))) (ty := (.array .byte)) (by decide)
  have f94 : Fld Z h88 b88 "java/lang/String" "coder" "B" (.int (0 : Int32)) := D88 (Or.inr (hw _ (List.mem_of_getElem? (i := 28) rfl))) (ty := .byte) (by decide)
  obtain ⟨_, _, ⟨T95, L95, k95, n95⟩, -, X95, ⟨Lc95, hQ95, l95, y95, z95⟩, st95⟩ := Jvm.LawKit.callS X88 hx (y := (⟨"java/lang/StringLatin1", "toBytes", "(C)[B"⟩ : MethodName)) hown (mvT hZ (hw _ (List.mem_of_getElem? (i := 112) rfl))) (mvT hZ (hw _ (List.mem_of_getElem? (i := 113) rfl))) (mvT hZ (hw _ (List.mem_of_getElem? (i := 88) rfl))) (mvT hZ (hw _ (List.mem_of_getElem? (i := 114) rfl))) (by decide) (backOf (W := 2) (rm_toBytes l Z a0 hw [] p1 h88 n0 Z90 ) hZ (hw _ (List.mem_of_getElem? (i := 114) rfl)) (hw _ (List.mem_of_getElem? (i := 88) rfl)) (by decide) (by decide)) (g := (mkF m 18 #[.val (.int p1)] [(.int p1), (.ref b88), (.ref b88)])) rfl (by rw [hml]; rfl) (argsL := [(.int p1)]) (rest := [(.ref b88), (.ref b88)]) (lenOf pd__28C_29_5bB rfl) rfl (by show 2 * 0 + _ ≤ _; exact Nat.le_of_eq rfl) (hb hby d_jdk_42_method_139_code_18) (fun _ _ => ⟨rfl, e88, (Nat.le_of_ble_eq_true rfl : 1 + 1 ≤ _), (Nat.le_of_ble_eq_true rfl : 4 + 1 ≤ _)⟩)
  dsimp only [Pt.U, Pt.locs, Pt.cells, Pt.slots] at X95 l95 y95 z95 st95 hQ95
  subst l95 y95 z95
  obtain ⟨t95, k95, rfl, Nq95, sz95, Kk95, Av95⟩ := hQ95
  have N96 := Fr.app N86 Nq95
  have P97 : ∀ t, Steps p.tables e below (T95.setTop (mkF m 21 #[.val (.int p1)] [(.ref t95), (.ref b88), (.ref b88)])) t → Steps p.tables e below (s₁.setTop (mkF m 0 #[.val (.int p1)] [])) t := fun t k => P89 t (by
    show Steps p.tables e below (T88.setTop (mkF m 16 #[.val (.int p1)] [(.ref b88)])) _
    refine XS.dup X88.here hx rfl (hb hby d_jdk_42_method_139_code_16) rfl rfl ?_
    show Steps p.tables e below (T88.setTop (mkF m 17 #[.val (.int p1)] [(.ref b88), (.ref b88)])) _
    refine XS.iloadN X88.here hx rfl (hb hby d_jdk_42_method_139_code_17) rfl ?_
    show Steps p.tables e below (T88.setTop (mkF m 18 #[.val (.int p1)] [(.int p1), (.ref b88), (.ref b88)])) _
    exact st95 _ k)
  have Z98 : n0 ≤ T95.heap.size := Nat.le_trans Z90 Kk95.1
  have K99 : Keep h0 T95.heap [] := K91.trans Kk95 (all0)
  have O100 : Old Z n0 T95.heap := O92.keep Kk95 all0
  have g_t95 : n0 ≤ t95 := Nat.le_trans Z90 sz95
  have sz_t95 : h0.size ≤ t95 := Nat.le_trans K91.1 sz95
  have f101 : Exa Z T95.heap b88 "java/lang/String" := (A88.keep Kk95)
  have f102 : Fld Z T95.heap b88 "java/lang/String" "value" "[B" .null := (f93.keep Kk95 nin0)
  have f103 : Fld Z T95.heap b88 "java/lang/String" "coder" "B" (.int (0 : Int32)) := (f94.keep Kk95 nin0)
  obtain ⟨_, _, ⟨T104, L104, k104, n104⟩, -, X104, ⟨Lc104, hQ104, l104, y104, z104⟩, st104⟩ := X95.specialBack hx (y := (⟨"java/lang/String", "<init>", "([BB)V"⟩ : MethodName)) rfl hown (mvT hZ (hw _ (List.mem_of_getElem? (i := 115) rfl))) (mvT hZ (hw _ (List.mem_of_getElem? (i := 116) rfl))) (mvT hZ (hw _ (List.mem_of_getElem? (i := 117) rfl))) (by decide) (backOf (W := 1) (rm_strBB l Z a0 hw [] b88 t95 T95.heap n0 Z98 g_b88 f101 f102 f103) hZ (hw _ (List.mem_of_getElem? (i := 117) rfl)) (hw _ (List.mem_of_getElem? (i := 14) rfl)) (by decide) (by decide)) (g := (mkF m 22 #[.val (.int p1)] [(.int (0 : Int32)), (.ref t95), (.ref b88), (.ref b88)])) rfl (by rw [hml]; rfl) (Steps.refl _) (a := b88) (argsL := [(.ref t95), (.int (0 : Int32))]) (rest := [(.ref b88)]) (lenOf pd__28_5bBB_29V rfl) rfl (by show 2 * 0 + _ ≤ _; exact Nat.le_of_eq rfl) (hb hby d_jdk_42_method_139_code_22) (fun _ _ => ⟨rfl, rfl, (Nat.le_of_ble_eq_true rfl : 2 + 0 ≤ _), (Nat.le_of_ble_eq_true rfl : 5 + 0 ≤ _)⟩)
  dsimp only [Pt.U, Pt.locs, Pt.cells, Pt.slots] at X104 l104 y104 z104 st104 hQ104
  subst l104 y104 z104
  obtain ⟨rfl, Nq104, Kk104, Ek104, Fv104, Fc104⟩ := hQ104
  have N105 := Fr.app N96 Nq104
  have P106 : ∀ t, Steps p.tables e below (T104.setTop (mkF m 25 #[.val (.int p1)] [(.ref b88)])) t → Steps p.tables e below (s₁.setTop (mkF m 0 #[.val (.int p1)] [])) t := fun t k => P97 t (by
    show Steps p.tables e below (T95.setTop (mkF m 21 #[.val (.int p1)] [(.ref t95), (.ref b88), (.ref b88)])) _
    refine XS.iconst X95.here hx rfl (hb hby d_jdk_42_method_139_code_21) ?_
    show Steps p.tables e below (T95.setTop (mkF m 22 #[.val (.int p1)] [(.int (0 : Int32)), (.ref t95), (.ref b88), (.ref b88)])) _
    exact st104.trans k)
  have Z107 : n0 ≤ T104.heap.size := Nat.le_trans Z98 Kk104.1
  have K108 : Keep h0 T104.heap [] := K99.trans Kk104 ((allS (Or.inr sz_b88) all0))
  have O109 : Old Z n0 T104.heap := O100.keep Kk104 (allS g_b88 all0)
  have f110 : Arv Z T104.heap t95 k95 .byte (1 : Int32) [(.int (p1.toInt8.toInt32).toInt8.toInt32)] (.int (0 : Int32)) := (Av95.keep Kk104 (ninS (Ne.symm (Nat.ne_of_lt (Nat.lt_of_lt_of_le f94.lt sz95))) nin0))
  obtain ⟨fs111, hr111, hrun111, hended111, hW111, hsame111⟩ := X104.leave (v := some (.ref b88)) (fun h => by rw [Bd.returns] at h; cases h)
  refine ⟨_, _, pre0 _ (P106 _ ?_), hrun111, hended111, _, _, rfl, ?_, ⟨⟨_, rfl⟩, hW111, hsame111.mono (Nat.le_of_ble_eq_true rfl) (Nat.le_of_ble_eq_true rfl)⟩⟩
  · show Steps p.tables e below (T104.setTop (mkF m 25 #[.val (.int p1)] [(.ref b88)])) _
    exact retOut X104 hx Bd.returns rfl (Or.inr (Or.inr (Or.inr (Or.inr ⟨rfl, rfl, rfl⟩)))) (hb hby d_jdk_42_method_139_code_25) hr111
  · show Q_valueOf Z p1 h0 n0 _ T104.heap _
    exact ⟨b88, t95, _, rfl, N105, sz_b88, sz_t95, K108, Ek104, Fv104, Fc104, f110⟩

theorem own_c255 (x : Int32) : ¬ (255 : Int32) < nar .char ((x &&& (255 : Int32)).toUInt32.toUInt16.toUInt32.toInt32) := (and255_chars x).2

theorem d_method_2_code_0 : decode method_2_code 0 = .ok (.iload_n 0, 1) := by decide +kernel
theorem d_method_2_code_1 : decode method_2_code 1 = .ok (.ifCond .ne 7, 3) := by decide +kernel
theorem d_method_2_code_4 : decode method_2_code 4 = .ok (.getstatic 7, 3) := by decide +kernel
theorem d_method_2_code_7 : decode method_2_code 7 = .ok (.areturn, 1) := by decide +kernel
theorem d_method_2_code_8 : decode method_2_code 8 = .ok (.iload_n 0, 1) := by decide +kernel
theorem d_method_2_code_9 : decode method_2_code 9 = .ok (.iconst 1, 1) := by decide +kernel
theorem d_method_2_code_10 : decode method_2_code 10 = .ok (.if_icmp .ne 7, 3) := by decide +kernel
theorem d_method_2_code_13 : decode method_2_code 13 = .ok (.getstatic 13, 3) := by decide +kernel
theorem d_method_2_code_16 : decode method_2_code 16 = .ok (.areturn, 1) := by decide +kernel
theorem d_method_2_code_17 : decode method_2_code 17 = .ok (.getstatic 16, 3) := by decide +kernel
theorem d_method_2_code_20 : decode method_2_code 20 = .ok (.areturn, 1) := by decide +kernel
theorem pn_com_example_lakebed_lakebed_model_TimelineInstantIsCompletedPinLaw : plainName "com/example/lakebed/lakebed/model/TimelineInstantIsCompletedPinLaw" = true := by first | (simp [plainName, overriddenIn]; done) | decide +kernel
theorem ef_stateOf (m : MethodId) (x0 : Int32) : entryFrame m #[(.int x0)] 1 = mkF m 0 #[.val (.int x0)] [] := by (first | (simp [entryFrame, mkF, argsToLocals, Value.category]; done) | rfl)
def Q_stateOf (p1 : Int32) (r0 r1 r2 : Addr) (h0 : Heap) (n0 : Nat) (v : Option Value) (h : Heap) (L : List Loc) : Prop := ∃ r : Addr, r = (if p1 = (0 : Int32) then r0 else if p1 = (1 : Int32) then r2 else r1) ∧ v = some (.ref r) ∧ Fr n0 L ∧ h = h0
set_option maxRecDepth 65536 in
set_option maxHeartbeats 40000000 in
theorem rm_stateOf (l : Launch) (Z : State) (a0 : Array Value) (hw : ∀ d ∈ tables_1, d.before a0 Z = true) (ws : List Jvm.Cond) (p1 : Int32) (r0 r1 r2 : Addr) (h0 : Heap) (n0 : Nat) (Z0 : n0 ≤ h0.size) (S0 : Sta Z Z.heap "com/example/lakebed/lakebed/model/TimelineInstant$State" "REQUESTED" "Lcom/example/lakebed/lakebed/model/TimelineInstant$State;" (.ref r0)) (S1 : Sta Z Z.heap "com/example/lakebed/lakebed/model/TimelineInstant$State" "COMPLETED" "Lcom/example/lakebed/lakebed/model/TimelineInstant$State;" (.ref r1)) (S2 : Sta Z Z.heap "com/example/lakebed/lakebed/model/TimelineInstant$State" "INFLIGHT" "Lcom/example/lakebed/lakebed/model/TimelineInstant$State;" (.ref r2)) (Ol : Old Z n0 h0) :
    MetFree l (⟨"com/example/lakebed/lakebed/model/TimelineInstantIsCompletedPinLaw", "stateOf", "(I)Lcom/example/lakebed/lakebed/model/TimelineInstant$State;"⟩ : MethodName) (head1 (Jvm.Cond.code (⟨"com/example/lakebed/lakebed/model/TimelineInstantIsCompletedPinLaw", "stateOf", "(I)Lcom/example/lakebed/lakebed/model/TimelineInstant$State;"⟩ : MethodName) method_2_code 1 (some (.object "com/example/lakebed/lakebed/model/TimelineInstant$State")) :: ws) ({ frames := 0, cells := 0, slots := 0, locals := 0 } : Room)) (fun a U => a = #[(.int p1)] ∧ Z.Warmed39 U.vm ∧ U.heap = h0) (fun _ _ _ _ _ => True) (fun _ U o U' => ∃ v L, o = .returned v ∧ Q_stateOf p1 r0 r1 r2 h0 n0 v U'.heap L ∧ FrameEnd U o U' L ({ frames := 0, cells := 0, slots := 0, locals := 0 } : Room).cells ({ frames := 0, cells := 0, slots := 0, locals := 0 } : Room).slots) := by
  refine MetFree.of_bodySF (plainFor_of_name pn_com_example_lakebed_lakebed_model_TimelineInstantIsCompletedPinLaw) hisR ?_
  intro p e s m args below meth c s₁ Bd hml0 hP hK
  obtain ⟨rfl, hZ, hh⟩ := hP
  have hx := Bd.exec
  have hby := Bd.bytes
  have hml : c.maxLocals = 1 := hml0
  have hown : s.vm.findClass "com/example/lakebed/lakebed/model/TimelineInstantIsCompletedPinLaw" = some m.cls := findClass_of_methodNamed Bd.named
  have hnm := (name_of_methodNamed Bd.named Bd.method).1
  have X0 : Stand p l e ({ frames := 0, cells := 0, slots := 0, locals := 0 } : Room) s m #[(.int p1)] below meth c s₁ [] 0 0 := Stand.of_body Bd
  have e0 : s₁.heap = h0 := by rw [← hh, Bd.state]; rfl
  have N0 := Fr.nil n0
  have pre0 : ∀ t, Steps p.tables e below (s₁.setTop (mkF m 0 #[.val (.int p1)] [])) t → Steps p.tables e below (s₁.setTop (entryFrame m #[(.int p1)] 1)) t := fun t k => castTop (ef_stateOf m p1) k
  have P0 : ∀ t, Steps p.tables e below (s₁.setTop (mkF m 0 #[.val (.int p1)] [])) t → Steps p.tables e below (s₁.setTop (mkF m 0 #[.val (.int p1)] [])) t := fun t k => k
  by_cases q112 : p1 = (0 : Int32)
  · skip
    obtain ⟨T113, X113, e113, st113⟩ := getS2 X0 hx hZ hown (host := "") (Or.inl (hw _ (List.mem_of_getElem? (i := 5) rfl))) Via.refl e0 (S0.ext Ol.2) (g := (mkF m 4 #[.val (.int p1)] [])) rfl (hb hby d_method_2_code_4)
    have P114 : ∀ t, Steps p.tables e below (T113.setTop (mkF m 7 #[.val (.int p1)] [(.ref r0)])) t → Steps p.tables e below (s₁.setTop (mkF m 0 #[.val (.int p1)] [])) t := fun t k => P0 t (by
      refine XS.iloadN X0.here hx rfl (hb hby d_method_2_code_0) rfl ?_
      show Steps p.tables e below (s₁.setTop (mkF m 1 #[.val (.int p1)] [(.int p1)])) _
      refine XS.ifNo X0.here hx rfl (hb hby d_method_2_code_1) rfl ((if0 _ _).trans (teq (show p1 = (0 : Int32) from q112)).2) ?_
      show Steps p.tables e below (s₁.setTop (mkF m 4 #[.val (.int p1)] [])) _
      exact st113 _ k)
    obtain ⟨fs115, hr115, hrun115, hended115, hW115, hsame115⟩ := X113.leave (v := some (.ref r0)) (fun h => by rw [Bd.returns] at h; cases h)
    refine ⟨_, _, pre0 _ (P114 _ ?_), hrun115, hended115, _, _, rfl, ?_, ⟨⟨_, rfl⟩, hW115, hsame115.mono (Nat.le_of_ble_eq_true rfl) (Nat.le_of_ble_eq_true rfl)⟩⟩
    · show Steps p.tables e below (T113.setTop (mkF m 7 #[.val (.int p1)] [(.ref r0)])) _
      exact retOut X113 hx Bd.returns rfl (Or.inr (Or.inr (Or.inr (Or.inr ⟨rfl, rfl, rfl⟩)))) (hb hby d_method_2_code_7) hr115
    · show Q_stateOf p1 r0 r1 r2 h0 n0 _ T113.heap _
      rw [e113]
      exact ⟨r0, by simp [q112], rfl, N0, rfl⟩
  · skip
    by_cases q116 : p1 = (1 : Int32)
    · skip
      obtain ⟨T117, X117, e117, st117⟩ := getS2 X0 hx hZ hown (host := "") (Or.inl (hw _ (List.mem_of_getElem? (i := 95) rfl))) Via.refl e0 (S2.ext Ol.2) (g := (mkF m 13 #[.val (.int p1)] [])) rfl (hb hby d_method_2_code_13)
      have P118 : ∀ t, Steps p.tables e below (T117.setTop (mkF m 16 #[.val (.int p1)] [(.ref r2)])) t → Steps p.tables e below (s₁.setTop (mkF m 0 #[.val (.int p1)] [])) t := fun t k => P0 t (by
        refine XS.iloadN X0.here hx rfl (hb hby d_method_2_code_0) rfl ?_
        show Steps p.tables e below (s₁.setTop (mkF m 1 #[.val (.int p1)] [(.int p1)])) _
        refine XS.ifYes X0.here hx rfl (pc0 := 1) (pc' := 8) rfl (hb hby d_method_2_code_1) rfl ((if0 _ _).trans (feq (show ¬ (p1 = (0 : Int32)) from q112)).2) (by decide) (by decide) ?_
        show Steps p.tables e below (s₁.setTop (mkF m 8 #[.val (.int p1)] [])) _
        refine XS.iloadN X0.here hx rfl (hb hby d_method_2_code_8) rfl ?_
        show Steps p.tables e below (s₁.setTop (mkF m 9 #[.val (.int p1)] [(.int p1)])) _
        refine XS.iconst X0.here hx rfl (hb hby d_method_2_code_9) ?_
        show Steps p.tables e below (s₁.setTop (mkF m 10 #[.val (.int p1)] [(.int (1 : Int32)), (.int p1)])) _
        refine XS.icmpNo X0.here hx rfl (hb hby d_method_2_code_10) rfl (teq (show p1 = (1 : Int32) from q116)).2 ?_
        show Steps p.tables e below (s₁.setTop (mkF m 13 #[.val (.int p1)] [])) _
        exact st117 _ k)
      obtain ⟨fs119, hr119, hrun119, hended119, hW119, hsame119⟩ := X117.leave (v := some (.ref r2)) (fun h => by rw [Bd.returns] at h; cases h)
      refine ⟨_, _, pre0 _ (P118 _ ?_), hrun119, hended119, _, _, rfl, ?_, ⟨⟨_, rfl⟩, hW119, hsame119.mono (Nat.le_of_ble_eq_true rfl) (Nat.le_of_ble_eq_true rfl)⟩⟩
      · show Steps p.tables e below (T117.setTop (mkF m 16 #[.val (.int p1)] [(.ref r2)])) _
        exact retOut X117 hx Bd.returns rfl (Or.inr (Or.inr (Or.inr (Or.inr ⟨rfl, rfl, rfl⟩)))) (hb hby d_method_2_code_16) hr119
      · show Q_stateOf p1 r0 r1 r2 h0 n0 _ T117.heap _
        rw [e117]
        exact ⟨r2, by simp [q112, q116], rfl, N0, rfl⟩
    · skip
      obtain ⟨T120, X120, e120, st120⟩ := getS2 X0 hx hZ hown (host := "") (Or.inl (hw _ (List.mem_of_getElem? (i := 94) rfl))) Via.refl e0 (S1.ext Ol.2) (g := (mkF m 17 #[.val (.int p1)] [])) rfl (hb hby d_method_2_code_17)
      have P121 : ∀ t, Steps p.tables e below (T120.setTop (mkF m 20 #[.val (.int p1)] [(.ref r1)])) t → Steps p.tables e below (s₁.setTop (mkF m 0 #[.val (.int p1)] [])) t := fun t k => P0 t (by
        refine XS.iloadN X0.here hx rfl (hb hby d_method_2_code_0) rfl ?_
        show Steps p.tables e below (s₁.setTop (mkF m 1 #[.val (.int p1)] [(.int p1)])) _
        refine XS.ifYes X0.here hx rfl (pc0 := 1) (pc' := 8) rfl (hb hby d_method_2_code_1) rfl ((if0 _ _).trans (feq (show ¬ (p1 = (0 : Int32)) from q112)).2) (by decide) (by decide) ?_
        show Steps p.tables e below (s₁.setTop (mkF m 8 #[.val (.int p1)] [])) _
        refine XS.iloadN X0.here hx rfl (hb hby d_method_2_code_8) rfl ?_
        show Steps p.tables e below (s₁.setTop (mkF m 9 #[.val (.int p1)] [(.int p1)])) _
        refine XS.iconst X0.here hx rfl (hb hby d_method_2_code_9) ?_
        show Steps p.tables e below (s₁.setTop (mkF m 10 #[.val (.int p1)] [(.int (1 : Int32)), (.int p1)])) _
        refine XS.icmpYes X0.here hx rfl (pc0 := 10) (pc' := 17) rfl (hb hby d_method_2_code_10) rfl (feq (show ¬ (p1 = (1 : Int32)) from q116)).2 (by decide) (by decide) ?_
        show Steps p.tables e below (s₁.setTop (mkF m 17 #[.val (.int p1)] [])) _
        exact st120 _ k)
      obtain ⟨fs122, hr122, hrun122, hended122, hW122, hsame122⟩ := X120.leave (v := some (.ref r1)) (fun h => by rw [Bd.returns] at h; cases h)
      refine ⟨_, _, pre0 _ (P121 _ ?_), hrun122, hended122, _, _, rfl, ?_, ⟨⟨_, rfl⟩, hW122, hsame122.mono (Nat.le_of_ble_eq_true rfl) (Nat.le_of_ble_eq_true rfl)⟩⟩
      · show Steps p.tables e below (T120.setTop (mkF m 20 #[.val (.int p1)] [(.ref r1)])) _
        exact retOut X120 hx Bd.returns rfl (Or.inr (Or.inr (Or.inr (Or.inr ⟨rfl, rfl, rfl⟩)))) (hb hby d_method_2_code_20) hr122
      · show Q_stateOf p1 r0 r1 r2 h0 n0 _ T120.heap _
        rw [e120]
        exact ⟨r1, by simp [q112, q116], rfl, N0, rfl⟩

theorem d_method_3_code_0 : decode method_3_code 0 = .ok (.iconst 2, 1) := by decide +kernel
theorem d_method_3_code_1 : decode method_3_code 1 = .ok (.newarray .char, 2) := by decide +kernel
theorem d_method_3_code_3 : decode method_3_code 3 = .ok (.astore_n 1, 1) := by decide +kernel
theorem d_method_3_code_4 : decode method_3_code 4 = .ok (.aload_n 1, 1) := by decide +kernel
theorem d_method_3_code_5 : decode method_3_code 5 = .ok (.iconst 0, 1) := by decide +kernel
theorem d_method_3_code_6 : decode method_3_code 6 = .ok (.iload_n 0, 1) := by decide +kernel
theorem d_method_3_code_7 : decode method_3_code 7 = .ok (.sipush 255, 3) := by decide +kernel
theorem d_method_3_code_10 : decode method_3_code 10 = .ok (.iand, 1) := by decide +kernel
theorem d_method_3_code_11 : decode method_3_code 11 = .ok (.i2c, 1) := by decide +kernel
theorem d_method_3_code_12 : decode method_3_code 12 = .ok (.castore, 1) := by decide +kernel
theorem d_method_3_code_13 : decode method_3_code 13 = .ok (.aload_n 1, 1) := by decide +kernel
theorem d_method_3_code_14 : decode method_3_code 14 = .ok (.iconst 1, 1) := by decide +kernel
theorem d_method_3_code_15 : decode method_3_code 15 = .ok (.iload_n 0, 1) := by decide +kernel
theorem d_method_3_code_16 : decode method_3_code 16 = .ok (.bipush 8, 2) := by decide +kernel
theorem d_method_3_code_18 : decode method_3_code 18 = .ok (.iushr, 1) := by decide +kernel
theorem d_method_3_code_19 : decode method_3_code 19 = .ok (.sipush 255, 3) := by decide +kernel
theorem d_method_3_code_22 : decode method_3_code 22 = .ok (.iand, 1) := by decide +kernel
theorem d_method_3_code_23 : decode method_3_code 23 = .ok (.i2c, 1) := by decide +kernel
theorem d_method_3_code_24 : decode method_3_code 24 = .ok (.castore, 1) := by decide +kernel
theorem d_method_3_code_25 : decode method_3_code 25 = .ok (.iload_n 0, 1) := by decide +kernel
theorem d_method_3_code_26 : decode method_3_code 26 = .ok (.bipush 16, 2) := by decide +kernel
theorem d_method_3_code_28 : decode method_3_code 28 = .ok (.iushr, 1) := by decide +kernel
theorem d_method_3_code_29 : decode method_3_code 29 = .ok (.iconst 3, 1) := by decide +kernel
theorem d_method_3_code_30 : decode method_3_code 30 = .ok (.iand, 1) := by decide +kernel
theorem d_method_3_code_31 : decode method_3_code 31 = .ok (.istore_n 2, 1) := by decide +kernel
theorem d_method_3_code_32 : decode method_3_code 32 = .ok (.iload_n 2, 1) := by decide +kernel
theorem d_method_3_code_33 : decode method_3_code 33 = .ok (.ifCond .ne 14, 3) := by decide +kernel
theorem d_method_3_code_36 : decode method_3_code 36 = .ok (.new 19, 3) := by decide +kernel
theorem d_method_3_code_39 : decode method_3_code 39 = .ok (.dup, 1) := by decide +kernel
theorem d_method_3_code_40 : decode method_3_code 40 = .ok (.iconst 0, 1) := by decide +kernel
theorem d_method_3_code_41 : decode method_3_code 41 = .ok (.newarray .char, 2) := by decide +kernel
theorem d_method_3_code_43 : decode method_3_code 43 = .ok (.invokespecial 21, 3) := by decide +kernel
theorem pd__28_5bC_29V : parseMethodDescriptor "([C)V" = some ⟨[(.array .char)], none⟩ := by decide +kernel
theorem d_method_3_code_46 : decode method_3_code 46 = .ok (.areturn, 1) := by decide +kernel
theorem d_method_3_code_47 : decode method_3_code 47 = .ok (.iload_n 2, 1) := by decide +kernel
theorem d_method_3_code_48 : decode method_3_code 48 = .ok (.iconst 1, 1) := by decide +kernel
theorem d_method_3_code_49 : decode method_3_code 49 = .ok (.if_icmp .ne 10, 3) := by decide +kernel
theorem d_method_3_code_52 : decode method_3_code 52 = .ok (.aload_n 1, 1) := by decide +kernel
theorem d_method_3_code_53 : decode method_3_code 53 = .ok (.iconst 0, 1) := by decide +kernel
theorem d_method_3_code_54 : decode method_3_code 54 = .ok (.caload, 1) := by decide +kernel
theorem d_method_3_code_55 : decode method_3_code 55 = .ok (.invokestatic 24, 3) := by decide +kernel
theorem pd__28C_29Ljava_2flang_2fString_3b : parseMethodDescriptor "(C)Ljava/lang/String;" = some ⟨[.char], some (.object "java/lang/String")⟩ := by decide +kernel
theorem d_method_3_code_58 : decode method_3_code 58 = .ok (.areturn, 1) := by decide +kernel
theorem d_method_3_code_59 : decode method_3_code 59 = .ok (.new 19, 3) := by decide +kernel
theorem d_method_3_code_62 : decode method_3_code 62 = .ok (.dup, 1) := by decide +kernel
theorem d_method_3_code_63 : decode method_3_code 63 = .ok (.aload_n 1, 1) := by decide +kernel
theorem d_method_3_code_64 : decode method_3_code 64 = .ok (.invokespecial 21, 3) := by decide +kernel
theorem d_method_3_code_67 : decode method_3_code 67 = .ok (.areturn, 1) := by decide +kernel
theorem ef_str (m : MethodId) (x0 : Int32) : entryFrame m #[(.int x0)] 3 = mkF m 0 #[.val (.int x0), .unset, .unset] [] := by (first | (simp [entryFrame, mkF, argsToLocals, Value.category]; done) | rfl)
def Q_str (Z : State) (h0 : Heap) (n0 : Nat) (v : Option Value) (h : Heap) (L : List Loc) : Prop := ∃ (a t : Addr) (k : ClassId) (cs : List Int32), v = some (.ref a) ∧ Fr n0 L ∧ h0.size ≤ a ∧ Keep h0 h [] ∧ Exa Z h a "java/lang/String" ∧ Fld Z h a "java/lang/String" "value" "[B" (.ref t) ∧ Fld Z h a "java/lang/String" "coder" "B" (.int 0) ∧ Arv Z h t k .byte (Int32.ofNat cs.length) ((cs.map (fun c => c.toInt8.toInt32)).map Value.int) (.int 0) ∧ cs.length ≤ 2 ∧ ∀ c ∈ cs, ¬ c < 0 ∧ ¬ (255 : Int32) < c
set_option maxRecDepth 65536 in
set_option maxHeartbeats 40000000 in
theorem rm_str (l : Launch) (Z : State) (a0 : Array Value) (hw : ∀ d ∈ tables_1, d.before a0 Z = true) (ws : List Jvm.Cond) (p1 : Int32) (G1 : Int32) (h0 : Heap) (n0 : Nat) (Z0 : n0 ≤ h0.size) (Sg : Sta Z Z.heap "java/lang/String" "COMPACT_STRINGS" "Z" (.int G1)) (P5 : ¬ (G1 = (0 : Int32))) (Ol : Old Z n0 h0) :
    MetFree l (⟨"com/example/lakebed/lakebed/model/TimelineInstantIsCompletedPinLaw", "str", "(I)Ljava/lang/String;"⟩ : MethodName) (head1 (Jvm.Cond.code (⟨"com/example/lakebed/lakebed/model/TimelineInstantIsCompletedPinLaw", "str", "(I)Ljava/lang/String;"⟩ : MethodName) method_3_code 3 (some (.object "java/lang/String")) :: ws) ({ frames := 4, cells := 7, slots := 14, locals := 66 } : Room)) (fun a U => a = #[(.int p1)] ∧ Z.Warmed39 U.vm ∧ U.heap = h0 ∧ CHv Z own_EL U.vm h0) (fun _ _ _ _ _ => True) (fun _ U o U' => ∃ v L, o = .returned v ∧ Q_str Z h0 n0 v U'.heap L ∧ CHr Z own_EL U.vm U.heap U'.vm U'.heap ∧ ReturnedEndW U o U' L ({ frames := 4, cells := 7, slots := 14, locals := 66 } : Room).cells ({ frames := 4, cells := 7, slots := 14, locals := 66 } : Room).slots) := by
  refine MetFree.of_bodySF (plainFor_of_name pn_com_example_lakebed_lakebed_model_TimelineInstantIsCompletedPinLaw) hisR ?_
  intro p e s m args below meth c s₁ Bd hml0 hP hK
  obtain ⟨rfl, hZ, hh, hCH0⟩ := hP
  have hx := Bd.exec
  have hby := Bd.bytes
  have hml : c.maxLocals = 3 := hml0
  have hown : s.vm.findClass "com/example/lakebed/lakebed/model/TimelineInstantIsCompletedPinLaw" = some m.cls := findClass_of_methodNamed Bd.named
  have hnm := (name_of_methodNamed Bd.named Bd.method).1
  have X0 : Stand p l e ({ frames := 4, cells := 7, slots := 14, locals := 66 } : Room) (s.setVm s.vm) m #[(.int p1)] below meth c s₁ [] 0 0 := Stand.of_body Bd
  have e0 : s₁.heap = h0 := by rw [← hh, Bd.state]; rfl
  have N0 := Fr.nil n0
  have pre0 : ∀ t, Steps p.tables e below (s₁.setTop (mkF m 0 #[.val (.int p1), .unset, .unset] [])) t → Steps p.tables e below (s₁.setTop (entryFrame m #[(.int p1)] 3)) t := fun t k => castTop (ef_str m p1) k
  have P0 : ∀ t, Steps p.tables e below (s₁.setTop (mkF m 0 #[.val (.int p1), .unset, .unset] [])) t → Steps p.tables e below (s₁.setTop (mkF m 0 #[.val (.int p1), .unset, .unset] [])) t := fun t k => k
  have hS0 : s.Since s.vm h0.size := (State.WarmedH.refl s).since _
  have hCR0 : CHr Z own_EL s.vm h0 s.vm h0 := CHr.refl hCH0
  obtain ⟨T123, h123, k123, X123, e123, E123, A123, st123⟩ := newP X0 hx hZ (hw _ (List.mem_of_getElem? (i := 11) rfl)) e0 (g := (mkF m 1 #[.val (.int p1), .unset, .unset] [(.int (2 : Int32))])) rfl (hb hby d_method_3_code_1) rfl (by decide) (cap := 2) (by decide) (by decide) (by decide) (by decide)
  obtain ⟨b123, g123⟩ : ∃ z, z = h0.size := ⟨_, rfl⟩
  rw [← g123] at A123 st123
  have g_b123 : n0 ≤ b123 := Nat.le_trans Z0 (Nat.le_of_eq g123.symm)
  have sz_b123 : h0.size ≤ b123 := Nat.le_trans (Keep.refl h0 []).1 (Nat.le_of_eq g123.symm)
  have P124 : ∀ t, Steps p.tables e below (T123.setTop (mkF m 3 #[.val (.int p1), .unset, .unset] [(.ref b123)])) t → Steps p.tables e below (s₁.setTop (mkF m 0 #[.val (.int p1), .unset, .unset] [])) t := fun t k => P0 t (by
    refine XS.iconst X0.here hx rfl (hb hby d_method_3_code_0) ?_
    show Steps p.tables e below (s₁.setTop (mkF m 1 #[.val (.int p1), .unset, .unset] [(.int (2 : Int32))])) _
    exact st123 _ k)
  have Z125 : n0 ≤ h123.size := Nat.le_trans Z0 E123.1
  have K126 : Keep h0 h123 [] := (Keep.refl h0 []).ext E123
  have O127 : Old Z n0 h123 := Ol.ext E123
  have hk128 : h0.size ≤ h123.size := Nat.le_trans (Nat.le_refl _) E123.1
  have C129 : CHr Z own_EL s.vm h0 s.vm h123 := CHr.ext E123 hCH0
  have R130 : CHr Z own_EL s.vm h0 s.vm h123 := hCR0.trans C129
  have v131 : Arv Z h123 b123 k123 .char (2 : Int32) [(.int (0 : Int32)), (.int (0 : Int32))] (.int (0 : Int32)) := (Arv.new A123 (by decide)).pad (pad_rep [] (.int (0 : Int32)) 2)
  obtain ⟨cl132, Ar132, q132, S132, N132, H132, G132⟩ := id v131
  obtain ⟨T132, h132, X132, e132, W132, st132⟩ := stC X123 hx hZ e123 Ar132 (j := (0 : Int32)) (inb_of S132 ⟨by decide, by decide⟩) (g := (mkF m 12 #[.val (.int p1), .val (.ref b123), .unset] [(.int ((p1 &&& (255 : Int32)).toUInt32.toUInt16.toUInt32.toInt32)), (.int (0 : Int32)), (.ref b123)])) rfl rfl (hb hby d_method_3_code_12)
  have v133 : Arv Z h132 b123 k123 .char (2 : Int32) [(.int (nar .char ((p1 &&& (255 : Int32)).toUInt32.toUInt16.toUInt32.toInt32))), (.int (0 : Int32))] (.int (0 : Int32)) := Arv.set Ar132 q132 S132 N132 H132 G132 (fits_nar_char _) W132 0 rfl (Nat.le_of_ble_eq_true rfl)
  have P134 : ∀ t, Steps p.tables e below (T132.setTop (mkF m 13 #[.val (.int p1), .val (.ref b123), .unset] [])) t → Steps p.tables e below (s₁.setTop (mkF m 0 #[.val (.int p1), .unset, .unset] [])) t := fun t k => P124 t (by
    show Steps p.tables e below (T123.setTop (mkF m 3 #[.val (.int p1), .unset, .unset] [(.ref b123)])) _
    refine XS.astoreN X123.here hx rfl (hb hby d_method_3_code_3) rfl rfl (l' := #[.val (.int p1), .val (.ref b123), .unset]) rfl ?_
    show Steps p.tables e below (T123.setTop (mkF m 4 #[.val (.int p1), .val (.ref b123), .unset] [])) _
    refine XS.aloadN X123.here hx rfl (hb hby d_method_3_code_4) rfl rfl ?_
    show Steps p.tables e below (T123.setTop (mkF m 5 #[.val (.int p1), .val (.ref b123), .unset] [(.ref b123)])) _
    refine XS.iconst X123.here hx rfl (hb hby d_method_3_code_5) ?_
    show Steps p.tables e below (T123.setTop (mkF m 6 #[.val (.int p1), .val (.ref b123), .unset] [(.int (0 : Int32)), (.ref b123)])) _
    refine XS.iloadN X123.here hx rfl (hb hby d_method_3_code_6) rfl ?_
    show Steps p.tables e below (T123.setTop (mkF m 7 #[.val (.int p1), .val (.ref b123), .unset] [(.int p1), (.int (0 : Int32)), (.ref b123)])) _
    refine XS.sipush X123.here hx rfl (hb hby d_method_3_code_7) ?_
    show Steps p.tables e below (T123.setTop (mkF m 10 #[.val (.int p1), .val (.ref b123), .unset] [(.int (255 : Int32)), (.int p1), (.int (0 : Int32)), (.ref b123)])) _
    refine XS.iand X123.here hx rfl (hb hby d_method_3_code_10) rfl ?_
    show Steps p.tables e below (T123.setTop (mkF m 11 #[.val (.int p1), .val (.ref b123), .unset] [(.int (p1 &&& (255 : Int32))), (.int (0 : Int32)), (.ref b123)])) _
    refine XS.i2c X123.here hx rfl (hb hby d_method_3_code_11) rfl ?_
    show Steps p.tables e below (T123.setTop (mkF m 12 #[.val (.int p1), .val (.ref b123), .unset] [(.int ((p1 &&& (255 : Int32)).toUInt32.toUInt16.toUInt32.toInt32)), (.int (0 : Int32)), (.ref b123)])) _
    exact st132 _ k)
  have N135 := Fr.snoc X132 N0 g_b123
  have Z136 : n0 ≤ h132.size := Nat.le_trans Z125 (Keep.of_wr W132).1
  have K137 : Keep h0 h132 [] := K126.wr W132 (Or.inr sz_b123)
  have O138 : Old Z n0 h132 := O127.wr W132 g_b123
  have hk139 : h0.size ≤ h132.size := Nat.le_trans hk128 (Keep.of_wr W132).1
  have C140 : CHr Z own_EL s.vm h123 s.vm h132 := CHr.wr W132 (Safe.arv hZ.alike v131 (by decide)) C129.1
  have R141 : CHr Z own_EL s.vm h0 s.vm h132 := R130.trans C140
  obtain ⟨cl142, Ar142, q142, S142, N142, H142, G142⟩ := id v133
  obtain ⟨T142, h142, X142, e142, W142, st142⟩ := stC X132 hx hZ e132 Ar142 (j := (1 : Int32)) (inb_of S142 ⟨by decide, by decide⟩) (g := (mkF m 24 #[.val (.int p1), .val (.ref b123), .unset] [(.int ((((p1.toUInt32 >>> ((8 : Int32) &&& 31).toUInt32).toInt32) &&& (255 : Int32)).toUInt32.toUInt16.toUInt32.toInt32)), (.int (1 : Int32)), (.ref b123)])) rfl rfl (hb hby d_method_3_code_24)
  have v143 : Arv Z h142 b123 k123 .char (2 : Int32) [(.int (nar .char ((p1 &&& (255 : Int32)).toUInt32.toUInt16.toUInt32.toInt32))), (.int (nar .char ((((p1.toUInt32 >>> ((8 : Int32) &&& 31).toUInt32).toInt32) &&& (255 : Int32)).toUInt32.toUInt16.toUInt32.toInt32)))] (.int (0 : Int32)) := Arv.set Ar142 q142 S142 N142 H142 G142 (fits_nar_char _) W142 1 rfl (Nat.le_of_ble_eq_true rfl)
  have P144 : ∀ t, Steps p.tables e below (T142.setTop (mkF m 25 #[.val (.int p1), .val (.ref b123), .unset] [])) t → Steps p.tables e below (s₁.setTop (mkF m 0 #[.val (.int p1), .unset, .unset] [])) t := fun t k => P134 t (by
    show Steps p.tables e below (T132.setTop (mkF m 13 #[.val (.int p1), .val (.ref b123), .unset] [])) _
    refine XS.aloadN X132.here hx rfl (hb hby d_method_3_code_13) rfl rfl ?_
    show Steps p.tables e below (T132.setTop (mkF m 14 #[.val (.int p1), .val (.ref b123), .unset] [(.ref b123)])) _
    refine XS.iconst X132.here hx rfl (hb hby d_method_3_code_14) ?_
    show Steps p.tables e below (T132.setTop (mkF m 15 #[.val (.int p1), .val (.ref b123), .unset] [(.int (1 : Int32)), (.ref b123)])) _
    refine XS.iloadN X132.here hx rfl (hb hby d_method_3_code_15) rfl ?_
    show Steps p.tables e below (T132.setTop (mkF m 16 #[.val (.int p1), .val (.ref b123), .unset] [(.int p1), (.int (1 : Int32)), (.ref b123)])) _
    refine XS.bipush X132.here hx rfl (hb hby d_method_3_code_16) ?_
    show Steps p.tables e below (T132.setTop (mkF m 18 #[.val (.int p1), .val (.ref b123), .unset] [(.int (8 : Int32)), (.int p1), (.int (1 : Int32)), (.ref b123)])) _
    refine XS.iushr X132.here hx rfl (hb hby d_method_3_code_18) rfl ?_
    show Steps p.tables e below (T132.setTop (mkF m 19 #[.val (.int p1), .val (.ref b123), .unset] [(.int ((p1.toUInt32 >>> ((8 : Int32) &&& 31).toUInt32).toInt32)), (.int (1 : Int32)), (.ref b123)])) _
    refine XS.sipush X132.here hx rfl (hb hby d_method_3_code_19) ?_
    show Steps p.tables e below (T132.setTop (mkF m 22 #[.val (.int p1), .val (.ref b123), .unset] [(.int (255 : Int32)), (.int ((p1.toUInt32 >>> ((8 : Int32) &&& 31).toUInt32).toInt32)), (.int (1 : Int32)), (.ref b123)])) _
    refine XS.iand X132.here hx rfl (hb hby d_method_3_code_22) rfl ?_
    show Steps p.tables e below (T132.setTop (mkF m 23 #[.val (.int p1), .val (.ref b123), .unset] [(.int (((p1.toUInt32 >>> ((8 : Int32) &&& 31).toUInt32).toInt32) &&& (255 : Int32))), (.int (1 : Int32)), (.ref b123)])) _
    refine XS.i2c X132.here hx rfl (hb hby d_method_3_code_23) rfl ?_
    show Steps p.tables e below (T132.setTop (mkF m 24 #[.val (.int p1), .val (.ref b123), .unset] [(.int ((((p1.toUInt32 >>> ((8 : Int32) &&& 31).toUInt32).toInt32) &&& (255 : Int32)).toUInt32.toUInt16.toUInt32.toInt32)), (.int (1 : Int32)), (.ref b123)])) _
    exact st142 _ k)
  have N145 := Fr.snoc X142 N135 g_b123
  have Z146 : n0 ≤ h142.size := Nat.le_trans Z136 (Keep.of_wr W142).1
  have K147 : Keep h0 h142 [] := K137.wr W142 (Or.inr sz_b123)
  have O148 : Old Z n0 h142 := O138.wr W142 g_b123
  have hk149 : h0.size ≤ h142.size := Nat.le_trans hk139 (Keep.of_wr W142).1
  have C150 : CHr Z own_EL s.vm h132 s.vm h142 := CHr.wr W142 (Safe.arv hZ.alike v133 (by decide)) C140.1
  have R151 : CHr Z own_EL s.vm h0 s.vm h142 := R141.trans C150
  by_cases q152 : (((p1.toUInt32 >>> ((16 : Int32) &&& 31).toUInt32).toInt32) &&& (3 : Int32)) = (0 : Int32)
  · skip
    obtain ⟨T153, h153, X153, e153, E153, A153, D153, -, st153⟩ := newO X142 hx hZ hown (hw _ (List.mem_of_getElem? (i := 12) rfl)) (hw _ (List.mem_of_getElem? (i := 13) rfl)) (hw _ (List.mem_of_getElem? (i := 14) rfl)) e142 (g := (mkF m 36 #[.val (.int p1), .val (.ref b123), .val (.int (((p1.toUInt32 >>> ((16 : Int32) &&& 31).toUInt32).toInt32) &&& (3 : Int32)))] [])) rfl (hb hby d_method_3_code_36) (by decide) (by decide)
    obtain ⟨b153, g153⟩ : ∃ z, z = h142.size := ⟨_, rfl⟩
    rw [← g153] at A153 D153 st153
    have g_b153 : n0 ≤ b153 := Nat.le_trans Z146 (Nat.le_of_eq g153.symm)
    have sz_b153 : h0.size ≤ b153 := Nat.le_trans K147.1 (Nat.le_of_eq g153.symm)
    have P154 : ∀ t, Steps p.tables e below (T153.setTop (mkF m 39 #[.val (.int p1), .val (.ref b123), .val (.int (((p1.toUInt32 >>> ((16 : Int32) &&& 31).toUInt32).toInt32) &&& (3 : Int32)))] [(.ref b153)])) t → Steps p.tables e below (s₁.setTop (mkF m 0 #[.val (.int p1), .unset, .unset] [])) t := fun t k => P144 t (by
      show Steps p.tables e below (T142.setTop (mkF m 25 #[.val (.int p1), .val (.ref b123), .unset] [])) _
      refine XS.iloadN X142.here hx rfl (hb hby d_method_3_code_25) rfl ?_
      show Steps p.tables e below (T142.setTop (mkF m 26 #[.val (.int p1), .val (.ref b123), .unset] [(.int p1)])) _
      refine XS.bipush X142.here hx rfl (hb hby d_method_3_code_26) ?_
      show Steps p.tables e below (T142.setTop (mkF m 28 #[.val (.int p1), .val (.ref b123), .unset] [(.int (16 : Int32)), (.int p1)])) _
      refine XS.iushr X142.here hx rfl (hb hby d_method_3_code_28) rfl ?_
      show Steps p.tables e below (T142.setTop (mkF m 29 #[.val (.int p1), .val (.ref b123), .unset] [(.int ((p1.toUInt32 >>> ((16 : Int32) &&& 31).toUInt32).toInt32))])) _
      refine XS.iconst X142.here hx rfl (hb hby d_method_3_code_29) ?_
      show Steps p.tables e below (T142.setTop (mkF m 30 #[.val (.int p1), .val (.ref b123), .unset] [(.int (3 : Int32)), (.int ((p1.toUInt32 >>> ((16 : Int32) &&& 31).toUInt32).toInt32))])) _
      refine XS.iand X142.here hx rfl (hb hby d_method_3_code_30) rfl ?_
      show Steps p.tables e below (T142.setTop (mkF m 31 #[.val (.int p1), .val (.ref b123), .unset] [(.int (((p1.toUInt32 >>> ((16 : Int32) &&& 31).toUInt32).toInt32) &&& (3 : Int32)))])) _
      refine XS.istoreN X142.here hx rfl (hb hby d_method_3_code_31) rfl (l' := #[.val (.int p1), .val (.ref b123), .val (.int (((p1.toUInt32 >>> ((16 : Int32) &&& 31).toUInt32).toInt32) &&& (3 : Int32)))]) rfl ?_
      show Steps p.tables e below (T142.setTop (mkF m 32 #[.val (.int p1), .val (.ref b123), .val (.int (((p1.toUInt32 >>> ((16 : Int32) &&& 31).toUInt32).toInt32) &&& (3 : Int32)))] [])) _
      refine XS.iloadN X142.here hx rfl (hb hby d_method_3_code_32) rfl ?_
      show Steps p.tables e below (T142.setTop (mkF m 33 #[.val (.int p1), .val (.ref b123), .val (.int (((p1.toUInt32 >>> ((16 : Int32) &&& 31).toUInt32).toInt32) &&& (3 : Int32)))] [(.int (((p1.toUInt32 >>> ((16 : Int32) &&& 31).toUInt32).toInt32) &&& (3 : Int32)))])) _
      refine XS.ifNo X142.here hx rfl (hb hby d_method_3_code_33) rfl ((if0 _ _).trans (teq (show (((p1.toUInt32 >>> ((16 : Int32) &&& 31).toUInt32).toInt32) &&& (3 : Int32)) = (0 : Int32) from q152)).2) ?_
      show Steps p.tables e below (T142.setTop (mkF m 36 #[.val (.int p1), .val (.ref b123), .val (.int (((p1.toUInt32 >>> ((16 : Int32) &&& 31).toUInt32).toInt32) &&& (3 : Int32)))] [])) _
      exact st153 _ k)
    have Z155 : n0 ≤ h153.size := Nat.le_trans Z146 E153.1
    have K156 : Keep h0 h153 [] := K147.ext E153
    have O157 : Old Z n0 h153 := O148.ext E153
    have hk158 : h0.size ≤ h153.size := Nat.le_trans hk149 E153.1
    have C159 : CHr Z own_EL s.vm h142 s.vm h153 := CHr.ext E153 C150.1
    have R160 : CHr Z own_EL s.vm h0 s.vm h153 := R151.trans C159
    have sf_b153 : Safe Z own_EL s.vm h153 b153 := Safe.ext E153 C150.1 (Safe.new (Nat.le_of_eq g153.symm))
    have f161 : Fld Z h153 b153 "java/lang/String" "value" "[B" .null := D153 (Or.inr (hw _ (List.mem_of_getElem? (i := 27) rfl))) (ty := (.array .byte)) (by decide)
    have f162 : Fld Z h153 b153 "java/lang/String" "coder" "B" (.int (0 : Int32)) := D153 (Or.inr (hw _ (List.mem_of_getElem? (i := 28) rfl))) (ty := .byte) (by decide)
    obtain ⟨T163, h163, k163, X163, e163, E163, A163, st163⟩ := newP X153 hx hZ (hw _ (List.mem_of_getElem? (i := 11) rfl)) e153 (g := (mkF m 41 #[.val (.int p1), .val (.ref b123), .val (.int (((p1.toUInt32 >>> ((16 : Int32) &&& 31).toUInt32).toInt32) &&& (3 : Int32)))] [(.int (0 : Int32)), (.ref b153), (.ref b153)])) rfl (hb hby d_method_3_code_41) rfl (by decide) (cap := 0) (by decide) (by decide) (by decide) (by decide)
    obtain ⟨b163, g163⟩ : ∃ z, z = h153.size := ⟨_, rfl⟩
    rw [← g163] at A163 st163
    have g_b163 : n0 ≤ b163 := Nat.le_trans Z155 (Nat.le_of_eq g163.symm)
    have sz_b163 : h0.size ≤ b163 := Nat.le_trans K156.1 (Nat.le_of_eq g163.symm)
    have P164 : ∀ t, Steps p.tables e below (T163.setTop (mkF m 43 #[.val (.int p1), .val (.ref b123), .val (.int (((p1.toUInt32 >>> ((16 : Int32) &&& 31).toUInt32).toInt32) &&& (3 : Int32)))] [(.ref b163), (.ref b153), (.ref b153)])) t → Steps p.tables e below (s₁.setTop (mkF m 0 #[.val (.int p1), .unset, .unset] [])) t := fun t k => P154 t (by
      show Steps p.tables e below (T153.setTop (mkF m 39 #[.val (.int p1), .val (.ref b123), .val (.int (((p1.toUInt32 >>> ((16 : Int32) &&& 31).toUInt32).toInt32) &&& (3 : Int32)))] [(.ref b153)])) _
      refine XS.dup X153.here hx rfl (hb hby d_method_3_code_39) rfl rfl ?_
      show Steps p.tables e below (T153.setTop (mkF m 40 #[.val (.int p1), .val (.ref b123), .val (.int (((p1.toUInt32 >>> ((16 : Int32) &&& 31).toUInt32).toInt32) &&& (3 : Int32)))] [(.ref b153), (.ref b153)])) _
      refine XS.iconst X153.here hx rfl (hb hby d_method_3_code_40) ?_
      show Steps p.tables e below (T153.setTop (mkF m 41 #[.val (.int p1), .val (.ref b123), .val (.int (((p1.toUInt32 >>> ((16 : Int32) &&& 31).toUInt32).toInt32) &&& (3 : Int32)))] [(.int (0 : Int32)), (.ref b153), (.ref b153)])) _
      exact st163 _ k)
    have Z165 : n0 ≤ h163.size := Nat.le_trans Z155 E163.1
    have K166 : Keep h0 h163 [] := K156.ext E163
    have O167 : Old Z n0 h163 := O157.ext E163
    have hk168 : h0.size ≤ h163.size := Nat.le_trans hk158 E163.1
    have C169 : CHr Z own_EL s.vm h153 s.vm h163 := CHr.ext E163 C159.1
    have R170 : CHr Z own_EL s.vm h0 s.vm h163 := R160.trans C169
    have v171 : Arv Z h163 b163 k163 .char (0 : Int32) ([] : List Value) (.int (0 : Int32)) := Arv.new A163 (by decide)
    have f172 : Exa Z h163 b153 "java/lang/String" := (A153.ext E163)
    have f173 : Fld Z h163 b153 "java/lang/String" "value" "[B" .null := (f161.ext E163)
    have f174 : Fld Z h163 b153 "java/lang/String" "coder" "B" (.int (0 : Int32)) := (f162.ext E163)
    obtain ⟨_, _, ⟨T175, L175, k175, n175⟩, -, X175, hs175, hg175, ⟨Lc175, hQ175, l175, y175, z175, cr175⟩, st175⟩ := X163.specialBackS hx (y := (⟨"java/lang/String", "<init>", "([C)V"⟩ : MethodName)) rfl hown (mvT hZ (hw _ (List.mem_of_getElem? (i := 15) rfl))) (mvT hZ (hw _ (List.mem_of_getElem? (i := 16) rfl))) (mvT hZ (hw _ (List.mem_of_getElem? (i := 17) rfl))) (by decide) (backOfSH (W := 1) (rm_init1e l Z a0 hw [] b153 b163 k163 h163 n0 Z165 g_b153 f172 f173 f174 v171) hZ (hw _ (List.mem_of_getElem? (i := 17) rfl)) (hw _ (List.mem_of_getElem? (i := 14) rfl)) (by decide) (by decide) (own_EW hw) C169.1) (g := (mkF m 43 #[.val (.int p1), .val (.ref b123), .val (.int (((p1.toUInt32 >>> ((16 : Int32) &&& 31).toUInt32).toInt32) &&& (3 : Int32)))] [(.ref b163), (.ref b153), (.ref b153)])) rfl (by rw [hml]; rfl) (Steps.refl _) (a := b153) (argsL := [(.ref b163)]) (rest := [(.ref b153)]) (lenOf pd__28_5bC_29V rfl) rfl (by show 2 * 0 + _ ≤ _; exact Nat.le_of_eq rfl) (hb hby d_method_3_code_43) (fun _ _ => ⟨rfl, e163, (Nat.le_of_ble_eq_true rfl : 3 + 4 ≤ _), (Nat.le_of_ble_eq_true rfl : 6 + 8 ≤ _)⟩)
    dsimp only [Pt.U, Pt.locs, Pt.cells, Pt.slots] at X175 l175 y175 z175 st175 hQ175 hs175 hg175 cr175
    subst l175 y175 z175
    obtain ⟨rfl, Nq175, Kk175, Ek175, Fc175, t175, kb175, Fv175, Av175⟩ := hQ175
    obtain ⟨Xr175, hSr175, hZr175, ho175⟩ := rebS hS0 (by rw [e163]; exact hk168) X175 hs175 hg175 hZ hown
    have N176 := Fr.app N145 Nq175
    have P177 : ∀ t, Steps p.tables e below (T175.setTop (mkF m 46 #[.val (.int p1), .val (.ref b123), .val (.int (((p1.toUInt32 >>> ((16 : Int32) &&& 31).toUInt32).toInt32) &&& (3 : Int32)))] [(.ref b153)])) t → Steps p.tables e below (s₁.setTop (mkF m 0 #[.val (.int p1), .unset, .unset] [])) t := fun t k => P164 t (by
      show Steps p.tables e below (T163.setTop (mkF m 43 #[.val (.int p1), .val (.ref b123), .val (.int (((p1.toUInt32 >>> ((16 : Int32) &&& 31).toUInt32).toInt32) &&& (3 : Int32)))] [(.ref b163), (.ref b153), (.ref b153)])) _
      exact st175.trans k)
    have Z178 : n0 ≤ T175.heap.size := Nat.le_trans Z165 Kk175.1
    have K179 : Keep h0 T175.heap [] := K166.trans Kk175 ((allS (Or.inr sz_b153) all0))
    have O180 : Old Z n0 T175.heap := O167.keep Kk175 (allS g_b153 all0)
    have R181 : CHr Z own_EL s.vm h0 T175.vm T175.heap := R170.trans cr175
    obtain ⟨fs182, hr182, hrun182, hended182, hRW182⟩ := Xr175.leaveW (v := some (.ref b153)) hSr175 (Nat.le_refl _) (fun h => by rw [Bd.returns] at h; cases h)
    have hce182 : CHr Z own_EL s.vm s.heap T175.vm T175.heap := by
      rw [hh]
      exact R181.trans (CHv.at Xr175 hZr175 (own_EW hw) cr175.1)
    refine ⟨_, _, pre0 _ (P177 _ ?_), hrun182, hended182, _, _, rfl, ?_, hce182, ⟨hRW182.1, hRW182.2.1, hRW182.2.2.1, hRW182.2.2.2.mono (Nat.le_of_ble_eq_true rfl) (Nat.le_of_ble_eq_true rfl)⟩⟩
    · show Steps p.tables e below (T175.setTop (mkF m 46 #[.val (.int p1), .val (.ref b123), .val (.int (((p1.toUInt32 >>> ((16 : Int32) &&& 31).toUInt32).toInt32) &&& (3 : Int32)))] [(.ref b153)])) _
      exact retOut Xr175 hx Bd.returns rfl (Or.inr (Or.inr (Or.inr (Or.inr ⟨rfl, rfl, rfl⟩)))) (hb hby d_method_3_code_46) hr182
    · show Q_str Z h0 n0 _ T175.heap _
      exact ⟨b153, t175, _, ([] : List Int32), rfl, N176, sz_b153, K179, Ek175, Fv175, Fc175, Av175, Nat.le_of_ble_eq_true rfl, (fun x hx => nomatch hx)⟩
  · skip
    by_cases q183 : (((p1.toUInt32 >>> ((16 : Int32) &&& 31).toUInt32).toInt32) &&& (3 : Int32)) = (1 : Int32)
    · skip
      obtain ⟨cl184, Ar184, -, S184, N184, H184, -⟩ := id v143
      have hin184 : ¬ ((0 : Int32) < 0 ∨ cl184.slots.size ≤ ((0 : Int32)).toNatClampNeg) := inb_of S184 ⟨by decide, by decide⟩
      have hp1 : ¬ (255 : Int32) < (nar .char ((p1 &&& (255 : Int32)).toUInt32.toUInt16.toUInt32.toInt32)) := own_c255 _
      obtain ⟨_, _, ⟨T185, L185, k185, n185⟩, -, X185, ⟨Lc185, hQ185, l185, y185, z185⟩, st185⟩ := Jvm.LawKit.callS X142 hx (y := (⟨"java/lang/String", "valueOf", "(C)Ljava/lang/String;"⟩ : MethodName)) hown (mvT hZ (hw _ (List.mem_of_getElem? (i := 106) rfl))) (mvT hZ (hw _ (List.mem_of_getElem? (i := 107) rfl))) (mvT hZ (hw _ (List.mem_of_getElem? (i := 14) rfl))) (mvT hZ (hw _ (List.mem_of_getElem? (i := 108) rfl))) (by decide) (backOf (W := 0) (rm_valueOf l Z a0 hw [] (nar .char ((p1 &&& (255 : Int32)).toUInt32.toUInt16.toUInt32.toInt32)) G1 h142 n0 Z146 Sg P5 hp1 O148) hZ (hw _ (List.mem_of_getElem? (i := 108) rfl)) (hw _ (List.mem_of_getElem? (i := 14) rfl)) (by decide) (by decide)) (g := (mkF m 55 #[.val (.int p1), .val (.ref b123), .val (.int (((p1.toUInt32 >>> ((16 : Int32) &&& 31).toUInt32).toInt32) &&& (3 : Int32)))] [(.int (nar .char ((p1 &&& (255 : Int32)).toUInt32.toUInt16.toUInt32.toInt32)))])) rfl (by rw [hml]; rfl) (argsL := [(.int (nar .char ((p1 &&& (255 : Int32)).toUInt32.toUInt16.toUInt32.toInt32)))]) (rest := []) (lenOf pd__28C_29Ljava_2flang_2fString_3b rfl) rfl (by show 2 * 0 + _ ≤ _; exact Nat.le_of_eq rfl) (hb hby d_method_3_code_55) (fun _ _ => ⟨rfl, e142, (Nat.le_of_ble_eq_true rfl : 1 + 2 ≤ _), (Nat.le_of_ble_eq_true rfl : 2 + 5 ≤ _)⟩)
      dsimp only [Pt.U, Pt.locs, Pt.cells, Pt.slots] at X185 l185 y185 z185 st185 hQ185
      subst l185 y185 z185
      obtain ⟨s185, t185, k185, rfl, Nq185, sz185, szt185, Kk185, Ek185, Fv185, Fc185, Av185⟩ := hQ185
      have N186 := Fr.app N145 Nq185
      have P187 : ∀ t, Steps p.tables e below (T185.setTop (mkF m 58 #[.val (.int p1), .val (.ref b123), .val (.int (((p1.toUInt32 >>> ((16 : Int32) &&& 31).toUInt32).toInt32) &&& (3 : Int32)))] [(.ref s185)])) t → Steps p.tables e below (s₁.setTop (mkF m 0 #[.val (.int p1), .unset, .unset] [])) t := fun t k => P144 t (by
        show Steps p.tables e below (T142.setTop (mkF m 25 #[.val (.int p1), .val (.ref b123), .unset] [])) _
        refine XS.iloadN X142.here hx rfl (hb hby d_method_3_code_25) rfl ?_
        show Steps p.tables e below (T142.setTop (mkF m 26 #[.val (.int p1), .val (.ref b123), .unset] [(.int p1)])) _
        refine XS.bipush X142.here hx rfl (hb hby d_method_3_code_26) ?_
        show Steps p.tables e below (T142.setTop (mkF m 28 #[.val (.int p1), .val (.ref b123), .unset] [(.int (16 : Int32)), (.int p1)])) _
        refine XS.iushr X142.here hx rfl (hb hby d_method_3_code_28) rfl ?_
        show Steps p.tables e below (T142.setTop (mkF m 29 #[.val (.int p1), .val (.ref b123), .unset] [(.int ((p1.toUInt32 >>> ((16 : Int32) &&& 31).toUInt32).toInt32))])) _
        refine XS.iconst X142.here hx rfl (hb hby d_method_3_code_29) ?_
        show Steps p.tables e below (T142.setTop (mkF m 30 #[.val (.int p1), .val (.ref b123), .unset] [(.int (3 : Int32)), (.int ((p1.toUInt32 >>> ((16 : Int32) &&& 31).toUInt32).toInt32))])) _
        refine XS.iand X142.here hx rfl (hb hby d_method_3_code_30) rfl ?_
        show Steps p.tables e below (T142.setTop (mkF m 31 #[.val (.int p1), .val (.ref b123), .unset] [(.int (((p1.toUInt32 >>> ((16 : Int32) &&& 31).toUInt32).toInt32) &&& (3 : Int32)))])) _
        refine XS.istoreN X142.here hx rfl (hb hby d_method_3_code_31) rfl (l' := #[.val (.int p1), .val (.ref b123), .val (.int (((p1.toUInt32 >>> ((16 : Int32) &&& 31).toUInt32).toInt32) &&& (3 : Int32)))]) rfl ?_
        show Steps p.tables e below (T142.setTop (mkF m 32 #[.val (.int p1), .val (.ref b123), .val (.int (((p1.toUInt32 >>> ((16 : Int32) &&& 31).toUInt32).toInt32) &&& (3 : Int32)))] [])) _
        refine XS.iloadN X142.here hx rfl (hb hby d_method_3_code_32) rfl ?_
        show Steps p.tables e below (T142.setTop (mkF m 33 #[.val (.int p1), .val (.ref b123), .val (.int (((p1.toUInt32 >>> ((16 : Int32) &&& 31).toUInt32).toInt32) &&& (3 : Int32)))] [(.int (((p1.toUInt32 >>> ((16 : Int32) &&& 31).toUInt32).toInt32) &&& (3 : Int32)))])) _
        refine XS.ifYes X142.here hx rfl (pc0 := 33) (pc' := 47) rfl (hb hby d_method_3_code_33) rfl ((if0 _ _).trans (feq (show ¬ ((((p1.toUInt32 >>> ((16 : Int32) &&& 31).toUInt32).toInt32) &&& (3 : Int32)) = (0 : Int32)) from q152)).2) (by decide) (by decide) ?_
        show Steps p.tables e below (T142.setTop (mkF m 47 #[.val (.int p1), .val (.ref b123), .val (.int (((p1.toUInt32 >>> ((16 : Int32) &&& 31).toUInt32).toInt32) &&& (3 : Int32)))] [])) _
        refine XS.iloadN X142.here hx rfl (hb hby d_method_3_code_47) rfl ?_
        show Steps p.tables e below (T142.setTop (mkF m 48 #[.val (.int p1), .val (.ref b123), .val (.int (((p1.toUInt32 >>> ((16 : Int32) &&& 31).toUInt32).toInt32) &&& (3 : Int32)))] [(.int (((p1.toUInt32 >>> ((16 : Int32) &&& 31).toUInt32).toInt32) &&& (3 : Int32)))])) _
        refine XS.iconst X142.here hx rfl (hb hby d_method_3_code_48) ?_
        show Steps p.tables e below (T142.setTop (mkF m 49 #[.val (.int p1), .val (.ref b123), .val (.int (((p1.toUInt32 >>> ((16 : Int32) &&& 31).toUInt32).toInt32) &&& (3 : Int32)))] [(.int (1 : Int32)), (.int (((p1.toUInt32 >>> ((16 : Int32) &&& 31).toUInt32).toInt32) &&& (3 : Int32)))])) _
        refine XS.icmpNo X142.here hx rfl (hb hby d_method_3_code_49) rfl (teq (show (((p1.toUInt32 >>> ((16 : Int32) &&& 31).toUInt32).toInt32) &&& (3 : Int32)) = (1 : Int32) from q183)).2 ?_
        show Steps p.tables e below (T142.setTop (mkF m 52 #[.val (.int p1), .val (.ref b123), .val (.int (((p1.toUInt32 >>> ((16 : Int32) &&& 31).toUInt32).toInt32) &&& (3 : Int32)))] [])) _
        refine XS.aloadN X142.here hx rfl (hb hby d_method_3_code_52) rfl rfl ?_
        show Steps p.tables e below (T142.setTop (mkF m 53 #[.val (.int p1), .val (.ref b123), .val (.int (((p1.toUInt32 >>> ((16 : Int32) &&& 31).toUInt32).toInt32) &&& (3 : Int32)))] [(.ref b123)])) _
        refine XS.iconst X142.here hx rfl (hb hby d_method_3_code_53) ?_
        show Steps p.tables e below (T142.setTop (mkF m 54 #[.val (.int p1), .val (.ref b123), .val (.int (((p1.toUInt32 >>> ((16 : Int32) &&& 31).toUInt32).toInt32) &&& (3 : Int32)))] [(.int (0 : Int32)), (.ref b123)])) _
        refine X142.caload hx (j := (0 : Int32)) (v := (.int (nar .char ((p1 &&& (255 : Int32)).toUInt32.toUInt16.toUInt32.toInt32)))) (by rw [e142]; exact Ar184.1) (State.isArrayOf_alike hZ.alike Ar184.2.1) Ar184.2.2 hin184 (H184.at hin184 rfl) (g := (mkF m 54 #[.val (.int p1), .val (.ref b123), .val (.int (((p1.toUInt32 >>> ((16 : Int32) &&& 31).toUInt32).toInt32) &&& (3 : Int32)))] [(.int (0 : Int32)), (.ref b123)])) rfl rfl (hb hby d_method_3_code_54) _ ?_
        show Steps p.tables e below (T142.setTop (mkF m 55 #[.val (.int p1), .val (.ref b123), .val (.int (((p1.toUInt32 >>> ((16 : Int32) &&& 31).toUInt32).toInt32) &&& (3 : Int32)))] [(.int (nar .char ((p1 &&& (255 : Int32)).toUInt32.toUInt16.toUInt32.toInt32)))])) _
        exact st185 _ k)
      have Z188 : n0 ≤ T185.heap.size := Nat.le_trans Z146 Kk185.1
      have K189 : Keep h0 T185.heap [] := K147.trans Kk185 (all0)
      have O190 : Old Z n0 T185.heap := O148.keep Kk185 all0
      have hk191 : h0.size ≤ T185.heap.size := Nat.le_trans hk149 Kk185.1
      have C192 : CHr Z own_EL s.vm h142 s.vm T185.heap := CHr.keep Kk185 sf0 C150.1
      have R193 : CHr Z own_EL s.vm h0 s.vm T185.heap := R151.trans C192
      have g_s185 : n0 ≤ s185 := Nat.le_trans Z146 sz185
      have sz_s185 : h0.size ≤ s185 := Nat.le_trans K147.1 sz185
      have g_t185 : n0 ≤ t185 := Nat.le_trans Z146 szt185
      have sz_t185 : h0.size ≤ t185 := Nat.le_trans K147.1 szt185
      obtain ⟨fs194, hr194, hrun194, hended194, hRW194⟩ := X185.leaveW (v := some (.ref s185)) hS0 hk191 (fun h => by rw [Bd.returns] at h; cases h)
      have hce194 : CHr Z own_EL s.vm s.heap T185.vm T185.heap := by
        rw [hh]
        exact R193.trans (CHv.at X185 hZ (own_EW hw) C192.1)
      refine ⟨_, _, pre0 _ (P187 _ ?_), hrun194, hended194, _, _, rfl, ?_, hce194, ⟨hRW194.1, hRW194.2.1, hRW194.2.2.1, hRW194.2.2.2.mono (Nat.le_of_ble_eq_true rfl) (Nat.le_of_ble_eq_true rfl)⟩⟩
      · show Steps p.tables e below (T185.setTop (mkF m 58 #[.val (.int p1), .val (.ref b123), .val (.int (((p1.toUInt32 >>> ((16 : Int32) &&& 31).toUInt32).toInt32) &&& (3 : Int32)))] [(.ref s185)])) _
        exact retOut X185 hx Bd.returns rfl (Or.inr (Or.inr (Or.inr (Or.inr ⟨rfl, rfl, rfl⟩)))) (hb hby d_method_3_code_58) hr194
      · show Q_str Z h0 n0 _ T185.heap _
        exact ⟨s185, t185, _, [(nar .char ((p1 &&& (255 : Int32)).toUInt32.toUInt16.toUInt32.toInt32))], rfl, N186, sz_s185, K189, Ek185, Fv185, Fc185, (own_i8 (nar .char ((p1 &&& (255 : Int32)).toUInt32.toUInt16.toUInt32.toInt32)) ▸ Av185), Nat.le_of_ble_eq_true rfl, (by intro c hc; simp only [List.mem_cons, List.not_mem_nil, or_false] at hc; subst hc; exact and255_chars _)⟩
    · skip
      obtain ⟨T195, h195, X195, e195, E195, A195, D195, -, st195⟩ := newO X142 hx hZ hown (hw _ (List.mem_of_getElem? (i := 12) rfl)) (hw _ (List.mem_of_getElem? (i := 13) rfl)) (hw _ (List.mem_of_getElem? (i := 14) rfl)) e142 (g := (mkF m 59 #[.val (.int p1), .val (.ref b123), .val (.int (((p1.toUInt32 >>> ((16 : Int32) &&& 31).toUInt32).toInt32) &&& (3 : Int32)))] [])) rfl (hb hby d_method_3_code_59) (by decide) (by decide)
      obtain ⟨b195, g195⟩ : ∃ z, z = h142.size := ⟨_, rfl⟩
      rw [← g195] at A195 D195 st195
      have g_b195 : n0 ≤ b195 := Nat.le_trans Z146 (Nat.le_of_eq g195.symm)
      have sz_b195 : h0.size ≤ b195 := Nat.le_trans K147.1 (Nat.le_of_eq g195.symm)
      have P196 : ∀ t, Steps p.tables e below (T195.setTop (mkF m 62 #[.val (.int p1), .val (.ref b123), .val (.int (((p1.toUInt32 >>> ((16 : Int32) &&& 31).toUInt32).toInt32) &&& (3 : Int32)))] [(.ref b195)])) t → Steps p.tables e below (s₁.setTop (mkF m 0 #[.val (.int p1), .unset, .unset] [])) t := fun t k => P144 t (by
        show Steps p.tables e below (T142.setTop (mkF m 25 #[.val (.int p1), .val (.ref b123), .unset] [])) _
        refine XS.iloadN X142.here hx rfl (hb hby d_method_3_code_25) rfl ?_
        show Steps p.tables e below (T142.setTop (mkF m 26 #[.val (.int p1), .val (.ref b123), .unset] [(.int p1)])) _
        refine XS.bipush X142.here hx rfl (hb hby d_method_3_code_26) ?_
        show Steps p.tables e below (T142.setTop (mkF m 28 #[.val (.int p1), .val (.ref b123), .unset] [(.int (16 : Int32)), (.int p1)])) _
        refine XS.iushr X142.here hx rfl (hb hby d_method_3_code_28) rfl ?_
        show Steps p.tables e below (T142.setTop (mkF m 29 #[.val (.int p1), .val (.ref b123), .unset] [(.int ((p1.toUInt32 >>> ((16 : Int32) &&& 31).toUInt32).toInt32))])) _
        refine XS.iconst X142.here hx rfl (hb hby d_method_3_code_29) ?_
        show Steps p.tables e below (T142.setTop (mkF m 30 #[.val (.int p1), .val (.ref b123), .unset] [(.int (3 : Int32)), (.int ((p1.toUInt32 >>> ((16 : Int32) &&& 31).toUInt32).toInt32))])) _
        refine XS.iand X142.here hx rfl (hb hby d_method_3_code_30) rfl ?_
        show Steps p.tables e below (T142.setTop (mkF m 31 #[.val (.int p1), .val (.ref b123), .unset] [(.int (((p1.toUInt32 >>> ((16 : Int32) &&& 31).toUInt32).toInt32) &&& (3 : Int32)))])) _
        refine XS.istoreN X142.here hx rfl (hb hby d_method_3_code_31) rfl (l' := #[.val (.int p1), .val (.ref b123), .val (.int (((p1.toUInt32 >>> ((16 : Int32) &&& 31).toUInt32).toInt32) &&& (3 : Int32)))]) rfl ?_
        show Steps p.tables e below (T142.setTop (mkF m 32 #[.val (.int p1), .val (.ref b123), .val (.int (((p1.toUInt32 >>> ((16 : Int32) &&& 31).toUInt32).toInt32) &&& (3 : Int32)))] [])) _
        refine XS.iloadN X142.here hx rfl (hb hby d_method_3_code_32) rfl ?_
        show Steps p.tables e below (T142.setTop (mkF m 33 #[.val (.int p1), .val (.ref b123), .val (.int (((p1.toUInt32 >>> ((16 : Int32) &&& 31).toUInt32).toInt32) &&& (3 : Int32)))] [(.int (((p1.toUInt32 >>> ((16 : Int32) &&& 31).toUInt32).toInt32) &&& (3 : Int32)))])) _
        refine XS.ifYes X142.here hx rfl (pc0 := 33) (pc' := 47) rfl (hb hby d_method_3_code_33) rfl ((if0 _ _).trans (feq (show ¬ ((((p1.toUInt32 >>> ((16 : Int32) &&& 31).toUInt32).toInt32) &&& (3 : Int32)) = (0 : Int32)) from q152)).2) (by decide) (by decide) ?_
        show Steps p.tables e below (T142.setTop (mkF m 47 #[.val (.int p1), .val (.ref b123), .val (.int (((p1.toUInt32 >>> ((16 : Int32) &&& 31).toUInt32).toInt32) &&& (3 : Int32)))] [])) _
        refine XS.iloadN X142.here hx rfl (hb hby d_method_3_code_47) rfl ?_
        show Steps p.tables e below (T142.setTop (mkF m 48 #[.val (.int p1), .val (.ref b123), .val (.int (((p1.toUInt32 >>> ((16 : Int32) &&& 31).toUInt32).toInt32) &&& (3 : Int32)))] [(.int (((p1.toUInt32 >>> ((16 : Int32) &&& 31).toUInt32).toInt32) &&& (3 : Int32)))])) _
        refine XS.iconst X142.here hx rfl (hb hby d_method_3_code_48) ?_
        show Steps p.tables e below (T142.setTop (mkF m 49 #[.val (.int p1), .val (.ref b123), .val (.int (((p1.toUInt32 >>> ((16 : Int32) &&& 31).toUInt32).toInt32) &&& (3 : Int32)))] [(.int (1 : Int32)), (.int (((p1.toUInt32 >>> ((16 : Int32) &&& 31).toUInt32).toInt32) &&& (3 : Int32)))])) _
        refine XS.icmpYes X142.here hx rfl (pc0 := 49) (pc' := 59) rfl (hb hby d_method_3_code_49) rfl (feq (show ¬ ((((p1.toUInt32 >>> ((16 : Int32) &&& 31).toUInt32).toInt32) &&& (3 : Int32)) = (1 : Int32)) from q183)).2 (by decide) (by decide) ?_
        show Steps p.tables e below (T142.setTop (mkF m 59 #[.val (.int p1), .val (.ref b123), .val (.int (((p1.toUInt32 >>> ((16 : Int32) &&& 31).toUInt32).toInt32) &&& (3 : Int32)))] [])) _
        exact st195 _ k)
      have Z197 : n0 ≤ h195.size := Nat.le_trans Z146 E195.1
      have K198 : Keep h0 h195 [] := K147.ext E195
      have O199 : Old Z n0 h195 := O148.ext E195
      have hk200 : h0.size ≤ h195.size := Nat.le_trans hk149 E195.1
      have C201 : CHr Z own_EL s.vm h142 s.vm h195 := CHr.ext E195 C150.1
      have R202 : CHr Z own_EL s.vm h0 s.vm h195 := R151.trans C201
      have sf_b195 : Safe Z own_EL s.vm h195 b195 := Safe.ext E195 C150.1 (Safe.new (Nat.le_of_eq g195.symm))
      have f203 : Fld Z h195 b195 "java/lang/String" "value" "[B" .null := D195 (Or.inr (hw _ (List.mem_of_getElem? (i := 27) rfl))) (ty := (.array .byte)) (by decide)
      have f204 : Fld Z h195 b195 "java/lang/String" "coder" "B" (.int (0 : Int32)) := D195 (Or.inr (hw _ (List.mem_of_getElem? (i := 28) rfl))) (ty := .byte) (by decide)
      have hp : ∀ c ∈ ([(nar .char ((p1 &&& (255 : Int32)).toUInt32.toUInt16.toUInt32.toInt32)), (nar .char ((((p1.toUInt32 >>> ((8 : Int32) &&& 31).toUInt32).toInt32) &&& (255 : Int32)).toUInt32.toUInt16.toUInt32.toInt32))] : List Int32), ¬ c < 0 ∧ ¬ (255 : Int32) < c := by
        intro c hc
        simp only [List.mem_cons, List.not_mem_nil, or_false] at hc
        rcases hc with rfl | rfl
        · exact and255_chars _
        · exact and255_chars _
      have hwsb195 : ∀ d ∈ StrChars.Road.words, d.before a0 Z = true := fun d hd => hw d (own_strwords d hd)
      have f205 : Arv Z h195 b123 k123 .char (2 : Int32) [(.int (nar .char ((p1 &&& (255 : Int32)).toUInt32.toUInt16.toUInt32.toInt32))), (.int (nar .char ((((p1.toUInt32 >>> ((8 : Int32) &&& 31).toUInt32).toInt32) &&& (255 : Int32)).toUInt32.toUInt16.toUInt32.toInt32)))] (.int (0 : Int32)) := (v143.ext E195)
      obtain ⟨_, _, ⟨T206, L206, k206, n206⟩, -, X206, ⟨Lc206, hQ206, l206, y206, z206⟩, st206⟩ := X195.specialBack hx (y := (⟨"java/lang/String", "<init>", "([C)V"⟩ : MethodName)) rfl hown (mvT hZ (hw _ (List.mem_of_getElem? (i := 15) rfl))) (mvT hZ (hw _ (List.mem_of_getElem? (i := 16) rfl))) (mvT hZ (hw _ (List.mem_of_getElem? (i := 17) rfl))) (by decide) (StrChars.Road.backV (W := 1) hZ hwsb195 (kI := 4) (hw _ (List.mem_of_getElem? (i := 13) rfl)) (cs := ([(nar .char ((p1 &&& (255 : Int32)).toUInt32.toUInt16.toUInt32.toInt32)), (nar .char ((((p1.toUInt32 >>> ((8 : Int32) &&& 31).toUInt32).toInt32) &&& (255 : Int32)).toUInt32.toUInt16.toUInt32.toInt32))] : List Int32)) (bs := (([(nar .char ((p1 &&& (255 : Int32)).toUInt32.toUInt16.toUInt32.toInt32)), (nar .char ((((p1.toUInt32 >>> ((8 : Int32) &&& 31).toUInt32).toInt32) &&& (255 : Int32)).toUInt32.toUInt16.toUInt32.toInt32))] : List Int32)).map (fun c => c.toInt8.toInt32)) (n := 2) g_b195 Z197 A195 f203 f204 f205 (Sg.ext O199.2) P5 rfl rfl (by decide) (by decide) hp rfl (by decide) (by decide)) (g := (mkF m 64 #[.val (.int p1), .val (.ref b123), .val (.int (((p1.toUInt32 >>> ((16 : Int32) &&& 31).toUInt32).toInt32) &&& (3 : Int32)))] [(.ref b123), (.ref b195), (.ref b195)])) rfl (by rw [hml]; rfl) (Steps.refl _) (a := b195) (argsL := [(.ref b123)]) (rest := [(.ref b195)]) (lenOf pd__28_5bC_29V rfl) rfl (by show 2 * 0 + _ ≤ _; exact Nat.le_of_eq rfl) (hb hby d_method_3_code_64) (fun _ _ => ⟨rfl, e195, (Nat.le_of_ble_eq_true rfl : 2 + 1 ≤ _), (Nat.le_of_ble_eq_true rfl : 6 + 2 ≤ _)⟩)
      dsimp only [Pt.U, Pt.locs, Pt.cells, Pt.slots] at X206 l206 y206 z206 st206 hQ206
      subst l206 y206 z206
      obtain ⟨rfl, Nq206, Kk206, Ek206, Fc206, t206, kb206, u206, vt206, wt206, Fv206, Av206⟩ := hQ206
      have N207 := Fr.app N145 Nq206
      have P208 : ∀ t, Steps p.tables e below (T206.setTop (mkF m 67 #[.val (.int p1), .val (.ref b123), .val (.int (((p1.toUInt32 >>> ((16 : Int32) &&& 31).toUInt32).toInt32) &&& (3 : Int32)))] [(.ref b195)])) t → Steps p.tables e below (s₁.setTop (mkF m 0 #[.val (.int p1), .unset, .unset] [])) t := fun t k => P196 t (by
        show Steps p.tables e below (T195.setTop (mkF m 62 #[.val (.int p1), .val (.ref b123), .val (.int (((p1.toUInt32 >>> ((16 : Int32) &&& 31).toUInt32).toInt32) &&& (3 : Int32)))] [(.ref b195)])) _
        refine XS.dup X195.here hx rfl (hb hby d_method_3_code_62) rfl rfl ?_
        show Steps p.tables e below (T195.setTop (mkF m 63 #[.val (.int p1), .val (.ref b123), .val (.int (((p1.toUInt32 >>> ((16 : Int32) &&& 31).toUInt32).toInt32) &&& (3 : Int32)))] [(.ref b195), (.ref b195)])) _
        refine XS.aloadN X195.here hx rfl (hb hby d_method_3_code_63) rfl rfl ?_
        show Steps p.tables e below (T195.setTop (mkF m 64 #[.val (.int p1), .val (.ref b123), .val (.int (((p1.toUInt32 >>> ((16 : Int32) &&& 31).toUInt32).toInt32) &&& (3 : Int32)))] [(.ref b123), (.ref b195), (.ref b195)])) _
        exact st206.trans k)
      have Z209 : n0 ≤ T206.heap.size := Nat.le_trans Z197 Kk206.1
      have K210 : Keep h0 T206.heap [] := K198.trans Kk206 ((allS (Or.inr sz_b195) all0))
      have O211 : Old Z n0 T206.heap := O199.keep Kk206 (allS g_b195 all0)
      have hk212 : h0.size ≤ T206.heap.size := Nat.le_trans hk200 Kk206.1
      have C213 : CHr Z own_EL s.vm h195 s.vm T206.heap := CHr.keep Kk206 (sfS sf_b195 sf0) C201.1
      have R214 : CHr Z own_EL s.vm h0 s.vm T206.heap := R202.trans C213
      have g_t206 : n0 ≤ t206 := Nat.le_trans Z197 vt206
      have sz_t206 : h0.size ≤ t206 := Nat.le_trans K198.1 vt206
      obtain ⟨fs215, hr215, hrun215, hended215, hRW215⟩ := X206.leaveW (v := some (.ref b195)) hS0 hk212 (fun h => by rw [Bd.returns] at h; cases h)
      have hce215 : CHr Z own_EL s.vm s.heap T206.vm T206.heap := by
        rw [hh]
        exact R214.trans (CHv.at X206 hZ (own_EW hw) C213.1)
      refine ⟨_, _, pre0 _ (P208 _ ?_), hrun215, hended215, _, _, rfl, ?_, hce215, ⟨hRW215.1, hRW215.2.1, hRW215.2.2.1, hRW215.2.2.2.mono (Nat.le_of_ble_eq_true rfl) (Nat.le_of_ble_eq_true rfl)⟩⟩
      · show Steps p.tables e below (T206.setTop (mkF m 67 #[.val (.int p1), .val (.ref b123), .val (.int (((p1.toUInt32 >>> ((16 : Int32) &&& 31).toUInt32).toInt32) &&& (3 : Int32)))] [(.ref b195)])) _
        exact retOut X206 hx Bd.returns rfl (Or.inr (Or.inr (Or.inr (Or.inr ⟨rfl, rfl, rfl⟩)))) (hb hby d_method_3_code_67) hr215
      · show Q_str Z h0 n0 _ T206.heap _
        exact ⟨b195, t206, _, [(nar .char ((p1 &&& (255 : Int32)).toUInt32.toUInt16.toUInt32.toInt32)), (nar .char ((((p1.toUInt32 >>> ((8 : Int32) &&& 31).toUInt32).toInt32) &&& (255 : Int32)).toUInt32.toUInt16.toUInt32.toInt32))], rfl, N207, sz_b195, K210, Ek206, Fv206, Fc206, Av206, Nat.le_of_ble_eq_true rfl, hp⟩

theorem d_jdk_30_method_1_code_0 : decode jdk_30_method_1_code 0 = .ok (.aload_n 0, 1) := by decide +kernel
theorem d_jdk_30_method_1_code_1 : decode jdk_30_method_1_code 1 = .ok (.invokespecial 1, 3) := by decide +kernel
theorem d_jdk_30_method_1_code_4 : decode jdk_30_method_1_code 4 = .ok (.return_, 1) := by decide +kernel
theorem pn_java_lang_Record : plainName "java/lang/Record" = true := by first | (simp [plainName, overriddenIn]; done) | decide +kernel
theorem ef_rec (m : MethodId) (x0 : Addr) : entryFrame m #[(.ref x0)] 1 = mkF m 0 #[.val (.ref x0)] [] := by (first | (simp [entryFrame, mkF, argsToLocals, Value.category]; done) | rfl)
def Q_rec  (h0 : Heap) (n0 : Nat) (v : Option Value) (h : Heap) (L : List Loc) : Prop := v = none ∧ Fr n0 L ∧ h = h0
set_option maxRecDepth 65536 in
set_option maxHeartbeats 40000000 in
theorem rm_rec (l : Launch) (Z : State) (a0 : Array Value) (hw : ∀ d ∈ tables_1, d.before a0 Z = true) (ws : List Jvm.Cond) (a1 : Addr) (h0 : Heap) (n0 : Nat) (Z0 : n0 ≤ h0.size)  :
    MetFree l (⟨"java/lang/Record", "<init>", "()V"⟩ : MethodName) (head1 (Jvm.Cond.code (⟨"java/lang/Record", "<init>", "()V"⟩ : MethodName) jdk_30_method_1_code 1 none :: ws) ({ frames := 1, cells := 0, slots := 0, locals := 12 } : Room)) (fun a U => a = #[(.ref a1)] ∧ Z.Warmed39 U.vm ∧ U.heap = h0) (fun _ _ _ _ _ => True) (fun _ U o U' => ∃ v L, o = .returned v ∧ Q_rec  h0 n0 v U'.heap L ∧ FrameEnd U o U' L ({ frames := 1, cells := 0, slots := 0, locals := 12 } : Room).cells ({ frames := 1, cells := 0, slots := 0, locals := 12 } : Room).slots) := by
  refine MetFree.of_bodySF (plainFor_of_name pn_java_lang_Record) hisR ?_
  intro p e s m args below meth c s₁ Bd hml0 hP hK
  obtain ⟨rfl, hZ, hh⟩ := hP
  have hx := Bd.exec
  have hby := Bd.bytes
  have hml : c.maxLocals = 1 := hml0
  have hown : s.vm.findClass "java/lang/Record" = some m.cls := findClass_of_methodNamed Bd.named
  have hnm := (name_of_methodNamed Bd.named Bd.method).1
  have X0 : Stand p l e ({ frames := 1, cells := 0, slots := 0, locals := 12 } : Room) s m #[(.ref a1)] below meth c s₁ [] 0 0 := Stand.of_body Bd
  have e0 : s₁.heap = h0 := by rw [← hh, Bd.state]; rfl
  have N0 := Fr.nil n0
  have pre0 : ∀ t, Steps p.tables e below (s₁.setTop (mkF m 0 #[.val (.ref a1)] [])) t → Steps p.tables e below (s₁.setTop (entryFrame m #[(.ref a1)] 1)) t := fun t k => castTop (ef_rec m a1) k
  have P0 : ∀ t, Steps p.tables e below (s₁.setTop (mkF m 0 #[.val (.ref a1)] [])) t → Steps p.tables e below (s₁.setTop (mkF m 0 #[.val (.ref a1)] [])) t := fun t k => k
  obtain ⟨T216, X216, e216, st216⟩ := initO X0 hx hZ hown (hw _ (List.mem_of_getElem? (i := 44) rfl)) (hw _ (List.mem_of_getElem? (i := 23) rfl)) (hw _ (List.mem_of_getElem? (i := 24) rfl)) e0 (g := (mkF m 1 #[.val (.ref a1)] [(.ref a1)])) rfl (by rw [hml]; rfl) rfl (hb hby d_jdk_30_method_1_code_1) (by decide) (W := 0) (by show 2 * 0 + _ ≤ _; exact Nat.le_of_eq rfl) (by decide)
  have P217 : ∀ t, Steps p.tables e below (T216.setTop (mkF m 4 #[.val (.ref a1)] [])) t → Steps p.tables e below (s₁.setTop (mkF m 0 #[.val (.ref a1)] [])) t := fun t k => P0 t (by
    refine XS.aloadN X0.here hx rfl (hb hby d_jdk_30_method_1_code_0) rfl rfl ?_
    show Steps p.tables e below (s₁.setTop (mkF m 1 #[.val (.ref a1)] [(.ref a1)])) _
    exact st216 _ k)
  obtain ⟨fs218, hr218, hrun218, hended218, hW218, hsame218⟩ := X216.leave (v := none) (fun _ => rfl)
  refine ⟨_, _, pre0 _ (P217 _ ?_), hrun218, hended218, _, _, rfl, ?_, ⟨⟨_, rfl⟩, hW218, hsame218.mono (Nat.le_of_ble_eq_true rfl) (Nat.le_of_ble_eq_true rfl)⟩⟩
  · show Steps p.tables e below (T216.setTop (mkF m 4 #[.val (.ref a1)] [])) _
    exact X216.returnOut hx Bd.returns (hb hby d_jdk_30_method_1_code_4) hr218
  · show Q_rec  h0 n0 _ T216.heap _
    rw [e216]
    exact ⟨rfl, N0, rfl⟩

theorem d_prog_18_method_1_code_0 : decode prog_18_method_1_code 0 = .ok (.aload_n 0, 1) := by decide +kernel
theorem d_prog_18_method_1_code_1 : decode prog_18_method_1_code 1 = .ok (.invokespecial 1, 3) := by decide +kernel
theorem pd__28_29V : parseMethodDescriptor "()V" = some ⟨[], none⟩ := by decide +kernel
theorem d_prog_18_method_1_code_4 : decode prog_18_method_1_code 4 = .ok (.aload_n 0, 1) := by decide +kernel
theorem d_prog_18_method_1_code_5 : decode prog_18_method_1_code 5 = .ok (.aload_n 1, 1) := by decide +kernel
theorem d_prog_18_method_1_code_6 : decode prog_18_method_1_code 6 = .ok (.putfield 7, 3) := by decide +kernel
theorem d_prog_18_method_1_code_9 : decode prog_18_method_1_code 9 = .ok (.aload_n 0, 1) := by decide +kernel
theorem d_prog_18_method_1_code_10 : decode prog_18_method_1_code 10 = .ok (.aload_n 2, 1) := by decide +kernel
theorem d_prog_18_method_1_code_11 : decode prog_18_method_1_code 11 = .ok (.putfield 13, 3) := by decide +kernel
theorem d_prog_18_method_1_code_14 : decode prog_18_method_1_code 14 = .ok (.aload_n 0, 1) := by decide +kernel
theorem d_prog_18_method_1_code_15 : decode prog_18_method_1_code 15 = .ok (.aload_n 3, 1) := by decide +kernel
theorem d_prog_18_method_1_code_16 : decode prog_18_method_1_code 16 = .ok (.putfield 16, 3) := by decide +kernel
theorem d_prog_18_method_1_code_19 : decode prog_18_method_1_code 19 = .ok (.aload_n 0, 1) := by decide +kernel
theorem d_prog_18_method_1_code_20 : decode prog_18_method_1_code 20 = .ok (.aload 4, 2) := by decide +kernel
theorem d_prog_18_method_1_code_22 : decode prog_18_method_1_code 22 = .ok (.putfield 19, 3) := by decide +kernel
theorem d_prog_18_method_1_code_25 : decode prog_18_method_1_code 25 = .ok (.return_, 1) := by decide +kernel
theorem pn_com_example_lakebed_lakebed_model_TimelineInstant : plainName "com/example/lakebed/lakebed/model/TimelineInstant" = true := by first | (simp [plainName, overriddenIn]; done) | decide +kernel
theorem ef_ctor (m : MethodId) (x0 : Addr) (x1 : Addr) (x2 : Value) (r2 : x2.isRef = true) (x3 : Addr) (x4 : Addr) : entryFrame m #[(.ref x0), (.ref x1), x2, (.ref x3), (.ref x4)] 5 = mkF m 0 #[.val (.ref x0), .val (.ref x1), .val x2, .val (.ref x3), .val (.ref x4)] [] := by rcases ref_cases r2 with rfl | ⟨_, rfl⟩ <;> (first | (simp [entryFrame, mkF, argsToLocals, Value.category]; done) | rfl)
def Q_ctor (Z : State) (a1 c1 : Addr) (u2 : Value) (c3 c4 : Addr) (h0 : Heap) (n0 : Nat) (v : Option Value) (h : Heap) (L : List Loc) : Prop := v = none ∧ Fr n0 L ∧ Keep h0 h [a1] ∧ Exa Z h a1 "com/example/lakebed/lakebed/model/TimelineInstant" ∧ Fld Z h a1 "com/example/lakebed/lakebed/model/TimelineInstant" "begin" "Ljava/lang/String;" (.ref c1) ∧ Fld Z h a1 "com/example/lakebed/lakebed/model/TimelineInstant" "completion" "Ljava/lang/String;" u2 ∧ Fld Z h a1 "com/example/lakebed/lakebed/model/TimelineInstant" "action" "Ljava/lang/String;" (.ref c3) ∧ Fld Z h a1 "com/example/lakebed/lakebed/model/TimelineInstant" "state" "Lcom/example/lakebed/lakebed/model/TimelineInstant$State;" (.ref c4)
set_option maxRecDepth 65536 in
set_option maxHeartbeats 40000000 in
theorem rm_ctor (l : Launch) (Z : State) (a0 : Array Value) (hw : ∀ d ∈ tables_1, d.before a0 Z = true) (ws : List Jvm.Cond) (a1 c1 : Addr) (u2 : Value) (c3 c4 : Addr) (h0 : Heap) (n0 : Nat) (Z0 : n0 ≤ h0.size) (hu2 : u2.isRef = true) (g_a1 : n0 ≤ a1) (E1 : Exa Z h0 a1 "com/example/lakebed/lakebed/model/TimelineInstant") (F_begin : Fld Z h0 a1 "com/example/lakebed/lakebed/model/TimelineInstant" "begin" "Ljava/lang/String;" .null) (F_completion : Fld Z h0 a1 "com/example/lakebed/lakebed/model/TimelineInstant" "completion" "Ljava/lang/String;" .null) (F_action : Fld Z h0 a1 "com/example/lakebed/lakebed/model/TimelineInstant" "action" "Ljava/lang/String;" .null) (F_state : Fld Z h0 a1 "com/example/lakebed/lakebed/model/TimelineInstant" "state" "Lcom/example/lakebed/lakebed/model/TimelineInstant$State;" .null) :
    MetFree l (⟨"com/example/lakebed/lakebed/model/TimelineInstant", "<init>", "(Ljava/lang/String;Ljava/lang/String;Ljava/lang/String;Lcom/example/lakebed/lakebed/model/TimelineInstant$State;)V"⟩ : MethodName) (head1 (Jvm.Cond.code (⟨"com/example/lakebed/lakebed/model/TimelineInstant", "<init>", "(Ljava/lang/String;Ljava/lang/String;Ljava/lang/String;Lcom/example/lakebed/lakebed/model/TimelineInstant$State;)V"⟩ : MethodName) prog_18_method_1_code 5 none :: ws) ({ frames := 2, cells := 0, slots := 0, locals := 24 } : Room)) (fun a U => a = #[(.ref a1), (.ref c1), u2, (.ref c3), (.ref c4)] ∧ Z.Warmed39 U.vm ∧ U.heap = h0) (fun _ _ _ _ _ => True) (fun _ U o U' => ∃ v L, o = .returned v ∧ Q_ctor Z a1 c1 u2 c3 c4 h0 n0 v U'.heap L ∧ FrameEnd U o U' L ({ frames := 2, cells := 0, slots := 0, locals := 24 } : Room).cells ({ frames := 2, cells := 0, slots := 0, locals := 24 } : Room).slots) := by
  refine MetFree.of_bodySF (plainFor_of_name pn_com_example_lakebed_lakebed_model_TimelineInstant) hisR ?_
  intro p e s m args below meth c s₁ Bd hml0 hP hK
  obtain ⟨rfl, hZ, hh⟩ := hP
  have hx := Bd.exec
  have hby := Bd.bytes
  have hml : c.maxLocals = 5 := hml0
  have hown : s.vm.findClass "com/example/lakebed/lakebed/model/TimelineInstant" = some m.cls := findClass_of_methodNamed Bd.named
  have hnm := (name_of_methodNamed Bd.named Bd.method).1
  have X0 : Stand p l e ({ frames := 2, cells := 0, slots := 0, locals := 24 } : Room) s m #[(.ref a1), (.ref c1), u2, (.ref c3), (.ref c4)] below meth c s₁ [] 0 0 := Stand.of_body Bd
  have e0 : s₁.heap = h0 := by rw [← hh, Bd.state]; rfl
  have N0 := Fr.nil n0
  have pre0 : ∀ t, Steps p.tables e below (s₁.setTop (mkF m 0 #[.val (.ref a1), .val (.ref c1), .val u2, .val (.ref c3), .val (.ref c4)] [])) t → Steps p.tables e below (s₁.setTop (entryFrame m #[(.ref a1), (.ref c1), u2, (.ref c3), (.ref c4)] 5)) t := fun t k => castTop (ef_ctor m a1 c1 u2 hu2 c3 c4) k
  have P0 : ∀ t, Steps p.tables e below (s₁.setTop (mkF m 0 #[.val (.ref a1), .val (.ref c1), .val u2, .val (.ref c3), .val (.ref c4)] [])) t → Steps p.tables e below (s₁.setTop (mkF m 0 #[.val (.ref a1), .val (.ref c1), .val u2, .val (.ref c3), .val (.ref c4)] [])) t := fun t k => k
  obtain ⟨_, _, ⟨T219, L219, k219, n219⟩, -, X219, ⟨Lc219, hQ219, l219, y219, z219⟩, st219⟩ := X0.specialBack hx (y := (⟨"java/lang/Record", "<init>", "()V"⟩ : MethodName)) rfl hown (mvT hZ (hw _ (List.mem_of_getElem? (i := 39) rfl))) (mvT hZ (hw _ (List.mem_of_getElem? (i := 40) rfl))) (mvT hZ (hw _ (List.mem_of_getElem? (i := 43) rfl))) (by decide) (backOf (W := 0) (rm_rec l Z a0 hw [] a1 h0 n0 Z0 ) hZ (hw _ (List.mem_of_getElem? (i := 43) rfl)) (hw _ (List.mem_of_getElem? (i := 42) rfl)) (by decide) (by decide)) (g := (mkF m 1 #[.val (.ref a1), .val (.ref c1), .val u2, .val (.ref c3), .val (.ref c4)] [(.ref a1)])) rfl (by rw [hml]; rfl) (Steps.refl _) (a := a1) (argsL := []) (rest := []) (lenOf pd__28_29V rfl) rfl (by show 2 * 0 + _ ≤ _; exact Nat.le_of_eq rfl) (hb hby d_prog_18_method_1_code_1) (fun _ _ => ⟨rfl, e0, (Nat.le_of_ble_eq_true rfl : 0 + 0 ≤ _), (Nat.le_of_ble_eq_true rfl : 0 + 0 ≤ _)⟩)
  dsimp only [Pt.U, Pt.locs, Pt.cells, Pt.slots] at X219 l219 y219 z219 st219 hQ219
  subst l219 y219 z219
  obtain ⟨rfl, Nq219, e219⟩ := hQ219
  have N220 := Fr.app N0 Nq219
  have P221 : ∀ t, Steps p.tables e below (T219.setTop (mkF m 4 #[.val (.ref a1), .val (.ref c1), .val u2, .val (.ref c3), .val (.ref c4)] [])) t → Steps p.tables e below (s₁.setTop (mkF m 0 #[.val (.ref a1), .val (.ref c1), .val u2, .val (.ref c3), .val (.ref c4)] [])) t := fun t k => P0 t (by
    refine XS.aloadN X0.here hx rfl (hb hby d_prog_18_method_1_code_0) rfl rfl ?_
    show Steps p.tables e below (s₁.setTop (mkF m 1 #[.val (.ref a1), .val (.ref c1), .val u2, .val (.ref c3), .val (.ref c4)] [(.ref a1)])) _
    exact st219.trans k)
  obtain ⟨T222, h222, X222, e222, W222, st222⟩ := putF X219 hx hZ hown (host := "") (Or.inl (hw _ (List.mem_of_getElem? (i := 45) rfl))) Via.refl e219 F_begin E1 (Or.inr ⟨(hw _ (List.mem_of_getElem? (i := 46) rfl)), rfl, hnm⟩) (hw _ (List.mem_of_getElem? (i := 34) rfl)) (ty := (.object "java/lang/String")) (by decide) rfl rfl (g := (mkF m 6 #[.val (.ref a1), .val (.ref c1), .val u2, .val (.ref c3), .val (.ref c4)] [(.ref c1), (.ref a1)])) rfl rfl (hb hby d_prog_18_method_1_code_6)
  have P223 : ∀ t, Steps p.tables e below (T222.setTop (mkF m 9 #[.val (.ref a1), .val (.ref c1), .val u2, .val (.ref c3), .val (.ref c4)] [])) t → Steps p.tables e below (s₁.setTop (mkF m 0 #[.val (.ref a1), .val (.ref c1), .val u2, .val (.ref c3), .val (.ref c4)] [])) t := fun t k => P221 t (by
    show Steps p.tables e below (T219.setTop (mkF m 4 #[.val (.ref a1), .val (.ref c1), .val u2, .val (.ref c3), .val (.ref c4)] [])) _
    refine XS.aloadN X219.here hx rfl (hb hby d_prog_18_method_1_code_4) rfl rfl ?_
    show Steps p.tables e below (T219.setTop (mkF m 5 #[.val (.ref a1), .val (.ref c1), .val u2, .val (.ref c3), .val (.ref c4)] [(.ref a1)])) _
    refine XS.aloadN X219.here hx rfl (hb hby d_prog_18_method_1_code_5) rfl rfl ?_
    show Steps p.tables e below (T219.setTop (mkF m 6 #[.val (.ref a1), .val (.ref c1), .val u2, .val (.ref c3), .val (.ref c4)] [(.ref c1), (.ref a1)])) _
    exact st222 _ k)
  have f224 := F_begin.same W222
  have N225 := Fr.snoc X222 N220 g_a1
  have Z226 : n0 ≤ h222.size := Nat.le_trans Z0 (Keep.of_wr W222).1
  have K227 : Keep h0 h222 [a1] := (Keep.refl h0 [a1]).wr W222 (Or.inl (List.mem_of_getElem? (i := 0) rfl))
  have f228 : Fld Z h222 a1 "com/example/lakebed/lakebed/model/TimelineInstant" "completion" "Ljava/lang/String;" .null := (F_completion.other W222 (Or.inr (slot_ne (Or.inr (hw _ (List.mem_of_getElem? (i := 48) rfl))) (Or.inr (hw _ (List.mem_of_getElem? (i := 46) rfl))) (by decide) (t := (.object "java/lang/String")) (t' := (.object "java/lang/String")) (by decide) (by decide))))
  have f229 : Exa Z h222 a1 "com/example/lakebed/lakebed/model/TimelineInstant" := (E1.wr W222)
  obtain ⟨T230, h230, X230, e230, W230, st230⟩ := putF X222 hx hZ hown (host := "") (Or.inl (hw _ (List.mem_of_getElem? (i := 47) rfl))) Via.refl e222 f228 f229 (Or.inr ⟨(hw _ (List.mem_of_getElem? (i := 48) rfl)), rfl, hnm⟩) (hw _ (List.mem_of_getElem? (i := 34) rfl)) (ty := (.object "java/lang/String")) (by decide) rfl (fitsRef hu2) (g := (mkF m 11 #[.val (.ref a1), .val (.ref c1), .val u2, .val (.ref c3), .val (.ref c4)] [u2, (.ref a1)])) rfl rfl (hb hby d_prog_18_method_1_code_11)
  have P231 : ∀ t, Steps p.tables e below (T230.setTop (mkF m 14 #[.val (.ref a1), .val (.ref c1), .val u2, .val (.ref c3), .val (.ref c4)] [])) t → Steps p.tables e below (s₁.setTop (mkF m 0 #[.val (.ref a1), .val (.ref c1), .val u2, .val (.ref c3), .val (.ref c4)] [])) t := fun t k => P223 t (by
    show Steps p.tables e below (T222.setTop (mkF m 9 #[.val (.ref a1), .val (.ref c1), .val u2, .val (.ref c3), .val (.ref c4)] [])) _
    refine XS.aloadN X222.here hx rfl (hb hby d_prog_18_method_1_code_9) rfl rfl ?_
    show Steps p.tables e below (T222.setTop (mkF m 10 #[.val (.ref a1), .val (.ref c1), .val u2, .val (.ref c3), .val (.ref c4)] [(.ref a1)])) _
    refine XS.aloadN X222.here hx rfl (hb hby d_prog_18_method_1_code_10) rfl hu2 ?_
    show Steps p.tables e below (T222.setTop (mkF m 11 #[.val (.ref a1), .val (.ref c1), .val u2, .val (.ref c3), .val (.ref c4)] [u2, (.ref a1)])) _
    exact st230 _ k)
  have f232 := f228.same W230
  have N233 := Fr.snoc X230 N225 g_a1
  have Z234 : n0 ≤ h230.size := Nat.le_trans Z226 (Keep.of_wr W230).1
  have K235 : Keep h0 h230 [a1] := K227.wr W230 (Or.inl (List.mem_of_getElem? (i := 0) rfl))
  have f236 : Fld Z h230 a1 "com/example/lakebed/lakebed/model/TimelineInstant" "action" "Ljava/lang/String;" .null := ((F_action.other W222 (Or.inr (slot_ne (Or.inr (hw _ (List.mem_of_getElem? (i := 50) rfl))) (Or.inr (hw _ (List.mem_of_getElem? (i := 46) rfl))) (by decide) (t := (.object "java/lang/String")) (t' := (.object "java/lang/String")) (by decide) (by decide)))).other W230 (Or.inr (slot_ne (Or.inr (hw _ (List.mem_of_getElem? (i := 50) rfl))) (Or.inr (hw _ (List.mem_of_getElem? (i := 48) rfl))) (by decide) (t := (.object "java/lang/String")) (t' := (.object "java/lang/String")) (by decide) (by decide))))
  have f237 : Exa Z h230 a1 "com/example/lakebed/lakebed/model/TimelineInstant" := (f229.wr W230)
  obtain ⟨T238, h238, X238, e238, W238, st238⟩ := putF X230 hx hZ hown (host := "") (Or.inl (hw _ (List.mem_of_getElem? (i := 49) rfl))) Via.refl e230 f236 f237 (Or.inr ⟨(hw _ (List.mem_of_getElem? (i := 50) rfl)), rfl, hnm⟩) (hw _ (List.mem_of_getElem? (i := 34) rfl)) (ty := (.object "java/lang/String")) (by decide) rfl rfl (g := (mkF m 16 #[.val (.ref a1), .val (.ref c1), .val u2, .val (.ref c3), .val (.ref c4)] [(.ref c3), (.ref a1)])) rfl rfl (hb hby d_prog_18_method_1_code_16)
  have P239 : ∀ t, Steps p.tables e below (T238.setTop (mkF m 19 #[.val (.ref a1), .val (.ref c1), .val u2, .val (.ref c3), .val (.ref c4)] [])) t → Steps p.tables e below (s₁.setTop (mkF m 0 #[.val (.ref a1), .val (.ref c1), .val u2, .val (.ref c3), .val (.ref c4)] [])) t := fun t k => P231 t (by
    show Steps p.tables e below (T230.setTop (mkF m 14 #[.val (.ref a1), .val (.ref c1), .val u2, .val (.ref c3), .val (.ref c4)] [])) _
    refine XS.aloadN X230.here hx rfl (hb hby d_prog_18_method_1_code_14) rfl rfl ?_
    show Steps p.tables e below (T230.setTop (mkF m 15 #[.val (.ref a1), .val (.ref c1), .val u2, .val (.ref c3), .val (.ref c4)] [(.ref a1)])) _
    refine XS.aloadN X230.here hx rfl (hb hby d_prog_18_method_1_code_15) rfl rfl ?_
    show Steps p.tables e below (T230.setTop (mkF m 16 #[.val (.ref a1), .val (.ref c1), .val u2, .val (.ref c3), .val (.ref c4)] [(.ref c3), (.ref a1)])) _
    exact st238 _ k)
  have f240 := f236.same W238
  have N241 := Fr.snoc X238 N233 g_a1
  have Z242 : n0 ≤ h238.size := Nat.le_trans Z234 (Keep.of_wr W238).1
  have K243 : Keep h0 h238 [a1] := K235.wr W238 (Or.inl (List.mem_of_getElem? (i := 0) rfl))
  have f244 : Fld Z h238 a1 "com/example/lakebed/lakebed/model/TimelineInstant" "state" "Lcom/example/lakebed/lakebed/model/TimelineInstant$State;" .null := (((F_state.other W222 (Or.inr (slot_ne (Or.inr (hw _ (List.mem_of_getElem? (i := 52) rfl))) (Or.inr (hw _ (List.mem_of_getElem? (i := 46) rfl))) (by decide) (t := (.object "com/example/lakebed/lakebed/model/TimelineInstant$State")) (t' := (.object "java/lang/String")) (by decide) (by decide)))).other W230 (Or.inr (slot_ne (Or.inr (hw _ (List.mem_of_getElem? (i := 52) rfl))) (Or.inr (hw _ (List.mem_of_getElem? (i := 48) rfl))) (by decide) (t := (.object "com/example/lakebed/lakebed/model/TimelineInstant$State")) (t' := (.object "java/lang/String")) (by decide) (by decide)))).other W238 (Or.inr (slot_ne (Or.inr (hw _ (List.mem_of_getElem? (i := 52) rfl))) (Or.inr (hw _ (List.mem_of_getElem? (i := 50) rfl))) (by decide) (t := (.object "com/example/lakebed/lakebed/model/TimelineInstant$State")) (t' := (.object "java/lang/String")) (by decide) (by decide))))
  have f245 : Exa Z h238 a1 "com/example/lakebed/lakebed/model/TimelineInstant" := (f237.wr W238)
  obtain ⟨T246, h246, X246, e246, W246, st246⟩ := putF X238 hx hZ hown (host := "") (Or.inl (hw _ (List.mem_of_getElem? (i := 51) rfl))) Via.refl e238 f244 f245 (Or.inr ⟨(hw _ (List.mem_of_getElem? (i := 52) rfl)), rfl, hnm⟩) (hw _ (List.mem_of_getElem? (i := 34) rfl)) (ty := (.object "com/example/lakebed/lakebed/model/TimelineInstant$State")) (by decide) rfl rfl (g := (mkF m 22 #[.val (.ref a1), .val (.ref c1), .val u2, .val (.ref c3), .val (.ref c4)] [(.ref c4), (.ref a1)])) rfl rfl (hb hby d_prog_18_method_1_code_22)
  have P247 : ∀ t, Steps p.tables e below (T246.setTop (mkF m 25 #[.val (.ref a1), .val (.ref c1), .val u2, .val (.ref c3), .val (.ref c4)] [])) t → Steps p.tables e below (s₁.setTop (mkF m 0 #[.val (.ref a1), .val (.ref c1), .val u2, .val (.ref c3), .val (.ref c4)] [])) t := fun t k => P239 t (by
    show Steps p.tables e below (T238.setTop (mkF m 19 #[.val (.ref a1), .val (.ref c1), .val u2, .val (.ref c3), .val (.ref c4)] [])) _
    refine XS.aloadN X238.here hx rfl (hb hby d_prog_18_method_1_code_19) rfl rfl ?_
    show Steps p.tables e below (T238.setTop (mkF m 20 #[.val (.ref a1), .val (.ref c1), .val u2, .val (.ref c3), .val (.ref c4)] [(.ref a1)])) _
    refine XS.aload X238.here hx rfl (hb hby d_prog_18_method_1_code_20) rfl rfl ?_
    show Steps p.tables e below (T238.setTop (mkF m 22 #[.val (.ref a1), .val (.ref c1), .val u2, .val (.ref c3), .val (.ref c4)] [(.ref c4), (.ref a1)])) _
    exact st246 _ k)
  have f248 := f244.same W246
  have N249 := Fr.snoc X246 N241 g_a1
  have Z250 : n0 ≤ h246.size := Nat.le_trans Z242 (Keep.of_wr W246).1
  have K251 : Keep h0 h246 [a1] := K243.wr W246 (Or.inl (List.mem_of_getElem? (i := 0) rfl))
  have f252 : Exa Z h246 a1 "com/example/lakebed/lakebed/model/TimelineInstant" := (f245.wr W246)
  have f253 : Fld Z h246 a1 "com/example/lakebed/lakebed/model/TimelineInstant" "begin" "Ljava/lang/String;" (.ref c1) := (((f224.other W230 (Or.inr (slot_ne (Or.inr (hw _ (List.mem_of_getElem? (i := 46) rfl))) (Or.inr (hw _ (List.mem_of_getElem? (i := 48) rfl))) (by decide) (t := (.object "java/lang/String")) (t' := (.object "java/lang/String")) (by decide) (by decide)))).other W238 (Or.inr (slot_ne (Or.inr (hw _ (List.mem_of_getElem? (i := 46) rfl))) (Or.inr (hw _ (List.mem_of_getElem? (i := 50) rfl))) (by decide) (t := (.object "java/lang/String")) (t' := (.object "java/lang/String")) (by decide) (by decide)))).other W246 (Or.inr (slot_ne (Or.inr (hw _ (List.mem_of_getElem? (i := 46) rfl))) (Or.inr (hw _ (List.mem_of_getElem? (i := 52) rfl))) (by decide) (t := (.object "java/lang/String")) (t' := (.object "com/example/lakebed/lakebed/model/TimelineInstant$State")) (by decide) (by decide))))
  have f254 : Fld Z h246 a1 "com/example/lakebed/lakebed/model/TimelineInstant" "completion" "Ljava/lang/String;" u2 := ((f232.other W238 (Or.inr (slot_ne (Or.inr (hw _ (List.mem_of_getElem? (i := 48) rfl))) (Or.inr (hw _ (List.mem_of_getElem? (i := 50) rfl))) (by decide) (t := (.object "java/lang/String")) (t' := (.object "java/lang/String")) (by decide) (by decide)))).other W246 (Or.inr (slot_ne (Or.inr (hw _ (List.mem_of_getElem? (i := 48) rfl))) (Or.inr (hw _ (List.mem_of_getElem? (i := 52) rfl))) (by decide) (t := (.object "java/lang/String")) (t' := (.object "com/example/lakebed/lakebed/model/TimelineInstant$State")) (by decide) (by decide))))
  have f255 : Fld Z h246 a1 "com/example/lakebed/lakebed/model/TimelineInstant" "action" "Ljava/lang/String;" (.ref c3) := (f240.other W246 (Or.inr (slot_ne (Or.inr (hw _ (List.mem_of_getElem? (i := 50) rfl))) (Or.inr (hw _ (List.mem_of_getElem? (i := 52) rfl))) (by decide) (t := (.object "java/lang/String")) (t' := (.object "com/example/lakebed/lakebed/model/TimelineInstant$State")) (by decide) (by decide))))
  obtain ⟨fs256, hr256, hrun256, hended256, hW256, hsame256⟩ := X246.leave (v := none) (fun _ => rfl)
  refine ⟨_, _, pre0 _ (P247 _ ?_), hrun256, hended256, _, _, rfl, ?_, ⟨⟨_, rfl⟩, hW256, hsame256.mono (Nat.le_of_ble_eq_true rfl) (Nat.le_of_ble_eq_true rfl)⟩⟩
  · show Steps p.tables e below (T246.setTop (mkF m 25 #[.val (.ref a1), .val (.ref c1), .val u2, .val (.ref c3), .val (.ref c4)] [])) _
    exact X246.returnOut hx Bd.returns (hb hby d_prog_18_method_1_code_25) hr256
  · show Q_ctor Z a1 c1 u2 c3 c4 h0 n0 _ T246.heap _
    rw [e246]
    exact ⟨rfl, N249, K251, f252, f253, f254, f255, f248⟩

theorem d_prog_18_method_7_code_0 : decode prog_18_method_7_code 0 = .ok (.aload_n 0, 1) := by decide +kernel
theorem d_prog_18_method_7_code_1 : decode prog_18_method_7_code 1 = .ok (.getfield 19, 3) := by decide +kernel
theorem d_prog_18_method_7_code_4 : decode prog_18_method_7_code 4 = .ok (.getstatic 38, 3) := by decide +kernel
theorem d_prog_18_method_7_code_7 : decode prog_18_method_7_code 7 = .ok (.if_acmp .ne 7, 3) := by decide +kernel
theorem d_prog_18_method_7_code_10 : decode prog_18_method_7_code 10 = .ok (.iconst 1, 1) := by decide +kernel
theorem d_prog_18_method_7_code_11 : decode prog_18_method_7_code 11 = .ok (.goto 4, 3) := by decide +kernel
theorem d_prog_18_method_7_code_15 : decode prog_18_method_7_code 15 = .ok (.ireturn, 1) := by decide +kernel
theorem d_prog_18_method_7_code_14 : decode prog_18_method_7_code 14 = .ok (.iconst 0, 1) := by decide +kernel
theorem ef_isC (m : MethodId) (x0 : Addr) : entryFrame m #[(.ref x0)] 1 = mkF m 0 #[.val (.ref x0)] [] := by (first | (simp [entryFrame, mkF, argsToLocals, Value.category]; done) | rfl)
def Q_isC (r r1 : Addr) (h0 : Heap) (n0 : Nat) (v : Option Value) (h : Heap) (L : List Loc) : Prop := v = some (.int (if r = r1 then 1 else 0)) ∧ Fr n0 L ∧ h = h0
set_option maxRecDepth 65536 in
set_option maxHeartbeats 40000000 in
theorem rm_isC (l : Launch) (Z : State) (a0 : Array Value) (hw : ∀ d ∈ tables_1, d.before a0 Z = true) (ws : List Jvm.Cond) (a1 r : Addr) (r0 r1 r2 : Addr) (h0 : Heap) (n0 : Nat) (Z0 : n0 ≤ h0.size) (F1 : Fld Z h0 a1 "com/example/lakebed/lakebed/model/TimelineInstant" "state" "Lcom/example/lakebed/lakebed/model/TimelineInstant$State;" (.ref r)) (S0 : Sta Z Z.heap "com/example/lakebed/lakebed/model/TimelineInstant$State" "REQUESTED" "Lcom/example/lakebed/lakebed/model/TimelineInstant$State;" (.ref r0)) (S1 : Sta Z Z.heap "com/example/lakebed/lakebed/model/TimelineInstant$State" "COMPLETED" "Lcom/example/lakebed/lakebed/model/TimelineInstant$State;" (.ref r1)) (S2 : Sta Z Z.heap "com/example/lakebed/lakebed/model/TimelineInstant$State" "INFLIGHT" "Lcom/example/lakebed/lakebed/model/TimelineInstant$State;" (.ref r2)) (Ol : Old Z n0 h0) :
    MetFree l (⟨"com/example/lakebed/lakebed/model/TimelineInstant", "isCompleted", "()Z"⟩ : MethodName) (head1 (Jvm.Cond.code (⟨"com/example/lakebed/lakebed/model/TimelineInstant", "isCompleted", "()Z"⟩ : MethodName) prog_18_method_7_code 1 (some .boolean) :: ws) ({ frames := 0, cells := 0, slots := 0, locals := 0 } : Room)) (fun a U => a = #[(.ref a1)] ∧ Z.Warmed39 U.vm ∧ U.heap = h0) (fun _ _ _ _ _ => True) (fun _ U o U' => ∃ v L, o = .returned v ∧ Q_isC r r1 h0 n0 v U'.heap L ∧ FrameEnd U o U' L ({ frames := 0, cells := 0, slots := 0, locals := 0 } : Room).cells ({ frames := 0, cells := 0, slots := 0, locals := 0 } : Room).slots) := by
  refine MetFree.of_bodySF (plainFor_of_name pn_com_example_lakebed_lakebed_model_TimelineInstant) hisR ?_
  intro p e s m args below meth c s₁ Bd hml0 hP hK
  obtain ⟨rfl, hZ, hh⟩ := hP
  have hx := Bd.exec
  have hby := Bd.bytes
  have hml : c.maxLocals = 1 := hml0
  have hown : s.vm.findClass "com/example/lakebed/lakebed/model/TimelineInstant" = some m.cls := findClass_of_methodNamed Bd.named
  have hnm := (name_of_methodNamed Bd.named Bd.method).1
  have X0 : Stand p l e ({ frames := 0, cells := 0, slots := 0, locals := 0 } : Room) s m #[(.ref a1)] below meth c s₁ [] 0 0 := Stand.of_body Bd
  have e0 : s₁.heap = h0 := by rw [← hh, Bd.state]; rfl
  have N0 := Fr.nil n0
  have pre0 : ∀ t, Steps p.tables e below (s₁.setTop (mkF m 0 #[.val (.ref a1)] [])) t → Steps p.tables e below (s₁.setTop (entryFrame m #[(.ref a1)] 1)) t := fun t k => castTop (ef_isC m a1) k
  have P0 : ∀ t, Steps p.tables e below (s₁.setTop (mkF m 0 #[.val (.ref a1)] [])) t → Steps p.tables e below (s₁.setTop (mkF m 0 #[.val (.ref a1)] [])) t := fun t k => k
  obtain ⟨T257, X257, e257, st257⟩ := getF X0 hx hZ hown (host := "") (Or.inl (hw _ (List.mem_of_getElem? (i := 51) rfl))) Via.refl e0 F1 (g := (mkF m 1 #[.val (.ref a1)] [(.ref a1)])) rfl rfl (hb hby d_prog_18_method_7_code_1)
  have P258 : ∀ t, Steps p.tables e below (T257.setTop (mkF m 4 #[.val (.ref a1)] [(.ref r)])) t → Steps p.tables e below (s₁.setTop (mkF m 0 #[.val (.ref a1)] [])) t := fun t k => P0 t (by
    refine XS.aloadN X0.here hx rfl (hb hby d_prog_18_method_7_code_0) rfl rfl ?_
    show Steps p.tables e below (s₁.setTop (mkF m 1 #[.val (.ref a1)] [(.ref a1)])) _
    exact st257 _ k)
  obtain ⟨T259, X259, e259, st259⟩ := getS2 X257 hx hZ hown (host := "") (Or.inl (hw _ (List.mem_of_getElem? (i := 58) rfl))) Via.refl e257 (S1.ext Ol.2) (g := (mkF m 4 #[.val (.ref a1)] [(.ref r)])) rfl (hb hby d_prog_18_method_7_code_4)
  have P260 : ∀ t, Steps p.tables e below (T259.setTop (mkF m 7 #[.val (.ref a1)] [(.ref r1), (.ref r)])) t → Steps p.tables e below (s₁.setTop (mkF m 0 #[.val (.ref a1)] [])) t := fun t k => P258 t (by
    show Steps p.tables e below (T257.setTop (mkF m 4 #[.val (.ref a1)] [(.ref r)])) _
    exact st259 _ k)
  by_cases q261 : r = r1
  · skip
    obtain ⟨fs262, hr262, hrun262, hended262, hW262, hsame262⟩ := X259.leave (v := some (.int (1 : Int32))) (fun h => by rw [Bd.returns] at h; cases h)
    refine ⟨_, _, pre0 _ (P260 _ ?_), hrun262, hended262, _, _, rfl, ?_, ⟨⟨_, rfl⟩, hW262, hsame262.mono (Nat.le_of_ble_eq_true rfl) (Nat.le_of_ble_eq_true rfl)⟩⟩
    · show Steps p.tables e below (T259.setTop (mkF m 7 #[.val (.ref a1)] [(.ref r1), (.ref r)])) _
      refine Jvm.RoadKit.acmp (g := (mkF m 7 #[.val (.ref a1)] [(.ref r1), (.ref r)])) X259 hx rfl rfl rfl (pc0 := 7) (pc' := 10) (same := true) rfl (hb hby d_prog_18_method_7_code_7) rfl (decide_eq_true (congrArg Value.ref q261)) (by decide) (by decide) ?_
      show Steps p.tables e below (T259.setTop (mkF m 10 #[.val (.ref a1)] [])) _
      refine XS.iconst X259.here hx rfl (hb hby d_prog_18_method_7_code_10) ?_
      show Steps p.tables e below (T259.setTop (mkF m 11 #[.val (.ref a1)] [(.int (1 : Int32))])) _
      refine XS.goto X259.here hx rfl (pc0 := 11) (pc' := 15) rfl (hb hby d_prog_18_method_7_code_11) (by decide) (by decide) ?_
      show Steps p.tables e below (T259.setTop (mkF m 15 #[.val (.ref a1)] [(.int (1 : Int32))])) _
      exact retN X259 hx (t := .boolean) Bd.returns (by simp) (hb hby d_prog_18_method_7_code_15) hr262
    · show Q_isC r r1 h0 n0 _ T259.heap _
      rw [e259]
      exact ⟨by rw [if_pos q261], N0, rfl⟩
  · skip
    obtain ⟨fs263, hr263, hrun263, hended263, hW263, hsame263⟩ := X259.leave (v := some (.int (0 : Int32))) (fun h => by rw [Bd.returns] at h; cases h)
    refine ⟨_, _, pre0 _ (P260 _ ?_), hrun263, hended263, _, _, rfl, ?_, ⟨⟨_, rfl⟩, hW263, hsame263.mono (Nat.le_of_ble_eq_true rfl) (Nat.le_of_ble_eq_true rfl)⟩⟩
    · show Steps p.tables e below (T259.setTop (mkF m 7 #[.val (.ref a1)] [(.ref r1), (.ref r)])) _
      refine Jvm.RoadKit.acmp (g := (mkF m 7 #[.val (.ref a1)] [(.ref r1), (.ref r)])) X259 hx rfl rfl rfl (pc0 := 7) (pc' := 14) (same := false) rfl (hb hby d_prog_18_method_7_code_7) rfl (decide_eq_false fun z => q261 (Value.ref.inj z)) (by decide) (by decide) ?_
      show Steps p.tables e below (T259.setTop (mkF m 14 #[.val (.ref a1)] [])) _
      refine XS.iconst X259.here hx rfl (hb hby d_prog_18_method_7_code_14) ?_
      show Steps p.tables e below (T259.setTop (mkF m 15 #[.val (.ref a1)] [(.int (0 : Int32))])) _
      exact retN X259 hx (t := .boolean) Bd.returns (by simp) (hb hby d_prog_18_method_7_code_15) hr263
    · show Q_isC r r1 h0 n0 _ T259.heap _
      rw [e259]
      exact ⟨by rw [if_neg q261], N0, rfl⟩

def own_comp : List Int32 := [(99 : Int32), (111 : Int32), (109 : Int32), (112 : Int32), (97 : Int32), (99 : Int32), (116 : Int32), (105 : Int32), (111 : Int32), (110 : Int32)]
theorem own_compb : ∀ c ∈ own_comp, ¬ c < 0 ∧ ¬ (255 : Int32) < c := by decide

theorem d_prog_18_method_6_code_0 : decode prog_18_method_6_code 0 = .ok (.aload_n 0, 1) := by decide +kernel
theorem d_prog_18_method_6_code_1 : decode prog_18_method_6_code 1 = .ok (.getfield 16, 3) := by decide +kernel
theorem d_prog_18_method_6_code_4 : decode prog_18_method_6_code 4 = .ok (.ldc 45, 2) := by decide +kernel
theorem d_prog_18_method_6_code_6 : decode prog_18_method_6_code 6 = .ok (.invokevirtual 47, 3) := by decide +kernel
theorem pd__28Ljava_2flang_2fObject_3b_29Z : parseMethodDescriptor "(Ljava/lang/Object;)Z" = some ⟨[(.object "java/lang/Object")], some .boolean⟩ := by decide +kernel
theorem d_prog_18_method_6_code_9 : decode prog_18_method_6_code 9 = .ok (.ifCond .eq 8, 3) := by decide +kernel
theorem d_prog_18_method_6_code_17 : decode prog_18_method_6_code 17 = .ok (.aload_n 0, 1) := by decide +kernel
theorem d_prog_18_method_6_code_18 : decode prog_18_method_6_code 18 = .ok (.getfield 16, 3) := by decide +kernel
theorem d_prog_18_method_6_code_21 : decode prog_18_method_6_code 21 = .ok (.areturn, 1) := by decide +kernel
theorem ef_cAct (m : MethodId) (x0 : Addr) : entryFrame m #[(.ref x0)] 1 = mkF m 0 #[.val (.ref x0)] [] := by (first | (simp [entryFrame, mkF, argsToLocals, Value.category]; done) | rfl)
def Q_cAct (c3 : Addr) (h0 : Heap) (n0 : Nat) (v : Option Value) (h : Heap) (L : List Loc) : Prop := v = some (.ref c3) ∧ Fr n0 L ∧ Keep h0 h []
set_option maxRecDepth 65536 in
set_option maxHeartbeats 40000000 in
theorem rm_cAct (l : Launch) (Z : State) (a0 : Array Value) (hw : ∀ d ∈ tables_1, d.before a0 Z = true) (ws : List Jvm.Cond) (a1 : Addr) (c3 t3 : Addr) (k3 : ClassId) (cs : List Int32) (G1 : Int32) (h0 : Heap) (n0 : Nat) (Z0 : n0 ≤ h0.size) (Sg : Sta Z Z.heap "java/lang/String" "COMPACT_STRINGS" "Z" (.int G1)) (P5 : ¬ (G1 = (0 : Int32))) (F1 : Fld Z h0 a1 "com/example/lakebed/lakebed/model/TimelineInstant" "action" "Ljava/lang/String;" (.ref c3)) (E3 : Exa Z h0 c3 "java/lang/String") (Fv : Fld Z h0 c3 "java/lang/String" "value" "[B" (.ref t3)) (Fc : Fld Z h0 c3 "java/lang/String" "coder" "B" (.int 0)) (A3 : Arv Z h0 t3 k3 .byte (Int32.ofNat cs.length) ((cs.map (fun c => c.toInt8.toInt32)).map Value.int) (.int 0)) (hlen : cs.length ≤ 2) (hbb : ∀ c ∈ cs, ¬ c < 0 ∧ ¬ (255 : Int32) < c) (Ol : Old Z n0 h0) :
    MetFree l (⟨"com/example/lakebed/lakebed/model/TimelineInstant", "completedAction", "()Ljava/lang/String;"⟩ : MethodName) (head1 (Jvm.Cond.code (⟨"com/example/lakebed/lakebed/model/TimelineInstant", "completedAction", "()Ljava/lang/String;"⟩ : MethodName) prog_18_method_6_code 1 (some (.object "java/lang/String")) :: ws) ({ frames := 2, cells := 2, slots := 44, locals := 28 } : Room)) (fun a U => a = #[(.ref a1)] ∧ Z.Warmed39 U.vm ∧ U.heap = h0 ∧ CHv Z own_EL U.vm h0) (fun _ _ _ _ _ => True) (fun _ U o U' => ∃ v L, o = .returned v ∧ Q_cAct c3 h0 n0 v U'.heap L ∧ CHr Z own_EL U.vm U.heap U'.vm U'.heap ∧ ReturnedEndW U o U' L ({ frames := 2, cells := 2, slots := 44, locals := 28 } : Room).cells ({ frames := 2, cells := 2, slots := 44, locals := 28 } : Room).slots) := by
  refine MetFree.of_bodySF (plainFor_of_name pn_com_example_lakebed_lakebed_model_TimelineInstant) hisR ?_
  intro p e s m args below meth c s₁ Bd hml0 hP hK
  obtain ⟨rfl, hZ, hh, hCH0⟩ := hP
  have hx := Bd.exec
  have hby := Bd.bytes
  have hml : c.maxLocals = 1 := hml0
  have hown : s.vm.findClass "com/example/lakebed/lakebed/model/TimelineInstant" = some m.cls := findClass_of_methodNamed Bd.named
  have hnm := (name_of_methodNamed Bd.named Bd.method).1
  have X0 : Stand p l e ({ frames := 2, cells := 2, slots := 44, locals := 28 } : Room) (s.setVm s.vm) m #[(.ref a1)] below meth c s₁ [] 0 0 := Stand.of_body Bd
  have e0 : s₁.heap = h0 := by rw [← hh, Bd.state]; rfl
  have N0 := Fr.nil n0
  have pre0 : ∀ t, Steps p.tables e below (s₁.setTop (mkF m 0 #[.val (.ref a1)] [])) t → Steps p.tables e below (s₁.setTop (entryFrame m #[(.ref a1)] 1)) t := fun t k => castTop (ef_cAct m a1) k
  have P0 : ∀ t, Steps p.tables e below (s₁.setTop (mkF m 0 #[.val (.ref a1)] [])) t → Steps p.tables e below (s₁.setTop (mkF m 0 #[.val (.ref a1)] [])) t := fun t k => k
  have hS0 : s.Since s.vm h0.size := (State.WarmedH.refl s).since _
  have hCR0 : CHr Z own_EL s.vm h0 s.vm h0 := CHr.refl hCH0
  obtain ⟨T264, X264, e264, st264⟩ := getF X0 hx hZ hown (host := "") (Or.inl (hw _ (List.mem_of_getElem? (i := 49) rfl))) Via.refl e0 F1 (g := (mkF m 1 #[.val (.ref a1)] [(.ref a1)])) rfl rfl (hb hby d_prog_18_method_6_code_1)
  have P265 : ∀ t, Steps p.tables e below (T264.setTop (mkF m 4 #[.val (.ref a1)] [(.ref c3)])) t → Steps p.tables e below (s₁.setTop (mkF m 0 #[.val (.ref a1)] [])) t := fun t k => P0 t (by
    refine XS.aloadN X0.here hx rfl (hb hby d_prog_18_method_6_code_0) rfl rfl ?_
    show Steps p.tables e below (s₁.setTop (mkF m 1 #[.val (.ref a1)] [(.ref a1)])) _
    exact st264 _ k)
  obtain ⟨y266, T266, h266, k266, t266, kb266, X266, e266, E266, hS266, hk266, hZ266, ho266, Ea266, Fc266, Fv266, Av266, la266, lb266, cr266, Li266, ne266, st266⟩ := ldcCH X264 hx hZ hown (hw _ (List.mem_of_getElem? (i := 78) rfl)) (own_wS hw) e264 hS0 (Nat.le_refl _) (own_EW hw) (by decide) hCH0 (vs := [(.int (99 : Int32)), (.int (111 : Int32)), (.int (109 : Int32)), (.int (112 : Int32)), (.int (97 : Int32)), (.int (99 : Int32)), (.int (116 : Int32)), (.int (105 : Int32)), (.int (111 : Int32)), (.int (110 : Int32))]) (z := (10 : Int32)) ⟨by decide, by decide⟩ (by decide) (by decide) (g := (mkF m 4 #[.val (.ref a1)] [(.ref c3)])) rfl (hb hby d_prog_18_method_6_code_4) (n := 40) (by decide) (by decide) (Nat.le_of_ble_eq_true rfl) (Nat.le_of_ble_eq_true rfl)
  have P267 : ∀ t, Steps p.tables e below (T266.setTop (mkF m 6 #[.val (.ref a1)] [(.ref y266), (.ref c3)])) t → Steps p.tables e below (s₁.setTop (mkF m 0 #[.val (.ref a1)] [])) t := fun t k => P265 t (by
    show Steps p.tables e below (T264.setTop (mkF m 4 #[.val (.ref a1)] [(.ref c3)])) _
    exact st266 _ k)
  have Z268 : n0 ≤ h266.size := Nat.le_trans Z0 E266.1
  have K269 : Keep h0 h266 [] := (Keep.refl h0 []).ext E266
  have O270 : Old Z n0 h266 := Ol.ext E266
  have R271 : CHr Z own_EL s.vm h0 T266.vm h266 := hCR0.trans cr266
  have hcd1 : StrChars.Road.CodA cs 0 (Int32.ofNat cs.length) ((cs.map (fun c => c.toInt8.toInt32)).map Value.int) := StrChars.Road.codOf (n := cs.length) rfl (fun x hx => (hbb x hx).2)
  have hcd2 : StrChars.Road.CodA own_comp 0 (10 : Int32) [(.int (99 : Int32)), (.int (111 : Int32)), (.int (109 : Int32)), (.int (112 : Int32)), (.int (97 : Int32)), (.int (99 : Int32)), (.int (116 : Int32)), (.int (105 : Int32)), (.int (111 : Int32)), (.int (110 : Int32))] := StrChars.Road.codOf (n := 10) rfl (fun x hx => (own_compb x hx).2)
  have f273 : Exa Z h266 c3 "java/lang/String" := (E3.ext E266)
  have f274 : Fld Z h266 c3 "java/lang/String" "value" "[B" (.ref t3) := (Fv.ext E266)
  have f275 : Fld Z h266 c3 "java/lang/String" "coder" "B" (.int 0) := (Fc.ext E266)
  have f276 : Arv Z h266 t3 k3 .byte (Int32.ofNat cs.length) ((cs.map (fun c => c.toInt8.toInt32)).map Value.int) (.int 0) := (A3.ext E266)
  have heq272 : ∀ d ∈ StrChars.Road.wordsEq, d.before a0 Z = true := fun d hd => hw d (own_eqwords d hd)
  obtain ⟨cq277, kq277, q277a, q277b, q277c⟩ := isOf hZ266 e266 f273
  obtain ⟨vv277, _, ⟨T277, L277, k277, n277⟩, -, X277, ⟨Lc277, hQ277, l277, y277, z277⟩, st277⟩ := X266.virtualBack hx (y := (⟨"java/lang/String", "equals", "(Ljava/lang/Object;)Z"⟩ : MethodName)) (z := (⟨"java/lang/String", "equals", "(Ljava/lang/Object;)Z"⟩ : MethodName)) ho266 (mvT hZ266 (hw _ (List.mem_of_getElem? (i := 79) rfl))) (mvT hZ266 (hw _ (List.mem_of_getElem? (i := 80) rfl))) (notFace_of_selects (args := #[]) (mvT hZ266 (hw _ (List.mem_of_getElem? (i := 82) rfl)))) (mvT hZ266 (hw _ (List.mem_of_getElem? (i := 82) rfl))) (mvT hZ266 (hw _ (List.mem_of_getElem? (i := 81) rfl))) (by decide) (StrChars.Road.eqW (W := 0) hZ266 heq272 (kI := 4) (hw _ (List.mem_of_getElem? (i := 13) rfl)) f273 f274 f275 f276 hcd1 (own_up _ hbb) (Nat.le_trans hlen (by decide)) Ea266 Fv266 Fc266 Av266 hcd2 (own_up _ own_compb) (by decide) (Sg.ext O270.2) P5 (by decide) (by decide)) q277a q277c (g := (mkF m 6 #[.val (.ref a1)] [(.ref y266), (.ref c3)])) rfl (by rw [hml]; rfl) (Steps.refl _) (argsL := [(.ref y266)]) (rest := []) (lenOf pd__28Ljava_2flang_2fObject_3b_29Z rfl) rfl (by show 2 * 0 + _ ≤ _; exact Nat.le_of_eq rfl) (hb hby d_prog_18_method_6_code_6) (fun _ _ => ⟨rfl, e266, (Nat.le_of_ble_eq_true rfl : 2 + 0 ≤ _), (Nat.le_of_ble_eq_true rfl : 44 + 0 ≤ _)⟩)
  dsimp only [Pt.U, Pt.locs, Pt.cells, Pt.slots] at X277 l277 y277 z277 st277 hQ277
  subst l277 y277 z277
  obtain ⟨hcs277, rfl, e277⟩ := hQ277
  obtain ⟨be277, rfl, hce277⟩ := own_eqcase hcs277
  have N278 := Fr.app N0 (Fr.nil n0)
  have P279 : ∀ t, Steps p.tables e below (T277.setTop (mkF m 9 #[.val (.ref a1)] [(.int be277)])) t → Steps p.tables e below (s₁.setTop (mkF m 0 #[.val (.ref a1)] [])) t := fun t k => P267 t (by
    show Steps p.tables e below (T266.setTop (mkF m 6 #[.val (.ref a1)] [(.ref y266), (.ref c3)])) _
    exact st277.trans k)
  have hb0 : be277 = (0 : Int32) := by
    rcases hce277 with ⟨_, h⟩ | ⟨h, _⟩
    · rw [h] at hlen; exact absurd hlen (by decide)
    · exact h
  have f280 : Fld Z h266 a1 "com/example/lakebed/lakebed/model/TimelineInstant" "action" "Ljava/lang/String;" (.ref c3) := (F1.ext E266)
  obtain ⟨T281, X281, e281, st281⟩ := getF X277 hx hZ266 ho266 (host := "") (Or.inl (hw _ (List.mem_of_getElem? (i := 49) rfl))) Via.refl e277 f280 (g := (mkF m 18 #[.val (.ref a1)] [(.ref a1)])) rfl rfl (hb hby d_prog_18_method_6_code_18)
  have P282 : ∀ t, Steps p.tables e below (T281.setTop (mkF m 21 #[.val (.ref a1)] [(.ref c3)])) t → Steps p.tables e below (s₁.setTop (mkF m 0 #[.val (.ref a1)] [])) t := fun t k => P279 t (by
    show Steps p.tables e below (T277.setTop (mkF m 9 #[.val (.ref a1)] [(.int be277)])) _
    refine XS.ifYes X277.here hx rfl (pc0 := 9) (pc' := 17) rfl (hb hby d_prog_18_method_6_code_9) rfl ((if0 _ _).trans (teq (show be277 = (0 : Int32) from hb0)).1) (by decide) (by decide) ?_
    show Steps p.tables e below (T277.setTop (mkF m 17 #[.val (.ref a1)] [])) _
    refine XS.aloadN X277.here hx rfl (hb hby d_prog_18_method_6_code_17) rfl rfl ?_
    show Steps p.tables e below (T277.setTop (mkF m 18 #[.val (.ref a1)] [(.ref a1)])) _
    exact st281 _ k)
  obtain ⟨fs283, hr283, hrun283, hended283, hRW283⟩ := X281.leaveW (v := some (.ref c3)) hS266 (by rw [e281]; exact hk266) (fun h => by rw [Bd.returns] at h; cases h)
  have hce283 : CHr Z own_EL s.vm s.heap T281.vm T281.heap := by
    rw [hh, e281]
    exact R271.trans (CHv.at X281 hZ266 (own_EW hw) cr266.1)
  refine ⟨_, _, pre0 _ (P282 _ ?_), hrun283, hended283, _, _, rfl, ?_, hce283, ⟨hRW283.1, hRW283.2.1, hRW283.2.2.1, hRW283.2.2.2.mono (Nat.le_of_ble_eq_true rfl) (Nat.le_of_ble_eq_true rfl)⟩⟩
  · show Steps p.tables e below (T281.setTop (mkF m 21 #[.val (.ref a1)] [(.ref c3)])) _
    exact retOut X281 hx Bd.returns rfl (Or.inr (Or.inr (Or.inr (Or.inr ⟨rfl, rfl, rfl⟩)))) (hb hby d_prog_18_method_6_code_21) hr283
  · show Q_cAct c3 h0 n0 _ T281.heap _
    rw [e281]
    exact ⟨rfl, N278, K269⟩

theorem d_prog_18_method_3_code_0 : decode prog_18_method_3_code 0 = .ok (.new 8, 3) := by decide +kernel
theorem d_prog_18_method_3_code_3 : decode prog_18_method_3_code 3 = .ok (.dup, 1) := by decide +kernel
theorem d_prog_18_method_3_code_4 : decode prog_18_method_3_code 4 = .ok (.aload_n 0, 1) := by decide +kernel
theorem d_prog_18_method_3_code_5 : decode prog_18_method_3_code 5 = .ok (.getfield 7, 3) := by decide +kernel
theorem d_prog_18_method_3_code_8 : decode prog_18_method_3_code 8 = .ok (.aconst_null, 1) := by decide +kernel
theorem d_prog_18_method_3_code_9 : decode prog_18_method_3_code 9 = .ok (.aload_n 0, 1) := by decide +kernel
theorem d_prog_18_method_3_code_10 : decode prog_18_method_3_code 10 = .ok (.getfield 16, 3) := by decide +kernel
theorem d_prog_18_method_3_code_13 : decode prog_18_method_3_code 13 = .ok (.getstatic 31, 3) := by decide +kernel
theorem d_prog_18_method_3_code_16 : decode prog_18_method_3_code 16 = .ok (.invokespecial 28, 3) := by decide +kernel
theorem pd__28Ljava_2flang_2fString_3bLjava_2flang_2fString_3bLjava_2flang_2fString_3bLcom_2fexample_2flakebed_2flakebed_2fmodel_2fTimelineInstant_24State_3b_29V : parseMethodDescriptor "(Ljava/lang/String;Ljava/lang/String;Ljava/lang/String;Lcom/example/lakebed/lakebed/model/TimelineInstant$State;)V" = some ⟨[(.object "java/lang/String"), (.object "java/lang/String"), (.object "java/lang/String"), (.object "com/example/lakebed/lakebed/model/TimelineInstant$State")], none⟩ := by decide +kernel
theorem d_prog_18_method_3_code_19 : decode prog_18_method_3_code 19 = .ok (.areturn, 1) := by decide +kernel
theorem ef_toInf (m : MethodId) (x0 : Addr) : entryFrame m #[(.ref x0)] 1 = mkF m 0 #[.val (.ref x0)] [] := by (first | (simp [entryFrame, mkF, argsToLocals, Value.category]; done) | rfl)
def Q_toInf (Z : State) (r2 : Addr) (h0 : Heap) (n0 : Nat) (v : Option Value) (h : Heap) (L : List Loc) : Prop := ∃ b : Addr, v = some (.ref b) ∧ Fr n0 L ∧ h0.size ≤ b ∧ Keep h0 h [] ∧ Exa Z h b "com/example/lakebed/lakebed/model/TimelineInstant" ∧ Fld Z h b "com/example/lakebed/lakebed/model/TimelineInstant" "state" "Lcom/example/lakebed/lakebed/model/TimelineInstant$State;" (.ref r2)
set_option maxRecDepth 65536 in
set_option maxHeartbeats 40000000 in
theorem rm_toInf (l : Launch) (Z : State) (a0 : Array Value) (hw : ∀ d ∈ tables_1, d.before a0 Z = true) (ws : List Jvm.Cond) (a1 c1 c3 : Addr) (r0 r1 r2 : Addr) (h0 : Heap) (n0 : Nat) (Z0 : n0 ≤ h0.size) (F1 : Fld Z h0 a1 "com/example/lakebed/lakebed/model/TimelineInstant" "begin" "Ljava/lang/String;" (.ref c1)) (F3 : Fld Z h0 a1 "com/example/lakebed/lakebed/model/TimelineInstant" "action" "Ljava/lang/String;" (.ref c3)) (S0 : Sta Z Z.heap "com/example/lakebed/lakebed/model/TimelineInstant$State" "REQUESTED" "Lcom/example/lakebed/lakebed/model/TimelineInstant$State;" (.ref r0)) (S1 : Sta Z Z.heap "com/example/lakebed/lakebed/model/TimelineInstant$State" "COMPLETED" "Lcom/example/lakebed/lakebed/model/TimelineInstant$State;" (.ref r1)) (S2 : Sta Z Z.heap "com/example/lakebed/lakebed/model/TimelineInstant$State" "INFLIGHT" "Lcom/example/lakebed/lakebed/model/TimelineInstant$State;" (.ref r2)) (Ol : Old Z n0 h0) :
    MetFree l (⟨"com/example/lakebed/lakebed/model/TimelineInstant", "toInflight", "()Lcom/example/lakebed/lakebed/model/TimelineInstant;"⟩ : MethodName) (head1 (Jvm.Cond.code (⟨"com/example/lakebed/lakebed/model/TimelineInstant", "toInflight", "()Lcom/example/lakebed/lakebed/model/TimelineInstant;"⟩ : MethodName) prog_18_method_3_code 1 (some (.object "com/example/lakebed/lakebed/model/TimelineInstant")) :: ws) ({ frames := 3, cells := 1, slots := 4, locals := 41 } : Room)) (fun a U => a = #[(.ref a1)] ∧ Z.Warmed39 U.vm ∧ U.heap = h0) (fun _ _ _ _ _ => True) (fun _ U o U' => ∃ v L, o = .returned v ∧ Q_toInf Z r2 h0 n0 v U'.heap L ∧ FrameEnd U o U' L ({ frames := 3, cells := 1, slots := 4, locals := 41 } : Room).cells ({ frames := 3, cells := 1, slots := 4, locals := 41 } : Room).slots) := by
  refine MetFree.of_bodySF (plainFor_of_name pn_com_example_lakebed_lakebed_model_TimelineInstant) hisR ?_
  intro p e s m args below meth c s₁ Bd hml0 hP hK
  obtain ⟨rfl, hZ, hh⟩ := hP
  have hx := Bd.exec
  have hby := Bd.bytes
  have hml : c.maxLocals = 1 := hml0
  have hown : s.vm.findClass "com/example/lakebed/lakebed/model/TimelineInstant" = some m.cls := findClass_of_methodNamed Bd.named
  have hnm := (name_of_methodNamed Bd.named Bd.method).1
  have X0 : Stand p l e ({ frames := 3, cells := 1, slots := 4, locals := 41 } : Room) s m #[(.ref a1)] below meth c s₁ [] 0 0 := Stand.of_body Bd
  have e0 : s₁.heap = h0 := by rw [← hh, Bd.state]; rfl
  have N0 := Fr.nil n0
  have pre0 : ∀ t, Steps p.tables e below (s₁.setTop (mkF m 0 #[.val (.ref a1)] [])) t → Steps p.tables e below (s₁.setTop (entryFrame m #[(.ref a1)] 1)) t := fun t k => castTop (ef_toInf m a1) k
  have P0 : ∀ t, Steps p.tables e below (s₁.setTop (mkF m 0 #[.val (.ref a1)] [])) t → Steps p.tables e below (s₁.setTop (mkF m 0 #[.val (.ref a1)] [])) t := fun t k => k
  obtain ⟨T284, h284, X284, e284, E284, A284, D284, -, st284⟩ := newO X0 hx hZ hown (hw _ (List.mem_of_getElem? (i := 65) rfl)) (hw _ (List.mem_of_getElem? (i := 34) rfl)) (hw _ (List.mem_of_getElem? (i := 35) rfl)) e0 (g := (mkF m 0 #[.val (.ref a1)] [])) rfl (hb hby d_prog_18_method_3_code_0) (by decide) (by decide)
  obtain ⟨b284, g284⟩ : ∃ z, z = h0.size := ⟨_, rfl⟩
  rw [← g284] at A284 D284 st284
  have g_b284 : n0 ≤ b284 := Nat.le_trans Z0 (Nat.le_of_eq g284.symm)
  have sz_b284 : h0.size ≤ b284 := Nat.le_trans (Keep.refl h0 []).1 (Nat.le_of_eq g284.symm)
  have P285 : ∀ t, Steps p.tables e below (T284.setTop (mkF m 3 #[.val (.ref a1)] [(.ref b284)])) t → Steps p.tables e below (s₁.setTop (mkF m 0 #[.val (.ref a1)] [])) t := fun t k => P0 t (by
    exact st284 _ k)
  have Z286 : n0 ≤ h284.size := Nat.le_trans Z0 E284.1
  have K287 : Keep h0 h284 [] := (Keep.refl h0 []).ext E284
  have O288 : Old Z n0 h284 := Ol.ext E284
  have f289 : Fld Z h284 b284 "com/example/lakebed/lakebed/model/TimelineInstant" "begin" "Ljava/lang/String;" .null := D284 (Or.inr (hw _ (List.mem_of_getElem? (i := 46) rfl))) (ty := (.object "java/lang/String")) (by decide)
  have f290 : Fld Z h284 b284 "com/example/lakebed/lakebed/model/TimelineInstant" "completion" "Ljava/lang/String;" .null := D284 (Or.inr (hw _ (List.mem_of_getElem? (i := 48) rfl))) (ty := (.object "java/lang/String")) (by decide)
  have f291 : Fld Z h284 b284 "com/example/lakebed/lakebed/model/TimelineInstant" "action" "Ljava/lang/String;" .null := D284 (Or.inr (hw _ (List.mem_of_getElem? (i := 50) rfl))) (ty := (.object "java/lang/String")) (by decide)
  have f292 : Fld Z h284 b284 "com/example/lakebed/lakebed/model/TimelineInstant" "state" "Lcom/example/lakebed/lakebed/model/TimelineInstant$State;" .null := D284 (Or.inr (hw _ (List.mem_of_getElem? (i := 52) rfl))) (ty := (.object "com/example/lakebed/lakebed/model/TimelineInstant$State")) (by decide)
  have f293 : Fld Z h284 a1 "com/example/lakebed/lakebed/model/TimelineInstant" "begin" "Ljava/lang/String;" (.ref c1) := (F1.ext E284)
  obtain ⟨T294, X294, e294, st294⟩ := getF X284 hx hZ hown (host := "") (Or.inl (hw _ (List.mem_of_getElem? (i := 45) rfl))) Via.refl e284 f293 (g := (mkF m 5 #[.val (.ref a1)] [(.ref a1), (.ref b284), (.ref b284)])) rfl rfl (hb hby d_prog_18_method_3_code_5)
  have P295 : ∀ t, Steps p.tables e below (T294.setTop (mkF m 8 #[.val (.ref a1)] [(.ref c1), (.ref b284), (.ref b284)])) t → Steps p.tables e below (s₁.setTop (mkF m 0 #[.val (.ref a1)] [])) t := fun t k => P285 t (by
    show Steps p.tables e below (T284.setTop (mkF m 3 #[.val (.ref a1)] [(.ref b284)])) _
    refine XS.dup X284.here hx rfl (hb hby d_prog_18_method_3_code_3) rfl rfl ?_
    show Steps p.tables e below (T284.setTop (mkF m 4 #[.val (.ref a1)] [(.ref b284), (.ref b284)])) _
    refine XS.aloadN X284.here hx rfl (hb hby d_prog_18_method_3_code_4) rfl rfl ?_
    show Steps p.tables e below (T284.setTop (mkF m 5 #[.val (.ref a1)] [(.ref a1), (.ref b284), (.ref b284)])) _
    exact st294 _ k)
  have f296 : Fld Z h284 a1 "com/example/lakebed/lakebed/model/TimelineInstant" "action" "Ljava/lang/String;" (.ref c3) := (F3.ext E284)
  obtain ⟨T297, X297, e297, st297⟩ := getF X294 hx hZ hown (host := "") (Or.inl (hw _ (List.mem_of_getElem? (i := 49) rfl))) Via.refl e294 f296 (g := (mkF m 10 #[.val (.ref a1)] [(.ref a1), .null, (.ref c1), (.ref b284), (.ref b284)])) rfl rfl (hb hby d_prog_18_method_3_code_10)
  have P298 : ∀ t, Steps p.tables e below (T297.setTop (mkF m 13 #[.val (.ref a1)] [(.ref c3), .null, (.ref c1), (.ref b284), (.ref b284)])) t → Steps p.tables e below (s₁.setTop (mkF m 0 #[.val (.ref a1)] [])) t := fun t k => P295 t (by
    show Steps p.tables e below (T294.setTop (mkF m 8 #[.val (.ref a1)] [(.ref c1), (.ref b284), (.ref b284)])) _
    refine XS.aconstNull X294.here hx rfl (hb hby d_prog_18_method_3_code_8) ?_
    show Steps p.tables e below (T294.setTop (mkF m 9 #[.val (.ref a1)] [.null, (.ref c1), (.ref b284), (.ref b284)])) _
    refine XS.aloadN X294.here hx rfl (hb hby d_prog_18_method_3_code_9) rfl rfl ?_
    show Steps p.tables e below (T294.setTop (mkF m 10 #[.val (.ref a1)] [(.ref a1), .null, (.ref c1), (.ref b284), (.ref b284)])) _
    exact st297 _ k)
  obtain ⟨T299, X299, e299, st299⟩ := getS2 X297 hx hZ hown (host := "") (Or.inl (hw _ (List.mem_of_getElem? (i := 66) rfl))) Via.refl e297 (S2.ext O288.2) (g := (mkF m 13 #[.val (.ref a1)] [(.ref c3), .null, (.ref c1), (.ref b284), (.ref b284)])) rfl (hb hby d_prog_18_method_3_code_13)
  have P300 : ∀ t, Steps p.tables e below (T299.setTop (mkF m 16 #[.val (.ref a1)] [(.ref r2), (.ref c3), .null, (.ref c1), (.ref b284), (.ref b284)])) t → Steps p.tables e below (s₁.setTop (mkF m 0 #[.val (.ref a1)] [])) t := fun t k => P298 t (by
    show Steps p.tables e below (T297.setTop (mkF m 13 #[.val (.ref a1)] [(.ref c3), .null, (.ref c1), (.ref b284), (.ref b284)])) _
    exact st299 _ k)
  obtain ⟨_, _, ⟨T301, L301, k301, n301⟩, -, X301, ⟨Lc301, hQ301, l301, y301, z301⟩, st301⟩ := X299.specialBack hx (y := (⟨"com/example/lakebed/lakebed/model/TimelineInstant", "<init>", "(Ljava/lang/String;Ljava/lang/String;Ljava/lang/String;Lcom/example/lakebed/lakebed/model/TimelineInstant$State;)V"⟩ : MethodName)) rfl hown (mvT hZ (hw _ (List.mem_of_getElem? (i := 68) rfl))) (mvT hZ (hw _ (List.mem_of_getElem? (i := 37) rfl))) (mvT hZ (hw _ (List.mem_of_getElem? (i := 38) rfl))) (by decide) (backOf (W := 1) (rm_ctor l Z a0 hw [] b284 c1 .null c3 r2 h284 n0 Z286 rfl g_b284 A284 f289 f290 f291 f292) hZ (hw _ (List.mem_of_getElem? (i := 38) rfl)) (hw _ (List.mem_of_getElem? (i := 35) rfl)) (by decide) (by decide)) (g := (mkF m 16 #[.val (.ref a1)] [(.ref r2), (.ref c3), .null, (.ref c1), (.ref b284), (.ref b284)])) rfl (by rw [hml]; rfl) (Steps.refl _) (a := b284) (argsL := [(.ref c1), .null, (.ref c3), (.ref r2)]) (rest := [(.ref b284)]) (lenOf pd__28Ljava_2flang_2fString_3bLjava_2flang_2fString_3bLjava_2flang_2fString_3bLcom_2fexample_2flakebed_2flakebed_2fmodel_2fTimelineInstant_24State_3b_29V rfl) rfl (by show 2 * 0 + _ ≤ _; exact Nat.le_of_eq rfl) (hb hby d_prog_18_method_3_code_16) (fun _ _ => ⟨rfl, e299, (Nat.le_of_ble_eq_true rfl : 1 + 0 ≤ _), (Nat.le_of_ble_eq_true rfl : 4 + 0 ≤ _)⟩)
  dsimp only [Pt.U, Pt.locs, Pt.cells, Pt.slots] at X301 l301 y301 z301 st301 hQ301
  subst l301 y301 z301
  obtain ⟨rfl, Nq301, Kk301, Ek301, F0_301, F1_301, F2_301, F3_301⟩ := hQ301
  have N302 := Fr.app N0 Nq301
  have P303 : ∀ t, Steps p.tables e below (T301.setTop (mkF m 19 #[.val (.ref a1)] [(.ref b284)])) t → Steps p.tables e below (s₁.setTop (mkF m 0 #[.val (.ref a1)] [])) t := fun t k => P300 t (by
    show Steps p.tables e below (T299.setTop (mkF m 16 #[.val (.ref a1)] [(.ref r2), (.ref c3), .null, (.ref c1), (.ref b284), (.ref b284)])) _
    exact st301.trans k)
  have Z304 : n0 ≤ T301.heap.size := Nat.le_trans Z286 Kk301.1
  have K305 : Keep h0 T301.heap [] := K287.trans Kk301 ((allS (Or.inr sz_b284) all0))
  have O306 : Old Z n0 T301.heap := O288.keep Kk301 (allS g_b284 all0)
  obtain ⟨fs307, hr307, hrun307, hended307, hW307, hsame307⟩ := X301.leave (v := some (.ref b284)) (fun h => by rw [Bd.returns] at h; cases h)
  refine ⟨_, _, pre0 _ (P303 _ ?_), hrun307, hended307, _, _, rfl, ?_, ⟨⟨_, rfl⟩, hW307, hsame307.mono (Nat.le_of_ble_eq_true rfl) (Nat.le_of_ble_eq_true rfl)⟩⟩
  · show Steps p.tables e below (T301.setTop (mkF m 19 #[.val (.ref a1)] [(.ref b284)])) _
    exact retOut X301 hx Bd.returns rfl (Or.inr (Or.inr (Or.inr (Or.inr ⟨rfl, rfl, rfl⟩)))) (hb hby d_prog_18_method_3_code_19) hr307
  · show Q_toInf Z r2 h0 n0 _ T301.heap _
    exact ⟨b284, rfl, N302, sz_b284, K305, Ek301, F3_301⟩

theorem d_prog_18_method_4_code_0 : decode prog_18_method_4_code 0 = .ok (.new 8, 3) := by decide +kernel
theorem d_prog_18_method_4_code_3 : decode prog_18_method_4_code 3 = .ok (.dup, 1) := by decide +kernel
theorem d_prog_18_method_4_code_4 : decode prog_18_method_4_code 4 = .ok (.aload_n 0, 1) := by decide +kernel
theorem d_prog_18_method_4_code_5 : decode prog_18_method_4_code 5 = .ok (.getfield 7, 3) := by decide +kernel
theorem d_prog_18_method_4_code_8 : decode prog_18_method_4_code 8 = .ok (.aload_n 1, 1) := by decide +kernel
theorem d_prog_18_method_4_code_9 : decode prog_18_method_4_code 9 = .ok (.aload_n 0, 1) := by decide +kernel
theorem d_prog_18_method_4_code_10 : decode prog_18_method_4_code 10 = .ok (.invokevirtual 34, 3) := by decide +kernel
theorem pd__28_29Ljava_2flang_2fString_3b : parseMethodDescriptor "()Ljava/lang/String;" = some ⟨[], some (.object "java/lang/String")⟩ := by decide +kernel
theorem d_prog_18_method_4_code_13 : decode prog_18_method_4_code 13 = .ok (.getstatic 38, 3) := by decide +kernel
theorem d_prog_18_method_4_code_16 : decode prog_18_method_4_code 16 = .ok (.invokespecial 28, 3) := by decide +kernel
theorem d_prog_18_method_4_code_19 : decode prog_18_method_4_code 19 = .ok (.areturn, 1) := by decide +kernel
theorem ef_toCom (m : MethodId) (x0 : Addr) (x1 : Addr) : entryFrame m #[(.ref x0), (.ref x1)] 2 = mkF m 0 #[.val (.ref x0), .val (.ref x1)] [] := by (first | (simp [entryFrame, mkF, argsToLocals, Value.category]; done) | rfl)
def Q_toCom (Z : State) (r1 : Addr) (h0 : Heap) (n0 : Nat) (v : Option Value) (h : Heap) (L : List Loc) : Prop := ∃ b : Addr, v = some (.ref b) ∧ Fr n0 L ∧ h0.size ≤ b ∧ Keep h0 h [] ∧ Exa Z h b "com/example/lakebed/lakebed/model/TimelineInstant" ∧ Fld Z h b "com/example/lakebed/lakebed/model/TimelineInstant" "state" "Lcom/example/lakebed/lakebed/model/TimelineInstant$State;" (.ref r1)
set_option maxRecDepth 65536 in
set_option maxHeartbeats 40000000 in
theorem rm_toCom (l : Launch) (Z : State) (a0 : Array Value) (hw : ∀ d ∈ tables_1, d.before a0 Z = true) (ws : List Jvm.Cond) (a1 c2 c1 : Addr) (c3 t3 : Addr) (k3 : ClassId) (cs : List Int32) (r0 r1 r2 : Addr) (G1 : Int32) (h0 : Heap) (n0 : Nat) (Z0 : n0 ≤ h0.size) (Sg : Sta Z Z.heap "java/lang/String" "COMPACT_STRINGS" "Z" (.int G1)) (P5 : ¬ (G1 = (0 : Int32))) (E1 : Exa Z h0 a1 "com/example/lakebed/lakebed/model/TimelineInstant") (F1 : Fld Z h0 a1 "com/example/lakebed/lakebed/model/TimelineInstant" "begin" "Ljava/lang/String;" (.ref c1)) (F3 : Fld Z h0 a1 "com/example/lakebed/lakebed/model/TimelineInstant" "action" "Ljava/lang/String;" (.ref c3)) (E3 : Exa Z h0 c3 "java/lang/String") (Fv : Fld Z h0 c3 "java/lang/String" "value" "[B" (.ref t3)) (Fc : Fld Z h0 c3 "java/lang/String" "coder" "B" (.int 0)) (A3 : Arv Z h0 t3 k3 .byte (Int32.ofNat cs.length) ((cs.map (fun c => c.toInt8.toInt32)).map Value.int) (.int 0)) (hlen : cs.length ≤ 2) (hbb : ∀ c ∈ cs, ¬ c < 0 ∧ ¬ (255 : Int32) < c) (S0 : Sta Z Z.heap "com/example/lakebed/lakebed/model/TimelineInstant$State" "REQUESTED" "Lcom/example/lakebed/lakebed/model/TimelineInstant$State;" (.ref r0)) (S1 : Sta Z Z.heap "com/example/lakebed/lakebed/model/TimelineInstant$State" "COMPLETED" "Lcom/example/lakebed/lakebed/model/TimelineInstant$State;" (.ref r1)) (S2 : Sta Z Z.heap "com/example/lakebed/lakebed/model/TimelineInstant$State" "INFLIGHT" "Lcom/example/lakebed/lakebed/model/TimelineInstant$State;" (.ref r2)) (Ol : Old Z n0 h0) :
    MetFree l (⟨"com/example/lakebed/lakebed/model/TimelineInstant", "toCompleted", "(Ljava/lang/String;)Lcom/example/lakebed/lakebed/model/TimelineInstant;"⟩ : MethodName) (head1 (Jvm.Cond.code (⟨"com/example/lakebed/lakebed/model/TimelineInstant", "toCompleted", "(Ljava/lang/String;)Lcom/example/lakebed/lakebed/model/TimelineInstant;"⟩ : MethodName) prog_18_method_4_code 2 (some (.object "com/example/lakebed/lakebed/model/TimelineInstant")) :: ws) ({ frames := 3, cells := 3, slots := 48, locals := 44 } : Room)) (fun a U => a = #[(.ref a1), (.ref c2)] ∧ Z.Warmed39 U.vm ∧ U.heap = h0 ∧ CHv Z own_EL U.vm h0) (fun _ _ _ _ _ => True) (fun _ U o U' => ∃ v L, o = .returned v ∧ Q_toCom Z r1 h0 n0 v U'.heap L ∧ CHr Z own_EL U.vm U.heap U'.vm U'.heap ∧ ReturnedEndW U o U' L ({ frames := 3, cells := 3, slots := 48, locals := 44 } : Room).cells ({ frames := 3, cells := 3, slots := 48, locals := 44 } : Room).slots) := by
  refine MetFree.of_bodySF (plainFor_of_name pn_com_example_lakebed_lakebed_model_TimelineInstant) hisR ?_
  intro p e s m args below meth c s₁ Bd hml0 hP hK
  obtain ⟨rfl, hZ, hh, hCH0⟩ := hP
  have hx := Bd.exec
  have hby := Bd.bytes
  have hml : c.maxLocals = 2 := hml0
  have hown : s.vm.findClass "com/example/lakebed/lakebed/model/TimelineInstant" = some m.cls := findClass_of_methodNamed Bd.named
  have hnm := (name_of_methodNamed Bd.named Bd.method).1
  have X0 : Stand p l e ({ frames := 3, cells := 3, slots := 48, locals := 44 } : Room) (s.setVm s.vm) m #[(.ref a1), (.ref c2)] below meth c s₁ [] 0 0 := Stand.of_body Bd
  have e0 : s₁.heap = h0 := by rw [← hh, Bd.state]; rfl
  have N0 := Fr.nil n0
  have pre0 : ∀ t, Steps p.tables e below (s₁.setTop (mkF m 0 #[.val (.ref a1), .val (.ref c2)] [])) t → Steps p.tables e below (s₁.setTop (entryFrame m #[(.ref a1), (.ref c2)] 2)) t := fun t k => castTop (ef_toCom m a1 c2) k
  have P0 : ∀ t, Steps p.tables e below (s₁.setTop (mkF m 0 #[.val (.ref a1), .val (.ref c2)] [])) t → Steps p.tables e below (s₁.setTop (mkF m 0 #[.val (.ref a1), .val (.ref c2)] [])) t := fun t k => k
  have hS0 : s.Since s.vm h0.size := (State.WarmedH.refl s).since _
  have hCR0 : CHr Z own_EL s.vm h0 s.vm h0 := CHr.refl hCH0
  obtain ⟨T308, h308, X308, e308, E308, A308, D308, -, st308⟩ := newO X0 hx hZ hown (hw _ (List.mem_of_getElem? (i := 65) rfl)) (hw _ (List.mem_of_getElem? (i := 34) rfl)) (hw _ (List.mem_of_getElem? (i := 35) rfl)) e0 (g := (mkF m 0 #[.val (.ref a1), .val (.ref c2)] [])) rfl (hb hby d_prog_18_method_4_code_0) (by decide) (by decide)
  obtain ⟨b308, g308⟩ : ∃ z, z = h0.size := ⟨_, rfl⟩
  rw [← g308] at A308 D308 st308
  have g_b308 : n0 ≤ b308 := Nat.le_trans Z0 (Nat.le_of_eq g308.symm)
  have sz_b308 : h0.size ≤ b308 := Nat.le_trans (Keep.refl h0 []).1 (Nat.le_of_eq g308.symm)
  have P309 : ∀ t, Steps p.tables e below (T308.setTop (mkF m 3 #[.val (.ref a1), .val (.ref c2)] [(.ref b308)])) t → Steps p.tables e below (s₁.setTop (mkF m 0 #[.val (.ref a1), .val (.ref c2)] [])) t := fun t k => P0 t (by
    exact st308 _ k)
  have Z310 : n0 ≤ h308.size := Nat.le_trans Z0 E308.1
  have K311 : Keep h0 h308 [] := (Keep.refl h0 []).ext E308
  have O312 : Old Z n0 h308 := Ol.ext E308
  have hk313 : h0.size ≤ h308.size := Nat.le_trans (Nat.le_refl _) E308.1
  have C314 : CHr Z own_EL s.vm h0 s.vm h308 := CHr.ext E308 hCH0
  have R315 : CHr Z own_EL s.vm h0 s.vm h308 := hCR0.trans C314
  have sf_b308 : Safe Z own_EL s.vm h308 b308 := Safe.ext E308 hCH0 (Safe.new (Nat.le_of_eq g308.symm))
  have f316 : Fld Z h308 b308 "com/example/lakebed/lakebed/model/TimelineInstant" "begin" "Ljava/lang/String;" .null := D308 (Or.inr (hw _ (List.mem_of_getElem? (i := 46) rfl))) (ty := (.object "java/lang/String")) (by decide)
  have f317 : Fld Z h308 b308 "com/example/lakebed/lakebed/model/TimelineInstant" "completion" "Ljava/lang/String;" .null := D308 (Or.inr (hw _ (List.mem_of_getElem? (i := 48) rfl))) (ty := (.object "java/lang/String")) (by decide)
  have f318 : Fld Z h308 b308 "com/example/lakebed/lakebed/model/TimelineInstant" "action" "Ljava/lang/String;" .null := D308 (Or.inr (hw _ (List.mem_of_getElem? (i := 50) rfl))) (ty := (.object "java/lang/String")) (by decide)
  have f319 : Fld Z h308 b308 "com/example/lakebed/lakebed/model/TimelineInstant" "state" "Lcom/example/lakebed/lakebed/model/TimelineInstant$State;" .null := D308 (Or.inr (hw _ (List.mem_of_getElem? (i := 52) rfl))) (ty := (.object "com/example/lakebed/lakebed/model/TimelineInstant$State")) (by decide)
  have f320 : Fld Z h308 a1 "com/example/lakebed/lakebed/model/TimelineInstant" "begin" "Ljava/lang/String;" (.ref c1) := (F1.ext E308)
  obtain ⟨T321, X321, e321, st321⟩ := getF X308 hx hZ hown (host := "") (Or.inl (hw _ (List.mem_of_getElem? (i := 45) rfl))) Via.refl e308 f320 (g := (mkF m 5 #[.val (.ref a1), .val (.ref c2)] [(.ref a1), (.ref b308), (.ref b308)])) rfl rfl (hb hby d_prog_18_method_4_code_5)
  have P322 : ∀ t, Steps p.tables e below (T321.setTop (mkF m 8 #[.val (.ref a1), .val (.ref c2)] [(.ref c1), (.ref b308), (.ref b308)])) t → Steps p.tables e below (s₁.setTop (mkF m 0 #[.val (.ref a1), .val (.ref c2)] [])) t := fun t k => P309 t (by
    show Steps p.tables e below (T308.setTop (mkF m 3 #[.val (.ref a1), .val (.ref c2)] [(.ref b308)])) _
    refine XS.dup X308.here hx rfl (hb hby d_prog_18_method_4_code_3) rfl rfl ?_
    show Steps p.tables e below (T308.setTop (mkF m 4 #[.val (.ref a1), .val (.ref c2)] [(.ref b308), (.ref b308)])) _
    refine XS.aloadN X308.here hx rfl (hb hby d_prog_18_method_4_code_4) rfl rfl ?_
    show Steps p.tables e below (T308.setTop (mkF m 5 #[.val (.ref a1), .val (.ref c2)] [(.ref a1), (.ref b308), (.ref b308)])) _
    exact st321 _ k)
  have f323 : Fld Z h308 a1 "com/example/lakebed/lakebed/model/TimelineInstant" "action" "Ljava/lang/String;" (.ref c3) := (F3.ext E308)
  have f324 : Exa Z h308 c3 "java/lang/String" := (E3.ext E308)
  have f325 : Fld Z h308 c3 "java/lang/String" "value" "[B" (.ref t3) := (Fv.ext E308)
  have f326 : Fld Z h308 c3 "java/lang/String" "coder" "B" (.int 0) := (Fc.ext E308)
  have f327 : Arv Z h308 t3 k3 .byte (Int32.ofNat cs.length) ((cs.map (fun c => c.toInt8.toInt32)).map Value.int) (.int 0) := (A3.ext E308)
  have f329 : Exa Z h308 a1 "com/example/lakebed/lakebed/model/TimelineInstant" := (E1.ext E308)
  obtain ⟨cq328, q328a, q328b⟩ := f329.cell
  obtain ⟨_, _, ⟨T328, L328, k328, n328⟩, -, X328, hs328, hg328, ⟨Lc328, hQ328, l328, y328, z328, cr328⟩, st328⟩ := X321.privateBackS hx (y := (⟨"com/example/lakebed/lakebed/model/TimelineInstant", "completedAction", "()Ljava/lang/String;"⟩ : MethodName)) hown (mvT hZ (hw _ (List.mem_of_getElem? (i := 74) rfl))) (mvT hZ (hw _ (List.mem_of_getElem? (i := 75) rfl))) (own_selPriv (y2 := (⟨"com/example/lakebed/lakebed/model/TimelineInstant", "isCompleted", "()Z"⟩ : MethodName)) rfl (mvT hZ (hw _ (List.mem_of_getElem? (i := 75) rfl))) (Cond.privateMethod_at (mvP hZ (hw _ (List.mem_of_getElem? (i := 76) rfl)) (args := #[]))) (mvT hZ (hw _ (List.mem_of_getElem? (i := 56) rfl)) (args := #[])) (by decide)) (Cond.privateMethod_at (mvP hZ (hw _ (List.mem_of_getElem? (i := 76) rfl)) (args := #[]))) (mvT hZ (hw _ (List.mem_of_getElem? (i := 77) rfl))) (by decide) (backOfSH (W := 4) (rm_cAct l Z a0 hw [] a1 c3 t3 k3 cs G1 h308 n0 Z310 Sg P5 f323 f324 f325 f326 f327 hlen hbb O312) hZ (hw _ (List.mem_of_getElem? (i := 77) rfl)) (hw _ (List.mem_of_getElem? (i := 35) rfl)) (by decide) (by decide) (own_EW hw) C314.1) (g := (mkF m 10 #[.val (.ref a1), .val (.ref c2)] [(.ref a1), (.ref c2), (.ref c1), (.ref b308), (.ref b308)])) rfl (by rw [hml]; rfl) (Steps.refl _) (a := a1) (by rw [e321]; exact q328a) q328b (argsL := []) (rest := [(.ref c2), (.ref c1), (.ref b308), (.ref b308)]) (lenOf pd__28_29Ljava_2flang_2fString_3b rfl) rfl (by show 2 * 0 + _ ≤ _; exact Nat.le_of_eq rfl) (hb hby d_prog_18_method_4_code_10) (fun _ _ => ⟨rfl, e321, (Nat.le_of_ble_eq_true rfl : 1 + 2 ≤ _), (Nat.le_of_ble_eq_true rfl : 4 + 44 ≤ _)⟩)
  dsimp only [Pt.U, Pt.locs, Pt.cells, Pt.slots] at X328 l328 y328 z328 st328 hQ328 hs328 hg328 cr328
  subst l328 y328 z328
  obtain ⟨rfl, Nq328, Kk328⟩ := hQ328
  obtain ⟨Xr328, hSr328, hZr328, ho328⟩ := rebS hS0 (by rw [e321]; exact hk313) X328 hs328 hg328 hZ hown
  have N330 := Fr.app N0 Nq328
  have P331 : ∀ t, Steps p.tables e below (T328.setTop (mkF m 13 #[.val (.ref a1), .val (.ref c2)] [(.ref c3), (.ref c2), (.ref c1), (.ref b308), (.ref b308)])) t → Steps p.tables e below (s₁.setTop (mkF m 0 #[.val (.ref a1), .val (.ref c2)] [])) t := fun t k => P322 t (by
    show Steps p.tables e below (T321.setTop (mkF m 8 #[.val (.ref a1), .val (.ref c2)] [(.ref c1), (.ref b308), (.ref b308)])) _
    refine XS.aloadN X321.here hx rfl (hb hby d_prog_18_method_4_code_8) rfl rfl ?_
    show Steps p.tables e below (T321.setTop (mkF m 9 #[.val (.ref a1), .val (.ref c2)] [(.ref c2), (.ref c1), (.ref b308), (.ref b308)])) _
    refine XS.aloadN X321.here hx rfl (hb hby d_prog_18_method_4_code_9) rfl rfl ?_
    show Steps p.tables e below (T321.setTop (mkF m 10 #[.val (.ref a1), .val (.ref c2)] [(.ref a1), (.ref c2), (.ref c1), (.ref b308), (.ref b308)])) _
    exact st328.trans k)
  have Z332 : n0 ≤ T328.heap.size := Nat.le_trans Z310 Kk328.1
  have K333 : Keep h0 T328.heap [] := K311.trans Kk328 (all0)
  have O334 : Old Z n0 T328.heap := O312.keep Kk328 all0
  have R335 : CHr Z own_EL s.vm h0 T328.vm T328.heap := R315.trans cr328
  obtain ⟨T336, X336, e336, st336⟩ := getS2 Xr328 hx hZr328 ho328 (host := "") (Or.inl (hw _ (List.mem_of_getElem? (i := 58) rfl))) Via.refl rfl (S1.ext O334.2) (g := (mkF m 13 #[.val (.ref a1), .val (.ref c2)] [(.ref c3), (.ref c2), (.ref c1), (.ref b308), (.ref b308)])) rfl (hb hby d_prog_18_method_4_code_13)
  have P337 : ∀ t, Steps p.tables e below (T336.setTop (mkF m 16 #[.val (.ref a1), .val (.ref c2)] [(.ref r1), (.ref c3), (.ref c2), (.ref c1), (.ref b308), (.ref b308)])) t → Steps p.tables e below (s₁.setTop (mkF m 0 #[.val (.ref a1), .val (.ref c2)] [])) t := fun t k => P331 t (by
    show Steps p.tables e below (T328.setTop (mkF m 13 #[.val (.ref a1), .val (.ref c2)] [(.ref c3), (.ref c2), (.ref c1), (.ref b308), (.ref b308)])) _
    exact st336 _ k)
  have f338 : Exa Z T328.heap b308 "com/example/lakebed/lakebed/model/TimelineInstant" := (A308.keep Kk328)
  have f339 : Fld Z T328.heap b308 "com/example/lakebed/lakebed/model/TimelineInstant" "begin" "Ljava/lang/String;" .null := (f316.keep Kk328 nin0)
  have f340 : Fld Z T328.heap b308 "com/example/lakebed/lakebed/model/TimelineInstant" "completion" "Ljava/lang/String;" .null := (f317.keep Kk328 nin0)
  have f341 : Fld Z T328.heap b308 "com/example/lakebed/lakebed/model/TimelineInstant" "action" "Ljava/lang/String;" .null := (f318.keep Kk328 nin0)
  have f342 : Fld Z T328.heap b308 "com/example/lakebed/lakebed/model/TimelineInstant" "state" "Lcom/example/lakebed/lakebed/model/TimelineInstant$State;" .null := (f319.keep Kk328 nin0)
  obtain ⟨_, _, ⟨T343, L343, k343, n343⟩, -, X343, ⟨Lc343, hQ343, l343, y343, z343⟩, st343⟩ := X336.specialBack hx (y := (⟨"com/example/lakebed/lakebed/model/TimelineInstant", "<init>", "(Ljava/lang/String;Ljava/lang/String;Ljava/lang/String;Lcom/example/lakebed/lakebed/model/TimelineInstant$State;)V"⟩ : MethodName)) rfl ho328 (mvT hZr328 (hw _ (List.mem_of_getElem? (i := 68) rfl))) (mvT hZr328 (hw _ (List.mem_of_getElem? (i := 37) rfl))) (mvT hZr328 (hw _ (List.mem_of_getElem? (i := 38) rfl))) (by decide) (backOf (W := 1) (rm_ctor l Z a0 hw [] b308 c1 (.ref c2) c3 r1 T328.heap n0 Z332 rfl g_b308 f338 f339 f340 f341 f342) hZr328 (hw _ (List.mem_of_getElem? (i := 38) rfl)) (hw _ (List.mem_of_getElem? (i := 35) rfl)) (by decide) (by decide)) (g := (mkF m 16 #[.val (.ref a1), .val (.ref c2)] [(.ref r1), (.ref c3), (.ref c2), (.ref c1), (.ref b308), (.ref b308)])) rfl (by rw [hml]; rfl) (Steps.refl _) (a := b308) (argsL := [(.ref c1), (.ref c2), (.ref c3), (.ref r1)]) (rest := [(.ref b308)]) (lenOf pd__28Ljava_2flang_2fString_3bLjava_2flang_2fString_3bLjava_2flang_2fString_3bLcom_2fexample_2flakebed_2flakebed_2fmodel_2fTimelineInstant_24State_3b_29V rfl) rfl (by show 2 * 0 + _ ≤ _; exact Nat.le_of_eq rfl) (hb hby d_prog_18_method_4_code_16) (fun _ _ => ⟨rfl, e336, (Nat.le_of_ble_eq_true rfl : 3 + 0 ≤ _), (Nat.le_of_ble_eq_true rfl : 48 + 0 ≤ _)⟩)
  dsimp only [Pt.U, Pt.locs, Pt.cells, Pt.slots] at X343 l343 y343 z343 st343 hQ343
  subst l343 y343 z343
  obtain ⟨rfl, Nq343, Kk343, Ek343, F0_343, F1_343, F2_343, F3_343⟩ := hQ343
  have N344 := Fr.app N330 Nq343
  have P345 : ∀ t, Steps p.tables e below (T343.setTop (mkF m 19 #[.val (.ref a1), .val (.ref c2)] [(.ref b308)])) t → Steps p.tables e below (s₁.setTop (mkF m 0 #[.val (.ref a1), .val (.ref c2)] [])) t := fun t k => P337 t (by
    show Steps p.tables e below (T336.setTop (mkF m 16 #[.val (.ref a1), .val (.ref c2)] [(.ref r1), (.ref c3), (.ref c2), (.ref c1), (.ref b308), (.ref b308)])) _
    exact st343.trans k)
  have Z346 : n0 ≤ T343.heap.size := Nat.le_trans Z332 Kk343.1
  have K347 : Keep h0 T343.heap [] := K333.trans Kk343 ((allS (Or.inr sz_b308) all0))
  have O348 : Old Z n0 T343.heap := O334.keep Kk343 (allS g_b308 all0)
  have hk349 : T328.heap.size ≤ T343.heap.size := Nat.le_trans (Nat.le_refl _) Kk343.1
  have C350 : CHr Z own_EL T328.vm T328.heap T328.vm T343.heap := CHr.keep Kk343 (sfS (Safe.exa hZr328.alike f338 (by decide) (by decide)) sf0) cr328.1
  have R351 : CHr Z own_EL s.vm h0 T328.vm T343.heap := R335.trans C350
  obtain ⟨fs352, hr352, hrun352, hended352, hRW352⟩ := X343.leaveW (v := some (.ref b308)) hSr328 hk349 (fun h => by rw [Bd.returns] at h; cases h)
  have hce352 : CHr Z own_EL s.vm s.heap T343.vm T343.heap := by
    rw [hh]
    exact R351.trans (CHv.at X343 hZr328 (own_EW hw) C350.1)
  refine ⟨_, _, pre0 _ (P345 _ ?_), hrun352, hended352, _, _, rfl, ?_, hce352, ⟨hRW352.1, hRW352.2.1, hRW352.2.2.1, hRW352.2.2.2.mono (Nat.le_of_ble_eq_true rfl) (Nat.le_of_ble_eq_true rfl)⟩⟩
  · show Steps p.tables e below (T343.setTop (mkF m 19 #[.val (.ref a1), .val (.ref c2)] [(.ref b308)])) _
    exact retOut X343 hx Bd.returns rfl (Or.inr (Or.inr (Or.inr (Or.inr ⟨rfl, rfl, rfl⟩)))) (hb hby d_prog_18_method_4_code_19) hr352
  · show Q_toCom Z r1 h0 n0 _ T343.heap _
    exact ⟨b308, rfl, N344, sz_b308, K347, Ek343, F3_343⟩

theorem d_prog_18_method_2_code_0 : decode prog_18_method_2_code 0 = .ok (.new 8, 3) := by decide +kernel
theorem d_prog_18_method_2_code_3 : decode prog_18_method_2_code 3 = .ok (.dup, 1) := by decide +kernel
theorem d_prog_18_method_2_code_4 : decode prog_18_method_2_code 4 = .ok (.aload_n 0, 1) := by decide +kernel
theorem d_prog_18_method_2_code_5 : decode prog_18_method_2_code 5 = .ok (.aconst_null, 1) := by decide +kernel
theorem d_prog_18_method_2_code_6 : decode prog_18_method_2_code 6 = .ok (.aload_n 1, 1) := by decide +kernel
theorem d_prog_18_method_2_code_7 : decode prog_18_method_2_code 7 = .ok (.getstatic 23, 3) := by decide +kernel
theorem d_prog_18_method_2_code_10 : decode prog_18_method_2_code 10 = .ok (.invokespecial 28, 3) := by decide +kernel
theorem d_prog_18_method_2_code_13 : decode prog_18_method_2_code 13 = .ok (.areturn, 1) := by decide +kernel
theorem ef_req (m : MethodId) (x0 : Addr) (x1 : Addr) : entryFrame m #[(.ref x0), (.ref x1)] 2 = mkF m 0 #[.val (.ref x0), .val (.ref x1)] [] := by (first | (simp [entryFrame, mkF, argsToLocals, Value.category]; done) | rfl)
def Q_req (Z : State) (r0 : Addr) (h0 : Heap) (n0 : Nat) (v : Option Value) (h : Heap) (L : List Loc) : Prop := ∃ b : Addr, v = some (.ref b) ∧ Fr n0 L ∧ h0.size ≤ b ∧ Keep h0 h [] ∧ Exa Z h b "com/example/lakebed/lakebed/model/TimelineInstant" ∧ Fld Z h b "com/example/lakebed/lakebed/model/TimelineInstant" "state" "Lcom/example/lakebed/lakebed/model/TimelineInstant$State;" (.ref r0)
set_option maxRecDepth 65536 in
set_option maxHeartbeats 40000000 in
theorem rm_req (l : Launch) (Z : State) (a0 : Array Value) (hw : ∀ d ∈ tables_1, d.before a0 Z = true) (ws : List Jvm.Cond) (c1 c3 : Addr) (r0 r1 r2 : Addr) (h0 : Heap) (n0 : Nat) (Z0 : n0 ≤ h0.size) (S0 : Sta Z Z.heap "com/example/lakebed/lakebed/model/TimelineInstant$State" "REQUESTED" "Lcom/example/lakebed/lakebed/model/TimelineInstant$State;" (.ref r0)) (S1 : Sta Z Z.heap "com/example/lakebed/lakebed/model/TimelineInstant$State" "COMPLETED" "Lcom/example/lakebed/lakebed/model/TimelineInstant$State;" (.ref r1)) (S2 : Sta Z Z.heap "com/example/lakebed/lakebed/model/TimelineInstant$State" "INFLIGHT" "Lcom/example/lakebed/lakebed/model/TimelineInstant$State;" (.ref r2)) (Ol : Old Z n0 h0) :
    MetFree l (⟨"com/example/lakebed/lakebed/model/TimelineInstant", "requested", "(Ljava/lang/String;Ljava/lang/String;)Lcom/example/lakebed/lakebed/model/TimelineInstant;"⟩ : MethodName) (head1 (Jvm.Cond.code (⟨"com/example/lakebed/lakebed/model/TimelineInstant", "requested", "(Ljava/lang/String;Ljava/lang/String;)Lcom/example/lakebed/lakebed/model/TimelineInstant;"⟩ : MethodName) prog_18_method_2_code 2 (some (.object "com/example/lakebed/lakebed/model/TimelineInstant")) :: ws) ({ frames := 3, cells := 1, slots := 4, locals := 41 } : Room)) (fun a U => a = #[(.ref c1), (.ref c3)] ∧ Z.Warmed39 U.vm ∧ U.heap = h0) (fun _ _ _ _ _ => True) (fun _ U o U' => ∃ v L, o = .returned v ∧ Q_req Z r0 h0 n0 v U'.heap L ∧ FrameEnd U o U' L ({ frames := 3, cells := 1, slots := 4, locals := 41 } : Room).cells ({ frames := 3, cells := 1, slots := 4, locals := 41 } : Room).slots) := by
  refine MetFree.of_bodySF (plainFor_of_name pn_com_example_lakebed_lakebed_model_TimelineInstant) hisR ?_
  intro p e s m args below meth c s₁ Bd hml0 hP hK
  obtain ⟨rfl, hZ, hh⟩ := hP
  have hx := Bd.exec
  have hby := Bd.bytes
  have hml : c.maxLocals = 2 := hml0
  have hown : s.vm.findClass "com/example/lakebed/lakebed/model/TimelineInstant" = some m.cls := findClass_of_methodNamed Bd.named
  have hnm := (name_of_methodNamed Bd.named Bd.method).1
  have X0 : Stand p l e ({ frames := 3, cells := 1, slots := 4, locals := 41 } : Room) s m #[(.ref c1), (.ref c3)] below meth c s₁ [] 0 0 := Stand.of_body Bd
  have e0 : s₁.heap = h0 := by rw [← hh, Bd.state]; rfl
  have N0 := Fr.nil n0
  have pre0 : ∀ t, Steps p.tables e below (s₁.setTop (mkF m 0 #[.val (.ref c1), .val (.ref c3)] [])) t → Steps p.tables e below (s₁.setTop (entryFrame m #[(.ref c1), (.ref c3)] 2)) t := fun t k => castTop (ef_req m c1 c3) k
  have P0 : ∀ t, Steps p.tables e below (s₁.setTop (mkF m 0 #[.val (.ref c1), .val (.ref c3)] [])) t → Steps p.tables e below (s₁.setTop (mkF m 0 #[.val (.ref c1), .val (.ref c3)] [])) t := fun t k => k
  obtain ⟨T353, h353, X353, e353, E353, A353, D353, -, st353⟩ := newO X0 hx hZ hown (hw _ (List.mem_of_getElem? (i := 65) rfl)) (hw _ (List.mem_of_getElem? (i := 34) rfl)) (hw _ (List.mem_of_getElem? (i := 35) rfl)) e0 (g := (mkF m 0 #[.val (.ref c1), .val (.ref c3)] [])) rfl (hb hby d_prog_18_method_2_code_0) (by decide) (by decide)
  obtain ⟨b353, g353⟩ : ∃ z, z = h0.size := ⟨_, rfl⟩
  rw [← g353] at A353 D353 st353
  have g_b353 : n0 ≤ b353 := Nat.le_trans Z0 (Nat.le_of_eq g353.symm)
  have sz_b353 : h0.size ≤ b353 := Nat.le_trans (Keep.refl h0 []).1 (Nat.le_of_eq g353.symm)
  have P354 : ∀ t, Steps p.tables e below (T353.setTop (mkF m 3 #[.val (.ref c1), .val (.ref c3)] [(.ref b353)])) t → Steps p.tables e below (s₁.setTop (mkF m 0 #[.val (.ref c1), .val (.ref c3)] [])) t := fun t k => P0 t (by
    exact st353 _ k)
  have Z355 : n0 ≤ h353.size := Nat.le_trans Z0 E353.1
  have K356 : Keep h0 h353 [] := (Keep.refl h0 []).ext E353
  have O357 : Old Z n0 h353 := Ol.ext E353
  have f358 : Fld Z h353 b353 "com/example/lakebed/lakebed/model/TimelineInstant" "begin" "Ljava/lang/String;" .null := D353 (Or.inr (hw _ (List.mem_of_getElem? (i := 46) rfl))) (ty := (.object "java/lang/String")) (by decide)
  have f359 : Fld Z h353 b353 "com/example/lakebed/lakebed/model/TimelineInstant" "completion" "Ljava/lang/String;" .null := D353 (Or.inr (hw _ (List.mem_of_getElem? (i := 48) rfl))) (ty := (.object "java/lang/String")) (by decide)
  have f360 : Fld Z h353 b353 "com/example/lakebed/lakebed/model/TimelineInstant" "action" "Ljava/lang/String;" .null := D353 (Or.inr (hw _ (List.mem_of_getElem? (i := 50) rfl))) (ty := (.object "java/lang/String")) (by decide)
  have f361 : Fld Z h353 b353 "com/example/lakebed/lakebed/model/TimelineInstant" "state" "Lcom/example/lakebed/lakebed/model/TimelineInstant$State;" .null := D353 (Or.inr (hw _ (List.mem_of_getElem? (i := 52) rfl))) (ty := (.object "com/example/lakebed/lakebed/model/TimelineInstant$State")) (by decide)
  obtain ⟨T362, X362, e362, st362⟩ := getS2 X353 hx hZ hown (host := "") (Or.inl (hw _ (List.mem_of_getElem? (i := 93) rfl))) Via.refl e353 (S0.ext O357.2) (g := (mkF m 7 #[.val (.ref c1), .val (.ref c3)] [(.ref c3), .null, (.ref c1), (.ref b353), (.ref b353)])) rfl (hb hby d_prog_18_method_2_code_7)
  have P363 : ∀ t, Steps p.tables e below (T362.setTop (mkF m 10 #[.val (.ref c1), .val (.ref c3)] [(.ref r0), (.ref c3), .null, (.ref c1), (.ref b353), (.ref b353)])) t → Steps p.tables e below (s₁.setTop (mkF m 0 #[.val (.ref c1), .val (.ref c3)] [])) t := fun t k => P354 t (by
    show Steps p.tables e below (T353.setTop (mkF m 3 #[.val (.ref c1), .val (.ref c3)] [(.ref b353)])) _
    refine XS.dup X353.here hx rfl (hb hby d_prog_18_method_2_code_3) rfl rfl ?_
    show Steps p.tables e below (T353.setTop (mkF m 4 #[.val (.ref c1), .val (.ref c3)] [(.ref b353), (.ref b353)])) _
    refine XS.aloadN X353.here hx rfl (hb hby d_prog_18_method_2_code_4) rfl rfl ?_
    show Steps p.tables e below (T353.setTop (mkF m 5 #[.val (.ref c1), .val (.ref c3)] [(.ref c1), (.ref b353), (.ref b353)])) _
    refine XS.aconstNull X353.here hx rfl (hb hby d_prog_18_method_2_code_5) ?_
    show Steps p.tables e below (T353.setTop (mkF m 6 #[.val (.ref c1), .val (.ref c3)] [.null, (.ref c1), (.ref b353), (.ref b353)])) _
    refine XS.aloadN X353.here hx rfl (hb hby d_prog_18_method_2_code_6) rfl rfl ?_
    show Steps p.tables e below (T353.setTop (mkF m 7 #[.val (.ref c1), .val (.ref c3)] [(.ref c3), .null, (.ref c1), (.ref b353), (.ref b353)])) _
    exact st362 _ k)
  obtain ⟨_, _, ⟨T364, L364, k364, n364⟩, -, X364, ⟨Lc364, hQ364, l364, y364, z364⟩, st364⟩ := X362.specialBack hx (y := (⟨"com/example/lakebed/lakebed/model/TimelineInstant", "<init>", "(Ljava/lang/String;Ljava/lang/String;Ljava/lang/String;Lcom/example/lakebed/lakebed/model/TimelineInstant$State;)V"⟩ : MethodName)) rfl hown (mvT hZ (hw _ (List.mem_of_getElem? (i := 68) rfl))) (mvT hZ (hw _ (List.mem_of_getElem? (i := 37) rfl))) (mvT hZ (hw _ (List.mem_of_getElem? (i := 38) rfl))) (by decide) (backOf (W := 1) (rm_ctor l Z a0 hw [] b353 c1 .null c3 r0 h353 n0 Z355 rfl g_b353 A353 f358 f359 f360 f361) hZ (hw _ (List.mem_of_getElem? (i := 38) rfl)) (hw _ (List.mem_of_getElem? (i := 35) rfl)) (by decide) (by decide)) (g := (mkF m 10 #[.val (.ref c1), .val (.ref c3)] [(.ref r0), (.ref c3), .null, (.ref c1), (.ref b353), (.ref b353)])) rfl (by rw [hml]; rfl) (Steps.refl _) (a := b353) (argsL := [(.ref c1), .null, (.ref c3), (.ref r0)]) (rest := [(.ref b353)]) (lenOf pd__28Ljava_2flang_2fString_3bLjava_2flang_2fString_3bLjava_2flang_2fString_3bLcom_2fexample_2flakebed_2flakebed_2fmodel_2fTimelineInstant_24State_3b_29V rfl) rfl (by show 2 * 0 + _ ≤ _; exact Nat.le_of_eq rfl) (hb hby d_prog_18_method_2_code_10) (fun _ _ => ⟨rfl, e362, (Nat.le_of_ble_eq_true rfl : 1 + 0 ≤ _), (Nat.le_of_ble_eq_true rfl : 4 + 0 ≤ _)⟩)
  dsimp only [Pt.U, Pt.locs, Pt.cells, Pt.slots] at X364 l364 y364 z364 st364 hQ364
  subst l364 y364 z364
  obtain ⟨rfl, Nq364, Kk364, Ek364, F0_364, F1_364, F2_364, F3_364⟩ := hQ364
  have N365 := Fr.app N0 Nq364
  have P366 : ∀ t, Steps p.tables e below (T364.setTop (mkF m 13 #[.val (.ref c1), .val (.ref c3)] [(.ref b353)])) t → Steps p.tables e below (s₁.setTop (mkF m 0 #[.val (.ref c1), .val (.ref c3)] [])) t := fun t k => P363 t (by
    show Steps p.tables e below (T362.setTop (mkF m 10 #[.val (.ref c1), .val (.ref c3)] [(.ref r0), (.ref c3), .null, (.ref c1), (.ref b353), (.ref b353)])) _
    exact st364.trans k)
  have Z367 : n0 ≤ T364.heap.size := Nat.le_trans Z355 Kk364.1
  have K368 : Keep h0 T364.heap [] := K356.trans Kk364 ((allS (Or.inr sz_b353) all0))
  have O369 : Old Z n0 T364.heap := O357.keep Kk364 (allS g_b353 all0)
  obtain ⟨fs370, hr370, hrun370, hended370, hW370, hsame370⟩ := X364.leave (v := some (.ref b353)) (fun h => by rw [Bd.returns] at h; cases h)
  refine ⟨_, _, pre0 _ (P366 _ ?_), hrun370, hended370, _, _, rfl, ?_, ⟨⟨_, rfl⟩, hW370, hsame370.mono (Nat.le_of_ble_eq_true rfl) (Nat.le_of_ble_eq_true rfl)⟩⟩
  · show Steps p.tables e below (T364.setTop (mkF m 13 #[.val (.ref c1), .val (.ref c3)] [(.ref b353)])) _
    exact retOut X364 hx Bd.returns rfl (Or.inr (Or.inr (Or.inr (Or.inr ⟨rfl, rfl, rfl⟩)))) (hb hby d_prog_18_method_2_code_13) hr370
  · show Q_req Z r0 h0 n0 _ T364.heap _
    exact ⟨b353, rfl, N365, sz_b353, K368, Ek364, F3_364⟩

theorem own_m3 (k : Int32) : (k &&& (2147483647 : Int32)) % (3 : Int32) = 0 ∨ (k &&& (2147483647 : Int32)) % (3 : Int32) = 1 ∨ (k &&& (2147483647 : Int32)) % (3 : Int32) = 2 := by
  have h0 := (c_and k (2147483647 : Int32) (by decide)).1
  have h1 := (c_irem (k &&& (2147483647 : Int32)) 3 3 rfl).1 h0
  have h2 : ((k &&& (2147483647 : Int32)) % (3 : Int32)).toInt = 0 ∨ ((k &&& (2147483647 : Int32)) % (3 : Int32)).toInt = 1 ∨ ((k &&& (2147483647 : Int32)) % (3 : Int32)).toInt = 2 := by omega
  rcases h2 with h | h | h
  · exact Or.inl (Int32.toInt_inj.mp h)
  · exact Or.inr (Or.inl (Int32.toInt_inj.mp h))
  · exact Or.inr (Or.inr (Int32.toInt_inj.mp h))
theorem own_state {m : Int32} (hm : m = 0 ∨ m = 1 ∨ m = 2) {r r0 r1 r2 : Addr} (hr : r = (if m = (0 : Int32) then r0 else if m = (1 : Int32) then r2 else r1)) (n0 : ¬ r0 = r1) (n2 : ¬ r2 = r1) : (if r = r1 then (1 : Int32) else (0 : Int32)) = (if m = (2 : Int32) then (1 : Int32) else (0 : Int32)) := by
  subst hr
  rcases hm with rfl | rfl | rfl
  · simp [n0]
  · simp [n2]
  · simp

theorem pd__28I_29Lcom_2fexample_2flakebed_2flakebed_2fmodel_2fTimelineInstant_24State_3b : parseMethodDescriptor "(I)Lcom/example/lakebed/lakebed/model/TimelineInstant$State;" = some ⟨[.int], some (.object "com/example/lakebed/lakebed/model/TimelineInstant$State")⟩ := by decide +kernel
theorem pd__28I_29Ljava_2flang_2fString_3b : parseMethodDescriptor "(I)Ljava/lang/String;" = some ⟨[.int], some (.object "java/lang/String")⟩ := by decide +kernel
theorem pd__28_29Z : parseMethodDescriptor "()Z" = some ⟨[], some .boolean⟩ := by decide +kernel
theorem pd__28_29Lcom_2fexample_2flakebed_2flakebed_2fmodel_2fTimelineInstant_3b : parseMethodDescriptor "()Lcom/example/lakebed/lakebed/model/TimelineInstant;" = some ⟨[], some (.object "com/example/lakebed/lakebed/model/TimelineInstant")⟩ := by decide +kernel
theorem pd__28Ljava_2flang_2fString_3b_29Lcom_2fexample_2flakebed_2flakebed_2fmodel_2fTimelineInstant_3b : parseMethodDescriptor "(Ljava/lang/String;)Lcom/example/lakebed/lakebed/model/TimelineInstant;" = some ⟨[(.object "java/lang/String")], some (.object "com/example/lakebed/lakebed/model/TimelineInstant")⟩ := by decide +kernel
theorem pd__28Ljava_2flang_2fString_3bLjava_2flang_2fString_3b_29Lcom_2fexample_2flakebed_2flakebed_2fmodel_2fTimelineInstant_3b : parseMethodDescriptor "(Ljava/lang/String;Ljava/lang/String;)Lcom/example/lakebed/lakebed/model/TimelineInstant;" = some ⟨[(.object "java/lang/String"), (.object "java/lang/String")], some (.object "com/example/lakebed/lakebed/model/TimelineInstant")⟩ := by decide +kernel
theorem ef_law (m : MethodId) (x0 : Int32) (x1 : Int32) (x2 : Int32) (x3 : Int32) (x4 : Int32) : entryFrame m #[(.int x0), (.int x1), (.int x2), (.int x3), (.int x4)] maxLocals = mkF m 0 #[.val (.int x0), .val (.int x1), .val (.int x2), .val (.int x3), .val (.int x4), .unset, .unset, .unset, .unset, .unset, .unset, .unset, .unset, .unset, .unset, .unset, .unset] [] := by (first | (simp [entryFrame, mkF, argsToLocals, Value.category, maxLocals]; done) | rfl)
def Q_law  (h0 : Heap) (n0 : Nat) (v : Option Value) (h : Heap) (L : List Loc) : Prop := v = some (.int 1) ∧ Fr n0 L
set_option maxRecDepth 65536 in
set_option maxHeartbeats 40000000 in
theorem rm_law (l : Launch) (Z : State) (a0 : Array Value) (hw : ∀ d ∈ tables_1, d.before a0 Z = true) (ws : List Jvm.Cond) (p0 p1 p2 p3 p4 : Int32) (G1 : Int32) (r0 r1 r2 : Addr) (h0 : Heap) (n0 : Nat) (Z0 : n0 ≤ h0.size) (Sg : Sta Z Z.heap "java/lang/String" "COMPACT_STRINGS" "Z" (.int G1)) (P5 : ¬ (G1 = (0 : Int32))) (S0 : Sta Z Z.heap "com/example/lakebed/lakebed/model/TimelineInstant$State" "REQUESTED" "Lcom/example/lakebed/lakebed/model/TimelineInstant$State;" (.ref r0)) (S1 : Sta Z Z.heap "com/example/lakebed/lakebed/model/TimelineInstant$State" "COMPLETED" "Lcom/example/lakebed/lakebed/model/TimelineInstant$State;" (.ref r1)) (S2 : Sta Z Z.heap "com/example/lakebed/lakebed/model/TimelineInstant$State" "INFLIGHT" "Lcom/example/lakebed/lakebed/model/TimelineInstant$State;" (.ref r2)) (Ol : Old Z n0 h0) (nr0 : ¬ r0 = r1) (nr2 : ¬ r2 = r1) :
    MetFree l x (head1 (Jvm.Cond.code x code maxLocals ret :: ws) room_1) (fun a U => a = #[(.int p0), (.int p1), (.int p2), (.int p3), (.int p4)] ∧ Z.Warmed39 U.vm ∧ U.heap = h0 ∧ CHv Z own_EL U.vm h0) (fun _ _ _ _ _ => True) (fun _ U o U' => ∃ v L, o = .returned v ∧ Q_law  h0 n0 v U'.heap L ∧ CHr Z own_EL U.vm U.heap U'.vm U'.heap ∧ ReturnedEndW U o U' L 48 2240) := by
  refine MetFree.of_bodySF (plainFor_of_name pn_com_example_lakebed_lakebed_model_TimelineInstantIsCompletedPinLaw) hisR ?_
  intro p e s m args below meth c s₁ Bd hml0 hP hK
  obtain ⟨rfl, hZ, hh, hCH0⟩ := hP
  have hx := Bd.exec
  have hby := Bd.bytes
  have hml : c.maxLocals = 17 := hml0
  have hown : s.vm.findClass "com/example/lakebed/lakebed/model/TimelineInstantIsCompletedPinLaw" = some m.cls := findClass_of_methodNamed Bd.named
  have hnm := (name_of_methodNamed Bd.named Bd.method).1
  have X0 : Stand p l e room_1 (s.setVm s.vm) m #[(.int p0), (.int p1), (.int p2), (.int p3), (.int p4)] below meth c s₁ [] 0 0 := Stand.of_body Bd
  have e0 : s₁.heap = h0 := by rw [← hh, Bd.state]; rfl
  have N0 := Fr.nil n0
  have pre0 : ∀ t, Steps p.tables e below (s₁.setTop (mkF m 0 #[.val (.int p0), .val (.int p1), .val (.int p2), .val (.int p3), .val (.int p4), .unset, .unset, .unset, .unset, .unset, .unset, .unset, .unset, .unset, .unset, .unset, .unset] [])) t → Steps p.tables e below (s₁.setTop (entryFrame m #[(.int p0), (.int p1), (.int p2), (.int p3), (.int p4)] maxLocals)) t := fun t k => castTop (ef_law m p0 p1 p2 p3 p4) k
  have P0 : ∀ t, Steps p.tables e below (s₁.setTop (mkF m 0 #[.val (.int p0), .val (.int p1), .val (.int p2), .val (.int p3), .val (.int p4), .unset, .unset, .unset, .unset, .unset, .unset, .unset, .unset, .unset, .unset, .unset, .unset] [])) t → Steps p.tables e below (s₁.setTop (mkF m 0 #[.val (.int p0), .val (.int p1), .val (.int p2), .val (.int p3), .val (.int p4), .unset, .unset, .unset, .unset, .unset, .unset, .unset, .unset, .unset, .unset, .unset, .unset] [])) t := fun t k => k
  have hS0 : s.Since s.vm h0.size := (State.WarmedH.refl s).since _
  have hCR0 : CHr Z own_EL s.vm h0 s.vm h0 := CHr.refl hCH0
  obtain ⟨_, _, ⟨T371, L371, k371, n371⟩, -, X371, ⟨Lc371, hQ371, l371, y371, z371⟩, st371⟩ := Jvm.LawKit.callS X0 hx (y := (⟨"com/example/lakebed/lakebed/model/TimelineInstantIsCompletedPinLaw", "stateOf", "(I)Lcom/example/lakebed/lakebed/model/TimelineInstant$State;"⟩ : MethodName)) hown (mvT hZ (hw _ (List.mem_of_getElem? (i := 1) rfl))) (mvT hZ (hw _ (List.mem_of_getElem? (i := 2) rfl))) (mvT hZ (hw _ (List.mem_of_getElem? (i := 3) rfl))) (mvT hZ (hw _ (List.mem_of_getElem? (i := 4) rfl))) (by decide) (backOf (W := 0) (rm_stateOf l Z a0 hw [] ((p0 &&& (2147483647 : Int32)) % (3 : Int32)) r0 r1 r2 h0 n0 Z0 S0 S1 S2 Ol) hZ (hw _ (List.mem_of_getElem? (i := 4) rfl)) (hw _ (List.mem_of_getElem? (i := 3) rfl)) (by decide) (by decide)) (g := (mkF m 10 #[.val (.int p0), .val (.int p1), .val (.int p2), .val (.int p3), .val (.int p4), .val (.int ((p0 &&& (2147483647 : Int32)) % (3 : Int32))), .unset, .unset, .unset, .unset, .unset, .unset, .unset, .unset, .unset, .unset, .unset] [(.int ((p0 &&& (2147483647 : Int32)) % (3 : Int32)))])) rfl (by rw [hml]; rfl) (argsL := [(.int ((p0 &&& (2147483647 : Int32)) % (3 : Int32)))]) (rest := []) (lenOf pd__28I_29Lcom_2fexample_2flakebed_2flakebed_2fmodel_2fTimelineInstant_24State_3b rfl) rfl (by show 2 * 0 + _ ≤ _; exact Nat.le_of_eq rfl) (hb hby at_10) (fun _ _ => ⟨rfl, e0, (Nat.le_of_ble_eq_true rfl : 0 + 0 ≤ _), (Nat.le_of_ble_eq_true rfl : 0 + 0 ≤ _)⟩)
  dsimp only [Pt.U, Pt.locs, Pt.cells, Pt.slots] at X371 l371 y371 z371 st371 hQ371
  subst l371 y371 z371
  obtain ⟨r371, hr371, rfl, Nq371, e371⟩ := hQ371
  have N372 := Fr.app N0 Nq371
  have P373 : ∀ t, Steps p.tables e below (T371.setTop (mkF m 13 #[.val (.int p0), .val (.int p1), .val (.int p2), .val (.int p3), .val (.int p4), .val (.int ((p0 &&& (2147483647 : Int32)) % (3 : Int32))), .unset, .unset, .unset, .unset, .unset, .unset, .unset, .unset, .unset, .unset, .unset] [(.ref r371)])) t → Steps p.tables e below (s₁.setTop (mkF m 0 #[.val (.int p0), .val (.int p1), .val (.int p2), .val (.int p3), .val (.int p4), .unset, .unset, .unset, .unset, .unset, .unset, .unset, .unset, .unset, .unset, .unset, .unset] [])) t := fun t k => P0 t (by
    refine XS.iloadN X0.here hx rfl (hb hby at_0) rfl ?_
    show Steps p.tables e below (s₁.setTop (mkF m 1 #[.val (.int p0), .val (.int p1), .val (.int p2), .val (.int p3), .val (.int p4), .unset, .unset, .unset, .unset, .unset, .unset, .unset, .unset, .unset, .unset, .unset, .unset] [(.int p0)])) _
    refine X0.ldcInt hx hown (mvT hZ (hw _ (List.mem_of_getElem? (i := 0) rfl))) (g := (mkF m 1 #[.val (.int p0), .val (.int p1), .val (.int p2), .val (.int p3), .val (.int p4), .unset, .unset, .unset, .unset, .unset, .unset, .unset, .unset, .unset, .unset, .unset, .unset] [(.int p0)])) rfl (hb hby at_1) _ ?_
    show Steps p.tables e below (s₁.setTop (mkF m 3 #[.val (.int p0), .val (.int p1), .val (.int p2), .val (.int p3), .val (.int p4), .unset, .unset, .unset, .unset, .unset, .unset, .unset, .unset, .unset, .unset, .unset, .unset] [(.int (2147483647 : Int32)), (.int p0)])) _
    refine XS.iand X0.here hx rfl (hb hby at_3) rfl ?_
    show Steps p.tables e below (s₁.setTop (mkF m 4 #[.val (.int p0), .val (.int p1), .val (.int p2), .val (.int p3), .val (.int p4), .unset, .unset, .unset, .unset, .unset, .unset, .unset, .unset, .unset, .unset, .unset, .unset] [(.int (p0 &&& (2147483647 : Int32)))])) _
    refine XS.iconst X0.here hx rfl (hb hby at_4) ?_
    show Steps p.tables e below (s₁.setTop (mkF m 5 #[.val (.int p0), .val (.int p1), .val (.int p2), .val (.int p3), .val (.int p4), .unset, .unset, .unset, .unset, .unset, .unset, .unset, .unset, .unset, .unset, .unset, .unset] [(.int (3 : Int32)), (.int (p0 &&& (2147483647 : Int32)))])) _
    refine iremM X0 hx rfl (hb hby at_5) rfl (by decide) ?_
    show Steps p.tables e below (s₁.setTop (mkF m 6 #[.val (.int p0), .val (.int p1), .val (.int p2), .val (.int p3), .val (.int p4), .unset, .unset, .unset, .unset, .unset, .unset, .unset, .unset, .unset, .unset, .unset, .unset] [(.int ((p0 &&& (2147483647 : Int32)) % (3 : Int32)))])) _
    refine XS.istore X0.here hx rfl (hb hby at_6) rfl (l' := #[.val (.int p0), .val (.int p1), .val (.int p2), .val (.int p3), .val (.int p4), .val (.int ((p0 &&& (2147483647 : Int32)) % (3 : Int32))), .unset, .unset, .unset, .unset, .unset, .unset, .unset, .unset, .unset, .unset, .unset]) rfl ?_
    show Steps p.tables e below (s₁.setTop (mkF m 8 #[.val (.int p0), .val (.int p1), .val (.int p2), .val (.int p3), .val (.int p4), .val (.int ((p0 &&& (2147483647 : Int32)) % (3 : Int32))), .unset, .unset, .unset, .unset, .unset, .unset, .unset, .unset, .unset, .unset, .unset] [])) _
    refine XS.iload X0.here hx rfl (hb hby at_8) rfl ?_
    show Steps p.tables e below (s₁.setTop (mkF m 10 #[.val (.int p0), .val (.int p1), .val (.int p2), .val (.int p3), .val (.int p4), .val (.int ((p0 &&& (2147483647 : Int32)) % (3 : Int32))), .unset, .unset, .unset, .unset, .unset, .unset, .unset, .unset, .unset, .unset, .unset] [(.int ((p0 &&& (2147483647 : Int32)) % (3 : Int32)))])) _
    exact st371 _ k)
  obtain ⟨_, _, ⟨T374, L374, k374, n374⟩, -, X374, hs374, hg374, ⟨Lc374, hQ374, l374, y374, z374, cr374⟩, st374⟩ := callSS X371 hx (y := (⟨"com/example/lakebed/lakebed/model/TimelineInstantIsCompletedPinLaw", "str", "(I)Ljava/lang/String;"⟩ : MethodName)) hown (mvT hZ (hw _ (List.mem_of_getElem? (i := 8) rfl))) (mvT hZ (hw _ (List.mem_of_getElem? (i := 9) rfl))) (mvT hZ (hw _ (List.mem_of_getElem? (i := 3) rfl))) (mvT hZ (hw _ (List.mem_of_getElem? (i := 10) rfl))) (by decide) (backOfSH (W := 0) (rm_str l Z a0 hw [] p1 G1 h0 n0 Z0 Sg P5 Ol) hZ (hw _ (List.mem_of_getElem? (i := 10) rfl)) (hw _ (List.mem_of_getElem? (i := 3) rfl)) (by decide) (by decide) (own_EW hw) hCH0) (g := (mkF m 16 #[.val (.int p0), .val (.int p1), .val (.int p2), .val (.int p3), .val (.int p4), .val (.int ((p0 &&& (2147483647 : Int32)) % (3 : Int32))), .val (.ref r371), .unset, .unset, .unset, .unset, .unset, .unset, .unset, .unset, .unset, .unset] [(.int p1)])) rfl (by rw [hml]; rfl) (argsL := [(.int p1)]) (rest := []) (lenOf pd__28I_29Ljava_2flang_2fString_3b rfl) rfl (by show 2 * 0 + _ ≤ _; exact Nat.le_of_eq rfl) (hb hby at_16) (fun _ _ => ⟨rfl, e371, (Nat.le_of_ble_eq_true rfl : 0 + 7 ≤ _), (Nat.le_of_ble_eq_true rfl : 0 + 14 ≤ _)⟩)
  dsimp only [Pt.U, Pt.locs, Pt.cells, Pt.slots] at X374 l374 y374 z374 st374 hQ374 hs374 hg374 cr374
  subst l374 y374 z374
  obtain ⟨s374, t374, k374, cs374, rfl, Nq374, sz374, Kk374, Ek374, Fv374, Fc374, Av374, hl374, hb374⟩ := hQ374
  obtain ⟨Xr374, hSr374, hZr374, ho374⟩ := rebS hS0 (by rw [e371]; exact (Nat.le_refl _)) X374 hs374 hg374 hZ hown
  have N375 := Fr.app N372 Nq374
  have P376 : ∀ t, Steps p.tables e below (T374.setTop (mkF m 19 #[.val (.int p0), .val (.int p1), .val (.int p2), .val (.int p3), .val (.int p4), .val (.int ((p0 &&& (2147483647 : Int32)) % (3 : Int32))), .val (.ref r371), .unset, .unset, .unset, .unset, .unset, .unset, .unset, .unset, .unset, .unset] [(.ref s374)])) t → Steps p.tables e below (s₁.setTop (mkF m 0 #[.val (.int p0), .val (.int p1), .val (.int p2), .val (.int p3), .val (.int p4), .unset, .unset, .unset, .unset, .unset, .unset, .unset, .unset, .unset, .unset, .unset, .unset] [])) t := fun t k => P373 t (by
    show Steps p.tables e below (T371.setTop (mkF m 13 #[.val (.int p0), .val (.int p1), .val (.int p2), .val (.int p3), .val (.int p4), .val (.int ((p0 &&& (2147483647 : Int32)) % (3 : Int32))), .unset, .unset, .unset, .unset, .unset, .unset, .unset, .unset, .unset, .unset, .unset] [(.ref r371)])) _
    refine XS.astore X371.here hx rfl (hb hby at_13) rfl rfl (l' := #[.val (.int p0), .val (.int p1), .val (.int p2), .val (.int p3), .val (.int p4), .val (.int ((p0 &&& (2147483647 : Int32)) % (3 : Int32))), .val (.ref r371), .unset, .unset, .unset, .unset, .unset, .unset, .unset, .unset, .unset, .unset]) rfl ?_
    show Steps p.tables e below (T371.setTop (mkF m 15 #[.val (.int p0), .val (.int p1), .val (.int p2), .val (.int p3), .val (.int p4), .val (.int ((p0 &&& (2147483647 : Int32)) % (3 : Int32))), .val (.ref r371), .unset, .unset, .unset, .unset, .unset, .unset, .unset, .unset, .unset, .unset] [])) _
    refine XS.iloadN X371.here hx rfl (hb hby at_15) rfl ?_
    show Steps p.tables e below (T371.setTop (mkF m 16 #[.val (.int p0), .val (.int p1), .val (.int p2), .val (.int p3), .val (.int p4), .val (.int ((p0 &&& (2147483647 : Int32)) % (3 : Int32))), .val (.ref r371), .unset, .unset, .unset, .unset, .unset, .unset, .unset, .unset, .unset, .unset] [(.int p1)])) _
    exact st374.trans k)
  have Z377 : n0 ≤ T374.heap.size := Nat.le_trans Z0 Kk374.1
  have K378 : Keep h0 T374.heap [] := (Keep.refl h0 []).trans Kk374 (all0)
  have O379 : Old Z n0 T374.heap := Ol.keep Kk374 all0
  have R380 : CHr Z own_EL s.vm h0 T374.vm T374.heap := hCR0.trans cr374
  have g_s374 : n0 ≤ s374 := Nat.le_trans Z0 sz374
  have sz_s374 : h0.size ≤ s374 := Nat.le_trans (Keep.refl h0 []).1 sz374
  by_cases q381 : (((p2.toUInt32 >>> ((20 : Int32) &&& 31).toUInt32).toInt32) &&& (1 : Int32)) = (0 : Int32)
  · skip
    obtain ⟨_, _, ⟨T382, L382, k382, n382⟩, -, X382, hs382, hg382, ⟨Lc382, hQ382, l382, y382, z382, cr382⟩, st382⟩ := callSS Xr374 hx (y := (⟨"com/example/lakebed/lakebed/model/TimelineInstantIsCompletedPinLaw", "str", "(I)Ljava/lang/String;"⟩ : MethodName)) ho374 (mvT hZr374 (hw _ (List.mem_of_getElem? (i := 8) rfl))) (mvT hZr374 (hw _ (List.mem_of_getElem? (i := 9) rfl))) (mvT hZr374 (hw _ (List.mem_of_getElem? (i := 3) rfl))) (mvT hZr374 (hw _ (List.mem_of_getElem? (i := 10) rfl))) (by decide) (backOfSH (W := 0) (rm_str l Z a0 hw [] p2 G1 T374.heap n0 Z377 Sg P5 O379) hZr374 (hw _ (List.mem_of_getElem? (i := 10) rfl)) (hw _ (List.mem_of_getElem? (i := 3) rfl)) (by decide) (by decide) (own_EW hw) cr374.1) (g := (mkF m 35 #[.val (.int p0), .val (.int p1), .val (.int p2), .val (.int p3), .val (.int p4), .val (.int ((p0 &&& (2147483647 : Int32)) % (3 : Int32))), .val (.ref r371), .val (.ref s374), .unset, .unset, .unset, .unset, .unset, .unset, .unset, .unset, .unset] [(.int p2)])) rfl (by rw [hml]; rfl) (argsL := [(.int p2)]) (rest := []) (lenOf pd__28I_29Ljava_2flang_2fString_3b rfl) rfl (by show 2 * 0 + _ ≤ _; exact Nat.le_of_eq rfl) (hb hby at_35) (fun _ _ => ⟨rfl, rfl, (Nat.le_of_ble_eq_true rfl : 7 + 7 ≤ _), (Nat.le_of_ble_eq_true rfl : 14 + 14 ≤ _)⟩)
    dsimp only [Pt.U, Pt.locs, Pt.cells, Pt.slots] at X382 l382 y382 z382 st382 hQ382 hs382 hg382 cr382
    subst l382 y382 z382
    obtain ⟨s382, t382, k382, cs382, rfl, Nq382, sz382, Kk382, Ek382, Fv382, Fc382, Av382, hl382, hb382⟩ := hQ382
    obtain ⟨Xr382, hSr382, hZr382, ho382⟩ := rebS hSr374 (Nat.le_refl _) X382 hs382 hg382 hZr374 ho374
    have N383 := Fr.app N375 Nq382
    have P384 : ∀ t, Steps p.tables e below (T382.setTop (mkF m 38 #[.val (.int p0), .val (.int p1), .val (.int p2), .val (.int p3), .val (.int p4), .val (.int ((p0 &&& (2147483647 : Int32)) % (3 : Int32))), .val (.ref r371), .val (.ref s374), .unset, .unset, .unset, .unset, .unset, .unset, .unset, .unset, .unset] [(.ref s382)])) t → Steps p.tables e below (s₁.setTop (mkF m 0 #[.val (.int p0), .val (.int p1), .val (.int p2), .val (.int p3), .val (.int p4), .unset, .unset, .unset, .unset, .unset, .unset, .unset, .unset, .unset, .unset, .unset, .unset] [])) t := fun t k => P376 t (by
      show Steps p.tables e below (T374.setTop (mkF m 19 #[.val (.int p0), .val (.int p1), .val (.int p2), .val (.int p3), .val (.int p4), .val (.int ((p0 &&& (2147483647 : Int32)) % (3 : Int32))), .val (.ref r371), .unset, .unset, .unset, .unset, .unset, .unset, .unset, .unset, .unset, .unset] [(.ref s374)])) _
      refine XS.astore Xr374.here hx rfl (hb hby at_19) rfl rfl (l' := #[.val (.int p0), .val (.int p1), .val (.int p2), .val (.int p3), .val (.int p4), .val (.int ((p0 &&& (2147483647 : Int32)) % (3 : Int32))), .val (.ref r371), .val (.ref s374), .unset, .unset, .unset, .unset, .unset, .unset, .unset, .unset, .unset]) rfl ?_
      show Steps p.tables e below (T374.setTop (mkF m 21 #[.val (.int p0), .val (.int p1), .val (.int p2), .val (.int p3), .val (.int p4), .val (.int ((p0 &&& (2147483647 : Int32)) % (3 : Int32))), .val (.ref r371), .val (.ref s374), .unset, .unset, .unset, .unset, .unset, .unset, .unset, .unset, .unset] [])) _
      refine XS.iloadN Xr374.here hx rfl (hb hby at_21) rfl ?_
      show Steps p.tables e below (T374.setTop (mkF m 22 #[.val (.int p0), .val (.int p1), .val (.int p2), .val (.int p3), .val (.int p4), .val (.int ((p0 &&& (2147483647 : Int32)) % (3 : Int32))), .val (.ref r371), .val (.ref s374), .unset, .unset, .unset, .unset, .unset, .unset, .unset, .unset, .unset] [(.int p2)])) _
      refine XS.bipush Xr374.here hx rfl (hb hby at_22) ?_
      show Steps p.tables e below (T374.setTop (mkF m 24 #[.val (.int p0), .val (.int p1), .val (.int p2), .val (.int p3), .val (.int p4), .val (.int ((p0 &&& (2147483647 : Int32)) % (3 : Int32))), .val (.ref r371), .val (.ref s374), .unset, .unset, .unset, .unset, .unset, .unset, .unset, .unset, .unset] [(.int (20 : Int32)), (.int p2)])) _
      refine XS.iushr Xr374.here hx rfl (hb hby at_24) rfl ?_
      show Steps p.tables e below (T374.setTop (mkF m 25 #[.val (.int p0), .val (.int p1), .val (.int p2), .val (.int p3), .val (.int p4), .val (.int ((p0 &&& (2147483647 : Int32)) % (3 : Int32))), .val (.ref r371), .val (.ref s374), .unset, .unset, .unset, .unset, .unset, .unset, .unset, .unset, .unset] [(.int ((p2.toUInt32 >>> ((20 : Int32) &&& 31).toUInt32).toInt32))])) _
      refine XS.iconst Xr374.here hx rfl (hb hby at_25) ?_
      show Steps p.tables e below (T374.setTop (mkF m 26 #[.val (.int p0), .val (.int p1), .val (.int p2), .val (.int p3), .val (.int p4), .val (.int ((p0 &&& (2147483647 : Int32)) % (3 : Int32))), .val (.ref r371), .val (.ref s374), .unset, .unset, .unset, .unset, .unset, .unset, .unset, .unset, .unset] [(.int (1 : Int32)), (.int ((p2.toUInt32 >>> ((20 : Int32) &&& 31).toUInt32).toInt32))])) _
      refine XS.iand Xr374.here hx rfl (hb hby at_26) rfl ?_
      show Steps p.tables e below (T374.setTop (mkF m 27 #[.val (.int p0), .val (.int p1), .val (.int p2), .val (.int p3), .val (.int p4), .val (.int ((p0 &&& (2147483647 : Int32)) % (3 : Int32))), .val (.ref r371), .val (.ref s374), .unset, .unset, .unset, .unset, .unset, .unset, .unset, .unset, .unset] [(.int (((p2.toUInt32 >>> ((20 : Int32) &&& 31).toUInt32).toInt32) &&& (1 : Int32)))])) _
      refine XS.ifYes Xr374.here hx rfl (pc0 := 27) (pc' := 34) rfl (hb hby at_27) rfl ((if0 _ _).trans (teq (show (((p2.toUInt32 >>> ((20 : Int32) &&& 31).toUInt32).toInt32) &&& (1 : Int32)) = (0 : Int32) from q381)).1) (by decide) (by decide) ?_
      show Steps p.tables e below (T374.setTop (mkF m 34 #[.val (.int p0), .val (.int p1), .val (.int p2), .val (.int p3), .val (.int p4), .val (.int ((p0 &&& (2147483647 : Int32)) % (3 : Int32))), .val (.ref r371), .val (.ref s374), .unset, .unset, .unset, .unset, .unset, .unset, .unset, .unset, .unset] [])) _
      refine XS.iloadN Xr374.here hx rfl (hb hby at_34) rfl ?_
      show Steps p.tables e below (T374.setTop (mkF m 35 #[.val (.int p0), .val (.int p1), .val (.int p2), .val (.int p3), .val (.int p4), .val (.int ((p0 &&& (2147483647 : Int32)) % (3 : Int32))), .val (.ref r371), .val (.ref s374), .unset, .unset, .unset, .unset, .unset, .unset, .unset, .unset, .unset] [(.int p2)])) _
      exact st382.trans k)
    have Z385 : n0 ≤ T382.heap.size := Nat.le_trans Z377 Kk382.1
    have K386 : Keep h0 T382.heap [] := K378.trans Kk382 (all0)
    have O387 : Old Z n0 T382.heap := O379.keep Kk382 all0
    have R388 : CHr Z own_EL s.vm h0 T382.vm T382.heap := R380.trans cr382
    have g_s382 : n0 ≤ s382 := Nat.le_trans Z377 sz382
    have sz_s382 : h0.size ≤ s382 := Nat.le_trans K378.1 sz382
    obtain ⟨_, _, ⟨T389, L389, k389, n389⟩, -, X389, hs389, hg389, ⟨Lc389, hQ389, l389, y389, z389, cr389⟩, st389⟩ := callSS Xr382 hx (y := (⟨"com/example/lakebed/lakebed/model/TimelineInstantIsCompletedPinLaw", "str", "(I)Ljava/lang/String;"⟩ : MethodName)) ho382 (mvT hZr382 (hw _ (List.mem_of_getElem? (i := 8) rfl))) (mvT hZr382 (hw _ (List.mem_of_getElem? (i := 9) rfl))) (mvT hZr382 (hw _ (List.mem_of_getElem? (i := 3) rfl))) (mvT hZr382 (hw _ (List.mem_of_getElem? (i := 10) rfl))) (by decide) (backOfSH (W := 0) (rm_str l Z a0 hw [] p3 G1 T382.heap n0 Z385 Sg P5 O387) hZr382 (hw _ (List.mem_of_getElem? (i := 10) rfl)) (hw _ (List.mem_of_getElem? (i := 3) rfl)) (by decide) (by decide) (own_EW hw) cr382.1) (g := (mkF m 41 #[.val (.int p0), .val (.int p1), .val (.int p2), .val (.int p3), .val (.int p4), .val (.int ((p0 &&& (2147483647 : Int32)) % (3 : Int32))), .val (.ref r371), .val (.ref s374), .val (.ref s382), .unset, .unset, .unset, .unset, .unset, .unset, .unset, .unset] [(.int p3)])) rfl (by rw [hml]; rfl) (argsL := [(.int p3)]) (rest := []) (lenOf pd__28I_29Ljava_2flang_2fString_3b rfl) rfl (by show 2 * 0 + _ ≤ _; exact Nat.le_of_eq rfl) (hb hby at_41) (fun _ _ => ⟨rfl, rfl, (Nat.le_of_ble_eq_true rfl : 14 + 7 ≤ _), (Nat.le_of_ble_eq_true rfl : 28 + 14 ≤ _)⟩)
    dsimp only [Pt.U, Pt.locs, Pt.cells, Pt.slots] at X389 l389 y389 z389 st389 hQ389 hs389 hg389 cr389
    subst l389 y389 z389
    obtain ⟨s389, t389, k389, cs389, rfl, Nq389, sz389, Kk389, Ek389, Fv389, Fc389, Av389, hl389, hb389⟩ := hQ389
    obtain ⟨Xr389, hSr389, hZr389, ho389⟩ := rebS hSr382 (Nat.le_refl _) X389 hs389 hg389 hZr382 ho382
    have N390 := Fr.app N383 Nq389
    have P391 : ∀ t, Steps p.tables e below (T389.setTop (mkF m 44 #[.val (.int p0), .val (.int p1), .val (.int p2), .val (.int p3), .val (.int p4), .val (.int ((p0 &&& (2147483647 : Int32)) % (3 : Int32))), .val (.ref r371), .val (.ref s374), .val (.ref s382), .unset, .unset, .unset, .unset, .unset, .unset, .unset, .unset] [(.ref s389)])) t → Steps p.tables e below (s₁.setTop (mkF m 0 #[.val (.int p0), .val (.int p1), .val (.int p2), .val (.int p3), .val (.int p4), .unset, .unset, .unset, .unset, .unset, .unset, .unset, .unset, .unset, .unset, .unset, .unset] [])) t := fun t k => P384 t (by
      show Steps p.tables e below (T382.setTop (mkF m 38 #[.val (.int p0), .val (.int p1), .val (.int p2), .val (.int p3), .val (.int p4), .val (.int ((p0 &&& (2147483647 : Int32)) % (3 : Int32))), .val (.ref r371), .val (.ref s374), .unset, .unset, .unset, .unset, .unset, .unset, .unset, .unset, .unset] [(.ref s382)])) _
      refine XS.astore Xr382.here hx rfl (hb hby at_38) rfl rfl (l' := #[.val (.int p0), .val (.int p1), .val (.int p2), .val (.int p3), .val (.int p4), .val (.int ((p0 &&& (2147483647 : Int32)) % (3 : Int32))), .val (.ref r371), .val (.ref s374), .val (.ref s382), .unset, .unset, .unset, .unset, .unset, .unset, .unset, .unset]) rfl ?_
      show Steps p.tables e below (T382.setTop (mkF m 40 #[.val (.int p0), .val (.int p1), .val (.int p2), .val (.int p3), .val (.int p4), .val (.int ((p0 &&& (2147483647 : Int32)) % (3 : Int32))), .val (.ref r371), .val (.ref s374), .val (.ref s382), .unset, .unset, .unset, .unset, .unset, .unset, .unset, .unset] [])) _
      refine XS.iloadN Xr382.here hx rfl (hb hby at_40) rfl ?_
      show Steps p.tables e below (T382.setTop (mkF m 41 #[.val (.int p0), .val (.int p1), .val (.int p2), .val (.int p3), .val (.int p4), .val (.int ((p0 &&& (2147483647 : Int32)) % (3 : Int32))), .val (.ref r371), .val (.ref s374), .val (.ref s382), .unset, .unset, .unset, .unset, .unset, .unset, .unset, .unset] [(.int p3)])) _
      exact st389.trans k)
    have Z392 : n0 ≤ T389.heap.size := Nat.le_trans Z385 Kk389.1
    have K393 : Keep h0 T389.heap [] := K386.trans Kk389 (all0)
    have O394 : Old Z n0 T389.heap := O387.keep Kk389 all0
    have R395 : CHr Z own_EL s.vm h0 T389.vm T389.heap := R388.trans cr389
    have g_s389 : n0 ≤ s389 := Nat.le_trans Z385 sz389
    have sz_s389 : h0.size ≤ s389 := Nat.le_trans K386.1 sz389
    obtain ⟨_, _, ⟨T396, L396, k396, n396⟩, -, X396, hs396, hg396, ⟨Lc396, hQ396, l396, y396, z396, cr396⟩, st396⟩ := callSS Xr389 hx (y := (⟨"com/example/lakebed/lakebed/model/TimelineInstantIsCompletedPinLaw", "str", "(I)Ljava/lang/String;"⟩ : MethodName)) ho389 (mvT hZr389 (hw _ (List.mem_of_getElem? (i := 8) rfl))) (mvT hZr389 (hw _ (List.mem_of_getElem? (i := 9) rfl))) (mvT hZr389 (hw _ (List.mem_of_getElem? (i := 3) rfl))) (mvT hZr389 (hw _ (List.mem_of_getElem? (i := 10) rfl))) (by decide) (backOfSH (W := 0) (rm_str l Z a0 hw [] p4 G1 T389.heap n0 Z392 Sg P5 O394) hZr389 (hw _ (List.mem_of_getElem? (i := 10) rfl)) (hw _ (List.mem_of_getElem? (i := 3) rfl)) (by decide) (by decide) (own_EW hw) cr389.1) (g := (mkF m 48 #[.val (.int p0), .val (.int p1), .val (.int p2), .val (.int p3), .val (.int p4), .val (.int ((p0 &&& (2147483647 : Int32)) % (3 : Int32))), .val (.ref r371), .val (.ref s374), .val (.ref s382), .val (.ref s389), .unset, .unset, .unset, .unset, .unset, .unset, .unset] [(.int p4)])) rfl (by rw [hml]; rfl) (argsL := [(.int p4)]) (rest := []) (lenOf pd__28I_29Ljava_2flang_2fString_3b rfl) rfl (by show 2 * 0 + _ ≤ _; exact Nat.le_of_eq rfl) (hb hby at_48) (fun _ _ => ⟨rfl, rfl, (Nat.le_of_ble_eq_true rfl : 21 + 7 ≤ _), (Nat.le_of_ble_eq_true rfl : 42 + 14 ≤ _)⟩)
    dsimp only [Pt.U, Pt.locs, Pt.cells, Pt.slots] at X396 l396 y396 z396 st396 hQ396 hs396 hg396 cr396
    subst l396 y396 z396
    obtain ⟨s396, t396, k396, cs396, rfl, Nq396, sz396, Kk396, Ek396, Fv396, Fc396, Av396, hl396, hb396⟩ := hQ396
    obtain ⟨Xr396, hSr396, hZr396, ho396⟩ := rebS hSr389 (Nat.le_refl _) X396 hs396 hg396 hZr389 ho389
    have N397 := Fr.app N390 Nq396
    have P398 : ∀ t, Steps p.tables e below (T396.setTop (mkF m 51 #[.val (.int p0), .val (.int p1), .val (.int p2), .val (.int p3), .val (.int p4), .val (.int ((p0 &&& (2147483647 : Int32)) % (3 : Int32))), .val (.ref r371), .val (.ref s374), .val (.ref s382), .val (.ref s389), .unset, .unset, .unset, .unset, .unset, .unset, .unset] [(.ref s396)])) t → Steps p.tables e below (s₁.setTop (mkF m 0 #[.val (.int p0), .val (.int p1), .val (.int p2), .val (.int p3), .val (.int p4), .unset, .unset, .unset, .unset, .unset, .unset, .unset, .unset, .unset, .unset, .unset, .unset] [])) t := fun t k => P391 t (by
      show Steps p.tables e below (T389.setTop (mkF m 44 #[.val (.int p0), .val (.int p1), .val (.int p2), .val (.int p3), .val (.int p4), .val (.int ((p0 &&& (2147483647 : Int32)) % (3 : Int32))), .val (.ref r371), .val (.ref s374), .val (.ref s382), .unset, .unset, .unset, .unset, .unset, .unset, .unset, .unset] [(.ref s389)])) _
      refine XS.astore Xr389.here hx rfl (hb hby at_44) rfl rfl (l' := #[.val (.int p0), .val (.int p1), .val (.int p2), .val (.int p3), .val (.int p4), .val (.int ((p0 &&& (2147483647 : Int32)) % (3 : Int32))), .val (.ref r371), .val (.ref s374), .val (.ref s382), .val (.ref s389), .unset, .unset, .unset, .unset, .unset, .unset, .unset]) rfl ?_
      show Steps p.tables e below (T389.setTop (mkF m 46 #[.val (.int p0), .val (.int p1), .val (.int p2), .val (.int p3), .val (.int p4), .val (.int ((p0 &&& (2147483647 : Int32)) % (3 : Int32))), .val (.ref r371), .val (.ref s374), .val (.ref s382), .val (.ref s389), .unset, .unset, .unset, .unset, .unset, .unset, .unset] [])) _
      refine XS.iload Xr389.here hx rfl (hb hby at_46) rfl ?_
      show Steps p.tables e below (T389.setTop (mkF m 48 #[.val (.int p0), .val (.int p1), .val (.int p2), .val (.int p3), .val (.int p4), .val (.int ((p0 &&& (2147483647 : Int32)) % (3 : Int32))), .val (.ref r371), .val (.ref s374), .val (.ref s382), .val (.ref s389), .unset, .unset, .unset, .unset, .unset, .unset, .unset] [(.int p4)])) _
      exact st396.trans k)
    have Z399 : n0 ≤ T396.heap.size := Nat.le_trans Z392 Kk396.1
    have K400 : Keep h0 T396.heap [] := K393.trans Kk396 (all0)
    have O401 : Old Z n0 T396.heap := O394.keep Kk396 all0
    have R402 : CHr Z own_EL s.vm h0 T396.vm T396.heap := R395.trans cr396
    have g_s396 : n0 ≤ s396 := Nat.le_trans Z392 sz396
    have sz_s396 : h0.size ≤ s396 := Nat.le_trans K393.1 sz396
    obtain ⟨T403, h403, X403, e403, E403, A403, D403, -, st403⟩ := newO Xr396 hx hZr396 ho396 (hw _ (List.mem_of_getElem? (i := 33) rfl)) (hw _ (List.mem_of_getElem? (i := 34) rfl)) (hw _ (List.mem_of_getElem? (i := 35) rfl)) rfl (g := (mkF m 53 #[.val (.int p0), .val (.int p1), .val (.int p2), .val (.int p3), .val (.int p4), .val (.int ((p0 &&& (2147483647 : Int32)) % (3 : Int32))), .val (.ref r371), .val (.ref s374), .val (.ref s382), .val (.ref s389), .val (.ref s396), .unset, .unset, .unset, .unset, .unset, .unset] [])) rfl (hb hby at_53) (by decide) (by decide)
    obtain ⟨b403, g403⟩ : ∃ z, z = T396.heap.size := ⟨_, rfl⟩
    rw [← g403] at A403 D403 st403
    have g_b403 : n0 ≤ b403 := Nat.le_trans Z399 (Nat.le_of_eq g403.symm)
    have sz_b403 : h0.size ≤ b403 := Nat.le_trans K400.1 (Nat.le_of_eq g403.symm)
    have P404 : ∀ t, Steps p.tables e below (T403.setTop (mkF m 56 #[.val (.int p0), .val (.int p1), .val (.int p2), .val (.int p3), .val (.int p4), .val (.int ((p0 &&& (2147483647 : Int32)) % (3 : Int32))), .val (.ref r371), .val (.ref s374), .val (.ref s382), .val (.ref s389), .val (.ref s396), .unset, .unset, .unset, .unset, .unset, .unset] [(.ref b403)])) t → Steps p.tables e below (s₁.setTop (mkF m 0 #[.val (.int p0), .val (.int p1), .val (.int p2), .val (.int p3), .val (.int p4), .unset, .unset, .unset, .unset, .unset, .unset, .unset, .unset, .unset, .unset, .unset, .unset] [])) t := fun t k => P398 t (by
      show Steps p.tables e below (T396.setTop (mkF m 51 #[.val (.int p0), .val (.int p1), .val (.int p2), .val (.int p3), .val (.int p4), .val (.int ((p0 &&& (2147483647 : Int32)) % (3 : Int32))), .val (.ref r371), .val (.ref s374), .val (.ref s382), .val (.ref s389), .unset, .unset, .unset, .unset, .unset, .unset, .unset] [(.ref s396)])) _
      refine XS.astore Xr396.here hx rfl (hb hby at_51) rfl rfl (l' := #[.val (.int p0), .val (.int p1), .val (.int p2), .val (.int p3), .val (.int p4), .val (.int ((p0 &&& (2147483647 : Int32)) % (3 : Int32))), .val (.ref r371), .val (.ref s374), .val (.ref s382), .val (.ref s389), .val (.ref s396), .unset, .unset, .unset, .unset, .unset, .unset]) rfl ?_
      show Steps p.tables e below (T396.setTop (mkF m 53 #[.val (.int p0), .val (.int p1), .val (.int p2), .val (.int p3), .val (.int p4), .val (.int ((p0 &&& (2147483647 : Int32)) % (3 : Int32))), .val (.ref r371), .val (.ref s374), .val (.ref s382), .val (.ref s389), .val (.ref s396), .unset, .unset, .unset, .unset, .unset, .unset] [])) _
      exact st403 _ k)
    have Z405 : n0 ≤ h403.size := Nat.le_trans Z399 E403.1
    have K406 : Keep h0 h403 [] := K400.ext E403
    have O407 : Old Z n0 h403 := O401.ext E403
    have hk408 : T396.heap.size ≤ h403.size := Nat.le_trans (Nat.le_refl _) E403.1
    have C409 : CHr Z own_EL T396.vm T396.heap T396.vm h403 := CHr.ext E403 cr396.1
    have R410 : CHr Z own_EL s.vm h0 T396.vm h403 := R402.trans C409
    have sf_b403 : Safe Z own_EL T396.vm h403 b403 := Safe.ext E403 cr396.1 (Safe.new (Nat.le_of_eq g403.symm))
    have f411 : Fld Z h403 b403 "com/example/lakebed/lakebed/model/TimelineInstant" "begin" "Ljava/lang/String;" .null := D403 (Or.inr (hw _ (List.mem_of_getElem? (i := 46) rfl))) (ty := (.object "java/lang/String")) (by decide)
    have f412 : Fld Z h403 b403 "com/example/lakebed/lakebed/model/TimelineInstant" "completion" "Ljava/lang/String;" .null := D403 (Or.inr (hw _ (List.mem_of_getElem? (i := 48) rfl))) (ty := (.object "java/lang/String")) (by decide)
    have f413 : Fld Z h403 b403 "com/example/lakebed/lakebed/model/TimelineInstant" "action" "Ljava/lang/String;" .null := D403 (Or.inr (hw _ (List.mem_of_getElem? (i := 50) rfl))) (ty := (.object "java/lang/String")) (by decide)
    have f414 : Fld Z h403 b403 "com/example/lakebed/lakebed/model/TimelineInstant" "state" "Lcom/example/lakebed/lakebed/model/TimelineInstant$State;" .null := D403 (Or.inr (hw _ (List.mem_of_getElem? (i := 52) rfl))) (ty := (.object "com/example/lakebed/lakebed/model/TimelineInstant$State")) (by decide)
    obtain ⟨_, _, ⟨T415, L415, k415, n415⟩, -, X415, ⟨Lc415, hQ415, l415, y415, z415⟩, st415⟩ := X403.specialBack hx (y := (⟨"com/example/lakebed/lakebed/model/TimelineInstant", "<init>", "(Ljava/lang/String;Ljava/lang/String;Ljava/lang/String;Lcom/example/lakebed/lakebed/model/TimelineInstant$State;)V"⟩ : MethodName)) rfl ho396 (mvT hZr396 (hw _ (List.mem_of_getElem? (i := 36) rfl))) (mvT hZr396 (hw _ (List.mem_of_getElem? (i := 37) rfl))) (mvT hZr396 (hw _ (List.mem_of_getElem? (i := 38) rfl))) (by decide) (backOf (W := 1) (rm_ctor l Z a0 hw [] b403 s374 (.ref s382) s389 r371 h403 n0 Z405 rfl g_b403 A403 f411 f412 f413 f414) hZr396 (hw _ (List.mem_of_getElem? (i := 38) rfl)) (hw _ (List.mem_of_getElem? (i := 35) rfl)) (by decide) (by decide)) (g := (mkF m 65 #[.val (.int p0), .val (.int p1), .val (.int p2), .val (.int p3), .val (.int p4), .val (.int ((p0 &&& (2147483647 : Int32)) % (3 : Int32))), .val (.ref r371), .val (.ref s374), .val (.ref s382), .val (.ref s389), .val (.ref s396), .unset, .unset, .unset, .unset, .unset, .unset] [(.ref r371), (.ref s389), (.ref s382), (.ref s374), (.ref b403), (.ref b403)])) rfl (by rw [hml]; rfl) (Steps.refl _) (a := b403) (argsL := [(.ref s374), (.ref s382), (.ref s389), (.ref r371)]) (rest := [(.ref b403)]) (lenOf pd__28Ljava_2flang_2fString_3bLjava_2flang_2fString_3bLjava_2flang_2fString_3bLcom_2fexample_2flakebed_2flakebed_2fmodel_2fTimelineInstant_24State_3b_29V rfl) rfl (by show 2 * 0 + _ ≤ _; exact Nat.le_of_eq rfl) (hb hby at_65) (fun _ _ => ⟨rfl, e403, (Nat.le_of_ble_eq_true rfl : 29 + 0 ≤ _), (Nat.le_of_ble_eq_true rfl : 60 + 0 ≤ _)⟩)
    dsimp only [Pt.U, Pt.locs, Pt.cells, Pt.slots] at X415 l415 y415 z415 st415 hQ415
    subst l415 y415 z415
    obtain ⟨rfl, Nq415, Kk415, Ek415, F0_415, F1_415, F2_415, F3_415⟩ := hQ415
    have N416 := Fr.app N397 Nq415
    have P417 : ∀ t, Steps p.tables e below (T415.setTop (mkF m 68 #[.val (.int p0), .val (.int p1), .val (.int p2), .val (.int p3), .val (.int p4), .val (.int ((p0 &&& (2147483647 : Int32)) % (3 : Int32))), .val (.ref r371), .val (.ref s374), .val (.ref s382), .val (.ref s389), .val (.ref s396), .unset, .unset, .unset, .unset, .unset, .unset] [(.ref b403)])) t → Steps p.tables e below (s₁.setTop (mkF m 0 #[.val (.int p0), .val (.int p1), .val (.int p2), .val (.int p3), .val (.int p4), .unset, .unset, .unset, .unset, .unset, .unset, .unset, .unset, .unset, .unset, .unset, .unset] [])) t := fun t k => P404 t (by
      show Steps p.tables e below (T403.setTop (mkF m 56 #[.val (.int p0), .val (.int p1), .val (.int p2), .val (.int p3), .val (.int p4), .val (.int ((p0 &&& (2147483647 : Int32)) % (3 : Int32))), .val (.ref r371), .val (.ref s374), .val (.ref s382), .val (.ref s389), .val (.ref s396), .unset, .unset, .unset, .unset, .unset, .unset] [(.ref b403)])) _
      refine XS.dup X403.here hx rfl (hb hby at_56) rfl rfl ?_
      show Steps p.tables e below (T403.setTop (mkF m 57 #[.val (.int p0), .val (.int p1), .val (.int p2), .val (.int p3), .val (.int p4), .val (.int ((p0 &&& (2147483647 : Int32)) % (3 : Int32))), .val (.ref r371), .val (.ref s374), .val (.ref s382), .val (.ref s389), .val (.ref s396), .unset, .unset, .unset, .unset, .unset, .unset] [(.ref b403), (.ref b403)])) _
      refine XS.aload X403.here hx rfl (hb hby at_57) rfl rfl ?_
      show Steps p.tables e below (T403.setTop (mkF m 59 #[.val (.int p0), .val (.int p1), .val (.int p2), .val (.int p3), .val (.int p4), .val (.int ((p0 &&& (2147483647 : Int32)) % (3 : Int32))), .val (.ref r371), .val (.ref s374), .val (.ref s382), .val (.ref s389), .val (.ref s396), .unset, .unset, .unset, .unset, .unset, .unset] [(.ref s374), (.ref b403), (.ref b403)])) _
      refine XS.aload X403.here hx rfl (hb hby at_59) rfl rfl ?_
      show Steps p.tables e below (T403.setTop (mkF m 61 #[.val (.int p0), .val (.int p1), .val (.int p2), .val (.int p3), .val (.int p4), .val (.int ((p0 &&& (2147483647 : Int32)) % (3 : Int32))), .val (.ref r371), .val (.ref s374), .val (.ref s382), .val (.ref s389), .val (.ref s396), .unset, .unset, .unset, .unset, .unset, .unset] [(.ref s382), (.ref s374), (.ref b403), (.ref b403)])) _
      refine XS.aload X403.here hx rfl (hb hby at_61) rfl rfl ?_
      show Steps p.tables e below (T403.setTop (mkF m 63 #[.val (.int p0), .val (.int p1), .val (.int p2), .val (.int p3), .val (.int p4), .val (.int ((p0 &&& (2147483647 : Int32)) % (3 : Int32))), .val (.ref r371), .val (.ref s374), .val (.ref s382), .val (.ref s389), .val (.ref s396), .unset, .unset, .unset, .unset, .unset, .unset] [(.ref s389), (.ref s382), (.ref s374), (.ref b403), (.ref b403)])) _
      refine XS.aload X403.here hx rfl (hb hby at_63) rfl rfl ?_
      show Steps p.tables e below (T403.setTop (mkF m 65 #[.val (.int p0), .val (.int p1), .val (.int p2), .val (.int p3), .val (.int p4), .val (.int ((p0 &&& (2147483647 : Int32)) % (3 : Int32))), .val (.ref r371), .val (.ref s374), .val (.ref s382), .val (.ref s389), .val (.ref s396), .unset, .unset, .unset, .unset, .unset, .unset] [(.ref r371), (.ref s389), (.ref s382), (.ref s374), (.ref b403), (.ref b403)])) _
      exact st415.trans k)
    have Z418 : n0 ≤ T415.heap.size := Nat.le_trans Z405 Kk415.1
    have K419 : Keep h0 T415.heap [] := K406.trans Kk415 ((allS (Or.inr sz_b403) all0))
    have O420 : Old Z n0 T415.heap := O407.keep Kk415 (allS g_b403 all0)
    have hk421 : T396.heap.size ≤ T415.heap.size := Nat.le_trans hk408 Kk415.1
    have C422 : CHr Z own_EL T396.vm h403 T396.vm T415.heap := CHr.keep Kk415 (sfS (Safe.exa hZr396.alike A403 (by decide) (by decide)) sf0) C409.1
    have R423 : CHr Z own_EL s.vm h0 T396.vm T415.heap := R410.trans C422
    have P424 : ∀ t, Steps p.tables e below (T415.setTop (mkF m 73 #[.val (.int p0), .val (.int p1), .val (.int p2), .val (.int p3), .val (.int p4), .val (.int ((p0 &&& (2147483647 : Int32)) % (3 : Int32))), .val (.ref r371), .val (.ref s374), .val (.ref s382), .val (.ref s389), .val (.ref s396), .val (.ref b403), .unset, .unset, .unset, .unset, .unset] [(.int (2 : Int32)), (.int ((p0 &&& (2147483647 : Int32)) % (3 : Int32)))])) t → Steps p.tables e below (s₁.setTop (mkF m 0 #[.val (.int p0), .val (.int p1), .val (.int p2), .val (.int p3), .val (.int p4), .unset, .unset, .unset, .unset, .unset, .unset, .unset, .unset, .unset, .unset, .unset, .unset] [])) t := fun t k => P417 t (by
      show Steps p.tables e below (T415.setTop (mkF m 68 #[.val (.int p0), .val (.int p1), .val (.int p2), .val (.int p3), .val (.int p4), .val (.int ((p0 &&& (2147483647 : Int32)) % (3 : Int32))), .val (.ref r371), .val (.ref s374), .val (.ref s382), .val (.ref s389), .val (.ref s396), .unset, .unset, .unset, .unset, .unset, .unset] [(.ref b403)])) _
      refine XS.astore X415.here hx rfl (hb hby at_68) rfl rfl (l' := #[.val (.int p0), .val (.int p1), .val (.int p2), .val (.int p3), .val (.int p4), .val (.int ((p0 &&& (2147483647 : Int32)) % (3 : Int32))), .val (.ref r371), .val (.ref s374), .val (.ref s382), .val (.ref s389), .val (.ref s396), .val (.ref b403), .unset, .unset, .unset, .unset, .unset]) rfl ?_
      show Steps p.tables e below (T415.setTop (mkF m 70 #[.val (.int p0), .val (.int p1), .val (.int p2), .val (.int p3), .val (.int p4), .val (.int ((p0 &&& (2147483647 : Int32)) % (3 : Int32))), .val (.ref r371), .val (.ref s374), .val (.ref s382), .val (.ref s389), .val (.ref s396), .val (.ref b403), .unset, .unset, .unset, .unset, .unset] [])) _
      refine XS.iload X415.here hx rfl (hb hby at_70) rfl ?_
      show Steps p.tables e below (T415.setTop (mkF m 72 #[.val (.int p0), .val (.int p1), .val (.int p2), .val (.int p3), .val (.int p4), .val (.int ((p0 &&& (2147483647 : Int32)) % (3 : Int32))), .val (.ref r371), .val (.ref s374), .val (.ref s382), .val (.ref s389), .val (.ref s396), .val (.ref b403), .unset, .unset, .unset, .unset, .unset] [(.int ((p0 &&& (2147483647 : Int32)) % (3 : Int32)))])) _
      refine XS.iconst X415.here hx rfl (hb hby at_72) ?_
      show Steps p.tables e below (T415.setTop (mkF m 73 #[.val (.int p0), .val (.int p1), .val (.int p2), .val (.int p3), .val (.int p4), .val (.int ((p0 &&& (2147483647 : Int32)) % (3 : Int32))), .val (.ref r371), .val (.ref s374), .val (.ref s382), .val (.ref s389), .val (.ref s396), .val (.ref b403), .unset, .unset, .unset, .unset, .unset] [(.int (2 : Int32)), (.int ((p0 &&& (2147483647 : Int32)) % (3 : Int32)))])) _
      exact k)
    obtain ⟨b426, hb426⟩ : ∃ z : Int32, z = (if ((p0 &&& (2147483647 : Int32)) % (3 : Int32)) = (2 : Int32) then (1 : Int32) else (0 : Int32)) := ⟨_, rfl⟩
    have P427 : ∀ t, Steps p.tables e below (T415.setTop (mkF m 81 #[.val (.int p0), .val (.int p1), .val (.int p2), .val (.int p3), .val (.int p4), .val (.int ((p0 &&& (2147483647 : Int32)) % (3 : Int32))), .val (.ref r371), .val (.ref s374), .val (.ref s382), .val (.ref s389), .val (.ref s396), .val (.ref b403), .unset, .unset, .unset, .unset, .unset] [(.int b426)])) t → Steps p.tables e below (s₁.setTop (mkF m 0 #[.val (.int p0), .val (.int p1), .val (.int p2), .val (.int p3), .val (.int p4), .unset, .unset, .unset, .unset, .unset, .unset, .unset, .unset, .unset, .unset, .unset, .unset] [])) t := fun t k => P424 t (by
      show Steps p.tables e below (T415.setTop (mkF m 73 #[.val (.int p0), .val (.int p1), .val (.int p2), .val (.int p3), .val (.int p4), .val (.int ((p0 &&& (2147483647 : Int32)) % (3 : Int32))), .val (.ref r371), .val (.ref s374), .val (.ref s382), .val (.ref s389), .val (.ref s396), .val (.ref b403), .unset, .unset, .unset, .unset, .unset] [(.int (2 : Int32)), (.int ((p0 &&& (2147483647 : Int32)) % (3 : Int32)))])) _
      by_cases q425 : ((p0 &&& (2147483647 : Int32)) % (3 : Int32)) = (2 : Int32)
      · skip
        refine XS.icmpNo X415.here hx rfl (hb hby at_73) rfl (teq (show ((p0 &&& (2147483647 : Int32)) % (3 : Int32)) = (2 : Int32) from q425)).2 ?_
        show Steps p.tables e below (T415.setTop (mkF m 76 #[.val (.int p0), .val (.int p1), .val (.int p2), .val (.int p3), .val (.int p4), .val (.int ((p0 &&& (2147483647 : Int32)) % (3 : Int32))), .val (.ref r371), .val (.ref s374), .val (.ref s382), .val (.ref s389), .val (.ref s396), .val (.ref b403), .unset, .unset, .unset, .unset, .unset] [])) _
        refine XS.iconst X415.here hx rfl (hb hby at_76) ?_
        show Steps p.tables e below (T415.setTop (mkF m 77 #[.val (.int p0), .val (.int p1), .val (.int p2), .val (.int p3), .val (.int p4), .val (.int ((p0 &&& (2147483647 : Int32)) % (3 : Int32))), .val (.ref r371), .val (.ref s374), .val (.ref s382), .val (.ref s389), .val (.ref s396), .val (.ref b403), .unset, .unset, .unset, .unset, .unset] [(.int (1 : Int32))])) _
        refine XS.goto X415.here hx rfl (pc0 := 77) (pc' := 81) rfl (hb hby at_77) (by decide) (by decide) ?_
        show Steps p.tables e below (T415.setTop (mkF m 81 #[.val (.int p0), .val (.int p1), .val (.int p2), .val (.int p3), .val (.int p4), .val (.int ((p0 &&& (2147483647 : Int32)) % (3 : Int32))), .val (.ref r371), .val (.ref s374), .val (.ref s382), .val (.ref s389), .val (.ref s396), .val (.ref b403), .unset, .unset, .unset, .unset, .unset] [(.int (1 : Int32))])) _
        have eb426 : b426 = (1 : Int32) := by rw [hb426, if_pos q425]
        rw [eb426] at k
        exact k
      · skip
        refine XS.icmpYes X415.here hx rfl (pc0 := 73) (pc' := 80) rfl (hb hby at_73) rfl (feq (show ¬ (((p0 &&& (2147483647 : Int32)) % (3 : Int32)) = (2 : Int32)) from q425)).2 (by decide) (by decide) ?_
        show Steps p.tables e below (T415.setTop (mkF m 80 #[.val (.int p0), .val (.int p1), .val (.int p2), .val (.int p3), .val (.int p4), .val (.int ((p0 &&& (2147483647 : Int32)) % (3 : Int32))), .val (.ref r371), .val (.ref s374), .val (.ref s382), .val (.ref s389), .val (.ref s396), .val (.ref b403), .unset, .unset, .unset, .unset, .unset] [])) _
        refine XS.iconst X415.here hx rfl (hb hby at_80) ?_
        show Steps p.tables e below (T415.setTop (mkF m 81 #[.val (.int p0), .val (.int p1), .val (.int p2), .val (.int p3), .val (.int p4), .val (.int ((p0 &&& (2147483647 : Int32)) % (3 : Int32))), .val (.ref r371), .val (.ref s374), .val (.ref s382), .val (.ref s389), .val (.ref s396), .val (.ref b403), .unset, .unset, .unset, .unset, .unset] [(.int (0 : Int32))])) _
        have eb426 : b426 = (0 : Int32) := by rw [hb426, if_neg q425]
        rw [eb426] at k
        exact k)
    obtain ⟨cq428, kq428, q428a, q428b, q428c⟩ := isOf hZr396 rfl Ek415
    obtain ⟨_, _, ⟨T428, L428, k428, n428⟩, -, X428, ⟨Lc428, hQ428, l428, y428, z428⟩, st428⟩ := X415.virtualBack hx (y := (⟨"com/example/lakebed/lakebed/model/TimelineInstant", "isCompleted", "()Z"⟩ : MethodName)) (z := (⟨"com/example/lakebed/lakebed/model/TimelineInstant", "isCompleted", "()Z"⟩ : MethodName)) ho396 (mvT hZr396 (hw _ (List.mem_of_getElem? (i := 53) rfl))) (mvT hZr396 (hw _ (List.mem_of_getElem? (i := 54) rfl))) (notFace_of_selects (args := #[]) (mvT hZr396 (hw _ (List.mem_of_getElem? (i := 56) rfl)))) (mvT hZr396 (hw _ (List.mem_of_getElem? (i := 56) rfl))) (mvT hZr396 (hw _ (List.mem_of_getElem? (i := 55) rfl))) (by decide) (backOf (W := 0) (rm_isC l Z a0 hw [] b403 r371 r0 r1 r2 T415.heap n0 Z418 F3_415 S0 S1 S2 O420) hZr396 (hw _ (List.mem_of_getElem? (i := 57) rfl)) (hw _ (List.mem_of_getElem? (i := 35) rfl)) (by decide) (by decide)) q428a q428c (g := (mkF m 85 #[.val (.int p0), .val (.int p1), .val (.int p2), .val (.int p3), .val (.int p4), .val (.int ((p0 &&& (2147483647 : Int32)) % (3 : Int32))), .val (.ref r371), .val (.ref s374), .val (.ref s382), .val (.ref s389), .val (.ref s396), .val (.ref b403), .val (.int b426), .unset, .unset, .unset, .unset] [(.ref b403)])) rfl (by rw [hml]; rfl) (Steps.refl _) (argsL := []) (rest := []) (lenOf pd__28_29Z rfl) rfl (by show 2 * 0 + _ ≤ _; exact Nat.le_of_eq rfl) (hb hby at_85) (fun _ _ => ⟨rfl, rfl, (Nat.le_of_ble_eq_true rfl : 29 + 0 ≤ _), (Nat.le_of_ble_eq_true rfl : 60 + 0 ≤ _)⟩)
    dsimp only [Pt.U, Pt.locs, Pt.cells, Pt.slots] at X428 l428 y428 z428 st428 hQ428
    subst l428 y428 z428
    obtain ⟨rfl, Nq428, e428⟩ := hQ428
    have N429 := Fr.app N416 Nq428
    have P430 : ∀ t, Steps p.tables e below (T428.setTop (mkF m 88 #[.val (.int p0), .val (.int p1), .val (.int p2), .val (.int p3), .val (.int p4), .val (.int ((p0 &&& (2147483647 : Int32)) % (3 : Int32))), .val (.ref r371), .val (.ref s374), .val (.ref s382), .val (.ref s389), .val (.ref s396), .val (.ref b403), .val (.int b426), .unset, .unset, .unset, .unset] [(.int (if r371 = r1 then 1 else 0))])) t → Steps p.tables e below (s₁.setTop (mkF m 0 #[.val (.int p0), .val (.int p1), .val (.int p2), .val (.int p3), .val (.int p4), .unset, .unset, .unset, .unset, .unset, .unset, .unset, .unset, .unset, .unset, .unset, .unset] [])) t := fun t k => P427 t (by
      show Steps p.tables e below (T415.setTop (mkF m 81 #[.val (.int p0), .val (.int p1), .val (.int p2), .val (.int p3), .val (.int p4), .val (.int ((p0 &&& (2147483647 : Int32)) % (3 : Int32))), .val (.ref r371), .val (.ref s374), .val (.ref s382), .val (.ref s389), .val (.ref s396), .val (.ref b403), .unset, .unset, .unset, .unset, .unset] [(.int b426)])) _
      refine XS.istore X415.here hx rfl (hb hby at_81) rfl (l' := #[.val (.int p0), .val (.int p1), .val (.int p2), .val (.int p3), .val (.int p4), .val (.int ((p0 &&& (2147483647 : Int32)) % (3 : Int32))), .val (.ref r371), .val (.ref s374), .val (.ref s382), .val (.ref s389), .val (.ref s396), .val (.ref b403), .val (.int b426), .unset, .unset, .unset, .unset]) rfl ?_
      show Steps p.tables e below (T415.setTop (mkF m 83 #[.val (.int p0), .val (.int p1), .val (.int p2), .val (.int p3), .val (.int p4), .val (.int ((p0 &&& (2147483647 : Int32)) % (3 : Int32))), .val (.ref r371), .val (.ref s374), .val (.ref s382), .val (.ref s389), .val (.ref s396), .val (.ref b403), .val (.int b426), .unset, .unset, .unset, .unset] [])) _
      refine XS.aload X415.here hx rfl (hb hby at_83) rfl rfl ?_
      show Steps p.tables e below (T415.setTop (mkF m 85 #[.val (.int p0), .val (.int p1), .val (.int p2), .val (.int p3), .val (.int p4), .val (.int ((p0 &&& (2147483647 : Int32)) % (3 : Int32))), .val (.ref r371), .val (.ref s374), .val (.ref s382), .val (.ref s389), .val (.ref s396), .val (.ref b403), .val (.int b426), .unset, .unset, .unset, .unset] [(.ref b403)])) _
      exact st428.trans k)
    have hst : (if r371 = r1 then 1 else 0) = b426 := by rw [hb426]; exact own_state (own_m3 _) hr371 nr0 nr2
    obtain ⟨cq431, kq431, q431a, q431b, q431c⟩ := isOf hZr396 e428 Ek415
    obtain ⟨_, _, ⟨T431, L431, k431, n431⟩, -, X431, ⟨Lc431, hQ431, l431, y431, z431⟩, st431⟩ := X428.virtualBack hx (y := (⟨"com/example/lakebed/lakebed/model/TimelineInstant", "toInflight", "()Lcom/example/lakebed/lakebed/model/TimelineInstant;"⟩ : MethodName)) (z := (⟨"com/example/lakebed/lakebed/model/TimelineInstant", "toInflight", "()Lcom/example/lakebed/lakebed/model/TimelineInstant;"⟩ : MethodName)) ho396 (mvT hZr396 (hw _ (List.mem_of_getElem? (i := 60) rfl))) (mvT hZr396 (hw _ (List.mem_of_getElem? (i := 61) rfl))) (notFace_of_selects (args := #[]) (mvT hZr396 (hw _ (List.mem_of_getElem? (i := 63) rfl)))) (mvT hZr396 (hw _ (List.mem_of_getElem? (i := 63) rfl))) (mvT hZr396 (hw _ (List.mem_of_getElem? (i := 62) rfl))) (by decide) (backOf (W := 0) (rm_toInf l Z a0 hw [] b403 s374 s389 r0 r1 r2 T415.heap n0 Z418 F0_415 F2_415 S0 S1 S2 O420) hZr396 (hw _ (List.mem_of_getElem? (i := 64) rfl)) (hw _ (List.mem_of_getElem? (i := 35) rfl)) (by decide) (by decide)) q431a q431c (g := (mkF m 102 #[.val (.int p0), .val (.int p1), .val (.int p2), .val (.int p3), .val (.int p4), .val (.int ((p0 &&& (2147483647 : Int32)) % (3 : Int32))), .val (.ref r371), .val (.ref s374), .val (.ref s382), .val (.ref s389), .val (.ref s396), .val (.ref b403), .val (.int b426), .val (.int (1 : Int32)), .unset, .unset, .unset] [(.ref b403)])) rfl (by rw [hml]; rfl) (Steps.refl _) (argsL := []) (rest := []) (lenOf pd__28_29Lcom_2fexample_2flakebed_2flakebed_2fmodel_2fTimelineInstant_3b rfl) rfl (by show 2 * 0 + _ ≤ _; exact Nat.le_of_eq rfl) (hb hby at_102) (fun _ _ => ⟨rfl, e428, (Nat.le_of_ble_eq_true rfl : 29 + 1 ≤ _), (Nat.le_of_ble_eq_true rfl : 60 + 4 ≤ _)⟩)
    dsimp only [Pt.U, Pt.locs, Pt.cells, Pt.slots] at X431 l431 y431 z431 st431 hQ431
    subst l431 y431 z431
    obtain ⟨m431, rfl, Nq431, sz431, Kk431, Ek431, Fs431⟩ := hQ431
    have N432 := Fr.app N429 Nq431
    have P433 : ∀ t, Steps p.tables e below (T431.setTop (mkF m 105 #[.val (.int p0), .val (.int p1), .val (.int p2), .val (.int p3), .val (.int p4), .val (.int ((p0 &&& (2147483647 : Int32)) % (3 : Int32))), .val (.ref r371), .val (.ref s374), .val (.ref s382), .val (.ref s389), .val (.ref s396), .val (.ref b403), .val (.int b426), .val (.int (1 : Int32)), .unset, .unset, .unset] [(.ref m431)])) t → Steps p.tables e below (s₁.setTop (mkF m 0 #[.val (.int p0), .val (.int p1), .val (.int p2), .val (.int p3), .val (.int p4), .unset, .unset, .unset, .unset, .unset, .unset, .unset, .unset, .unset, .unset, .unset, .unset] [])) t := fun t k => P430 t (by
      show Steps p.tables e below (T428.setTop (mkF m 88 #[.val (.int p0), .val (.int p1), .val (.int p2), .val (.int p3), .val (.int p4), .val (.int ((p0 &&& (2147483647 : Int32)) % (3 : Int32))), .val (.ref r371), .val (.ref s374), .val (.ref s382), .val (.ref s389), .val (.ref s396), .val (.ref b403), .val (.int b426), .unset, .unset, .unset, .unset] [(.int (if r371 = r1 then 1 else 0))])) _
      refine XS.iload X428.here hx rfl (hb hby at_88) rfl ?_
      show Steps p.tables e below (T428.setTop (mkF m 90 #[.val (.int p0), .val (.int p1), .val (.int p2), .val (.int p3), .val (.int p4), .val (.int ((p0 &&& (2147483647 : Int32)) % (3 : Int32))), .val (.ref r371), .val (.ref s374), .val (.ref s382), .val (.ref s389), .val (.ref s396), .val (.ref b403), .val (.int b426), .unset, .unset, .unset, .unset] [(.int b426), (.int (if r371 = r1 then 1 else 0))])) _
      refine XS.icmpNo X428.here hx rfl (hb hby at_90) rfl (teq (show (if r371 = r1 then 1 else 0) = b426 from hst)).2 ?_
      show Steps p.tables e below (T428.setTop (mkF m 93 #[.val (.int p0), .val (.int p1), .val (.int p2), .val (.int p3), .val (.int p4), .val (.int ((p0 &&& (2147483647 : Int32)) % (3 : Int32))), .val (.ref r371), .val (.ref s374), .val (.ref s382), .val (.ref s389), .val (.ref s396), .val (.ref b403), .val (.int b426), .unset, .unset, .unset, .unset] [])) _
      refine XS.iconst X428.here hx rfl (hb hby at_93) ?_
      show Steps p.tables e below (T428.setTop (mkF m 94 #[.val (.int p0), .val (.int p1), .val (.int p2), .val (.int p3), .val (.int p4), .val (.int ((p0 &&& (2147483647 : Int32)) % (3 : Int32))), .val (.ref r371), .val (.ref s374), .val (.ref s382), .val (.ref s389), .val (.ref s396), .val (.ref b403), .val (.int b426), .unset, .unset, .unset, .unset] [(.int (1 : Int32))])) _
      refine XS.goto X428.here hx rfl (pc0 := 94) (pc' := 98) rfl (hb hby at_94) (by decide) (by decide) ?_
      show Steps p.tables e below (T428.setTop (mkF m 98 #[.val (.int p0), .val (.int p1), .val (.int p2), .val (.int p3), .val (.int p4), .val (.int ((p0 &&& (2147483647 : Int32)) % (3 : Int32))), .val (.ref r371), .val (.ref s374), .val (.ref s382), .val (.ref s389), .val (.ref s396), .val (.ref b403), .val (.int b426), .unset, .unset, .unset, .unset] [(.int (1 : Int32))])) _
      refine XS.istore X428.here hx rfl (hb hby at_98) rfl (l' := #[.val (.int p0), .val (.int p1), .val (.int p2), .val (.int p3), .val (.int p4), .val (.int ((p0 &&& (2147483647 : Int32)) % (3 : Int32))), .val (.ref r371), .val (.ref s374), .val (.ref s382), .val (.ref s389), .val (.ref s396), .val (.ref b403), .val (.int b426), .val (.int (1 : Int32)), .unset, .unset, .unset]) rfl ?_
      show Steps p.tables e below (T428.setTop (mkF m 100 #[.val (.int p0), .val (.int p1), .val (.int p2), .val (.int p3), .val (.int p4), .val (.int ((p0 &&& (2147483647 : Int32)) % (3 : Int32))), .val (.ref r371), .val (.ref s374), .val (.ref s382), .val (.ref s389), .val (.ref s396), .val (.ref b403), .val (.int b426), .val (.int (1 : Int32)), .unset, .unset, .unset] [])) _
      refine XS.aload X428.here hx rfl (hb hby at_100) rfl rfl ?_
      show Steps p.tables e below (T428.setTop (mkF m 102 #[.val (.int p0), .val (.int p1), .val (.int p2), .val (.int p3), .val (.int p4), .val (.int ((p0 &&& (2147483647 : Int32)) % (3 : Int32))), .val (.ref r371), .val (.ref s374), .val (.ref s382), .val (.ref s389), .val (.ref s396), .val (.ref b403), .val (.int b426), .val (.int (1 : Int32)), .unset, .unset, .unset] [(.ref b403)])) _
      exact st431.trans k)
    have Z434 : n0 ≤ T431.heap.size := Nat.le_trans Z418 Kk431.1
    have K435 : Keep h0 T431.heap [] := K419.trans Kk431 (all0)
    have O436 : Old Z n0 T431.heap := O420.keep Kk431 all0
    have hk437 : T396.heap.size ≤ T431.heap.size := Nat.le_trans hk421 Kk431.1
    have C438 : CHr Z own_EL T396.vm T415.heap T396.vm T431.heap := CHr.keep Kk431 sf0 C422.1
    have R439 : CHr Z own_EL s.vm h0 T396.vm T431.heap := R423.trans C438
    have g_m431 : n0 ≤ m431 := Nat.le_trans Z418 sz431
    have sz_m431 : h0.size ≤ m431 := Nat.le_trans K419.1 sz431
    obtain ⟨cq440, kq440, q440a, q440b, q440c⟩ := isOf hZr396 rfl Ek431
    obtain ⟨_, _, ⟨T440, L440, k440, n440⟩, -, X440, ⟨Lc440, hQ440, l440, y440, z440⟩, st440⟩ := X431.virtualBack hx (y := (⟨"com/example/lakebed/lakebed/model/TimelineInstant", "isCompleted", "()Z"⟩ : MethodName)) (z := (⟨"com/example/lakebed/lakebed/model/TimelineInstant", "isCompleted", "()Z"⟩ : MethodName)) ho396 (mvT hZr396 (hw _ (List.mem_of_getElem? (i := 53) rfl))) (mvT hZr396 (hw _ (List.mem_of_getElem? (i := 54) rfl))) (notFace_of_selects (args := #[]) (mvT hZr396 (hw _ (List.mem_of_getElem? (i := 56) rfl)))) (mvT hZr396 (hw _ (List.mem_of_getElem? (i := 56) rfl))) (mvT hZr396 (hw _ (List.mem_of_getElem? (i := 55) rfl))) (by decide) (backOf (W := 0) (rm_isC l Z a0 hw [] m431 r2 r0 r1 r2 T431.heap n0 Z434 Fs431 S0 S1 S2 O436) hZr396 (hw _ (List.mem_of_getElem? (i := 57) rfl)) (hw _ (List.mem_of_getElem? (i := 35) rfl)) (by decide) (by decide)) q440a q440c (g := (mkF m 105 #[.val (.int p0), .val (.int p1), .val (.int p2), .val (.int p3), .val (.int p4), .val (.int ((p0 &&& (2147483647 : Int32)) % (3 : Int32))), .val (.ref r371), .val (.ref s374), .val (.ref s382), .val (.ref s389), .val (.ref s396), .val (.ref b403), .val (.int b426), .val (.int (1 : Int32)), .unset, .unset, .unset] [(.ref m431)])) rfl (by rw [hml]; rfl) (Steps.refl _) (argsL := []) (rest := []) (lenOf pd__28_29Z rfl) rfl (by show 2 * 0 + _ ≤ _; exact Nat.le_of_eq rfl) (hb hby at_105) (fun _ _ => ⟨rfl, rfl, (Nat.le_of_ble_eq_true rfl : 30 + 0 ≤ _), (Nat.le_of_ble_eq_true rfl : 64 + 0 ≤ _)⟩)
    dsimp only [Pt.U, Pt.locs, Pt.cells, Pt.slots] at X440 l440 y440 z440 st440 hQ440
    subst l440 y440 z440
    obtain ⟨rfl, Nq440, e440⟩ := hQ440
    have N441 := Fr.app N432 Nq440
    have P442 : ∀ t, Steps p.tables e below (T440.setTop (mkF m 108 #[.val (.int p0), .val (.int p1), .val (.int p2), .val (.int p3), .val (.int p4), .val (.int ((p0 &&& (2147483647 : Int32)) % (3 : Int32))), .val (.ref r371), .val (.ref s374), .val (.ref s382), .val (.ref s389), .val (.ref s396), .val (.ref b403), .val (.int b426), .val (.int (1 : Int32)), .unset, .unset, .unset] [(.int (if r2 = r1 then 1 else 0))])) t → Steps p.tables e below (s₁.setTop (mkF m 0 #[.val (.int p0), .val (.int p1), .val (.int p2), .val (.int p3), .val (.int p4), .unset, .unset, .unset, .unset, .unset, .unset, .unset, .unset, .unset, .unset, .unset, .unset] [])) t := fun t k => P433 t (by
      show Steps p.tables e below (T431.setTop (mkF m 105 #[.val (.int p0), .val (.int p1), .val (.int p2), .val (.int p3), .val (.int p4), .val (.int ((p0 &&& (2147483647 : Int32)) % (3 : Int32))), .val (.ref r371), .val (.ref s374), .val (.ref s382), .val (.ref s389), .val (.ref s396), .val (.ref b403), .val (.int b426), .val (.int (1 : Int32)), .unset, .unset, .unset] [(.ref m431)])) _
      exact st440.trans k)
    have hi443 : (if r2 = r1 then 1 else 0) = (0 : Int32) := if_neg nr2
    have f444 : Exa Z T431.heap b403 "com/example/lakebed/lakebed/model/TimelineInstant" := (Ek415.keep Kk431)
    have f445 : Fld Z T431.heap b403 "com/example/lakebed/lakebed/model/TimelineInstant" "begin" "Ljava/lang/String;" (.ref s374) := (F0_415.keep Kk431 nin0)
    have f446 : Fld Z T431.heap b403 "com/example/lakebed/lakebed/model/TimelineInstant" "action" "Ljava/lang/String;" (.ref s389) := (F2_415.keep Kk431 nin0)
    have f447 : Exa Z T431.heap s389 "java/lang/String" := ((((Ek389.keep Kk396).ext E403).keep Kk415).keep Kk431)
    have f448 : Fld Z T431.heap s389 "java/lang/String" "value" "[B" (.ref t389) := ((((Fv389.keep Kk396 nin0).ext E403).keep Kk415 (ninS (Nat.ne_of_lt (Nat.lt_of_lt_of_le (Fc389.keep Kk396 nin0).lt (Nat.le_of_eq g403.symm))) nin0)).keep Kk431 nin0)
    have f449 : Fld Z T431.heap s389 "java/lang/String" "coder" "B" (.int 0) := ((((Fc389.keep Kk396 nin0).ext E403).keep Kk415 (ninS (Nat.ne_of_lt (Nat.lt_of_lt_of_le (Fc389.keep Kk396 nin0).lt (Nat.le_of_eq g403.symm))) nin0)).keep Kk431 nin0)
    have f450 : Arv Z T431.heap t389 k389 .byte (Int32.ofNat cs389.length) ((cs389.map (fun c => c.toInt8.toInt32)).map Value.int) (.int 0) := ((((Av389.keep Kk396 nin0).ext E403).keep Kk415 (ninS (Nat.ne_of_lt (Nat.lt_of_lt_of_le (Av389.keep Kk396 nin0).lt (Nat.le_of_eq g403.symm))) nin0)).keep Kk431 nin0)
    obtain ⟨cq451, kq451, q451a, q451b, q451c⟩ := isOf hZr396 e440 f444
    obtain ⟨_, _, ⟨T451, L451, k451, n451⟩, -, X451, hs451, hg451, ⟨Lc451, hQ451, l451, y451, z451, cr451⟩, st451⟩ := X440.virtualBackS hx (y := (⟨"com/example/lakebed/lakebed/model/TimelineInstant", "toCompleted", "(Ljava/lang/String;)Lcom/example/lakebed/lakebed/model/TimelineInstant;"⟩ : MethodName)) (z := (⟨"com/example/lakebed/lakebed/model/TimelineInstant", "toCompleted", "(Ljava/lang/String;)Lcom/example/lakebed/lakebed/model/TimelineInstant;"⟩ : MethodName)) ho396 (mvT hZr396 (hw _ (List.mem_of_getElem? (i := 69) rfl))) (mvT hZr396 (hw _ (List.mem_of_getElem? (i := 70) rfl))) (notFace_of_selects (args := #[]) (mvT hZr396 (hw _ (List.mem_of_getElem? (i := 72) rfl)))) (mvT hZr396 (hw _ (List.mem_of_getElem? (i := 72) rfl))) (mvT hZr396 (hw _ (List.mem_of_getElem? (i := 71) rfl))) (by decide) (backOfSH (W := 0) (rm_toCom l Z a0 hw [] b403 s396 s374 s389 t389 k389 cs389 r0 r1 r2 G1 T431.heap n0 Z434 Sg P5 f444 f445 f446 f447 f448 f449 f450 hl389 hb389 S0 S1 S2 O436) hZr396 (hw _ (List.mem_of_getElem? (i := 73) rfl)) (hw _ (List.mem_of_getElem? (i := 35) rfl)) (by decide) (by decide) (own_EW hw) C438.1) q451a q451c (g := (mkF m 122 #[.val (.int p0), .val (.int p1), .val (.int p2), .val (.int p3), .val (.int p4), .val (.int ((p0 &&& (2147483647 : Int32)) % (3 : Int32))), .val (.ref r371), .val (.ref s374), .val (.ref s382), .val (.ref s389), .val (.ref s396), .val (.ref b403), .val (.int b426), .val (.int (1 : Int32)), .val (.int (1 : Int32)), .unset, .unset] [(.ref s396), (.ref b403)])) rfl (by rw [hml]; rfl) (Steps.refl _) (argsL := [(.ref s396)]) (rest := []) (lenOf pd__28Ljava_2flang_2fString_3b_29Lcom_2fexample_2flakebed_2flakebed_2fmodel_2fTimelineInstant_3b rfl) rfl (by show 2 * 0 + _ ≤ _; exact Nat.le_of_eq rfl) (hb hby at_122) (fun _ _ => ⟨rfl, e440, (Nat.le_of_ble_eq_true rfl : 30 + 3 ≤ _), (Nat.le_of_ble_eq_true rfl : 64 + 48 ≤ _)⟩)
    dsimp only [Pt.U, Pt.locs, Pt.cells, Pt.slots] at X451 l451 y451 z451 st451 hQ451 hs451 hg451 cr451
    subst l451 y451 z451
    obtain ⟨m451, rfl, Nq451, sz451, Kk451, Ek451, Fs451⟩ := hQ451
    obtain ⟨Xr451, hSr451, hZr451, ho451⟩ := rebS hSr396 (by rw [e440]; exact hk437) X451 hs451 hg451 hZr396 ho396
    have N452 := Fr.app N441 Nq451
    have P453 : ∀ t, Steps p.tables e below (T451.setTop (mkF m 125 #[.val (.int p0), .val (.int p1), .val (.int p2), .val (.int p3), .val (.int p4), .val (.int ((p0 &&& (2147483647 : Int32)) % (3 : Int32))), .val (.ref r371), .val (.ref s374), .val (.ref s382), .val (.ref s389), .val (.ref s396), .val (.ref b403), .val (.int b426), .val (.int (1 : Int32)), .val (.int (1 : Int32)), .unset, .unset] [(.ref m451)])) t → Steps p.tables e below (s₁.setTop (mkF m 0 #[.val (.int p0), .val (.int p1), .val (.int p2), .val (.int p3), .val (.int p4), .unset, .unset, .unset, .unset, .unset, .unset, .unset, .unset, .unset, .unset, .unset, .unset] [])) t := fun t k => P442 t (by
      show Steps p.tables e below (T440.setTop (mkF m 108 #[.val (.int p0), .val (.int p1), .val (.int p2), .val (.int p3), .val (.int p4), .val (.int ((p0 &&& (2147483647 : Int32)) % (3 : Int32))), .val (.ref r371), .val (.ref s374), .val (.ref s382), .val (.ref s389), .val (.ref s396), .val (.ref b403), .val (.int b426), .val (.int (1 : Int32)), .unset, .unset, .unset] [(.int (if r2 = r1 then 1 else 0))])) _
      refine XS.ifNo X440.here hx rfl (hb hby at_108) rfl ((if0 _ _).trans (teq (show (if r2 = r1 then 1 else 0) = (0 : Int32) from hi443)).2) ?_
      show Steps p.tables e below (T440.setTop (mkF m 111 #[.val (.int p0), .val (.int p1), .val (.int p2), .val (.int p3), .val (.int p4), .val (.int ((p0 &&& (2147483647 : Int32)) % (3 : Int32))), .val (.ref r371), .val (.ref s374), .val (.ref s382), .val (.ref s389), .val (.ref s396), .val (.ref b403), .val (.int b426), .val (.int (1 : Int32)), .unset, .unset, .unset] [])) _
      refine XS.iconst X440.here hx rfl (hb hby at_111) ?_
      show Steps p.tables e below (T440.setTop (mkF m 112 #[.val (.int p0), .val (.int p1), .val (.int p2), .val (.int p3), .val (.int p4), .val (.int ((p0 &&& (2147483647 : Int32)) % (3 : Int32))), .val (.ref r371), .val (.ref s374), .val (.ref s382), .val (.ref s389), .val (.ref s396), .val (.ref b403), .val (.int b426), .val (.int (1 : Int32)), .unset, .unset, .unset] [(.int (1 : Int32))])) _
      refine XS.goto X440.here hx rfl (pc0 := 112) (pc' := 116) rfl (hb hby at_112) (by decide) (by decide) ?_
      show Steps p.tables e below (T440.setTop (mkF m 116 #[.val (.int p0), .val (.int p1), .val (.int p2), .val (.int p3), .val (.int p4), .val (.int ((p0 &&& (2147483647 : Int32)) % (3 : Int32))), .val (.ref r371), .val (.ref s374), .val (.ref s382), .val (.ref s389), .val (.ref s396), .val (.ref b403), .val (.int b426), .val (.int (1 : Int32)), .unset, .unset, .unset] [(.int (1 : Int32))])) _
      refine XS.istore X440.here hx rfl (hb hby at_116) rfl (l' := #[.val (.int p0), .val (.int p1), .val (.int p2), .val (.int p3), .val (.int p4), .val (.int ((p0 &&& (2147483647 : Int32)) % (3 : Int32))), .val (.ref r371), .val (.ref s374), .val (.ref s382), .val (.ref s389), .val (.ref s396), .val (.ref b403), .val (.int b426), .val (.int (1 : Int32)), .val (.int (1 : Int32)), .unset, .unset]) rfl ?_
      show Steps p.tables e below (T440.setTop (mkF m 118 #[.val (.int p0), .val (.int p1), .val (.int p2), .val (.int p3), .val (.int p4), .val (.int ((p0 &&& (2147483647 : Int32)) % (3 : Int32))), .val (.ref r371), .val (.ref s374), .val (.ref s382), .val (.ref s389), .val (.ref s396), .val (.ref b403), .val (.int b426), .val (.int (1 : Int32)), .val (.int (1 : Int32)), .unset, .unset] [])) _
      refine XS.aload X440.here hx rfl (hb hby at_118) rfl rfl ?_
      show Steps p.tables e below (T440.setTop (mkF m 120 #[.val (.int p0), .val (.int p1), .val (.int p2), .val (.int p3), .val (.int p4), .val (.int ((p0 &&& (2147483647 : Int32)) % (3 : Int32))), .val (.ref r371), .val (.ref s374), .val (.ref s382), .val (.ref s389), .val (.ref s396), .val (.ref b403), .val (.int b426), .val (.int (1 : Int32)), .val (.int (1 : Int32)), .unset, .unset] [(.ref b403)])) _
      refine XS.aload X440.here hx rfl (hb hby at_120) rfl rfl ?_
      show Steps p.tables e below (T440.setTop (mkF m 122 #[.val (.int p0), .val (.int p1), .val (.int p2), .val (.int p3), .val (.int p4), .val (.int ((p0 &&& (2147483647 : Int32)) % (3 : Int32))), .val (.ref r371), .val (.ref s374), .val (.ref s382), .val (.ref s389), .val (.ref s396), .val (.ref b403), .val (.int b426), .val (.int (1 : Int32)), .val (.int (1 : Int32)), .unset, .unset] [(.ref s396), (.ref b403)])) _
      exact st451.trans k)
    have Z454 : n0 ≤ T451.heap.size := Nat.le_trans Z434 Kk451.1
    have K455 : Keep h0 T451.heap [] := K435.trans Kk451 (all0)
    have O456 : Old Z n0 T451.heap := O436.keep Kk451 all0
    have R457 : CHr Z own_EL s.vm h0 T451.vm T451.heap := R439.trans cr451
    have g_m451 : n0 ≤ m451 := Nat.le_trans Z434 sz451
    have sz_m451 : h0.size ≤ m451 := Nat.le_trans K435.1 sz451
    obtain ⟨cq458, kq458, q458a, q458b, q458c⟩ := isOf hZr451 rfl Ek451
    obtain ⟨_, _, ⟨T458, L458, k458, n458⟩, -, X458, ⟨Lc458, hQ458, l458, y458, z458⟩, st458⟩ := Xr451.virtualBack hx (y := (⟨"com/example/lakebed/lakebed/model/TimelineInstant", "isCompleted", "()Z"⟩ : MethodName)) (z := (⟨"com/example/lakebed/lakebed/model/TimelineInstant", "isCompleted", "()Z"⟩ : MethodName)) ho451 (mvT hZr451 (hw _ (List.mem_of_getElem? (i := 53) rfl))) (mvT hZr451 (hw _ (List.mem_of_getElem? (i := 54) rfl))) (notFace_of_selects (args := #[]) (mvT hZr451 (hw _ (List.mem_of_getElem? (i := 56) rfl)))) (mvT hZr451 (hw _ (List.mem_of_getElem? (i := 56) rfl))) (mvT hZr451 (hw _ (List.mem_of_getElem? (i := 55) rfl))) (by decide) (backOf (W := 0) (rm_isC l Z a0 hw [] m451 r1 r0 r1 r2 T451.heap n0 Z454 Fs451 S0 S1 S2 O456) hZr451 (hw _ (List.mem_of_getElem? (i := 57) rfl)) (hw _ (List.mem_of_getElem? (i := 35) rfl)) (by decide) (by decide)) q458a q458c (g := (mkF m 125 #[.val (.int p0), .val (.int p1), .val (.int p2), .val (.int p3), .val (.int p4), .val (.int ((p0 &&& (2147483647 : Int32)) % (3 : Int32))), .val (.ref r371), .val (.ref s374), .val (.ref s382), .val (.ref s389), .val (.ref s396), .val (.ref b403), .val (.int b426), .val (.int (1 : Int32)), .val (.int (1 : Int32)), .unset, .unset] [(.ref m451)])) rfl (by rw [hml]; rfl) (Steps.refl _) (argsL := []) (rest := []) (lenOf pd__28_29Z rfl) rfl (by show 2 * 0 + _ ≤ _; exact Nat.le_of_eq rfl) (hb hby at_125) (fun _ _ => ⟨rfl, rfl, (Nat.le_of_ble_eq_true rfl : 33 + 0 ≤ _), (Nat.le_of_ble_eq_true rfl : 112 + 0 ≤ _)⟩)
    dsimp only [Pt.U, Pt.locs, Pt.cells, Pt.slots] at X458 l458 y458 z458 st458 hQ458
    subst l458 y458 z458
    obtain ⟨rfl, Nq458, e458⟩ := hQ458
    have N459 := Fr.app N452 Nq458
    have P460 : ∀ t, Steps p.tables e below (T458.setTop (mkF m 128 #[.val (.int p0), .val (.int p1), .val (.int p2), .val (.int p3), .val (.int p4), .val (.int ((p0 &&& (2147483647 : Int32)) % (3 : Int32))), .val (.ref r371), .val (.ref s374), .val (.ref s382), .val (.ref s389), .val (.ref s396), .val (.ref b403), .val (.int b426), .val (.int (1 : Int32)), .val (.int (1 : Int32)), .unset, .unset] [(.int (if r1 = r1 then 1 else 0))])) t → Steps p.tables e below (s₁.setTop (mkF m 0 #[.val (.int p0), .val (.int p1), .val (.int p2), .val (.int p3), .val (.int p4), .unset, .unset, .unset, .unset, .unset, .unset, .unset, .unset, .unset, .unset, .unset, .unset] [])) t := fun t k => P453 t (by
      show Steps p.tables e below (T451.setTop (mkF m 125 #[.val (.int p0), .val (.int p1), .val (.int p2), .val (.int p3), .val (.int p4), .val (.int ((p0 &&& (2147483647 : Int32)) % (3 : Int32))), .val (.ref r371), .val (.ref s374), .val (.ref s382), .val (.ref s389), .val (.ref s396), .val (.ref b403), .val (.int b426), .val (.int (1 : Int32)), .val (.int (1 : Int32)), .unset, .unset] [(.ref m451)])) _
      exact st458.trans k)
    have hi461 : ¬ (if r1 = r1 then 1 else 0) = (0 : Int32) := by rw [if_pos rfl]; decide
    obtain ⟨_, _, ⟨T462, L462, k462, n462⟩, -, X462, ⟨Lc462, hQ462, l462, y462, z462⟩, st462⟩ := Jvm.LawKit.callS X458 hx (y := (⟨"com/example/lakebed/lakebed/model/TimelineInstant", "requested", "(Ljava/lang/String;Ljava/lang/String;)Lcom/example/lakebed/lakebed/model/TimelineInstant;"⟩ : MethodName)) ho451 (mvT hZr451 (hw _ (List.mem_of_getElem? (i := 90) rfl))) (mvT hZr451 (hw _ (List.mem_of_getElem? (i := 91) rfl))) (mvT hZr451 (hw _ (List.mem_of_getElem? (i := 35) rfl))) (mvT hZr451 (hw _ (List.mem_of_getElem? (i := 92) rfl))) (by decide) (backOf (W := 0) (rm_req l Z a0 hw [] s374 s389 r0 r1 r2 T451.heap n0 Z454 S0 S1 S2 O456) hZr451 (hw _ (List.mem_of_getElem? (i := 92) rfl)) (hw _ (List.mem_of_getElem? (i := 35) rfl)) (by decide) (by decide)) (g := (mkF m 134 #[.val (.int p0), .val (.int p1), .val (.int p2), .val (.int p3), .val (.int p4), .val (.int ((p0 &&& (2147483647 : Int32)) % (3 : Int32))), .val (.ref r371), .val (.ref s374), .val (.ref s382), .val (.ref s389), .val (.ref s396), .val (.ref b403), .val (.int b426), .val (.int (1 : Int32)), .val (.int (1 : Int32)), .val (.int (if r1 = r1 then 1 else 0)), .unset] [(.ref s389), (.ref s374)])) rfl (by rw [hml]; rfl) (argsL := [(.ref s374), (.ref s389)]) (rest := []) (lenOf pd__28Ljava_2flang_2fString_3bLjava_2flang_2fString_3b_29Lcom_2fexample_2flakebed_2flakebed_2fmodel_2fTimelineInstant_3b rfl) rfl (by show 2 * 0 + _ ≤ _; exact Nat.le_of_eq rfl) (hb hby at_134) (fun _ _ => ⟨rfl, e458, (Nat.le_of_ble_eq_true rfl : 33 + 1 ≤ _), (Nat.le_of_ble_eq_true rfl : 112 + 4 ≤ _)⟩)
    dsimp only [Pt.U, Pt.locs, Pt.cells, Pt.slots] at X462 l462 y462 z462 st462 hQ462
    subst l462 y462 z462
    obtain ⟨m462, rfl, Nq462, sz462, Kk462, Ek462, Fs462⟩ := hQ462
    have N463 := Fr.app N459 Nq462
    have P464 : ∀ t, Steps p.tables e below (T462.setTop (mkF m 137 #[.val (.int p0), .val (.int p1), .val (.int p2), .val (.int p3), .val (.int p4), .val (.int ((p0 &&& (2147483647 : Int32)) % (3 : Int32))), .val (.ref r371), .val (.ref s374), .val (.ref s382), .val (.ref s389), .val (.ref s396), .val (.ref b403), .val (.int b426), .val (.int (1 : Int32)), .val (.int (1 : Int32)), .val (.int (if r1 = r1 then 1 else 0)), .unset] [(.ref m462)])) t → Steps p.tables e below (s₁.setTop (mkF m 0 #[.val (.int p0), .val (.int p1), .val (.int p2), .val (.int p3), .val (.int p4), .unset, .unset, .unset, .unset, .unset, .unset, .unset, .unset, .unset, .unset, .unset, .unset] [])) t := fun t k => P460 t (by
      show Steps p.tables e below (T458.setTop (mkF m 128 #[.val (.int p0), .val (.int p1), .val (.int p2), .val (.int p3), .val (.int p4), .val (.int ((p0 &&& (2147483647 : Int32)) % (3 : Int32))), .val (.ref r371), .val (.ref s374), .val (.ref s382), .val (.ref s389), .val (.ref s396), .val (.ref b403), .val (.int b426), .val (.int (1 : Int32)), .val (.int (1 : Int32)), .unset, .unset] [(.int (if r1 = r1 then 1 else 0))])) _
      refine XS.istore X458.here hx rfl (hb hby at_128) rfl (l' := #[.val (.int p0), .val (.int p1), .val (.int p2), .val (.int p3), .val (.int p4), .val (.int ((p0 &&& (2147483647 : Int32)) % (3 : Int32))), .val (.ref r371), .val (.ref s374), .val (.ref s382), .val (.ref s389), .val (.ref s396), .val (.ref b403), .val (.int b426), .val (.int (1 : Int32)), .val (.int (1 : Int32)), .val (.int (if r1 = r1 then 1 else 0)), .unset]) rfl ?_
      show Steps p.tables e below (T458.setTop (mkF m 130 #[.val (.int p0), .val (.int p1), .val (.int p2), .val (.int p3), .val (.int p4), .val (.int ((p0 &&& (2147483647 : Int32)) % (3 : Int32))), .val (.ref r371), .val (.ref s374), .val (.ref s382), .val (.ref s389), .val (.ref s396), .val (.ref b403), .val (.int b426), .val (.int (1 : Int32)), .val (.int (1 : Int32)), .val (.int (if r1 = r1 then 1 else 0)), .unset] [])) _
      refine XS.aload X458.here hx rfl (hb hby at_130) rfl rfl ?_
      show Steps p.tables e below (T458.setTop (mkF m 132 #[.val (.int p0), .val (.int p1), .val (.int p2), .val (.int p3), .val (.int p4), .val (.int ((p0 &&& (2147483647 : Int32)) % (3 : Int32))), .val (.ref r371), .val (.ref s374), .val (.ref s382), .val (.ref s389), .val (.ref s396), .val (.ref b403), .val (.int b426), .val (.int (1 : Int32)), .val (.int (1 : Int32)), .val (.int (if r1 = r1 then 1 else 0)), .unset] [(.ref s374)])) _
      refine XS.aload X458.here hx rfl (hb hby at_132) rfl rfl ?_
      show Steps p.tables e below (T458.setTop (mkF m 134 #[.val (.int p0), .val (.int p1), .val (.int p2), .val (.int p3), .val (.int p4), .val (.int ((p0 &&& (2147483647 : Int32)) % (3 : Int32))), .val (.ref r371), .val (.ref s374), .val (.ref s382), .val (.ref s389), .val (.ref s396), .val (.ref b403), .val (.int b426), .val (.int (1 : Int32)), .val (.int (1 : Int32)), .val (.int (if r1 = r1 then 1 else 0)), .unset] [(.ref s389), (.ref s374)])) _
      exact st462 _ k)
    have Z465 : n0 ≤ T462.heap.size := Nat.le_trans Z454 Kk462.1
    have K466 : Keep h0 T462.heap [] := K455.trans Kk462 (all0)
    have O467 : Old Z n0 T462.heap := O456.keep Kk462 all0
    have hk468 : T451.heap.size ≤ T462.heap.size := Nat.le_trans (Nat.le_refl _) Kk462.1
    have C469 : CHr Z own_EL T451.vm T451.heap T451.vm T462.heap := CHr.keep Kk462 sf0 cr451.1
    have R470 : CHr Z own_EL s.vm h0 T451.vm T462.heap := R457.trans C469
    have g_m462 : n0 ≤ m462 := Nat.le_trans Z454 sz462
    have sz_m462 : h0.size ≤ m462 := Nat.le_trans K455.1 sz462
    obtain ⟨cq471, kq471, q471a, q471b, q471c⟩ := isOf hZr451 rfl Ek462
    obtain ⟨_, _, ⟨T471, L471, k471, n471⟩, -, X471, ⟨Lc471, hQ471, l471, y471, z471⟩, st471⟩ := X462.virtualBack hx (y := (⟨"com/example/lakebed/lakebed/model/TimelineInstant", "isCompleted", "()Z"⟩ : MethodName)) (z := (⟨"com/example/lakebed/lakebed/model/TimelineInstant", "isCompleted", "()Z"⟩ : MethodName)) ho451 (mvT hZr451 (hw _ (List.mem_of_getElem? (i := 53) rfl))) (mvT hZr451 (hw _ (List.mem_of_getElem? (i := 54) rfl))) (notFace_of_selects (args := #[]) (mvT hZr451 (hw _ (List.mem_of_getElem? (i := 56) rfl)))) (mvT hZr451 (hw _ (List.mem_of_getElem? (i := 56) rfl))) (mvT hZr451 (hw _ (List.mem_of_getElem? (i := 55) rfl))) (by decide) (backOf (W := 0) (rm_isC l Z a0 hw [] m462 r0 r0 r1 r2 T462.heap n0 Z465 Fs462 S0 S1 S2 O467) hZr451 (hw _ (List.mem_of_getElem? (i := 57) rfl)) (hw _ (List.mem_of_getElem? (i := 35) rfl)) (by decide) (by decide)) q471a q471c (g := (mkF m 137 #[.val (.int p0), .val (.int p1), .val (.int p2), .val (.int p3), .val (.int p4), .val (.int ((p0 &&& (2147483647 : Int32)) % (3 : Int32))), .val (.ref r371), .val (.ref s374), .val (.ref s382), .val (.ref s389), .val (.ref s396), .val (.ref b403), .val (.int b426), .val (.int (1 : Int32)), .val (.int (1 : Int32)), .val (.int (if r1 = r1 then 1 else 0)), .unset] [(.ref m462)])) rfl (by rw [hml]; rfl) (Steps.refl _) (argsL := []) (rest := []) (lenOf pd__28_29Z rfl) rfl (by show 2 * 0 + _ ≤ _; exact Nat.le_of_eq rfl) (hb hby at_137) (fun _ _ => ⟨rfl, rfl, (Nat.le_of_ble_eq_true rfl : 34 + 0 ≤ _), (Nat.le_of_ble_eq_true rfl : 116 + 0 ≤ _)⟩)
    dsimp only [Pt.U, Pt.locs, Pt.cells, Pt.slots] at X471 l471 y471 z471 st471 hQ471
    subst l471 y471 z471
    obtain ⟨rfl, Nq471, e471⟩ := hQ471
    have N472 := Fr.app N463 Nq471
    have P473 : ∀ t, Steps p.tables e below (T471.setTop (mkF m 140 #[.val (.int p0), .val (.int p1), .val (.int p2), .val (.int p3), .val (.int p4), .val (.int ((p0 &&& (2147483647 : Int32)) % (3 : Int32))), .val (.ref r371), .val (.ref s374), .val (.ref s382), .val (.ref s389), .val (.ref s396), .val (.ref b403), .val (.int b426), .val (.int (1 : Int32)), .val (.int (1 : Int32)), .val (.int (if r1 = r1 then 1 else 0)), .unset] [(.int (if r0 = r1 then 1 else 0))])) t → Steps p.tables e below (s₁.setTop (mkF m 0 #[.val (.int p0), .val (.int p1), .val (.int p2), .val (.int p3), .val (.int p4), .unset, .unset, .unset, .unset, .unset, .unset, .unset, .unset, .unset, .unset, .unset, .unset] [])) t := fun t k => P464 t (by
      show Steps p.tables e below (T462.setTop (mkF m 137 #[.val (.int p0), .val (.int p1), .val (.int p2), .val (.int p3), .val (.int p4), .val (.int ((p0 &&& (2147483647 : Int32)) % (3 : Int32))), .val (.ref r371), .val (.ref s374), .val (.ref s382), .val (.ref s389), .val (.ref s396), .val (.ref b403), .val (.int b426), .val (.int (1 : Int32)), .val (.int (1 : Int32)), .val (.int (if r1 = r1 then 1 else 0)), .unset] [(.ref m462)])) _
      exact st471.trans k)
    have hi474 : (if r0 = r1 then 1 else 0) = (0 : Int32) := if_neg nr0
    obtain ⟨fs475, hr475, hrun475, hended475, hRW475⟩ := X471.leaveW (v := some (.int (1 : Int32))) hSr451 (by rw [e471]; exact hk468) (fun h => by rw [Bd.returns] at h; cases h)
    have hce475 : CHr Z own_EL s.vm s.heap T471.vm T471.heap := by
      rw [hh, e471]
      exact R470.trans (CHv.at X471 hZr451 (own_EW hw) C469.1)
    refine ⟨_, _, pre0 _ (P473 _ ?_), hrun475, hended475, _, _, rfl, ?_, hce475, ⟨hRW475.1, hRW475.2.1, hRW475.2.2.1, hRW475.2.2.2.mono (Nat.le_of_ble_eq_true rfl) (Nat.le_of_ble_eq_true rfl)⟩⟩
    · show Steps p.tables e below (T471.setTop (mkF m 140 #[.val (.int p0), .val (.int p1), .val (.int p2), .val (.int p3), .val (.int p4), .val (.int ((p0 &&& (2147483647 : Int32)) % (3 : Int32))), .val (.ref r371), .val (.ref s374), .val (.ref s382), .val (.ref s389), .val (.ref s396), .val (.ref b403), .val (.int b426), .val (.int (1 : Int32)), .val (.int (1 : Int32)), .val (.int (if r1 = r1 then 1 else 0)), .unset] [(.int (if r0 = r1 then 1 else 0))])) _
      refine XS.ifNo X471.here hx rfl (hb hby at_140) rfl ((if0 _ _).trans (teq (show (if r0 = r1 then 1 else 0) = (0 : Int32) from hi474)).2) ?_
      show Steps p.tables e below (T471.setTop (mkF m 143 #[.val (.int p0), .val (.int p1), .val (.int p2), .val (.int p3), .val (.int p4), .val (.int ((p0 &&& (2147483647 : Int32)) % (3 : Int32))), .val (.ref r371), .val (.ref s374), .val (.ref s382), .val (.ref s389), .val (.ref s396), .val (.ref b403), .val (.int b426), .val (.int (1 : Int32)), .val (.int (1 : Int32)), .val (.int (if r1 = r1 then 1 else 0)), .unset] [])) _
      refine XS.iconst X471.here hx rfl (hb hby at_143) ?_
      show Steps p.tables e below (T471.setTop (mkF m 144 #[.val (.int p0), .val (.int p1), .val (.int p2), .val (.int p3), .val (.int p4), .val (.int ((p0 &&& (2147483647 : Int32)) % (3 : Int32))), .val (.ref r371), .val (.ref s374), .val (.ref s382), .val (.ref s389), .val (.ref s396), .val (.ref b403), .val (.int b426), .val (.int (1 : Int32)), .val (.int (1 : Int32)), .val (.int (if r1 = r1 then 1 else 0)), .unset] [(.int (1 : Int32))])) _
      refine XS.goto X471.here hx rfl (pc0 := 144) (pc' := 148) rfl (hb hby at_144) (by decide) (by decide) ?_
      show Steps p.tables e below (T471.setTop (mkF m 148 #[.val (.int p0), .val (.int p1), .val (.int p2), .val (.int p3), .val (.int p4), .val (.int ((p0 &&& (2147483647 : Int32)) % (3 : Int32))), .val (.ref r371), .val (.ref s374), .val (.ref s382), .val (.ref s389), .val (.ref s396), .val (.ref b403), .val (.int b426), .val (.int (1 : Int32)), .val (.int (1 : Int32)), .val (.int (if r1 = r1 then 1 else 0)), .unset] [(.int (1 : Int32))])) _
      refine XS.istore X471.here hx rfl (hb hby at_148) rfl (l' := #[.val (.int p0), .val (.int p1), .val (.int p2), .val (.int p3), .val (.int p4), .val (.int ((p0 &&& (2147483647 : Int32)) % (3 : Int32))), .val (.ref r371), .val (.ref s374), .val (.ref s382), .val (.ref s389), .val (.ref s396), .val (.ref b403), .val (.int b426), .val (.int (1 : Int32)), .val (.int (1 : Int32)), .val (.int (if r1 = r1 then 1 else 0)), .val (.int (1 : Int32))]) rfl ?_
      show Steps p.tables e below (T471.setTop (mkF m 150 #[.val (.int p0), .val (.int p1), .val (.int p2), .val (.int p3), .val (.int p4), .val (.int ((p0 &&& (2147483647 : Int32)) % (3 : Int32))), .val (.ref r371), .val (.ref s374), .val (.ref s382), .val (.ref s389), .val (.ref s396), .val (.ref b403), .val (.int b426), .val (.int (1 : Int32)), .val (.int (1 : Int32)), .val (.int (if r1 = r1 then 1 else 0)), .val (.int (1 : Int32))] [])) _
      refine XS.iload X471.here hx rfl (hb hby at_150) rfl ?_
      show Steps p.tables e below (T471.setTop (mkF m 152 #[.val (.int p0), .val (.int p1), .val (.int p2), .val (.int p3), .val (.int p4), .val (.int ((p0 &&& (2147483647 : Int32)) % (3 : Int32))), .val (.ref r371), .val (.ref s374), .val (.ref s382), .val (.ref s389), .val (.ref s396), .val (.ref b403), .val (.int b426), .val (.int (1 : Int32)), .val (.int (1 : Int32)), .val (.int (if r1 = r1 then 1 else 0)), .val (.int (1 : Int32))] [(.int (1 : Int32))])) _
      refine XS.ifNo X471.here hx rfl (hb hby at_152) rfl ((if0 _ _).trans (feq (show ¬ ((1 : Int32) = (0 : Int32)) from (by decide))).1) ?_
      show Steps p.tables e below (T471.setTop (mkF m 155 #[.val (.int p0), .val (.int p1), .val (.int p2), .val (.int p3), .val (.int p4), .val (.int ((p0 &&& (2147483647 : Int32)) % (3 : Int32))), .val (.ref r371), .val (.ref s374), .val (.ref s382), .val (.ref s389), .val (.ref s396), .val (.ref b403), .val (.int b426), .val (.int (1 : Int32)), .val (.int (1 : Int32)), .val (.int (if r1 = r1 then 1 else 0)), .val (.int (1 : Int32))] [])) _
      refine XS.iload X471.here hx rfl (hb hby at_155) rfl ?_
      show Steps p.tables e below (T471.setTop (mkF m 157 #[.val (.int p0), .val (.int p1), .val (.int p2), .val (.int p3), .val (.int p4), .val (.int ((p0 &&& (2147483647 : Int32)) % (3 : Int32))), .val (.ref r371), .val (.ref s374), .val (.ref s382), .val (.ref s389), .val (.ref s396), .val (.ref b403), .val (.int b426), .val (.int (1 : Int32)), .val (.int (1 : Int32)), .val (.int (if r1 = r1 then 1 else 0)), .val (.int (1 : Int32))] [(.int (1 : Int32))])) _
      refine XS.ifNo X471.here hx rfl (hb hby at_157) rfl ((if0 _ _).trans (feq (show ¬ ((1 : Int32) = (0 : Int32)) from (by decide))).1) ?_
      show Steps p.tables e below (T471.setTop (mkF m 160 #[.val (.int p0), .val (.int p1), .val (.int p2), .val (.int p3), .val (.int p4), .val (.int ((p0 &&& (2147483647 : Int32)) % (3 : Int32))), .val (.ref r371), .val (.ref s374), .val (.ref s382), .val (.ref s389), .val (.ref s396), .val (.ref b403), .val (.int b426), .val (.int (1 : Int32)), .val (.int (1 : Int32)), .val (.int (if r1 = r1 then 1 else 0)), .val (.int (1 : Int32))] [])) _
      refine XS.iload X471.here hx rfl (hb hby at_160) rfl ?_
      show Steps p.tables e below (T471.setTop (mkF m 162 #[.val (.int p0), .val (.int p1), .val (.int p2), .val (.int p3), .val (.int p4), .val (.int ((p0 &&& (2147483647 : Int32)) % (3 : Int32))), .val (.ref r371), .val (.ref s374), .val (.ref s382), .val (.ref s389), .val (.ref s396), .val (.ref b403), .val (.int b426), .val (.int (1 : Int32)), .val (.int (1 : Int32)), .val (.int (if r1 = r1 then 1 else 0)), .val (.int (1 : Int32))] [(.int (if r1 = r1 then 1 else 0))])) _
      refine XS.ifNo X471.here hx rfl (hb hby at_162) rfl ((if0 _ _).trans (feq (show ¬ ((if r1 = r1 then 1 else 0) = (0 : Int32)) from hi461)).1) ?_
      show Steps p.tables e below (T471.setTop (mkF m 165 #[.val (.int p0), .val (.int p1), .val (.int p2), .val (.int p3), .val (.int p4), .val (.int ((p0 &&& (2147483647 : Int32)) % (3 : Int32))), .val (.ref r371), .val (.ref s374), .val (.ref s382), .val (.ref s389), .val (.ref s396), .val (.ref b403), .val (.int b426), .val (.int (1 : Int32)), .val (.int (1 : Int32)), .val (.int (if r1 = r1 then 1 else 0)), .val (.int (1 : Int32))] [])) _
      refine XS.iload X471.here hx rfl (hb hby at_165) rfl ?_
      show Steps p.tables e below (T471.setTop (mkF m 167 #[.val (.int p0), .val (.int p1), .val (.int p2), .val (.int p3), .val (.int p4), .val (.int ((p0 &&& (2147483647 : Int32)) % (3 : Int32))), .val (.ref r371), .val (.ref s374), .val (.ref s382), .val (.ref s389), .val (.ref s396), .val (.ref b403), .val (.int b426), .val (.int (1 : Int32)), .val (.int (1 : Int32)), .val (.int (if r1 = r1 then 1 else 0)), .val (.int (1 : Int32))] [(.int (1 : Int32))])) _
      refine XS.ifNo X471.here hx rfl (hb hby at_167) rfl ((if0 _ _).trans (feq (show ¬ ((1 : Int32) = (0 : Int32)) from (by decide))).1) ?_
      show Steps p.tables e below (T471.setTop (mkF m 170 #[.val (.int p0), .val (.int p1), .val (.int p2), .val (.int p3), .val (.int p4), .val (.int ((p0 &&& (2147483647 : Int32)) % (3 : Int32))), .val (.ref r371), .val (.ref s374), .val (.ref s382), .val (.ref s389), .val (.ref s396), .val (.ref b403), .val (.int b426), .val (.int (1 : Int32)), .val (.int (1 : Int32)), .val (.int (if r1 = r1 then 1 else 0)), .val (.int (1 : Int32))] [])) _
      refine XS.iconst X471.here hx rfl (hb hby at_170) ?_
      show Steps p.tables e below (T471.setTop (mkF m 171 #[.val (.int p0), .val (.int p1), .val (.int p2), .val (.int p3), .val (.int p4), .val (.int ((p0 &&& (2147483647 : Int32)) % (3 : Int32))), .val (.ref r371), .val (.ref s374), .val (.ref s382), .val (.ref s389), .val (.ref s396), .val (.ref b403), .val (.int b426), .val (.int (1 : Int32)), .val (.int (1 : Int32)), .val (.int (if r1 = r1 then 1 else 0)), .val (.int (1 : Int32))] [(.int (1 : Int32))])) _
      refine XS.goto X471.here hx rfl (pc0 := 171) (pc' := 175) rfl (hb hby at_171) (by decide) (by decide) ?_
      show Steps p.tables e below (T471.setTop (mkF m 175 #[.val (.int p0), .val (.int p1), .val (.int p2), .val (.int p3), .val (.int p4), .val (.int ((p0 &&& (2147483647 : Int32)) % (3 : Int32))), .val (.ref r371), .val (.ref s374), .val (.ref s382), .val (.ref s389), .val (.ref s396), .val (.ref b403), .val (.int b426), .val (.int (1 : Int32)), .val (.int (1 : Int32)), .val (.int (if r1 = r1 then 1 else 0)), .val (.int (1 : Int32))] [(.int (1 : Int32))])) _
      exact retN X471 hx (t := .boolean) Bd.returns (by simp) (hb hby at_175) hr475
    · show Q_law  h0 n0 _ T471.heap _
      rw [e471]
      exact ⟨rfl, N472⟩
  · skip
    obtain ⟨_, _, ⟨T476, L476, k476, n476⟩, -, X476, hs476, hg476, ⟨Lc476, hQ476, l476, y476, z476, cr476⟩, st476⟩ := callSS Xr374 hx (y := (⟨"com/example/lakebed/lakebed/model/TimelineInstantIsCompletedPinLaw", "str", "(I)Ljava/lang/String;"⟩ : MethodName)) ho374 (mvT hZr374 (hw _ (List.mem_of_getElem? (i := 8) rfl))) (mvT hZr374 (hw _ (List.mem_of_getElem? (i := 9) rfl))) (mvT hZr374 (hw _ (List.mem_of_getElem? (i := 3) rfl))) (mvT hZr374 (hw _ (List.mem_of_getElem? (i := 10) rfl))) (by decide) (backOfSH (W := 0) (rm_str l Z a0 hw [] p3 G1 T374.heap n0 Z377 Sg P5 O379) hZr374 (hw _ (List.mem_of_getElem? (i := 10) rfl)) (hw _ (List.mem_of_getElem? (i := 3) rfl)) (by decide) (by decide) (own_EW hw) cr374.1) (g := (mkF m 41 #[.val (.int p0), .val (.int p1), .val (.int p2), .val (.int p3), .val (.int p4), .val (.int ((p0 &&& (2147483647 : Int32)) % (3 : Int32))), .val (.ref r371), .val (.ref s374), .val .null, .unset, .unset, .unset, .unset, .unset, .unset, .unset, .unset] [(.int p3)])) rfl (by rw [hml]; rfl) (argsL := [(.int p3)]) (rest := []) (lenOf pd__28I_29Ljava_2flang_2fString_3b rfl) rfl (by show 2 * 0 + _ ≤ _; exact Nat.le_of_eq rfl) (hb hby at_41) (fun _ _ => ⟨rfl, rfl, (Nat.le_of_ble_eq_true rfl : 7 + 7 ≤ _), (Nat.le_of_ble_eq_true rfl : 14 + 14 ≤ _)⟩)
    dsimp only [Pt.U, Pt.locs, Pt.cells, Pt.slots] at X476 l476 y476 z476 st476 hQ476 hs476 hg476 cr476
    subst l476 y476 z476
    obtain ⟨s476, t476, k476, cs476, rfl, Nq476, sz476, Kk476, Ek476, Fv476, Fc476, Av476, hl476, hb476⟩ := hQ476
    obtain ⟨Xr476, hSr476, hZr476, ho476⟩ := rebS hSr374 (Nat.le_refl _) X476 hs476 hg476 hZr374 ho374
    have N477 := Fr.app N375 Nq476
    have P478 : ∀ t, Steps p.tables e below (T476.setTop (mkF m 44 #[.val (.int p0), .val (.int p1), .val (.int p2), .val (.int p3), .val (.int p4), .val (.int ((p0 &&& (2147483647 : Int32)) % (3 : Int32))), .val (.ref r371), .val (.ref s374), .val .null, .unset, .unset, .unset, .unset, .unset, .unset, .unset, .unset] [(.ref s476)])) t → Steps p.tables e below (s₁.setTop (mkF m 0 #[.val (.int p0), .val (.int p1), .val (.int p2), .val (.int p3), .val (.int p4), .unset, .unset, .unset, .unset, .unset, .unset, .unset, .unset, .unset, .unset, .unset, .unset] [])) t := fun t k => P376 t (by
      show Steps p.tables e below (T374.setTop (mkF m 19 #[.val (.int p0), .val (.int p1), .val (.int p2), .val (.int p3), .val (.int p4), .val (.int ((p0 &&& (2147483647 : Int32)) % (3 : Int32))), .val (.ref r371), .unset, .unset, .unset, .unset, .unset, .unset, .unset, .unset, .unset, .unset] [(.ref s374)])) _
      refine XS.astore Xr374.here hx rfl (hb hby at_19) rfl rfl (l' := #[.val (.int p0), .val (.int p1), .val (.int p2), .val (.int p3), .val (.int p4), .val (.int ((p0 &&& (2147483647 : Int32)) % (3 : Int32))), .val (.ref r371), .val (.ref s374), .unset, .unset, .unset, .unset, .unset, .unset, .unset, .unset, .unset]) rfl ?_
      show Steps p.tables e below (T374.setTop (mkF m 21 #[.val (.int p0), .val (.int p1), .val (.int p2), .val (.int p3), .val (.int p4), .val (.int ((p0 &&& (2147483647 : Int32)) % (3 : Int32))), .val (.ref r371), .val (.ref s374), .unset, .unset, .unset, .unset, .unset, .unset, .unset, .unset, .unset] [])) _
      refine XS.iloadN Xr374.here hx rfl (hb hby at_21) rfl ?_
      show Steps p.tables e below (T374.setTop (mkF m 22 #[.val (.int p0), .val (.int p1), .val (.int p2), .val (.int p3), .val (.int p4), .val (.int ((p0 &&& (2147483647 : Int32)) % (3 : Int32))), .val (.ref r371), .val (.ref s374), .unset, .unset, .unset, .unset, .unset, .unset, .unset, .unset, .unset] [(.int p2)])) _
      refine XS.bipush Xr374.here hx rfl (hb hby at_22) ?_
      show Steps p.tables e below (T374.setTop (mkF m 24 #[.val (.int p0), .val (.int p1), .val (.int p2), .val (.int p3), .val (.int p4), .val (.int ((p0 &&& (2147483647 : Int32)) % (3 : Int32))), .val (.ref r371), .val (.ref s374), .unset, .unset, .unset, .unset, .unset, .unset, .unset, .unset, .unset] [(.int (20 : Int32)), (.int p2)])) _
      refine XS.iushr Xr374.here hx rfl (hb hby at_24) rfl ?_
      show Steps p.tables e below (T374.setTop (mkF m 25 #[.val (.int p0), .val (.int p1), .val (.int p2), .val (.int p3), .val (.int p4), .val (.int ((p0 &&& (2147483647 : Int32)) % (3 : Int32))), .val (.ref r371), .val (.ref s374), .unset, .unset, .unset, .unset, .unset, .unset, .unset, .unset, .unset] [(.int ((p2.toUInt32 >>> ((20 : Int32) &&& 31).toUInt32).toInt32))])) _
      refine XS.iconst Xr374.here hx rfl (hb hby at_25) ?_
      show Steps p.tables e below (T374.setTop (mkF m 26 #[.val (.int p0), .val (.int p1), .val (.int p2), .val (.int p3), .val (.int p4), .val (.int ((p0 &&& (2147483647 : Int32)) % (3 : Int32))), .val (.ref r371), .val (.ref s374), .unset, .unset, .unset, .unset, .unset, .unset, .unset, .unset, .unset] [(.int (1 : Int32)), (.int ((p2.toUInt32 >>> ((20 : Int32) &&& 31).toUInt32).toInt32))])) _
      refine XS.iand Xr374.here hx rfl (hb hby at_26) rfl ?_
      show Steps p.tables e below (T374.setTop (mkF m 27 #[.val (.int p0), .val (.int p1), .val (.int p2), .val (.int p3), .val (.int p4), .val (.int ((p0 &&& (2147483647 : Int32)) % (3 : Int32))), .val (.ref r371), .val (.ref s374), .unset, .unset, .unset, .unset, .unset, .unset, .unset, .unset, .unset] [(.int (((p2.toUInt32 >>> ((20 : Int32) &&& 31).toUInt32).toInt32) &&& (1 : Int32)))])) _
      refine XS.ifNo Xr374.here hx rfl (hb hby at_27) rfl ((if0 _ _).trans (feq (show ¬ ((((p2.toUInt32 >>> ((20 : Int32) &&& 31).toUInt32).toInt32) &&& (1 : Int32)) = (0 : Int32)) from q381)).1) ?_
      show Steps p.tables e below (T374.setTop (mkF m 30 #[.val (.int p0), .val (.int p1), .val (.int p2), .val (.int p3), .val (.int p4), .val (.int ((p0 &&& (2147483647 : Int32)) % (3 : Int32))), .val (.ref r371), .val (.ref s374), .unset, .unset, .unset, .unset, .unset, .unset, .unset, .unset, .unset] [])) _
      refine XS.aconstNull Xr374.here hx rfl (hb hby at_30) ?_
      show Steps p.tables e below (T374.setTop (mkF m 31 #[.val (.int p0), .val (.int p1), .val (.int p2), .val (.int p3), .val (.int p4), .val (.int ((p0 &&& (2147483647 : Int32)) % (3 : Int32))), .val (.ref r371), .val (.ref s374), .unset, .unset, .unset, .unset, .unset, .unset, .unset, .unset, .unset] [.null])) _
      refine XS.goto Xr374.here hx rfl (pc0 := 31) (pc' := 38) rfl (hb hby at_31) (by decide) (by decide) ?_
      show Steps p.tables e below (T374.setTop (mkF m 38 #[.val (.int p0), .val (.int p1), .val (.int p2), .val (.int p3), .val (.int p4), .val (.int ((p0 &&& (2147483647 : Int32)) % (3 : Int32))), .val (.ref r371), .val (.ref s374), .unset, .unset, .unset, .unset, .unset, .unset, .unset, .unset, .unset] [.null])) _
      refine XS.astore Xr374.here hx rfl (hb hby at_38) rfl rfl (l' := #[.val (.int p0), .val (.int p1), .val (.int p2), .val (.int p3), .val (.int p4), .val (.int ((p0 &&& (2147483647 : Int32)) % (3 : Int32))), .val (.ref r371), .val (.ref s374), .val .null, .unset, .unset, .unset, .unset, .unset, .unset, .unset, .unset]) rfl ?_
      show Steps p.tables e below (T374.setTop (mkF m 40 #[.val (.int p0), .val (.int p1), .val (.int p2), .val (.int p3), .val (.int p4), .val (.int ((p0 &&& (2147483647 : Int32)) % (3 : Int32))), .val (.ref r371), .val (.ref s374), .val .null, .unset, .unset, .unset, .unset, .unset, .unset, .unset, .unset] [])) _
      refine XS.iloadN Xr374.here hx rfl (hb hby at_40) rfl ?_
      show Steps p.tables e below (T374.setTop (mkF m 41 #[.val (.int p0), .val (.int p1), .val (.int p2), .val (.int p3), .val (.int p4), .val (.int ((p0 &&& (2147483647 : Int32)) % (3 : Int32))), .val (.ref r371), .val (.ref s374), .val .null, .unset, .unset, .unset, .unset, .unset, .unset, .unset, .unset] [(.int p3)])) _
      exact st476.trans k)
    have Z479 : n0 ≤ T476.heap.size := Nat.le_trans Z377 Kk476.1
    have K480 : Keep h0 T476.heap [] := K378.trans Kk476 (all0)
    have O481 : Old Z n0 T476.heap := O379.keep Kk476 all0
    have R482 : CHr Z own_EL s.vm h0 T476.vm T476.heap := R380.trans cr476
    have g_s476 : n0 ≤ s476 := Nat.le_trans Z377 sz476
    have sz_s476 : h0.size ≤ s476 := Nat.le_trans K378.1 sz476
    obtain ⟨_, _, ⟨T483, L483, k483, n483⟩, -, X483, hs483, hg483, ⟨Lc483, hQ483, l483, y483, z483, cr483⟩, st483⟩ := callSS Xr476 hx (y := (⟨"com/example/lakebed/lakebed/model/TimelineInstantIsCompletedPinLaw", "str", "(I)Ljava/lang/String;"⟩ : MethodName)) ho476 (mvT hZr476 (hw _ (List.mem_of_getElem? (i := 8) rfl))) (mvT hZr476 (hw _ (List.mem_of_getElem? (i := 9) rfl))) (mvT hZr476 (hw _ (List.mem_of_getElem? (i := 3) rfl))) (mvT hZr476 (hw _ (List.mem_of_getElem? (i := 10) rfl))) (by decide) (backOfSH (W := 0) (rm_str l Z a0 hw [] p4 G1 T476.heap n0 Z479 Sg P5 O481) hZr476 (hw _ (List.mem_of_getElem? (i := 10) rfl)) (hw _ (List.mem_of_getElem? (i := 3) rfl)) (by decide) (by decide) (own_EW hw) cr476.1) (g := (mkF m 48 #[.val (.int p0), .val (.int p1), .val (.int p2), .val (.int p3), .val (.int p4), .val (.int ((p0 &&& (2147483647 : Int32)) % (3 : Int32))), .val (.ref r371), .val (.ref s374), .val .null, .val (.ref s476), .unset, .unset, .unset, .unset, .unset, .unset, .unset] [(.int p4)])) rfl (by rw [hml]; rfl) (argsL := [(.int p4)]) (rest := []) (lenOf pd__28I_29Ljava_2flang_2fString_3b rfl) rfl (by show 2 * 0 + _ ≤ _; exact Nat.le_of_eq rfl) (hb hby at_48) (fun _ _ => ⟨rfl, rfl, (Nat.le_of_ble_eq_true rfl : 14 + 7 ≤ _), (Nat.le_of_ble_eq_true rfl : 28 + 14 ≤ _)⟩)
    dsimp only [Pt.U, Pt.locs, Pt.cells, Pt.slots] at X483 l483 y483 z483 st483 hQ483 hs483 hg483 cr483
    subst l483 y483 z483
    obtain ⟨s483, t483, k483, cs483, rfl, Nq483, sz483, Kk483, Ek483, Fv483, Fc483, Av483, hl483, hb483⟩ := hQ483
    obtain ⟨Xr483, hSr483, hZr483, ho483⟩ := rebS hSr476 (Nat.le_refl _) X483 hs483 hg483 hZr476 ho476
    have N484 := Fr.app N477 Nq483
    have P485 : ∀ t, Steps p.tables e below (T483.setTop (mkF m 51 #[.val (.int p0), .val (.int p1), .val (.int p2), .val (.int p3), .val (.int p4), .val (.int ((p0 &&& (2147483647 : Int32)) % (3 : Int32))), .val (.ref r371), .val (.ref s374), .val .null, .val (.ref s476), .unset, .unset, .unset, .unset, .unset, .unset, .unset] [(.ref s483)])) t → Steps p.tables e below (s₁.setTop (mkF m 0 #[.val (.int p0), .val (.int p1), .val (.int p2), .val (.int p3), .val (.int p4), .unset, .unset, .unset, .unset, .unset, .unset, .unset, .unset, .unset, .unset, .unset, .unset] [])) t := fun t k => P478 t (by
      show Steps p.tables e below (T476.setTop (mkF m 44 #[.val (.int p0), .val (.int p1), .val (.int p2), .val (.int p3), .val (.int p4), .val (.int ((p0 &&& (2147483647 : Int32)) % (3 : Int32))), .val (.ref r371), .val (.ref s374), .val .null, .unset, .unset, .unset, .unset, .unset, .unset, .unset, .unset] [(.ref s476)])) _
      refine XS.astore Xr476.here hx rfl (hb hby at_44) rfl rfl (l' := #[.val (.int p0), .val (.int p1), .val (.int p2), .val (.int p3), .val (.int p4), .val (.int ((p0 &&& (2147483647 : Int32)) % (3 : Int32))), .val (.ref r371), .val (.ref s374), .val .null, .val (.ref s476), .unset, .unset, .unset, .unset, .unset, .unset, .unset]) rfl ?_
      show Steps p.tables e below (T476.setTop (mkF m 46 #[.val (.int p0), .val (.int p1), .val (.int p2), .val (.int p3), .val (.int p4), .val (.int ((p0 &&& (2147483647 : Int32)) % (3 : Int32))), .val (.ref r371), .val (.ref s374), .val .null, .val (.ref s476), .unset, .unset, .unset, .unset, .unset, .unset, .unset] [])) _
      refine XS.iload Xr476.here hx rfl (hb hby at_46) rfl ?_
      show Steps p.tables e below (T476.setTop (mkF m 48 #[.val (.int p0), .val (.int p1), .val (.int p2), .val (.int p3), .val (.int p4), .val (.int ((p0 &&& (2147483647 : Int32)) % (3 : Int32))), .val (.ref r371), .val (.ref s374), .val .null, .val (.ref s476), .unset, .unset, .unset, .unset, .unset, .unset, .unset] [(.int p4)])) _
      exact st483.trans k)
    have Z486 : n0 ≤ T483.heap.size := Nat.le_trans Z479 Kk483.1
    have K487 : Keep h0 T483.heap [] := K480.trans Kk483 (all0)
    have O488 : Old Z n0 T483.heap := O481.keep Kk483 all0
    have R489 : CHr Z own_EL s.vm h0 T483.vm T483.heap := R482.trans cr483
    have g_s483 : n0 ≤ s483 := Nat.le_trans Z479 sz483
    have sz_s483 : h0.size ≤ s483 := Nat.le_trans K480.1 sz483
    obtain ⟨T490, h490, X490, e490, E490, A490, D490, -, st490⟩ := newO Xr483 hx hZr483 ho483 (hw _ (List.mem_of_getElem? (i := 33) rfl)) (hw _ (List.mem_of_getElem? (i := 34) rfl)) (hw _ (List.mem_of_getElem? (i := 35) rfl)) rfl (g := (mkF m 53 #[.val (.int p0), .val (.int p1), .val (.int p2), .val (.int p3), .val (.int p4), .val (.int ((p0 &&& (2147483647 : Int32)) % (3 : Int32))), .val (.ref r371), .val (.ref s374), .val .null, .val (.ref s476), .val (.ref s483), .unset, .unset, .unset, .unset, .unset, .unset] [])) rfl (hb hby at_53) (by decide) (by decide)
    obtain ⟨b490, g490⟩ : ∃ z, z = T483.heap.size := ⟨_, rfl⟩
    rw [← g490] at A490 D490 st490
    have g_b490 : n0 ≤ b490 := Nat.le_trans Z486 (Nat.le_of_eq g490.symm)
    have sz_b490 : h0.size ≤ b490 := Nat.le_trans K487.1 (Nat.le_of_eq g490.symm)
    have P491 : ∀ t, Steps p.tables e below (T490.setTop (mkF m 56 #[.val (.int p0), .val (.int p1), .val (.int p2), .val (.int p3), .val (.int p4), .val (.int ((p0 &&& (2147483647 : Int32)) % (3 : Int32))), .val (.ref r371), .val (.ref s374), .val .null, .val (.ref s476), .val (.ref s483), .unset, .unset, .unset, .unset, .unset, .unset] [(.ref b490)])) t → Steps p.tables e below (s₁.setTop (mkF m 0 #[.val (.int p0), .val (.int p1), .val (.int p2), .val (.int p3), .val (.int p4), .unset, .unset, .unset, .unset, .unset, .unset, .unset, .unset, .unset, .unset, .unset, .unset] [])) t := fun t k => P485 t (by
      show Steps p.tables e below (T483.setTop (mkF m 51 #[.val (.int p0), .val (.int p1), .val (.int p2), .val (.int p3), .val (.int p4), .val (.int ((p0 &&& (2147483647 : Int32)) % (3 : Int32))), .val (.ref r371), .val (.ref s374), .val .null, .val (.ref s476), .unset, .unset, .unset, .unset, .unset, .unset, .unset] [(.ref s483)])) _
      refine XS.astore Xr483.here hx rfl (hb hby at_51) rfl rfl (l' := #[.val (.int p0), .val (.int p1), .val (.int p2), .val (.int p3), .val (.int p4), .val (.int ((p0 &&& (2147483647 : Int32)) % (3 : Int32))), .val (.ref r371), .val (.ref s374), .val .null, .val (.ref s476), .val (.ref s483), .unset, .unset, .unset, .unset, .unset, .unset]) rfl ?_
      show Steps p.tables e below (T483.setTop (mkF m 53 #[.val (.int p0), .val (.int p1), .val (.int p2), .val (.int p3), .val (.int p4), .val (.int ((p0 &&& (2147483647 : Int32)) % (3 : Int32))), .val (.ref r371), .val (.ref s374), .val .null, .val (.ref s476), .val (.ref s483), .unset, .unset, .unset, .unset, .unset, .unset] [])) _
      exact st490 _ k)
    have Z492 : n0 ≤ h490.size := Nat.le_trans Z486 E490.1
    have K493 : Keep h0 h490 [] := K487.ext E490
    have O494 : Old Z n0 h490 := O488.ext E490
    have hk495 : T483.heap.size ≤ h490.size := Nat.le_trans (Nat.le_refl _) E490.1
    have C496 : CHr Z own_EL T483.vm T483.heap T483.vm h490 := CHr.ext E490 cr483.1
    have R497 : CHr Z own_EL s.vm h0 T483.vm h490 := R489.trans C496
    have sf_b490 : Safe Z own_EL T483.vm h490 b490 := Safe.ext E490 cr483.1 (Safe.new (Nat.le_of_eq g490.symm))
    have f498 : Fld Z h490 b490 "com/example/lakebed/lakebed/model/TimelineInstant" "begin" "Ljava/lang/String;" .null := D490 (Or.inr (hw _ (List.mem_of_getElem? (i := 46) rfl))) (ty := (.object "java/lang/String")) (by decide)
    have f499 : Fld Z h490 b490 "com/example/lakebed/lakebed/model/TimelineInstant" "completion" "Ljava/lang/String;" .null := D490 (Or.inr (hw _ (List.mem_of_getElem? (i := 48) rfl))) (ty := (.object "java/lang/String")) (by decide)
    have f500 : Fld Z h490 b490 "com/example/lakebed/lakebed/model/TimelineInstant" "action" "Ljava/lang/String;" .null := D490 (Or.inr (hw _ (List.mem_of_getElem? (i := 50) rfl))) (ty := (.object "java/lang/String")) (by decide)
    have f501 : Fld Z h490 b490 "com/example/lakebed/lakebed/model/TimelineInstant" "state" "Lcom/example/lakebed/lakebed/model/TimelineInstant$State;" .null := D490 (Or.inr (hw _ (List.mem_of_getElem? (i := 52) rfl))) (ty := (.object "com/example/lakebed/lakebed/model/TimelineInstant$State")) (by decide)
    obtain ⟨_, _, ⟨T502, L502, k502, n502⟩, -, X502, ⟨Lc502, hQ502, l502, y502, z502⟩, st502⟩ := X490.specialBack hx (y := (⟨"com/example/lakebed/lakebed/model/TimelineInstant", "<init>", "(Ljava/lang/String;Ljava/lang/String;Ljava/lang/String;Lcom/example/lakebed/lakebed/model/TimelineInstant$State;)V"⟩ : MethodName)) rfl ho483 (mvT hZr483 (hw _ (List.mem_of_getElem? (i := 36) rfl))) (mvT hZr483 (hw _ (List.mem_of_getElem? (i := 37) rfl))) (mvT hZr483 (hw _ (List.mem_of_getElem? (i := 38) rfl))) (by decide) (backOf (W := 1) (rm_ctor l Z a0 hw [] b490 s374 .null s476 r371 h490 n0 Z492 rfl g_b490 A490 f498 f499 f500 f501) hZr483 (hw _ (List.mem_of_getElem? (i := 38) rfl)) (hw _ (List.mem_of_getElem? (i := 35) rfl)) (by decide) (by decide)) (g := (mkF m 65 #[.val (.int p0), .val (.int p1), .val (.int p2), .val (.int p3), .val (.int p4), .val (.int ((p0 &&& (2147483647 : Int32)) % (3 : Int32))), .val (.ref r371), .val (.ref s374), .val .null, .val (.ref s476), .val (.ref s483), .unset, .unset, .unset, .unset, .unset, .unset] [(.ref r371), (.ref s476), .null, (.ref s374), (.ref b490), (.ref b490)])) rfl (by rw [hml]; rfl) (Steps.refl _) (a := b490) (argsL := [(.ref s374), .null, (.ref s476), (.ref r371)]) (rest := [(.ref b490)]) (lenOf pd__28Ljava_2flang_2fString_3bLjava_2flang_2fString_3bLjava_2flang_2fString_3bLcom_2fexample_2flakebed_2flakebed_2fmodel_2fTimelineInstant_24State_3b_29V rfl) rfl (by show 2 * 0 + _ ≤ _; exact Nat.le_of_eq rfl) (hb hby at_65) (fun _ _ => ⟨rfl, e490, (Nat.le_of_ble_eq_true rfl : 22 + 0 ≤ _), (Nat.le_of_ble_eq_true rfl : 46 + 0 ≤ _)⟩)
    dsimp only [Pt.U, Pt.locs, Pt.cells, Pt.slots] at X502 l502 y502 z502 st502 hQ502
    subst l502 y502 z502
    obtain ⟨rfl, Nq502, Kk502, Ek502, F0_502, F1_502, F2_502, F3_502⟩ := hQ502
    have N503 := Fr.app N484 Nq502
    have P504 : ∀ t, Steps p.tables e below (T502.setTop (mkF m 68 #[.val (.int p0), .val (.int p1), .val (.int p2), .val (.int p3), .val (.int p4), .val (.int ((p0 &&& (2147483647 : Int32)) % (3 : Int32))), .val (.ref r371), .val (.ref s374), .val .null, .val (.ref s476), .val (.ref s483), .unset, .unset, .unset, .unset, .unset, .unset] [(.ref b490)])) t → Steps p.tables e below (s₁.setTop (mkF m 0 #[.val (.int p0), .val (.int p1), .val (.int p2), .val (.int p3), .val (.int p4), .unset, .unset, .unset, .unset, .unset, .unset, .unset, .unset, .unset, .unset, .unset, .unset] [])) t := fun t k => P491 t (by
      show Steps p.tables e below (T490.setTop (mkF m 56 #[.val (.int p0), .val (.int p1), .val (.int p2), .val (.int p3), .val (.int p4), .val (.int ((p0 &&& (2147483647 : Int32)) % (3 : Int32))), .val (.ref r371), .val (.ref s374), .val .null, .val (.ref s476), .val (.ref s483), .unset, .unset, .unset, .unset, .unset, .unset] [(.ref b490)])) _
      refine XS.dup X490.here hx rfl (hb hby at_56) rfl rfl ?_
      show Steps p.tables e below (T490.setTop (mkF m 57 #[.val (.int p0), .val (.int p1), .val (.int p2), .val (.int p3), .val (.int p4), .val (.int ((p0 &&& (2147483647 : Int32)) % (3 : Int32))), .val (.ref r371), .val (.ref s374), .val .null, .val (.ref s476), .val (.ref s483), .unset, .unset, .unset, .unset, .unset, .unset] [(.ref b490), (.ref b490)])) _
      refine XS.aload X490.here hx rfl (hb hby at_57) rfl rfl ?_
      show Steps p.tables e below (T490.setTop (mkF m 59 #[.val (.int p0), .val (.int p1), .val (.int p2), .val (.int p3), .val (.int p4), .val (.int ((p0 &&& (2147483647 : Int32)) % (3 : Int32))), .val (.ref r371), .val (.ref s374), .val .null, .val (.ref s476), .val (.ref s483), .unset, .unset, .unset, .unset, .unset, .unset] [(.ref s374), (.ref b490), (.ref b490)])) _
      refine XS.aload X490.here hx rfl (hb hby at_59) rfl rfl ?_
      show Steps p.tables e below (T490.setTop (mkF m 61 #[.val (.int p0), .val (.int p1), .val (.int p2), .val (.int p3), .val (.int p4), .val (.int ((p0 &&& (2147483647 : Int32)) % (3 : Int32))), .val (.ref r371), .val (.ref s374), .val .null, .val (.ref s476), .val (.ref s483), .unset, .unset, .unset, .unset, .unset, .unset] [.null, (.ref s374), (.ref b490), (.ref b490)])) _
      refine XS.aload X490.here hx rfl (hb hby at_61) rfl rfl ?_
      show Steps p.tables e below (T490.setTop (mkF m 63 #[.val (.int p0), .val (.int p1), .val (.int p2), .val (.int p3), .val (.int p4), .val (.int ((p0 &&& (2147483647 : Int32)) % (3 : Int32))), .val (.ref r371), .val (.ref s374), .val .null, .val (.ref s476), .val (.ref s483), .unset, .unset, .unset, .unset, .unset, .unset] [(.ref s476), .null, (.ref s374), (.ref b490), (.ref b490)])) _
      refine XS.aload X490.here hx rfl (hb hby at_63) rfl rfl ?_
      show Steps p.tables e below (T490.setTop (mkF m 65 #[.val (.int p0), .val (.int p1), .val (.int p2), .val (.int p3), .val (.int p4), .val (.int ((p0 &&& (2147483647 : Int32)) % (3 : Int32))), .val (.ref r371), .val (.ref s374), .val .null, .val (.ref s476), .val (.ref s483), .unset, .unset, .unset, .unset, .unset, .unset] [(.ref r371), (.ref s476), .null, (.ref s374), (.ref b490), (.ref b490)])) _
      exact st502.trans k)
    have Z505 : n0 ≤ T502.heap.size := Nat.le_trans Z492 Kk502.1
    have K506 : Keep h0 T502.heap [] := K493.trans Kk502 ((allS (Or.inr sz_b490) all0))
    have O507 : Old Z n0 T502.heap := O494.keep Kk502 (allS g_b490 all0)
    have hk508 : T483.heap.size ≤ T502.heap.size := Nat.le_trans hk495 Kk502.1
    have C509 : CHr Z own_EL T483.vm h490 T483.vm T502.heap := CHr.keep Kk502 (sfS (Safe.exa hZr483.alike A490 (by decide) (by decide)) sf0) C496.1
    have R510 : CHr Z own_EL s.vm h0 T483.vm T502.heap := R497.trans C509
    have P511 : ∀ t, Steps p.tables e below (T502.setTop (mkF m 73 #[.val (.int p0), .val (.int p1), .val (.int p2), .val (.int p3), .val (.int p4), .val (.int ((p0 &&& (2147483647 : Int32)) % (3 : Int32))), .val (.ref r371), .val (.ref s374), .val .null, .val (.ref s476), .val (.ref s483), .val (.ref b490), .unset, .unset, .unset, .unset, .unset] [(.int (2 : Int32)), (.int ((p0 &&& (2147483647 : Int32)) % (3 : Int32)))])) t → Steps p.tables e below (s₁.setTop (mkF m 0 #[.val (.int p0), .val (.int p1), .val (.int p2), .val (.int p3), .val (.int p4), .unset, .unset, .unset, .unset, .unset, .unset, .unset, .unset, .unset, .unset, .unset, .unset] [])) t := fun t k => P504 t (by
      show Steps p.tables e below (T502.setTop (mkF m 68 #[.val (.int p0), .val (.int p1), .val (.int p2), .val (.int p3), .val (.int p4), .val (.int ((p0 &&& (2147483647 : Int32)) % (3 : Int32))), .val (.ref r371), .val (.ref s374), .val .null, .val (.ref s476), .val (.ref s483), .unset, .unset, .unset, .unset, .unset, .unset] [(.ref b490)])) _
      refine XS.astore X502.here hx rfl (hb hby at_68) rfl rfl (l' := #[.val (.int p0), .val (.int p1), .val (.int p2), .val (.int p3), .val (.int p4), .val (.int ((p0 &&& (2147483647 : Int32)) % (3 : Int32))), .val (.ref r371), .val (.ref s374), .val .null, .val (.ref s476), .val (.ref s483), .val (.ref b490), .unset, .unset, .unset, .unset, .unset]) rfl ?_
      show Steps p.tables e below (T502.setTop (mkF m 70 #[.val (.int p0), .val (.int p1), .val (.int p2), .val (.int p3), .val (.int p4), .val (.int ((p0 &&& (2147483647 : Int32)) % (3 : Int32))), .val (.ref r371), .val (.ref s374), .val .null, .val (.ref s476), .val (.ref s483), .val (.ref b490), .unset, .unset, .unset, .unset, .unset] [])) _
      refine XS.iload X502.here hx rfl (hb hby at_70) rfl ?_
      show Steps p.tables e below (T502.setTop (mkF m 72 #[.val (.int p0), .val (.int p1), .val (.int p2), .val (.int p3), .val (.int p4), .val (.int ((p0 &&& (2147483647 : Int32)) % (3 : Int32))), .val (.ref r371), .val (.ref s374), .val .null, .val (.ref s476), .val (.ref s483), .val (.ref b490), .unset, .unset, .unset, .unset, .unset] [(.int ((p0 &&& (2147483647 : Int32)) % (3 : Int32)))])) _
      refine XS.iconst X502.here hx rfl (hb hby at_72) ?_
      show Steps p.tables e below (T502.setTop (mkF m 73 #[.val (.int p0), .val (.int p1), .val (.int p2), .val (.int p3), .val (.int p4), .val (.int ((p0 &&& (2147483647 : Int32)) % (3 : Int32))), .val (.ref r371), .val (.ref s374), .val .null, .val (.ref s476), .val (.ref s483), .val (.ref b490), .unset, .unset, .unset, .unset, .unset] [(.int (2 : Int32)), (.int ((p0 &&& (2147483647 : Int32)) % (3 : Int32)))])) _
      exact k)
    obtain ⟨b513, hb513⟩ : ∃ z : Int32, z = (if ((p0 &&& (2147483647 : Int32)) % (3 : Int32)) = (2 : Int32) then (1 : Int32) else (0 : Int32)) := ⟨_, rfl⟩
    have P514 : ∀ t, Steps p.tables e below (T502.setTop (mkF m 81 #[.val (.int p0), .val (.int p1), .val (.int p2), .val (.int p3), .val (.int p4), .val (.int ((p0 &&& (2147483647 : Int32)) % (3 : Int32))), .val (.ref r371), .val (.ref s374), .val .null, .val (.ref s476), .val (.ref s483), .val (.ref b490), .unset, .unset, .unset, .unset, .unset] [(.int b513)])) t → Steps p.tables e below (s₁.setTop (mkF m 0 #[.val (.int p0), .val (.int p1), .val (.int p2), .val (.int p3), .val (.int p4), .unset, .unset, .unset, .unset, .unset, .unset, .unset, .unset, .unset, .unset, .unset, .unset] [])) t := fun t k => P511 t (by
      show Steps p.tables e below (T502.setTop (mkF m 73 #[.val (.int p0), .val (.int p1), .val (.int p2), .val (.int p3), .val (.int p4), .val (.int ((p0 &&& (2147483647 : Int32)) % (3 : Int32))), .val (.ref r371), .val (.ref s374), .val .null, .val (.ref s476), .val (.ref s483), .val (.ref b490), .unset, .unset, .unset, .unset, .unset] [(.int (2 : Int32)), (.int ((p0 &&& (2147483647 : Int32)) % (3 : Int32)))])) _
      by_cases q512 : ((p0 &&& (2147483647 : Int32)) % (3 : Int32)) = (2 : Int32)
      · skip
        refine XS.icmpNo X502.here hx rfl (hb hby at_73) rfl (teq (show ((p0 &&& (2147483647 : Int32)) % (3 : Int32)) = (2 : Int32) from q512)).2 ?_
        show Steps p.tables e below (T502.setTop (mkF m 76 #[.val (.int p0), .val (.int p1), .val (.int p2), .val (.int p3), .val (.int p4), .val (.int ((p0 &&& (2147483647 : Int32)) % (3 : Int32))), .val (.ref r371), .val (.ref s374), .val .null, .val (.ref s476), .val (.ref s483), .val (.ref b490), .unset, .unset, .unset, .unset, .unset] [])) _
        refine XS.iconst X502.here hx rfl (hb hby at_76) ?_
        show Steps p.tables e below (T502.setTop (mkF m 77 #[.val (.int p0), .val (.int p1), .val (.int p2), .val (.int p3), .val (.int p4), .val (.int ((p0 &&& (2147483647 : Int32)) % (3 : Int32))), .val (.ref r371), .val (.ref s374), .val .null, .val (.ref s476), .val (.ref s483), .val (.ref b490), .unset, .unset, .unset, .unset, .unset] [(.int (1 : Int32))])) _
        refine XS.goto X502.here hx rfl (pc0 := 77) (pc' := 81) rfl (hb hby at_77) (by decide) (by decide) ?_
        show Steps p.tables e below (T502.setTop (mkF m 81 #[.val (.int p0), .val (.int p1), .val (.int p2), .val (.int p3), .val (.int p4), .val (.int ((p0 &&& (2147483647 : Int32)) % (3 : Int32))), .val (.ref r371), .val (.ref s374), .val .null, .val (.ref s476), .val (.ref s483), .val (.ref b490), .unset, .unset, .unset, .unset, .unset] [(.int (1 : Int32))])) _
        have eb513 : b513 = (1 : Int32) := by rw [hb513, if_pos q512]
        rw [eb513] at k
        exact k
      · skip
        refine XS.icmpYes X502.here hx rfl (pc0 := 73) (pc' := 80) rfl (hb hby at_73) rfl (feq (show ¬ (((p0 &&& (2147483647 : Int32)) % (3 : Int32)) = (2 : Int32)) from q512)).2 (by decide) (by decide) ?_
        show Steps p.tables e below (T502.setTop (mkF m 80 #[.val (.int p0), .val (.int p1), .val (.int p2), .val (.int p3), .val (.int p4), .val (.int ((p0 &&& (2147483647 : Int32)) % (3 : Int32))), .val (.ref r371), .val (.ref s374), .val .null, .val (.ref s476), .val (.ref s483), .val (.ref b490), .unset, .unset, .unset, .unset, .unset] [])) _
        refine XS.iconst X502.here hx rfl (hb hby at_80) ?_
        show Steps p.tables e below (T502.setTop (mkF m 81 #[.val (.int p0), .val (.int p1), .val (.int p2), .val (.int p3), .val (.int p4), .val (.int ((p0 &&& (2147483647 : Int32)) % (3 : Int32))), .val (.ref r371), .val (.ref s374), .val .null, .val (.ref s476), .val (.ref s483), .val (.ref b490), .unset, .unset, .unset, .unset, .unset] [(.int (0 : Int32))])) _
        have eb513 : b513 = (0 : Int32) := by rw [hb513, if_neg q512]
        rw [eb513] at k
        exact k)
    obtain ⟨cq515, kq515, q515a, q515b, q515c⟩ := isOf hZr483 rfl Ek502
    obtain ⟨_, _, ⟨T515, L515, k515, n515⟩, -, X515, ⟨Lc515, hQ515, l515, y515, z515⟩, st515⟩ := X502.virtualBack hx (y := (⟨"com/example/lakebed/lakebed/model/TimelineInstant", "isCompleted", "()Z"⟩ : MethodName)) (z := (⟨"com/example/lakebed/lakebed/model/TimelineInstant", "isCompleted", "()Z"⟩ : MethodName)) ho483 (mvT hZr483 (hw _ (List.mem_of_getElem? (i := 53) rfl))) (mvT hZr483 (hw _ (List.mem_of_getElem? (i := 54) rfl))) (notFace_of_selects (args := #[]) (mvT hZr483 (hw _ (List.mem_of_getElem? (i := 56) rfl)))) (mvT hZr483 (hw _ (List.mem_of_getElem? (i := 56) rfl))) (mvT hZr483 (hw _ (List.mem_of_getElem? (i := 55) rfl))) (by decide) (backOf (W := 0) (rm_isC l Z a0 hw [] b490 r371 r0 r1 r2 T502.heap n0 Z505 F3_502 S0 S1 S2 O507) hZr483 (hw _ (List.mem_of_getElem? (i := 57) rfl)) (hw _ (List.mem_of_getElem? (i := 35) rfl)) (by decide) (by decide)) q515a q515c (g := (mkF m 85 #[.val (.int p0), .val (.int p1), .val (.int p2), .val (.int p3), .val (.int p4), .val (.int ((p0 &&& (2147483647 : Int32)) % (3 : Int32))), .val (.ref r371), .val (.ref s374), .val .null, .val (.ref s476), .val (.ref s483), .val (.ref b490), .val (.int b513), .unset, .unset, .unset, .unset] [(.ref b490)])) rfl (by rw [hml]; rfl) (Steps.refl _) (argsL := []) (rest := []) (lenOf pd__28_29Z rfl) rfl (by show 2 * 0 + _ ≤ _; exact Nat.le_of_eq rfl) (hb hby at_85) (fun _ _ => ⟨rfl, rfl, (Nat.le_of_ble_eq_true rfl : 22 + 0 ≤ _), (Nat.le_of_ble_eq_true rfl : 46 + 0 ≤ _)⟩)
    dsimp only [Pt.U, Pt.locs, Pt.cells, Pt.slots] at X515 l515 y515 z515 st515 hQ515
    subst l515 y515 z515
    obtain ⟨rfl, Nq515, e515⟩ := hQ515
    have N516 := Fr.app N503 Nq515
    have P517 : ∀ t, Steps p.tables e below (T515.setTop (mkF m 88 #[.val (.int p0), .val (.int p1), .val (.int p2), .val (.int p3), .val (.int p4), .val (.int ((p0 &&& (2147483647 : Int32)) % (3 : Int32))), .val (.ref r371), .val (.ref s374), .val .null, .val (.ref s476), .val (.ref s483), .val (.ref b490), .val (.int b513), .unset, .unset, .unset, .unset] [(.int (if r371 = r1 then 1 else 0))])) t → Steps p.tables e below (s₁.setTop (mkF m 0 #[.val (.int p0), .val (.int p1), .val (.int p2), .val (.int p3), .val (.int p4), .unset, .unset, .unset, .unset, .unset, .unset, .unset, .unset, .unset, .unset, .unset, .unset] [])) t := fun t k => P514 t (by
      show Steps p.tables e below (T502.setTop (mkF m 81 #[.val (.int p0), .val (.int p1), .val (.int p2), .val (.int p3), .val (.int p4), .val (.int ((p0 &&& (2147483647 : Int32)) % (3 : Int32))), .val (.ref r371), .val (.ref s374), .val .null, .val (.ref s476), .val (.ref s483), .val (.ref b490), .unset, .unset, .unset, .unset, .unset] [(.int b513)])) _
      refine XS.istore X502.here hx rfl (hb hby at_81) rfl (l' := #[.val (.int p0), .val (.int p1), .val (.int p2), .val (.int p3), .val (.int p4), .val (.int ((p0 &&& (2147483647 : Int32)) % (3 : Int32))), .val (.ref r371), .val (.ref s374), .val .null, .val (.ref s476), .val (.ref s483), .val (.ref b490), .val (.int b513), .unset, .unset, .unset, .unset]) rfl ?_
      show Steps p.tables e below (T502.setTop (mkF m 83 #[.val (.int p0), .val (.int p1), .val (.int p2), .val (.int p3), .val (.int p4), .val (.int ((p0 &&& (2147483647 : Int32)) % (3 : Int32))), .val (.ref r371), .val (.ref s374), .val .null, .val (.ref s476), .val (.ref s483), .val (.ref b490), .val (.int b513), .unset, .unset, .unset, .unset] [])) _
      refine XS.aload X502.here hx rfl (hb hby at_83) rfl rfl ?_
      show Steps p.tables e below (T502.setTop (mkF m 85 #[.val (.int p0), .val (.int p1), .val (.int p2), .val (.int p3), .val (.int p4), .val (.int ((p0 &&& (2147483647 : Int32)) % (3 : Int32))), .val (.ref r371), .val (.ref s374), .val .null, .val (.ref s476), .val (.ref s483), .val (.ref b490), .val (.int b513), .unset, .unset, .unset, .unset] [(.ref b490)])) _
      exact st515.trans k)
    have hst : (if r371 = r1 then 1 else 0) = b513 := by rw [hb513]; exact own_state (own_m3 _) hr371 nr0 nr2
    obtain ⟨cq518, kq518, q518a, q518b, q518c⟩ := isOf hZr483 e515 Ek502
    obtain ⟨_, _, ⟨T518, L518, k518, n518⟩, -, X518, ⟨Lc518, hQ518, l518, y518, z518⟩, st518⟩ := X515.virtualBack hx (y := (⟨"com/example/lakebed/lakebed/model/TimelineInstant", "toInflight", "()Lcom/example/lakebed/lakebed/model/TimelineInstant;"⟩ : MethodName)) (z := (⟨"com/example/lakebed/lakebed/model/TimelineInstant", "toInflight", "()Lcom/example/lakebed/lakebed/model/TimelineInstant;"⟩ : MethodName)) ho483 (mvT hZr483 (hw _ (List.mem_of_getElem? (i := 60) rfl))) (mvT hZr483 (hw _ (List.mem_of_getElem? (i := 61) rfl))) (notFace_of_selects (args := #[]) (mvT hZr483 (hw _ (List.mem_of_getElem? (i := 63) rfl)))) (mvT hZr483 (hw _ (List.mem_of_getElem? (i := 63) rfl))) (mvT hZr483 (hw _ (List.mem_of_getElem? (i := 62) rfl))) (by decide) (backOf (W := 0) (rm_toInf l Z a0 hw [] b490 s374 s476 r0 r1 r2 T502.heap n0 Z505 F0_502 F2_502 S0 S1 S2 O507) hZr483 (hw _ (List.mem_of_getElem? (i := 64) rfl)) (hw _ (List.mem_of_getElem? (i := 35) rfl)) (by decide) (by decide)) q518a q518c (g := (mkF m 102 #[.val (.int p0), .val (.int p1), .val (.int p2), .val (.int p3), .val (.int p4), .val (.int ((p0 &&& (2147483647 : Int32)) % (3 : Int32))), .val (.ref r371), .val (.ref s374), .val .null, .val (.ref s476), .val (.ref s483), .val (.ref b490), .val (.int b513), .val (.int (1 : Int32)), .unset, .unset, .unset] [(.ref b490)])) rfl (by rw [hml]; rfl) (Steps.refl _) (argsL := []) (rest := []) (lenOf pd__28_29Lcom_2fexample_2flakebed_2flakebed_2fmodel_2fTimelineInstant_3b rfl) rfl (by show 2 * 0 + _ ≤ _; exact Nat.le_of_eq rfl) (hb hby at_102) (fun _ _ => ⟨rfl, e515, (Nat.le_of_ble_eq_true rfl : 22 + 1 ≤ _), (Nat.le_of_ble_eq_true rfl : 46 + 4 ≤ _)⟩)
    dsimp only [Pt.U, Pt.locs, Pt.cells, Pt.slots] at X518 l518 y518 z518 st518 hQ518
    subst l518 y518 z518
    obtain ⟨m518, rfl, Nq518, sz518, Kk518, Ek518, Fs518⟩ := hQ518
    have N519 := Fr.app N516 Nq518
    have P520 : ∀ t, Steps p.tables e below (T518.setTop (mkF m 105 #[.val (.int p0), .val (.int p1), .val (.int p2), .val (.int p3), .val (.int p4), .val (.int ((p0 &&& (2147483647 : Int32)) % (3 : Int32))), .val (.ref r371), .val (.ref s374), .val .null, .val (.ref s476), .val (.ref s483), .val (.ref b490), .val (.int b513), .val (.int (1 : Int32)), .unset, .unset, .unset] [(.ref m518)])) t → Steps p.tables e below (s₁.setTop (mkF m 0 #[.val (.int p0), .val (.int p1), .val (.int p2), .val (.int p3), .val (.int p4), .unset, .unset, .unset, .unset, .unset, .unset, .unset, .unset, .unset, .unset, .unset, .unset] [])) t := fun t k => P517 t (by
      show Steps p.tables e below (T515.setTop (mkF m 88 #[.val (.int p0), .val (.int p1), .val (.int p2), .val (.int p3), .val (.int p4), .val (.int ((p0 &&& (2147483647 : Int32)) % (3 : Int32))), .val (.ref r371), .val (.ref s374), .val .null, .val (.ref s476), .val (.ref s483), .val (.ref b490), .val (.int b513), .unset, .unset, .unset, .unset] [(.int (if r371 = r1 then 1 else 0))])) _
      refine XS.iload X515.here hx rfl (hb hby at_88) rfl ?_
      show Steps p.tables e below (T515.setTop (mkF m 90 #[.val (.int p0), .val (.int p1), .val (.int p2), .val (.int p3), .val (.int p4), .val (.int ((p0 &&& (2147483647 : Int32)) % (3 : Int32))), .val (.ref r371), .val (.ref s374), .val .null, .val (.ref s476), .val (.ref s483), .val (.ref b490), .val (.int b513), .unset, .unset, .unset, .unset] [(.int b513), (.int (if r371 = r1 then 1 else 0))])) _
      refine XS.icmpNo X515.here hx rfl (hb hby at_90) rfl (teq (show (if r371 = r1 then 1 else 0) = b513 from hst)).2 ?_
      show Steps p.tables e below (T515.setTop (mkF m 93 #[.val (.int p0), .val (.int p1), .val (.int p2), .val (.int p3), .val (.int p4), .val (.int ((p0 &&& (2147483647 : Int32)) % (3 : Int32))), .val (.ref r371), .val (.ref s374), .val .null, .val (.ref s476), .val (.ref s483), .val (.ref b490), .val (.int b513), .unset, .unset, .unset, .unset] [])) _
      refine XS.iconst X515.here hx rfl (hb hby at_93) ?_
      show Steps p.tables e below (T515.setTop (mkF m 94 #[.val (.int p0), .val (.int p1), .val (.int p2), .val (.int p3), .val (.int p4), .val (.int ((p0 &&& (2147483647 : Int32)) % (3 : Int32))), .val (.ref r371), .val (.ref s374), .val .null, .val (.ref s476), .val (.ref s483), .val (.ref b490), .val (.int b513), .unset, .unset, .unset, .unset] [(.int (1 : Int32))])) _
      refine XS.goto X515.here hx rfl (pc0 := 94) (pc' := 98) rfl (hb hby at_94) (by decide) (by decide) ?_
      show Steps p.tables e below (T515.setTop (mkF m 98 #[.val (.int p0), .val (.int p1), .val (.int p2), .val (.int p3), .val (.int p4), .val (.int ((p0 &&& (2147483647 : Int32)) % (3 : Int32))), .val (.ref r371), .val (.ref s374), .val .null, .val (.ref s476), .val (.ref s483), .val (.ref b490), .val (.int b513), .unset, .unset, .unset, .unset] [(.int (1 : Int32))])) _
      refine XS.istore X515.here hx rfl (hb hby at_98) rfl (l' := #[.val (.int p0), .val (.int p1), .val (.int p2), .val (.int p3), .val (.int p4), .val (.int ((p0 &&& (2147483647 : Int32)) % (3 : Int32))), .val (.ref r371), .val (.ref s374), .val .null, .val (.ref s476), .val (.ref s483), .val (.ref b490), .val (.int b513), .val (.int (1 : Int32)), .unset, .unset, .unset]) rfl ?_
      show Steps p.tables e below (T515.setTop (mkF m 100 #[.val (.int p0), .val (.int p1), .val (.int p2), .val (.int p3), .val (.int p4), .val (.int ((p0 &&& (2147483647 : Int32)) % (3 : Int32))), .val (.ref r371), .val (.ref s374), .val .null, .val (.ref s476), .val (.ref s483), .val (.ref b490), .val (.int b513), .val (.int (1 : Int32)), .unset, .unset, .unset] [])) _
      refine XS.aload X515.here hx rfl (hb hby at_100) rfl rfl ?_
      show Steps p.tables e below (T515.setTop (mkF m 102 #[.val (.int p0), .val (.int p1), .val (.int p2), .val (.int p3), .val (.int p4), .val (.int ((p0 &&& (2147483647 : Int32)) % (3 : Int32))), .val (.ref r371), .val (.ref s374), .val .null, .val (.ref s476), .val (.ref s483), .val (.ref b490), .val (.int b513), .val (.int (1 : Int32)), .unset, .unset, .unset] [(.ref b490)])) _
      exact st518.trans k)
    have Z521 : n0 ≤ T518.heap.size := Nat.le_trans Z505 Kk518.1
    have K522 : Keep h0 T518.heap [] := K506.trans Kk518 (all0)
    have O523 : Old Z n0 T518.heap := O507.keep Kk518 all0
    have hk524 : T483.heap.size ≤ T518.heap.size := Nat.le_trans hk508 Kk518.1
    have C525 : CHr Z own_EL T483.vm T502.heap T483.vm T518.heap := CHr.keep Kk518 sf0 C509.1
    have R526 : CHr Z own_EL s.vm h0 T483.vm T518.heap := R510.trans C525
    have g_m518 : n0 ≤ m518 := Nat.le_trans Z505 sz518
    have sz_m518 : h0.size ≤ m518 := Nat.le_trans K506.1 sz518
    obtain ⟨cq527, kq527, q527a, q527b, q527c⟩ := isOf hZr483 rfl Ek518
    obtain ⟨_, _, ⟨T527, L527, k527, n527⟩, -, X527, ⟨Lc527, hQ527, l527, y527, z527⟩, st527⟩ := X518.virtualBack hx (y := (⟨"com/example/lakebed/lakebed/model/TimelineInstant", "isCompleted", "()Z"⟩ : MethodName)) (z := (⟨"com/example/lakebed/lakebed/model/TimelineInstant", "isCompleted", "()Z"⟩ : MethodName)) ho483 (mvT hZr483 (hw _ (List.mem_of_getElem? (i := 53) rfl))) (mvT hZr483 (hw _ (List.mem_of_getElem? (i := 54) rfl))) (notFace_of_selects (args := #[]) (mvT hZr483 (hw _ (List.mem_of_getElem? (i := 56) rfl)))) (mvT hZr483 (hw _ (List.mem_of_getElem? (i := 56) rfl))) (mvT hZr483 (hw _ (List.mem_of_getElem? (i := 55) rfl))) (by decide) (backOf (W := 0) (rm_isC l Z a0 hw [] m518 r2 r0 r1 r2 T518.heap n0 Z521 Fs518 S0 S1 S2 O523) hZr483 (hw _ (List.mem_of_getElem? (i := 57) rfl)) (hw _ (List.mem_of_getElem? (i := 35) rfl)) (by decide) (by decide)) q527a q527c (g := (mkF m 105 #[.val (.int p0), .val (.int p1), .val (.int p2), .val (.int p3), .val (.int p4), .val (.int ((p0 &&& (2147483647 : Int32)) % (3 : Int32))), .val (.ref r371), .val (.ref s374), .val .null, .val (.ref s476), .val (.ref s483), .val (.ref b490), .val (.int b513), .val (.int (1 : Int32)), .unset, .unset, .unset] [(.ref m518)])) rfl (by rw [hml]; rfl) (Steps.refl _) (argsL := []) (rest := []) (lenOf pd__28_29Z rfl) rfl (by show 2 * 0 + _ ≤ _; exact Nat.le_of_eq rfl) (hb hby at_105) (fun _ _ => ⟨rfl, rfl, (Nat.le_of_ble_eq_true rfl : 23 + 0 ≤ _), (Nat.le_of_ble_eq_true rfl : 50 + 0 ≤ _)⟩)
    dsimp only [Pt.U, Pt.locs, Pt.cells, Pt.slots] at X527 l527 y527 z527 st527 hQ527
    subst l527 y527 z527
    obtain ⟨rfl, Nq527, e527⟩ := hQ527
    have N528 := Fr.app N519 Nq527
    have P529 : ∀ t, Steps p.tables e below (T527.setTop (mkF m 108 #[.val (.int p0), .val (.int p1), .val (.int p2), .val (.int p3), .val (.int p4), .val (.int ((p0 &&& (2147483647 : Int32)) % (3 : Int32))), .val (.ref r371), .val (.ref s374), .val .null, .val (.ref s476), .val (.ref s483), .val (.ref b490), .val (.int b513), .val (.int (1 : Int32)), .unset, .unset, .unset] [(.int (if r2 = r1 then 1 else 0))])) t → Steps p.tables e below (s₁.setTop (mkF m 0 #[.val (.int p0), .val (.int p1), .val (.int p2), .val (.int p3), .val (.int p4), .unset, .unset, .unset, .unset, .unset, .unset, .unset, .unset, .unset, .unset, .unset, .unset] [])) t := fun t k => P520 t (by
      show Steps p.tables e below (T518.setTop (mkF m 105 #[.val (.int p0), .val (.int p1), .val (.int p2), .val (.int p3), .val (.int p4), .val (.int ((p0 &&& (2147483647 : Int32)) % (3 : Int32))), .val (.ref r371), .val (.ref s374), .val .null, .val (.ref s476), .val (.ref s483), .val (.ref b490), .val (.int b513), .val (.int (1 : Int32)), .unset, .unset, .unset] [(.ref m518)])) _
      exact st527.trans k)
    have hi530 : (if r2 = r1 then 1 else 0) = (0 : Int32) := if_neg nr2
    have f531 : Exa Z T518.heap b490 "com/example/lakebed/lakebed/model/TimelineInstant" := (Ek502.keep Kk518)
    have f532 : Fld Z T518.heap b490 "com/example/lakebed/lakebed/model/TimelineInstant" "begin" "Ljava/lang/String;" (.ref s374) := (F0_502.keep Kk518 nin0)
    have f533 : Fld Z T518.heap b490 "com/example/lakebed/lakebed/model/TimelineInstant" "action" "Ljava/lang/String;" (.ref s476) := (F2_502.keep Kk518 nin0)
    have f534 : Exa Z T518.heap s476 "java/lang/String" := ((((Ek476.keep Kk483).ext E490).keep Kk502).keep Kk518)
    have f535 : Fld Z T518.heap s476 "java/lang/String" "value" "[B" (.ref t476) := ((((Fv476.keep Kk483 nin0).ext E490).keep Kk502 (ninS (Nat.ne_of_lt (Nat.lt_of_lt_of_le (Fc476.keep Kk483 nin0).lt (Nat.le_of_eq g490.symm))) nin0)).keep Kk518 nin0)
    have f536 : Fld Z T518.heap s476 "java/lang/String" "coder" "B" (.int 0) := ((((Fc476.keep Kk483 nin0).ext E490).keep Kk502 (ninS (Nat.ne_of_lt (Nat.lt_of_lt_of_le (Fc476.keep Kk483 nin0).lt (Nat.le_of_eq g490.symm))) nin0)).keep Kk518 nin0)
    have f537 : Arv Z T518.heap t476 k476 .byte (Int32.ofNat cs476.length) ((cs476.map (fun c => c.toInt8.toInt32)).map Value.int) (.int 0) := ((((Av476.keep Kk483 nin0).ext E490).keep Kk502 (ninS (Nat.ne_of_lt (Nat.lt_of_lt_of_le (Av476.keep Kk483 nin0).lt (Nat.le_of_eq g490.symm))) nin0)).keep Kk518 nin0)
    obtain ⟨cq538, kq538, q538a, q538b, q538c⟩ := isOf hZr483 e527 f531
    obtain ⟨_, _, ⟨T538, L538, k538, n538⟩, -, X538, hs538, hg538, ⟨Lc538, hQ538, l538, y538, z538, cr538⟩, st538⟩ := X527.virtualBackS hx (y := (⟨"com/example/lakebed/lakebed/model/TimelineInstant", "toCompleted", "(Ljava/lang/String;)Lcom/example/lakebed/lakebed/model/TimelineInstant;"⟩ : MethodName)) (z := (⟨"com/example/lakebed/lakebed/model/TimelineInstant", "toCompleted", "(Ljava/lang/String;)Lcom/example/lakebed/lakebed/model/TimelineInstant;"⟩ : MethodName)) ho483 (mvT hZr483 (hw _ (List.mem_of_getElem? (i := 69) rfl))) (mvT hZr483 (hw _ (List.mem_of_getElem? (i := 70) rfl))) (notFace_of_selects (args := #[]) (mvT hZr483 (hw _ (List.mem_of_getElem? (i := 72) rfl)))) (mvT hZr483 (hw _ (List.mem_of_getElem? (i := 72) rfl))) (mvT hZr483 (hw _ (List.mem_of_getElem? (i := 71) rfl))) (by decide) (backOfSH (W := 0) (rm_toCom l Z a0 hw [] b490 s483 s374 s476 t476 k476 cs476 r0 r1 r2 G1 T518.heap n0 Z521 Sg P5 f531 f532 f533 f534 f535 f536 f537 hl476 hb476 S0 S1 S2 O523) hZr483 (hw _ (List.mem_of_getElem? (i := 73) rfl)) (hw _ (List.mem_of_getElem? (i := 35) rfl)) (by decide) (by decide) (own_EW hw) C525.1) q538a q538c (g := (mkF m 122 #[.val (.int p0), .val (.int p1), .val (.int p2), .val (.int p3), .val (.int p4), .val (.int ((p0 &&& (2147483647 : Int32)) % (3 : Int32))), .val (.ref r371), .val (.ref s374), .val .null, .val (.ref s476), .val (.ref s483), .val (.ref b490), .val (.int b513), .val (.int (1 : Int32)), .val (.int (1 : Int32)), .unset, .unset] [(.ref s483), (.ref b490)])) rfl (by rw [hml]; rfl) (Steps.refl _) (argsL := [(.ref s483)]) (rest := []) (lenOf pd__28Ljava_2flang_2fString_3b_29Lcom_2fexample_2flakebed_2flakebed_2fmodel_2fTimelineInstant_3b rfl) rfl (by show 2 * 0 + _ ≤ _; exact Nat.le_of_eq rfl) (hb hby at_122) (fun _ _ => ⟨rfl, e527, (Nat.le_of_ble_eq_true rfl : 23 + 3 ≤ _), (Nat.le_of_ble_eq_true rfl : 50 + 48 ≤ _)⟩)
    dsimp only [Pt.U, Pt.locs, Pt.cells, Pt.slots] at X538 l538 y538 z538 st538 hQ538 hs538 hg538 cr538
    subst l538 y538 z538
    obtain ⟨m538, rfl, Nq538, sz538, Kk538, Ek538, Fs538⟩ := hQ538
    obtain ⟨Xr538, hSr538, hZr538, ho538⟩ := rebS hSr483 (by rw [e527]; exact hk524) X538 hs538 hg538 hZr483 ho483
    have N539 := Fr.app N528 Nq538
    have P540 : ∀ t, Steps p.tables e below (T538.setTop (mkF m 125 #[.val (.int p0), .val (.int p1), .val (.int p2), .val (.int p3), .val (.int p4), .val (.int ((p0 &&& (2147483647 : Int32)) % (3 : Int32))), .val (.ref r371), .val (.ref s374), .val .null, .val (.ref s476), .val (.ref s483), .val (.ref b490), .val (.int b513), .val (.int (1 : Int32)), .val (.int (1 : Int32)), .unset, .unset] [(.ref m538)])) t → Steps p.tables e below (s₁.setTop (mkF m 0 #[.val (.int p0), .val (.int p1), .val (.int p2), .val (.int p3), .val (.int p4), .unset, .unset, .unset, .unset, .unset, .unset, .unset, .unset, .unset, .unset, .unset, .unset] [])) t := fun t k => P529 t (by
      show Steps p.tables e below (T527.setTop (mkF m 108 #[.val (.int p0), .val (.int p1), .val (.int p2), .val (.int p3), .val (.int p4), .val (.int ((p0 &&& (2147483647 : Int32)) % (3 : Int32))), .val (.ref r371), .val (.ref s374), .val .null, .val (.ref s476), .val (.ref s483), .val (.ref b490), .val (.int b513), .val (.int (1 : Int32)), .unset, .unset, .unset] [(.int (if r2 = r1 then 1 else 0))])) _
      refine XS.ifNo X527.here hx rfl (hb hby at_108) rfl ((if0 _ _).trans (teq (show (if r2 = r1 then 1 else 0) = (0 : Int32) from hi530)).2) ?_
      show Steps p.tables e below (T527.setTop (mkF m 111 #[.val (.int p0), .val (.int p1), .val (.int p2), .val (.int p3), .val (.int p4), .val (.int ((p0 &&& (2147483647 : Int32)) % (3 : Int32))), .val (.ref r371), .val (.ref s374), .val .null, .val (.ref s476), .val (.ref s483), .val (.ref b490), .val (.int b513), .val (.int (1 : Int32)), .unset, .unset, .unset] [])) _
      refine XS.iconst X527.here hx rfl (hb hby at_111) ?_
      show Steps p.tables e below (T527.setTop (mkF m 112 #[.val (.int p0), .val (.int p1), .val (.int p2), .val (.int p3), .val (.int p4), .val (.int ((p0 &&& (2147483647 : Int32)) % (3 : Int32))), .val (.ref r371), .val (.ref s374), .val .null, .val (.ref s476), .val (.ref s483), .val (.ref b490), .val (.int b513), .val (.int (1 : Int32)), .unset, .unset, .unset] [(.int (1 : Int32))])) _
      refine XS.goto X527.here hx rfl (pc0 := 112) (pc' := 116) rfl (hb hby at_112) (by decide) (by decide) ?_
      show Steps p.tables e below (T527.setTop (mkF m 116 #[.val (.int p0), .val (.int p1), .val (.int p2), .val (.int p3), .val (.int p4), .val (.int ((p0 &&& (2147483647 : Int32)) % (3 : Int32))), .val (.ref r371), .val (.ref s374), .val .null, .val (.ref s476), .val (.ref s483), .val (.ref b490), .val (.int b513), .val (.int (1 : Int32)), .unset, .unset, .unset] [(.int (1 : Int32))])) _
      refine XS.istore X527.here hx rfl (hb hby at_116) rfl (l' := #[.val (.int p0), .val (.int p1), .val (.int p2), .val (.int p3), .val (.int p4), .val (.int ((p0 &&& (2147483647 : Int32)) % (3 : Int32))), .val (.ref r371), .val (.ref s374), .val .null, .val (.ref s476), .val (.ref s483), .val (.ref b490), .val (.int b513), .val (.int (1 : Int32)), .val (.int (1 : Int32)), .unset, .unset]) rfl ?_
      show Steps p.tables e below (T527.setTop (mkF m 118 #[.val (.int p0), .val (.int p1), .val (.int p2), .val (.int p3), .val (.int p4), .val (.int ((p0 &&& (2147483647 : Int32)) % (3 : Int32))), .val (.ref r371), .val (.ref s374), .val .null, .val (.ref s476), .val (.ref s483), .val (.ref b490), .val (.int b513), .val (.int (1 : Int32)), .val (.int (1 : Int32)), .unset, .unset] [])) _
      refine XS.aload X527.here hx rfl (hb hby at_118) rfl rfl ?_
      show Steps p.tables e below (T527.setTop (mkF m 120 #[.val (.int p0), .val (.int p1), .val (.int p2), .val (.int p3), .val (.int p4), .val (.int ((p0 &&& (2147483647 : Int32)) % (3 : Int32))), .val (.ref r371), .val (.ref s374), .val .null, .val (.ref s476), .val (.ref s483), .val (.ref b490), .val (.int b513), .val (.int (1 : Int32)), .val (.int (1 : Int32)), .unset, .unset] [(.ref b490)])) _
      refine XS.aload X527.here hx rfl (hb hby at_120) rfl rfl ?_
      show Steps p.tables e below (T527.setTop (mkF m 122 #[.val (.int p0), .val (.int p1), .val (.int p2), .val (.int p3), .val (.int p4), .val (.int ((p0 &&& (2147483647 : Int32)) % (3 : Int32))), .val (.ref r371), .val (.ref s374), .val .null, .val (.ref s476), .val (.ref s483), .val (.ref b490), .val (.int b513), .val (.int (1 : Int32)), .val (.int (1 : Int32)), .unset, .unset] [(.ref s483), (.ref b490)])) _
      exact st538.trans k)
    have Z541 : n0 ≤ T538.heap.size := Nat.le_trans Z521 Kk538.1
    have K542 : Keep h0 T538.heap [] := K522.trans Kk538 (all0)
    have O543 : Old Z n0 T538.heap := O523.keep Kk538 all0
    have R544 : CHr Z own_EL s.vm h0 T538.vm T538.heap := R526.trans cr538
    have g_m538 : n0 ≤ m538 := Nat.le_trans Z521 sz538
    have sz_m538 : h0.size ≤ m538 := Nat.le_trans K522.1 sz538
    obtain ⟨cq545, kq545, q545a, q545b, q545c⟩ := isOf hZr538 rfl Ek538
    obtain ⟨_, _, ⟨T545, L545, k545, n545⟩, -, X545, ⟨Lc545, hQ545, l545, y545, z545⟩, st545⟩ := Xr538.virtualBack hx (y := (⟨"com/example/lakebed/lakebed/model/TimelineInstant", "isCompleted", "()Z"⟩ : MethodName)) (z := (⟨"com/example/lakebed/lakebed/model/TimelineInstant", "isCompleted", "()Z"⟩ : MethodName)) ho538 (mvT hZr538 (hw _ (List.mem_of_getElem? (i := 53) rfl))) (mvT hZr538 (hw _ (List.mem_of_getElem? (i := 54) rfl))) (notFace_of_selects (args := #[]) (mvT hZr538 (hw _ (List.mem_of_getElem? (i := 56) rfl)))) (mvT hZr538 (hw _ (List.mem_of_getElem? (i := 56) rfl))) (mvT hZr538 (hw _ (List.mem_of_getElem? (i := 55) rfl))) (by decide) (backOf (W := 0) (rm_isC l Z a0 hw [] m538 r1 r0 r1 r2 T538.heap n0 Z541 Fs538 S0 S1 S2 O543) hZr538 (hw _ (List.mem_of_getElem? (i := 57) rfl)) (hw _ (List.mem_of_getElem? (i := 35) rfl)) (by decide) (by decide)) q545a q545c (g := (mkF m 125 #[.val (.int p0), .val (.int p1), .val (.int p2), .val (.int p3), .val (.int p4), .val (.int ((p0 &&& (2147483647 : Int32)) % (3 : Int32))), .val (.ref r371), .val (.ref s374), .val .null, .val (.ref s476), .val (.ref s483), .val (.ref b490), .val (.int b513), .val (.int (1 : Int32)), .val (.int (1 : Int32)), .unset, .unset] [(.ref m538)])) rfl (by rw [hml]; rfl) (Steps.refl _) (argsL := []) (rest := []) (lenOf pd__28_29Z rfl) rfl (by show 2 * 0 + _ ≤ _; exact Nat.le_of_eq rfl) (hb hby at_125) (fun _ _ => ⟨rfl, rfl, (Nat.le_of_ble_eq_true rfl : 26 + 0 ≤ _), (Nat.le_of_ble_eq_true rfl : 98 + 0 ≤ _)⟩)
    dsimp only [Pt.U, Pt.locs, Pt.cells, Pt.slots] at X545 l545 y545 z545 st545 hQ545
    subst l545 y545 z545
    obtain ⟨rfl, Nq545, e545⟩ := hQ545
    have N546 := Fr.app N539 Nq545
    have P547 : ∀ t, Steps p.tables e below (T545.setTop (mkF m 128 #[.val (.int p0), .val (.int p1), .val (.int p2), .val (.int p3), .val (.int p4), .val (.int ((p0 &&& (2147483647 : Int32)) % (3 : Int32))), .val (.ref r371), .val (.ref s374), .val .null, .val (.ref s476), .val (.ref s483), .val (.ref b490), .val (.int b513), .val (.int (1 : Int32)), .val (.int (1 : Int32)), .unset, .unset] [(.int (if r1 = r1 then 1 else 0))])) t → Steps p.tables e below (s₁.setTop (mkF m 0 #[.val (.int p0), .val (.int p1), .val (.int p2), .val (.int p3), .val (.int p4), .unset, .unset, .unset, .unset, .unset, .unset, .unset, .unset, .unset, .unset, .unset, .unset] [])) t := fun t k => P540 t (by
      show Steps p.tables e below (T538.setTop (mkF m 125 #[.val (.int p0), .val (.int p1), .val (.int p2), .val (.int p3), .val (.int p4), .val (.int ((p0 &&& (2147483647 : Int32)) % (3 : Int32))), .val (.ref r371), .val (.ref s374), .val .null, .val (.ref s476), .val (.ref s483), .val (.ref b490), .val (.int b513), .val (.int (1 : Int32)), .val (.int (1 : Int32)), .unset, .unset] [(.ref m538)])) _
      exact st545.trans k)
    have hi548 : ¬ (if r1 = r1 then 1 else 0) = (0 : Int32) := by rw [if_pos rfl]; decide
    obtain ⟨_, _, ⟨T549, L549, k549, n549⟩, -, X549, ⟨Lc549, hQ549, l549, y549, z549⟩, st549⟩ := Jvm.LawKit.callS X545 hx (y := (⟨"com/example/lakebed/lakebed/model/TimelineInstant", "requested", "(Ljava/lang/String;Ljava/lang/String;)Lcom/example/lakebed/lakebed/model/TimelineInstant;"⟩ : MethodName)) ho538 (mvT hZr538 (hw _ (List.mem_of_getElem? (i := 90) rfl))) (mvT hZr538 (hw _ (List.mem_of_getElem? (i := 91) rfl))) (mvT hZr538 (hw _ (List.mem_of_getElem? (i := 35) rfl))) (mvT hZr538 (hw _ (List.mem_of_getElem? (i := 92) rfl))) (by decide) (backOf (W := 0) (rm_req l Z a0 hw [] s374 s476 r0 r1 r2 T538.heap n0 Z541 S0 S1 S2 O543) hZr538 (hw _ (List.mem_of_getElem? (i := 92) rfl)) (hw _ (List.mem_of_getElem? (i := 35) rfl)) (by decide) (by decide)) (g := (mkF m 134 #[.val (.int p0), .val (.int p1), .val (.int p2), .val (.int p3), .val (.int p4), .val (.int ((p0 &&& (2147483647 : Int32)) % (3 : Int32))), .val (.ref r371), .val (.ref s374), .val .null, .val (.ref s476), .val (.ref s483), .val (.ref b490), .val (.int b513), .val (.int (1 : Int32)), .val (.int (1 : Int32)), .val (.int (if r1 = r1 then 1 else 0)), .unset] [(.ref s476), (.ref s374)])) rfl (by rw [hml]; rfl) (argsL := [(.ref s374), (.ref s476)]) (rest := []) (lenOf pd__28Ljava_2flang_2fString_3bLjava_2flang_2fString_3b_29Lcom_2fexample_2flakebed_2flakebed_2fmodel_2fTimelineInstant_3b rfl) rfl (by show 2 * 0 + _ ≤ _; exact Nat.le_of_eq rfl) (hb hby at_134) (fun _ _ => ⟨rfl, e545, (Nat.le_of_ble_eq_true rfl : 26 + 1 ≤ _), (Nat.le_of_ble_eq_true rfl : 98 + 4 ≤ _)⟩)
    dsimp only [Pt.U, Pt.locs, Pt.cells, Pt.slots] at X549 l549 y549 z549 st549 hQ549
    subst l549 y549 z549
    obtain ⟨m549, rfl, Nq549, sz549, Kk549, Ek549, Fs549⟩ := hQ549
    have N550 := Fr.app N546 Nq549
    have P551 : ∀ t, Steps p.tables e below (T549.setTop (mkF m 137 #[.val (.int p0), .val (.int p1), .val (.int p2), .val (.int p3), .val (.int p4), .val (.int ((p0 &&& (2147483647 : Int32)) % (3 : Int32))), .val (.ref r371), .val (.ref s374), .val .null, .val (.ref s476), .val (.ref s483), .val (.ref b490), .val (.int b513), .val (.int (1 : Int32)), .val (.int (1 : Int32)), .val (.int (if r1 = r1 then 1 else 0)), .unset] [(.ref m549)])) t → Steps p.tables e below (s₁.setTop (mkF m 0 #[.val (.int p0), .val (.int p1), .val (.int p2), .val (.int p3), .val (.int p4), .unset, .unset, .unset, .unset, .unset, .unset, .unset, .unset, .unset, .unset, .unset, .unset] [])) t := fun t k => P547 t (by
      show Steps p.tables e below (T545.setTop (mkF m 128 #[.val (.int p0), .val (.int p1), .val (.int p2), .val (.int p3), .val (.int p4), .val (.int ((p0 &&& (2147483647 : Int32)) % (3 : Int32))), .val (.ref r371), .val (.ref s374), .val .null, .val (.ref s476), .val (.ref s483), .val (.ref b490), .val (.int b513), .val (.int (1 : Int32)), .val (.int (1 : Int32)), .unset, .unset] [(.int (if r1 = r1 then 1 else 0))])) _
      refine XS.istore X545.here hx rfl (hb hby at_128) rfl (l' := #[.val (.int p0), .val (.int p1), .val (.int p2), .val (.int p3), .val (.int p4), .val (.int ((p0 &&& (2147483647 : Int32)) % (3 : Int32))), .val (.ref r371), .val (.ref s374), .val .null, .val (.ref s476), .val (.ref s483), .val (.ref b490), .val (.int b513), .val (.int (1 : Int32)), .val (.int (1 : Int32)), .val (.int (if r1 = r1 then 1 else 0)), .unset]) rfl ?_
      show Steps p.tables e below (T545.setTop (mkF m 130 #[.val (.int p0), .val (.int p1), .val (.int p2), .val (.int p3), .val (.int p4), .val (.int ((p0 &&& (2147483647 : Int32)) % (3 : Int32))), .val (.ref r371), .val (.ref s374), .val .null, .val (.ref s476), .val (.ref s483), .val (.ref b490), .val (.int b513), .val (.int (1 : Int32)), .val (.int (1 : Int32)), .val (.int (if r1 = r1 then 1 else 0)), .unset] [])) _
      refine XS.aload X545.here hx rfl (hb hby at_130) rfl rfl ?_
      show Steps p.tables e below (T545.setTop (mkF m 132 #[.val (.int p0), .val (.int p1), .val (.int p2), .val (.int p3), .val (.int p4), .val (.int ((p0 &&& (2147483647 : Int32)) % (3 : Int32))), .val (.ref r371), .val (.ref s374), .val .null, .val (.ref s476), .val (.ref s483), .val (.ref b490), .val (.int b513), .val (.int (1 : Int32)), .val (.int (1 : Int32)), .val (.int (if r1 = r1 then 1 else 0)), .unset] [(.ref s374)])) _
      refine XS.aload X545.here hx rfl (hb hby at_132) rfl rfl ?_
      show Steps p.tables e below (T545.setTop (mkF m 134 #[.val (.int p0), .val (.int p1), .val (.int p2), .val (.int p3), .val (.int p4), .val (.int ((p0 &&& (2147483647 : Int32)) % (3 : Int32))), .val (.ref r371), .val (.ref s374), .val .null, .val (.ref s476), .val (.ref s483), .val (.ref b490), .val (.int b513), .val (.int (1 : Int32)), .val (.int (1 : Int32)), .val (.int (if r1 = r1 then 1 else 0)), .unset] [(.ref s476), (.ref s374)])) _
      exact st549 _ k)
    have Z552 : n0 ≤ T549.heap.size := Nat.le_trans Z541 Kk549.1
    have K553 : Keep h0 T549.heap [] := K542.trans Kk549 (all0)
    have O554 : Old Z n0 T549.heap := O543.keep Kk549 all0
    have hk555 : T538.heap.size ≤ T549.heap.size := Nat.le_trans (Nat.le_refl _) Kk549.1
    have C556 : CHr Z own_EL T538.vm T538.heap T538.vm T549.heap := CHr.keep Kk549 sf0 cr538.1
    have R557 : CHr Z own_EL s.vm h0 T538.vm T549.heap := R544.trans C556
    have g_m549 : n0 ≤ m549 := Nat.le_trans Z541 sz549
    have sz_m549 : h0.size ≤ m549 := Nat.le_trans K542.1 sz549
    obtain ⟨cq558, kq558, q558a, q558b, q558c⟩ := isOf hZr538 rfl Ek549
    obtain ⟨_, _, ⟨T558, L558, k558, n558⟩, -, X558, ⟨Lc558, hQ558, l558, y558, z558⟩, st558⟩ := X549.virtualBack hx (y := (⟨"com/example/lakebed/lakebed/model/TimelineInstant", "isCompleted", "()Z"⟩ : MethodName)) (z := (⟨"com/example/lakebed/lakebed/model/TimelineInstant", "isCompleted", "()Z"⟩ : MethodName)) ho538 (mvT hZr538 (hw _ (List.mem_of_getElem? (i := 53) rfl))) (mvT hZr538 (hw _ (List.mem_of_getElem? (i := 54) rfl))) (notFace_of_selects (args := #[]) (mvT hZr538 (hw _ (List.mem_of_getElem? (i := 56) rfl)))) (mvT hZr538 (hw _ (List.mem_of_getElem? (i := 56) rfl))) (mvT hZr538 (hw _ (List.mem_of_getElem? (i := 55) rfl))) (by decide) (backOf (W := 0) (rm_isC l Z a0 hw [] m549 r0 r0 r1 r2 T549.heap n0 Z552 Fs549 S0 S1 S2 O554) hZr538 (hw _ (List.mem_of_getElem? (i := 57) rfl)) (hw _ (List.mem_of_getElem? (i := 35) rfl)) (by decide) (by decide)) q558a q558c (g := (mkF m 137 #[.val (.int p0), .val (.int p1), .val (.int p2), .val (.int p3), .val (.int p4), .val (.int ((p0 &&& (2147483647 : Int32)) % (3 : Int32))), .val (.ref r371), .val (.ref s374), .val .null, .val (.ref s476), .val (.ref s483), .val (.ref b490), .val (.int b513), .val (.int (1 : Int32)), .val (.int (1 : Int32)), .val (.int (if r1 = r1 then 1 else 0)), .unset] [(.ref m549)])) rfl (by rw [hml]; rfl) (Steps.refl _) (argsL := []) (rest := []) (lenOf pd__28_29Z rfl) rfl (by show 2 * 0 + _ ≤ _; exact Nat.le_of_eq rfl) (hb hby at_137) (fun _ _ => ⟨rfl, rfl, (Nat.le_of_ble_eq_true rfl : 27 + 0 ≤ _), (Nat.le_of_ble_eq_true rfl : 102 + 0 ≤ _)⟩)
    dsimp only [Pt.U, Pt.locs, Pt.cells, Pt.slots] at X558 l558 y558 z558 st558 hQ558
    subst l558 y558 z558
    obtain ⟨rfl, Nq558, e558⟩ := hQ558
    have N559 := Fr.app N550 Nq558
    have P560 : ∀ t, Steps p.tables e below (T558.setTop (mkF m 140 #[.val (.int p0), .val (.int p1), .val (.int p2), .val (.int p3), .val (.int p4), .val (.int ((p0 &&& (2147483647 : Int32)) % (3 : Int32))), .val (.ref r371), .val (.ref s374), .val .null, .val (.ref s476), .val (.ref s483), .val (.ref b490), .val (.int b513), .val (.int (1 : Int32)), .val (.int (1 : Int32)), .val (.int (if r1 = r1 then 1 else 0)), .unset] [(.int (if r0 = r1 then 1 else 0))])) t → Steps p.tables e below (s₁.setTop (mkF m 0 #[.val (.int p0), .val (.int p1), .val (.int p2), .val (.int p3), .val (.int p4), .unset, .unset, .unset, .unset, .unset, .unset, .unset, .unset, .unset, .unset, .unset, .unset] [])) t := fun t k => P551 t (by
      show Steps p.tables e below (T549.setTop (mkF m 137 #[.val (.int p0), .val (.int p1), .val (.int p2), .val (.int p3), .val (.int p4), .val (.int ((p0 &&& (2147483647 : Int32)) % (3 : Int32))), .val (.ref r371), .val (.ref s374), .val .null, .val (.ref s476), .val (.ref s483), .val (.ref b490), .val (.int b513), .val (.int (1 : Int32)), .val (.int (1 : Int32)), .val (.int (if r1 = r1 then 1 else 0)), .unset] [(.ref m549)])) _
      exact st558.trans k)
    have hi561 : (if r0 = r1 then 1 else 0) = (0 : Int32) := if_neg nr0
    obtain ⟨fs562, hr562, hrun562, hended562, hRW562⟩ := X558.leaveW (v := some (.int (1 : Int32))) hSr538 (by rw [e558]; exact hk555) (fun h => by rw [Bd.returns] at h; cases h)
    have hce562 : CHr Z own_EL s.vm s.heap T558.vm T558.heap := by
      rw [hh, e558]
      exact R557.trans (CHv.at X558 hZr538 (own_EW hw) C556.1)
    refine ⟨_, _, pre0 _ (P560 _ ?_), hrun562, hended562, _, _, rfl, ?_, hce562, ⟨hRW562.1, hRW562.2.1, hRW562.2.2.1, hRW562.2.2.2.mono (Nat.le_of_ble_eq_true rfl) (Nat.le_of_ble_eq_true rfl)⟩⟩
    · show Steps p.tables e below (T558.setTop (mkF m 140 #[.val (.int p0), .val (.int p1), .val (.int p2), .val (.int p3), .val (.int p4), .val (.int ((p0 &&& (2147483647 : Int32)) % (3 : Int32))), .val (.ref r371), .val (.ref s374), .val .null, .val (.ref s476), .val (.ref s483), .val (.ref b490), .val (.int b513), .val (.int (1 : Int32)), .val (.int (1 : Int32)), .val (.int (if r1 = r1 then 1 else 0)), .unset] [(.int (if r0 = r1 then 1 else 0))])) _
      refine XS.ifNo X558.here hx rfl (hb hby at_140) rfl ((if0 _ _).trans (teq (show (if r0 = r1 then 1 else 0) = (0 : Int32) from hi561)).2) ?_
      show Steps p.tables e below (T558.setTop (mkF m 143 #[.val (.int p0), .val (.int p1), .val (.int p2), .val (.int p3), .val (.int p4), .val (.int ((p0 &&& (2147483647 : Int32)) % (3 : Int32))), .val (.ref r371), .val (.ref s374), .val .null, .val (.ref s476), .val (.ref s483), .val (.ref b490), .val (.int b513), .val (.int (1 : Int32)), .val (.int (1 : Int32)), .val (.int (if r1 = r1 then 1 else 0)), .unset] [])) _
      refine XS.iconst X558.here hx rfl (hb hby at_143) ?_
      show Steps p.tables e below (T558.setTop (mkF m 144 #[.val (.int p0), .val (.int p1), .val (.int p2), .val (.int p3), .val (.int p4), .val (.int ((p0 &&& (2147483647 : Int32)) % (3 : Int32))), .val (.ref r371), .val (.ref s374), .val .null, .val (.ref s476), .val (.ref s483), .val (.ref b490), .val (.int b513), .val (.int (1 : Int32)), .val (.int (1 : Int32)), .val (.int (if r1 = r1 then 1 else 0)), .unset] [(.int (1 : Int32))])) _
      refine XS.goto X558.here hx rfl (pc0 := 144) (pc' := 148) rfl (hb hby at_144) (by decide) (by decide) ?_
      show Steps p.tables e below (T558.setTop (mkF m 148 #[.val (.int p0), .val (.int p1), .val (.int p2), .val (.int p3), .val (.int p4), .val (.int ((p0 &&& (2147483647 : Int32)) % (3 : Int32))), .val (.ref r371), .val (.ref s374), .val .null, .val (.ref s476), .val (.ref s483), .val (.ref b490), .val (.int b513), .val (.int (1 : Int32)), .val (.int (1 : Int32)), .val (.int (if r1 = r1 then 1 else 0)), .unset] [(.int (1 : Int32))])) _
      refine XS.istore X558.here hx rfl (hb hby at_148) rfl (l' := #[.val (.int p0), .val (.int p1), .val (.int p2), .val (.int p3), .val (.int p4), .val (.int ((p0 &&& (2147483647 : Int32)) % (3 : Int32))), .val (.ref r371), .val (.ref s374), .val .null, .val (.ref s476), .val (.ref s483), .val (.ref b490), .val (.int b513), .val (.int (1 : Int32)), .val (.int (1 : Int32)), .val (.int (if r1 = r1 then 1 else 0)), .val (.int (1 : Int32))]) rfl ?_
      show Steps p.tables e below (T558.setTop (mkF m 150 #[.val (.int p0), .val (.int p1), .val (.int p2), .val (.int p3), .val (.int p4), .val (.int ((p0 &&& (2147483647 : Int32)) % (3 : Int32))), .val (.ref r371), .val (.ref s374), .val .null, .val (.ref s476), .val (.ref s483), .val (.ref b490), .val (.int b513), .val (.int (1 : Int32)), .val (.int (1 : Int32)), .val (.int (if r1 = r1 then 1 else 0)), .val (.int (1 : Int32))] [])) _
      refine XS.iload X558.here hx rfl (hb hby at_150) rfl ?_
      show Steps p.tables e below (T558.setTop (mkF m 152 #[.val (.int p0), .val (.int p1), .val (.int p2), .val (.int p3), .val (.int p4), .val (.int ((p0 &&& (2147483647 : Int32)) % (3 : Int32))), .val (.ref r371), .val (.ref s374), .val .null, .val (.ref s476), .val (.ref s483), .val (.ref b490), .val (.int b513), .val (.int (1 : Int32)), .val (.int (1 : Int32)), .val (.int (if r1 = r1 then 1 else 0)), .val (.int (1 : Int32))] [(.int (1 : Int32))])) _
      refine XS.ifNo X558.here hx rfl (hb hby at_152) rfl ((if0 _ _).trans (feq (show ¬ ((1 : Int32) = (0 : Int32)) from (by decide))).1) ?_
      show Steps p.tables e below (T558.setTop (mkF m 155 #[.val (.int p0), .val (.int p1), .val (.int p2), .val (.int p3), .val (.int p4), .val (.int ((p0 &&& (2147483647 : Int32)) % (3 : Int32))), .val (.ref r371), .val (.ref s374), .val .null, .val (.ref s476), .val (.ref s483), .val (.ref b490), .val (.int b513), .val (.int (1 : Int32)), .val (.int (1 : Int32)), .val (.int (if r1 = r1 then 1 else 0)), .val (.int (1 : Int32))] [])) _
      refine XS.iload X558.here hx rfl (hb hby at_155) rfl ?_
      show Steps p.tables e below (T558.setTop (mkF m 157 #[.val (.int p0), .val (.int p1), .val (.int p2), .val (.int p3), .val (.int p4), .val (.int ((p0 &&& (2147483647 : Int32)) % (3 : Int32))), .val (.ref r371), .val (.ref s374), .val .null, .val (.ref s476), .val (.ref s483), .val (.ref b490), .val (.int b513), .val (.int (1 : Int32)), .val (.int (1 : Int32)), .val (.int (if r1 = r1 then 1 else 0)), .val (.int (1 : Int32))] [(.int (1 : Int32))])) _
      refine XS.ifNo X558.here hx rfl (hb hby at_157) rfl ((if0 _ _).trans (feq (show ¬ ((1 : Int32) = (0 : Int32)) from (by decide))).1) ?_
      show Steps p.tables e below (T558.setTop (mkF m 160 #[.val (.int p0), .val (.int p1), .val (.int p2), .val (.int p3), .val (.int p4), .val (.int ((p0 &&& (2147483647 : Int32)) % (3 : Int32))), .val (.ref r371), .val (.ref s374), .val .null, .val (.ref s476), .val (.ref s483), .val (.ref b490), .val (.int b513), .val (.int (1 : Int32)), .val (.int (1 : Int32)), .val (.int (if r1 = r1 then 1 else 0)), .val (.int (1 : Int32))] [])) _
      refine XS.iload X558.here hx rfl (hb hby at_160) rfl ?_
      show Steps p.tables e below (T558.setTop (mkF m 162 #[.val (.int p0), .val (.int p1), .val (.int p2), .val (.int p3), .val (.int p4), .val (.int ((p0 &&& (2147483647 : Int32)) % (3 : Int32))), .val (.ref r371), .val (.ref s374), .val .null, .val (.ref s476), .val (.ref s483), .val (.ref b490), .val (.int b513), .val (.int (1 : Int32)), .val (.int (1 : Int32)), .val (.int (if r1 = r1 then 1 else 0)), .val (.int (1 : Int32))] [(.int (if r1 = r1 then 1 else 0))])) _
      refine XS.ifNo X558.here hx rfl (hb hby at_162) rfl ((if0 _ _).trans (feq (show ¬ ((if r1 = r1 then 1 else 0) = (0 : Int32)) from hi548)).1) ?_
      show Steps p.tables e below (T558.setTop (mkF m 165 #[.val (.int p0), .val (.int p1), .val (.int p2), .val (.int p3), .val (.int p4), .val (.int ((p0 &&& (2147483647 : Int32)) % (3 : Int32))), .val (.ref r371), .val (.ref s374), .val .null, .val (.ref s476), .val (.ref s483), .val (.ref b490), .val (.int b513), .val (.int (1 : Int32)), .val (.int (1 : Int32)), .val (.int (if r1 = r1 then 1 else 0)), .val (.int (1 : Int32))] [])) _
      refine XS.iload X558.here hx rfl (hb hby at_165) rfl ?_
      show Steps p.tables e below (T558.setTop (mkF m 167 #[.val (.int p0), .val (.int p1), .val (.int p2), .val (.int p3), .val (.int p4), .val (.int ((p0 &&& (2147483647 : Int32)) % (3 : Int32))), .val (.ref r371), .val (.ref s374), .val .null, .val (.ref s476), .val (.ref s483), .val (.ref b490), .val (.int b513), .val (.int (1 : Int32)), .val (.int (1 : Int32)), .val (.int (if r1 = r1 then 1 else 0)), .val (.int (1 : Int32))] [(.int (1 : Int32))])) _
      refine XS.ifNo X558.here hx rfl (hb hby at_167) rfl ((if0 _ _).trans (feq (show ¬ ((1 : Int32) = (0 : Int32)) from (by decide))).1) ?_
      show Steps p.tables e below (T558.setTop (mkF m 170 #[.val (.int p0), .val (.int p1), .val (.int p2), .val (.int p3), .val (.int p4), .val (.int ((p0 &&& (2147483647 : Int32)) % (3 : Int32))), .val (.ref r371), .val (.ref s374), .val .null, .val (.ref s476), .val (.ref s483), .val (.ref b490), .val (.int b513), .val (.int (1 : Int32)), .val (.int (1 : Int32)), .val (.int (if r1 = r1 then 1 else 0)), .val (.int (1 : Int32))] [])) _
      refine XS.iconst X558.here hx rfl (hb hby at_170) ?_
      show Steps p.tables e below (T558.setTop (mkF m 171 #[.val (.int p0), .val (.int p1), .val (.int p2), .val (.int p3), .val (.int p4), .val (.int ((p0 &&& (2147483647 : Int32)) % (3 : Int32))), .val (.ref r371), .val (.ref s374), .val .null, .val (.ref s476), .val (.ref s483), .val (.ref b490), .val (.int b513), .val (.int (1 : Int32)), .val (.int (1 : Int32)), .val (.int (if r1 = r1 then 1 else 0)), .val (.int (1 : Int32))] [(.int (1 : Int32))])) _
      refine XS.goto X558.here hx rfl (pc0 := 171) (pc' := 175) rfl (hb hby at_171) (by decide) (by decide) ?_
      show Steps p.tables e below (T558.setTop (mkF m 175 #[.val (.int p0), .val (.int p1), .val (.int p2), .val (.int p3), .val (.int p4), .val (.int ((p0 &&& (2147483647 : Int32)) % (3 : Int32))), .val (.ref r371), .val (.ref s374), .val .null, .val (.ref s476), .val (.ref s483), .val (.ref b490), .val (.int b513), .val (.int (1 : Int32)), .val (.int (1 : Int32)), .val (.int (if r1 = r1 then 1 else 0)), .val (.int (1 : Int32))] [(.int (1 : Int32))])) _
      exact retN X558 hx (t := .boolean) Bd.returns (by simp) (hb hby at_175) hr562
    · show Q_law  h0 n0 _ T558.heap _
      rw [e558]
      exact ⟨rfl, N559⟩

set_option maxRecDepth 65536 in
set_option maxHeartbeats 40000000 in
theorem comes_1 {Post : Tables → Env → Array Value → State → Outcome → State → Prop} (hpost : ∀ tb e args s v u, (limb_1_1.after args s (.returned v) u = true ∧ limb_1_2.after args s (.returned v) u = true ∧ True) → ReturnedEndW s (.returned v) u (Jvm.fieldLocs frame_1_writes args s ++ Jvm.arrayLocs frame_1_arrays args s ++ Jvm.staticLocs frame_1_statics s) 48 2240 → Post tb e args s (.returned v) u) :
    ArmFor flags0 classFile x code maxLocals ret World_1 tables_1 room_1 Calls_1 rest_1 Pre_1 Post := by
  intro l hfl _ _ p e ha hc hk s m args below hf hA hF happ hP
  obtain ⟨hcalls, hrest, hpre⟩ := hP
  obtain ⟨-, -, -, hnamed, -, -, -, hat⟩ := (Spec.applies_iff hf).mp happ
  obtain ⟨hg, hn⟩ := and_e (Cond.before_iff.mp (show (Jvm.Cond.and given_1 narrow_1).before args s = true from hpre))
  obtain ⟨hcnt, hg0⟩ := and_e hg
  obtain ⟨ga0, hg1⟩ := and_e hg0
  obtain ⟨ga1, hg2⟩ := and_e hg1
  obtain ⟨ga2, hg3⟩ := and_e hg2
  obtain ⟨ga3, hg4⟩ := and_e hg3
  obtain ⟨w0, w1, w2, w3, w4, rfl⟩ : ∃ w0 w1 w2 w3 w4 : Value, args = #[w0, w1, w2, w3, w4] := by
    have hs : args.size = 5 := by simpa [Cond.value, given_1] using hcnt
    obtain ⟨L⟩ := args
    match L, hs with
    | [w0, w1, w2, w3, w4], _ => exact ⟨w0, w1, w2, w3, w4, rfl⟩
  have hw := fun d (hd : d ∈ tables_1) => atoms_spec (ws := Jvm.Cond.code x code maxLocals ret :: tables_1) hat d (List.mem_cons_of_mem _ hd)
  have hfit : Fit s := fun {y c} hc i hi => by
    obtain ⟨ha, rfl⟩ := Array.getElem?_eq_some_iff.mp hc
    have q := List.all_eq_true.mp ((Array.all_eq_true_iff_forall_mem.mp hF) _ (Array.getElem_mem ha)) i (List.mem_range.mpr hi)
    simpa [Array.getElem?_eq_getElem hi] using q
  obtain ⟨i0, ei0⟩ := is_v ga0
  obtain rfl : w0 = (.int i0) := Option.some.inj ei0
  obtain ⟨i1, ei1⟩ := is_v ga1
  obtain rfl : w1 = (.int i1) := Option.some.inj ei1
  obtain ⟨i2, ei2⟩ := is_v ga2
  obtain rfl : w2 = (.int i2) := Option.some.inj ei2
  obtain ⟨i3, ei3⟩ := is_v ga3
  obtain rfl : w3 = (.int i3) := Option.some.inj ei3
  obtain ⟨i4, ei4⟩ := is_v hg4
  obtain rfl : w4 = (.int i4) := Option.some.inj ei4
  obtain ⟨hsets, hown0⟩ := atoms_of _ (rest_1_c_eq ▸ (show rest_1_c.before _ s = true from hrest))
  obtain ⟨G1, eG1⟩ := is_v (Cond.before_iff.mp (hsets _ (List.mem_of_getElem? (i := 1) rfl)))
  have Sg : Sta s s.heap "java/lang/String" "COMPACT_STRINGS" "Z" (.int G1) := Sta.start eG1 (Or.inl (hsets _ (List.mem_of_getElem? (i := 0) rfl)))
  have P5 : ¬ (G1 = (0 : Int32)) := gotF (Cond.eq_ints eG1 (Term.int_eval (0))) (not_v (Cond.before_iff.mp (hsets _ (List.mem_of_getElem? (i := 2) rfl))))
  obtain ⟨hx0, hn0⟩ := and_e hn
  obtain ⟨r0, er0⟩ := exa_v hx0
  have Sr0 : Sta s s.heap "com/example/lakebed/lakebed/model/TimelineInstant$State" "REQUESTED" "Lcom/example/lakebed/lakebed/model/TimelineInstant$State;" (.ref r0) := Sta.start er0 (Or.inr ⟨(hw _ (List.mem_of_getElem? (i := 6) rfl)), (hw _ (List.mem_of_getElem? (i := 7) rfl))⟩)
  obtain ⟨hx1, hn1⟩ := and_e hn0
  obtain ⟨r1, er1⟩ := exa_v hx1
  have Sr1 : Sta s s.heap "com/example/lakebed/lakebed/model/TimelineInstant$State" "COMPLETED" "Lcom/example/lakebed/lakebed/model/TimelineInstant$State;" (.ref r1) := Sta.start er1 (Or.inr ⟨(hw _ (List.mem_of_getElem? (i := 6) rfl)), (hw _ (List.mem_of_getElem? (i := 59) rfl))⟩)
  obtain ⟨ho0, hn2⟩ := and_e hn1
  obtain ⟨ho1, hn3⟩ := and_e hn2
  obtain ⟨hx2, ho2⟩ := and_e hn3
  obtain ⟨r2, er2⟩ := exa_v hx2
  have Sr2 : Sta s s.heap "com/example/lakebed/lakebed/model/TimelineInstant$State" "INFLIGHT" "Lcom/example/lakebed/lakebed/model/TimelineInstant$State;" (.ref r2) := Sta.start er2 (Or.inr ⟨(hw _ (List.mem_of_getElem? (i := 6) rfl)), (hw _ (List.mem_of_getElem? (i := 67) rfl))⟩)
  have ord : ∀ {f : String} {r : Addr} {k : Int32}, (Term.static "com/example/lakebed/lakebed/model/TimelineInstant$State" f "Lcom/example/lakebed/lakebed/model/TimelineInstant$State;").eval (#[.int i0, .int i1, .int i2, .int i3, .int i4] : Array Value) s none [] s = some (.ref r) → (Jvm.Cond.eq (Jvm.Term.field (Jvm.Term.static "com/example/lakebed/lakebed/model/TimelineInstant$State" f "Lcom/example/lakebed/lakebed/model/TimelineInstant$State;") "java/lang/Enum" "ordinal" "I") (Jvm.Term.int k)).value (#[.int i0, .int i1, .int i2, .int i3, .int i4] : Array Value) s none s [] = some true → Fld s s.heap r "java/lang/Enum" "ordinal" "I" (.int k) := fun er ho => Fld.start (by
    have q := eqv_i (Term.int_eval _) ho
    rw [fld_at er] at q; exact q)
  have nr0 : ¬ r0 = r1 := Fld.ne (ord er0 ho0) (ord er1 ho1) (by simp)
  have nr2 : ¬ r2 = r1 := Fld.ne (ord er2 ho2) (ord er1 ho1) (by simp)
  have hCH : CHv s own_EL s.vm s.heap := CHv.start (own_EW hw) (fun p hp => hcalls.1 p hp) (hsets _ (List.mem_of_getElem? (i := 2) rfl)) (hw _ (List.mem_of_getElem? (i := 26) rfl)) (hw _ (List.mem_of_getElem? (i := 13) rfl))
  obtain ⟨n, o, h1, h2, h3, _, L, rfl, ⟨rfl, N⟩, hcr, hq⟩ := rm_law l s _ hw tables_1 i0 i1 i2 i3 i4 G1 r0 r1 r2  s.heap s.heap.size (Nat.le_refl _) Sg P5 Sr0 Sr1 Sr2 (Old.start s) nr0 nr2 p e ha hc hk s m _ below hf ((Spec.applies_iff_loose hf).mp happ).1 ⟨rfl, State.Warmed39.refl s, rfl, hCH⟩ trivial
  refine ⟨n, _, h1, h2, h3, hpost _ _ _ _ _ _ ⟨Cond.after_iff.mpr rfl, Cond.after_iff.mpr (eq_i res_at (Term.int_eval (1)) rfl), trivial⟩ ⟨hq.1, hq.2.1, hq.2.2.1, (hq.2.2.2.sift fun y hy => Or.inr (N y hy)).mono (Nat.le_of_ble_eq_true rfl) (Nat.le_of_ble_eq_true rfl)⟩⟩
theorem main_1_1 : Claimed_1_1 := comes_1 fun _ _ _ _ _ _ h hF => ⟨h.1, hF⟩
theorem main_1_2 : Claimed_1_2 := comes_1 fun _ _ _ _ _ _ h hF => ⟨h.2.1, hF⟩

end Jvm.Pilot.@@N@@
namespace Jvm.Pilot.@@N@@
open Jvm Jvm.ClassFile Sem Op Lib Jvm.Free Jvm.Stand Jvm.Pilot.@@N@@.Jvm.D
/-! MADE BY PROGRAM (witnessworld.py) out of the Statement's table words and the real class files: 23 classes; the members and pool entries that the words name. The judged class is class 1, her method 3. -/
namespace start1
open Jvm.ClassFile
def u (s : String) : CpInfo := .utf8 (stringToUtf16 s)
/-- a pool by its gaps: so many unusable entries, then the entry; so many at the end -/
def gap : Nat → List CpInfo → List CpInfo
  | 0, r => r
  | n + 1, r => .unusable :: gap n r
def poolList (es : List (Nat × CpInfo)) (last : Nat) : List CpInfo := es.foldr (fun e r => gap e.1 (e.2 :: r)) (gap last [])
def pool (es : List (Nat × CpInfo)) (last : Nat) : Array CpInfo := ⟨poolList es last⟩
def fileOf (pool : Array CpInfo) (this : Nat) (attrs : Array Attribute := #[]) (ms : Array MethodInfo := #[]) (fl : Nat := 33) (sup : Nat := 0) (ifs : Array Nat := #[]) (fds : Array FieldInfo := #[]) : ClassFile where
  minorVersion := 0
  majorVersion := 65
  constantPool := pool
  accessFlags := fl
  thisClass := this
  superClass := sup
  interfaces := ifs
  fields := fds
  methods := ms
  attributes := attrs
def plain (name : String) (sup : Option ClassId) : Class where
  name := name
  kind := .ordinary
  loader := none
  accessFlags := 33
  super := sup
  interfaces := #[]
  cf := none
  fields := #[]
  methods := #[]
  instanceTypes := #[]
  staticTypes := #[]
  resolved := #[]
  callSites := []
  init := .initialized
  statics := none
  mirror := none

def pool0 : Array CpInfo := pool [(5, u "<init>"), (0, u "()V"), (1, .class_ 10), (1, u "java/lang/Object")] 113

def k0c0 : Code := { maxStack := 0, maxLocals := 1, code := object_method_1_code, exceptionTable := #[], attributes := #[] }
def k0m0 : Method := { name := "<init>", desc := "()V", sig := { parameters := [], returnType := none }, accessFlags := 1, code := some k0c0 }
/-- java/lang/Object -/
def k0 : Class := { plain "java/lang/Object" none with
  accessFlags := 33
  interfaces := #[]
  cf := some (fileOf pool0 8 #[] #[{ accessFlags := 1, nameIndex := 5, descriptorIndex := 6, attributes := #[] }] 33 0 #[] #[])
  fields := #[]
  methods := #[k0m0]
  instanceTypes := #[]
  staticTypes := #[]
  resolved := Array.replicate 124 none
  statics := none }

def pool1 : Array CpInfo := pool [(2, .class_ 4), (1, u "java/lang/Object"), (0, u "<init>"), (0, u "()V"), (0, .fieldref 8 9), (0, .class_ 10), (0, .nameAndType 11 12), (0, u "com/example/lakebed/lakebed/model/TimelineInstant$State"), (0, u "REQUESTED"), (0, u "Lcom/example/lakebed/lakebed/model/TimelineInstant$State;"), (0, .fieldref 8 14), (0, .nameAndType 15 12), (0, u "INFLIGHT"), (0, .fieldref 8 17), (0, .nameAndType 18 12), (0, u "COMPLETED"), (0, .class_ 20), (0, u "java/lang/String"), (0, .methodref 19 22), (0, .nameAndType 5 23), (0, u "([C)V"), (0, .methodref 19 25), (0, .nameAndType 26 27), (0, u "valueOf"), (0, u "(C)Ljava/lang/String;"), (0, .integer 2147483647), (0, .methodref 30 31), (0, .class_ 32), (0, .nameAndType 33 34), (0, u "com/example/lakebed/lakebed/model/TimelineInstantIsCompletedPinLaw"), (0, u "stateOf"), (0, u "(I)Lcom/example/lakebed/lakebed/model/TimelineInstant$State;"), (0, .methodref 30 36), (0, .nameAndType 37 38), (0, u "str"), (0, u "(I)Ljava/lang/String;"), (0, .class_ 40), (0, u "com/example/lakebed/lakebed/model/TimelineInstant"), (0, .methodref 39 42), (0, .nameAndType 5 43), (0, u "(Ljava/lang/String;Ljava/lang/String;Ljava/lang/String;Lcom/example/lakebed/lakebed/model/TimelineInstant$State;)V"), (0, .methodref 39 45), (0, .nameAndType 46 47), (0, u "isCompleted"), (0, u "()Z"), (0, .methodref 39 49), (0, .nameAndType 50 51), (0, u "toInflight"), (0, u "()Lcom/example/lakebed/lakebed/model/TimelineInstant;"), (0, .methodref 39 53), (0, .nameAndType 54 55), (0, u "toCompleted"), (0, u "(Ljava/lang/String;)Lcom/example/lakebed/lakebed/model/TimelineInstant;"), (0, .methodref 39 57), (0, .nameAndType 58 59), (0, u "requested"), (0, u "(Ljava/lang/String;Ljava/lang/String;)Lcom/example/lakebed/lakebed/model/TimelineInstant;"), (5, u "law"), (0, u "(IIIII)Z")] 4

def k1m0 : Method := { name := "<init>", desc := "()V", sig := { parameters := [], returnType := none }, accessFlags := 1, code := none }
def k1c1 : Code := { maxStack := 2, maxLocals := 1, code := method_2_code, exceptionTable := #[], attributes := #[] }
def k1m1 : Method := { name := "stateOf", desc := "(I)Lcom/example/lakebed/lakebed/model/TimelineInstant$State;", sig := { parameters := [.int], returnType := some (.object "com/example/lakebed/lakebed/model/TimelineInstant$State") }, accessFlags := 10, code := some k1c1 }
def k1c2 : Code := { maxStack := 4, maxLocals := 3, code := method_3_code, exceptionTable := #[], attributes := #[] }
def k1m2 : Method := { name := "str", desc := "(I)Ljava/lang/String;", sig := { parameters := [.int], returnType := some (.object "java/lang/String") }, accessFlags := 10, code := some k1c2 }
def k1c3 : Code := { maxStack := 6, maxLocals := 17, code := code, exceptionTable := #[], attributes := #[] }
def k1m3 : Method := { name := "law", desc := "(IIIII)Z", sig := { parameters := [.int, .int, .int, .int, .int], returnType := some .boolean }, accessFlags := 9, code := some k1c3 }
/-- com/example/lakebed/lakebed/model/TimelineInstantIsCompletedPinLaw -/
def k1 : Class := { plain "com/example/lakebed/lakebed/model/TimelineInstantIsCompletedPinLaw" (some 0) with
  accessFlags := 49
  interfaces := #[]
  cf := some (fileOf pool1 30 #[] #[{ accessFlags := 1, nameIndex := 5, descriptorIndex := 6, attributes := #[] }, { accessFlags := 10, nameIndex := 33, descriptorIndex := 34, attributes := #[] }, { accessFlags := 10, nameIndex := 37, descriptorIndex := 38, attributes := #[] }, { accessFlags := 9, nameIndex := 65, descriptorIndex := 66, attributes := #[] }] 49 2 #[] #[])
  fields := #[]
  methods := #[k1m0, k1m1, k1m2, k1m3]
  instanceTypes := #[]
  staticTypes := #[]
  resolved := Array.replicate 71 none
  statics := none }

def pool2 : Array CpInfo := pool [(1, .class_ 2), (0, u "java/lang/constant/Constable"), (0, .class_ 4), (0, u "java/lang/Object")] 6

/-- java/lang/constant/Constable -/
def k2 : Class := { plain "java/lang/constant/Constable" (some 0) with
  accessFlags := 1537
  interfaces := #[]
  cf := some (fileOf pool2 1 #[] #[] 1537 3 #[] #[])
  fields := #[]
  methods := #[]
  instanceTypes := #[]
  staticTypes := #[]
  resolved := Array.replicate 11 none
  statics := none }

def pool3 : Array CpInfo := pool [(1, .class_ 2), (0, u "java/lang/Comparable"), (0, .class_ 4), (0, u "java/lang/Object")] 7

/-- java/lang/Comparable -/
def k3 : Class := { plain "java/lang/Comparable" (some 0) with
  accessFlags := 1537
  interfaces := #[]
  cf := some (fileOf pool3 1 #[] #[] 1537 3 #[] #[])
  fields := #[]
  methods := #[]
  instanceTypes := #[]
  staticTypes := #[]
  resolved := Array.replicate 12 none
  statics := none }

def pool4 : Array CpInfo := pool [(1, .class_ 2), (0, u "java/io/Serializable"), (0, .class_ 4), (0, u "java/lang/Object")] 2

/-- java/io/Serializable -/
def k4 : Class := { plain "java/io/Serializable" (some 0) with
  accessFlags := 1537
  interfaces := #[]
  cf := some (fileOf pool4 1 #[] #[] 1537 3 #[] #[])
  fields := #[]
  methods := #[]
  instanceTypes := #[]
  staticTypes := #[]
  resolved := Array.replicate 7 none
  statics := none }

def pool5 : Array CpInfo := pool [(2, .class_ 4), (1, u "java/lang/Enum"), (0, u "name"), (0, u "Ljava/lang/String;"), (2, u "ordinal"), (0, u "I"), (1, .class_ 14), (1, u "java/lang/Object"), (4, u "hash"), (86, .class_ 108), (1, u "java/lang/Enum$EnumDesc"), (2, .class_ 112), (0, u "java/lang/constant/Constable"), (0, .class_ 114), (0, u "java/lang/Comparable"), (0, .class_ 116), (0, u "java/io/Serializable")] 87

/-- java/lang/Enum -/
def k5 : Class := { plain "java/lang/Enum" (some 0) with
  accessFlags := 1057
  interfaces := #[2, 3, 4]
  cf := some (fileOf pool5 2 #[.nestMembers #[106]] #[] 1057 12 #[111, 113, 115] #[{ accessFlags := 18, nameIndex := 5, descriptorIndex := 6, attributes := #[] }, { accessFlags := 18, nameIndex := 9, descriptorIndex := 10, attributes := #[] }, { accessFlags := 2, nameIndex := 19, descriptorIndex := 10, attributes := #[] }])
  fields := #[{ name := "name", type := (.object "java/lang/String"), accessFlags := 18, slot := 0, constantValue := 0 }, { name := "ordinal", type := .int, accessFlags := 18, slot := 1, constantValue := 0 }, { name := "hash", type := .int, accessFlags := 2, slot := 2, constantValue := 0 }]
  methods := #[]
  instanceTypes := #[(.object "java/lang/String"), .int, .int]
  staticTypes := #[]
  resolved := Array.replicate 204 none
  statics := none }

def pool6 : Array CpInfo := pool [(1, .class_ 2), (0, u "com/example/lakebed/lakebed/model/TimelineInstant$State"), (2, u "REQUESTED"), (0, u "Lcom/example/lakebed/lakebed/model/TimelineInstant$State;"), (2, u "INFLIGHT"), (2, u "COMPLETED"), (2, u "$VALUES"), (0, u "[Lcom/example/lakebed/lakebed/model/TimelineInstant$State;"), (6, .class_ 25), (1, u "java/lang/Enum"), (43, .class_ 70), (0, u "com/example/lakebed/lakebed/model/TimelineInstant")] 2

/-- com/example/lakebed/lakebed/model/TimelineInstant$State -/
def k6 : Class := { plain "com/example/lakebed/lakebed/model/TimelineInstant$State" (some 5) with
  accessFlags := 16433
  interfaces := #[]
  cf := some (fileOf pool6 1 #[.nestHost 69] #[] 16433 23 #[] #[{ accessFlags := 16409, nameIndex := 5, descriptorIndex := 6, attributes := #[] }, { accessFlags := 16409, nameIndex := 9, descriptorIndex := 6, attributes := #[] }, { accessFlags := 16409, nameIndex := 12, descriptorIndex := 6, attributes := #[] }, { accessFlags := 4122, nameIndex := 15, descriptorIndex := 16, attributes := #[] }])
  fields := #[{ name := "REQUESTED", type := (.object "com/example/lakebed/lakebed/model/TimelineInstant$State"), accessFlags := 16409, slot := 0, constantValue := 0 }, { name := "INFLIGHT", type := (.object "com/example/lakebed/lakebed/model/TimelineInstant$State"), accessFlags := 16409, slot := 1, constantValue := 0 }, { name := "COMPLETED", type := (.object "com/example/lakebed/lakebed/model/TimelineInstant$State"), accessFlags := 16409, slot := 2, constantValue := 0 }, { name := "$VALUES", type := (.array (.object "com/example/lakebed/lakebed/model/TimelineInstant$State")), accessFlags := 4122, slot := 3, constantValue := 0 }]
  methods := #[]
  instanceTypes := #[(.object "java/lang/String"), .int, .int]
  staticTypes := #[(.object "com/example/lakebed/lakebed/model/TimelineInstant$State"), (.object "com/example/lakebed/lakebed/model/TimelineInstant$State"), (.object "com/example/lakebed/lakebed/model/TimelineInstant$State"), (.array (.object "com/example/lakebed/lakebed/model/TimelineInstant$State"))]
  resolved := Array.replicate 73 none
  statics := some 0 }

def pool7 : Array CpInfo := pool [(2, .class_ 4), (1, u "java/lang/CharSequence"), (42, .class_ 48), (0, u "java/lang/CharSequence$1CodePointIterator"), (10, .class_ 60), (0, u "java/lang/CharSequence$1CharIterator"), (5, .class_ 67), (0, u "java/lang/Object")] 63

/-- java/lang/CharSequence -/
def k7 : Class := { plain "java/lang/CharSequence" (some 0) with
  accessFlags := 1537
  interfaces := #[]
  cf := some (fileOf pool7 2 #[.nestMembers #[47, 59]] #[] 1537 66 #[] #[])
  fields := #[]
  methods := #[]
  instanceTypes := #[]
  staticTypes := #[]
  resolved := Array.replicate 131 none
  statics := none }

def pool8 : Array CpInfo := pool [(1, .class_ 2), (0, u "java/lang/constant/ConstantDesc"), (0, .class_ 4), (0, u "java/lang/Object")] 32

/-- java/lang/constant/ConstantDesc -/
def k8 : Class := { plain "java/lang/constant/ConstantDesc" (some 0) with
  accessFlags := 1537
  interfaces := #[]
  cf := some (fileOf pool8 1 #[] #[] 1537 3 #[] #[])
  fields := #[]
  methods := #[]
  instanceTypes := #[]
  staticTypes := #[]
  resolved := Array.replicate 37 none
  statics := none }

def pool9 : Array CpInfo := pool [(1, .methodref 2 3), (0, .class_ 4), (0, .nameAndType 5 6), (0, u "java/lang/Object"), (0, u "<init>"), (0, u "()V"), (0, .string 8), (0, u ""), (0, .fieldref 10 11), (0, .class_ 12), (0, .nameAndType 13 14), (0, u "java/lang/String"), (0, u "value"), (0, u "[B"), (0, .fieldref 10 16), (0, .nameAndType 17 18), (0, u "coder"), (0, u "B"), (2, u "hash"), (0, u "I"), (2, u "hashIsZero"), (0, u "Z"), (0, .methodref 10 28), (0, .nameAndType 5 29), (0, u "([CIILjava/lang/Void;)V"), (8, .fieldref 10 39), (0, .nameAndType 40 26), (0, u "COMPACT_STRINGS"), (1, .class_ 44), (1, u "java/lang/StringUTF16"), (0, u "compress"), (1, .methodref 42 48), (0, .nameAndType 49 50), (0, u "coderFromArrayLen"), (0, u "([BI)B"), (2, u "toBytes"), (53, .class_ 109), (1, u "java/lang/StringLatin1"), (67, .methodref 42 178), (0, .nameAndType 45 179), (0, u "([CII)[B"), (29, .methodref 10 210), (0, .nameAndType 5 211), (0, u "([BB)V"), (157, u "(C)Z"), (171, .methodref 107 542), (0, .nameAndType 543 544), (0, u "equals"), (0, u "([B[B)Z"), (28, u "(Ljava/lang/Object;)Z"), (1, .class_ 576), (0, u "java/lang/CharSequence"), (22, u "CASE_INSENSITIVE_ORDER"), (0, u "Ljava/util/Comparator;"), (181, u "valueOf"), (0, u "(C)Ljava/lang/String;"), (226, u "([C)V"), (4, .methodref 107 1016), (0, .nameAndType 1017 369), (0, u "canEncode"), (0, .methodref 107 1019), (0, .nameAndType 53 1020), (0, u "(C)[B"), (80, u "serialPersistentFields"), (0, u "[Ljava/io/ObjectStreamField;"), (0, .class_ 1104), (0, u "java/lang/String$CaseInsensitiveComparator"), (1, .class_ 1107), (0, u "java/io/Serializable"), (0, .class_ 1109), (0, u "java/lang/Comparable"), (0, .class_ 1111), (0, u "java/lang/constant/Constable"), (0, .class_ 1113), (0, u "java/lang/constant/ConstantDesc"), (2, u "serialVersionUID"), (0, u "J"), (3, u "REPL"), (0, u "C"), (2, u "LATIN1"), (1, u "UTF16")] 323

def k9m0 : Method := { name := "<init>", desc := "()V", sig := { parameters := [], returnType := none }, accessFlags := 1, code := none }
def k9c1 : Code := { maxStack := 5, maxLocals := 2, code := jdk_42_method_3_code, exceptionTable := #[], attributes := #[] }
def k9m1 : Method := { name := "<init>", desc := "([C)V", sig := { parameters := [(.array .char)], returnType := none }, accessFlags := 1, code := some k9c1 }
def k9c2 : Code := { maxStack := 2, maxLocals := 3, code := jdk_42_method_66_code, exceptionTable := #[], attributes := #[] }
def k9m2 : Method := { name := "equals", desc := "(Ljava/lang/Object;)Z", sig := { parameters := [(.object "java/lang/Object")], returnType := some .boolean }, accessFlags := 1, code := some k9c2 }
def k9c3 : Code := { maxStack := 4, maxLocals := 1, code := jdk_42_method_139_code, exceptionTable := #[], attributes := #[] }
def k9m3 : Method := { name := "valueOf", desc := "(C)Ljava/lang/String;", sig := { parameters := [.char], returnType := some (.object "java/lang/String") }, accessFlags := 9, code := some k9c3 }
def k9c4 : Code := { maxStack := 4, maxLocals := 6, code := jdk_42_method_149_code, exceptionTable := #[], attributes := #[] }
def k9m4 : Method := { name := "<init>", desc := "([CIILjava/lang/Void;)V", sig := { parameters := [(.array .char), .int, .int, (.object "java/lang/Void")], returnType := none }, accessFlags := 2, code := some k9c4 }
def k9c5 : Code := { maxStack := 2, maxLocals := 3, code := jdk_42_method_151_code, exceptionTable := #[], attributes := #[] }
def k9m5 : Method := { name := "<init>", desc := "([BB)V", sig := { parameters := [(.array .byte), .byte], returnType := none }, accessFlags := 0, code := some k9c5 }
/-- java/lang/String -/
def k9 : Class := { plain "java/lang/String" (some 0) with
  accessFlags := 49
  interfaces := #[4, 3, 7, 2, 8]
  cf := some (fileOf pool9 10 #[.nestMembers #[1103]] #[{ accessFlags := 1, nameIndex := 5, descriptorIndex := 6, attributes := #[] }, { accessFlags := 1, nameIndex := 5, descriptorIndex := 1010, attributes := #[] }, { accessFlags := 1, nameIndex := 543, descriptorIndex := 573, attributes := #[] }, { accessFlags := 9, nameIndex := 782, descriptorIndex := 783, attributes := #[] }, { accessFlags := 2, nameIndex := 5, descriptorIndex := 29, attributes := #[] }, { accessFlags := 0, nameIndex := 5, descriptorIndex := 211, attributes := #[] }] 49 2 #[1106, 1108, 575, 1110, 1112] #[{ accessFlags := 18, nameIndex := 13, descriptorIndex := 14, attributes := #[] }, { accessFlags := 18, nameIndex := 17, descriptorIndex := 18, attributes := #[] }, { accessFlags := 2, nameIndex := 21, descriptorIndex := 22, attributes := #[] }, { accessFlags := 2, nameIndex := 25, descriptorIndex := 26, attributes := #[] }, { accessFlags := 26, nameIndex := 1116, descriptorIndex := 1117, attributes := #[] }, { accessFlags := 24, nameIndex := 40, descriptorIndex := 26, attributes := #[] }, { accessFlags := 26, nameIndex := 1101, descriptorIndex := 1102, attributes := #[] }, { accessFlags := 26, nameIndex := 1121, descriptorIndex := 1122, attributes := #[] }, { accessFlags := 25, nameIndex := 599, descriptorIndex := 600, attributes := #[] }, { accessFlags := 24, nameIndex := 1125, descriptorIndex := 18, attributes := #[] }, { accessFlags := 24, nameIndex := 1127, descriptorIndex := 18, attributes := #[] }])
  fields := #[{ name := "value", type := (.array .byte), accessFlags := 18, slot := 0, constantValue := 0 }, { name := "coder", type := .byte, accessFlags := 18, slot := 1, constantValue := 0 }, { name := "hash", type := .int, accessFlags := 2, slot := 2, constantValue := 0 }, { name := "hashIsZero", type := .boolean, accessFlags := 2, slot := 3, constantValue := 0 }, { name := "serialVersionUID", type := .long, accessFlags := 26, slot := 0, constantValue := 0 }, { name := "COMPACT_STRINGS", type := .boolean, accessFlags := 24, slot := 1, constantValue := 0 }, { name := "serialPersistentFields", type := (.array (.object "java/io/ObjectStreamField")), accessFlags := 26, slot := 2, constantValue := 0 }, { name := "REPL", type := .char, accessFlags := 26, slot := 3, constantValue := 0 }, { name := "CASE_INSENSITIVE_ORDER", type := (.object "java/util/Comparator"), accessFlags := 25, slot := 4, constantValue := 0 }, { name := "LATIN1", type := .byte, accessFlags := 24, slot := 5, constantValue := 0 }, { name := "UTF16", type := .byte, accessFlags := 24, slot := 6, constantValue := 0 }]
  methods := #[k9m0, k9m1, k9m2, k9m3, k9m4, k9m5]
  instanceTypes := #[(.array .byte), .byte, .int, .boolean]
  staticTypes := #[.long, .boolean, (.array (.object "java/io/ObjectStreamField")), .char, (.object "java/util/Comparator"), .byte, .byte]
  resolved := Array.replicate 1451 none
  statics := some 1 }

def pool10 : Array CpInfo := pool [(1, .methodref 2 3), (0, .class_ 4), (0, .nameAndType 5 6), (0, u "java/lang/Object"), (0, u "<init>"), (0, u "()V"), (0, .class_ 8), (0, u "java/lang/Record")] 13

def k10c0 : Code := { maxStack := 1, maxLocals := 1, code := jdk_30_method_1_code, exceptionTable := #[], attributes := #[] }
def k10m0 : Method := { name := "<init>", desc := "()V", sig := { parameters := [], returnType := none }, accessFlags := 4, code := some k10c0 }
/-- java/lang/Record -/
def k10 : Class := { plain "java/lang/Record" (some 0) with
  accessFlags := 1057
  interfaces := #[]
  cf := some (fileOf pool10 7 #[] #[{ accessFlags := 4, nameIndex := 5, descriptorIndex := 6, attributes := #[] }] 1057 2 #[] #[])
  fields := #[]
  methods := #[k10m0]
  instanceTypes := #[]
  staticTypes := #[]
  resolved := Array.replicate 22 none
  statics := none }

def pool11 : Array CpInfo := pool [(1, .methodref 2 3), (0, .class_ 4), (0, .nameAndType 5 6), (0, u "java/lang/Record"), (0, u "<init>"), (0, u "()V"), (0, .fieldref 8 9), (0, .class_ 10), (0, .nameAndType 11 12), (0, u "com/example/lakebed/lakebed/model/TimelineInstant"), (0, u "begin"), (0, u "Ljava/lang/String;"), (0, .fieldref 8 14), (0, .nameAndType 15 12), (0, u "completion"), (0, .fieldref 8 17), (0, .nameAndType 18 12), (0, u "action"), (0, .fieldref 8 20), (0, .nameAndType 21 22), (0, u "state"), (0, u "Lcom/example/lakebed/lakebed/model/TimelineInstant$State;"), (0, .fieldref 24 25), (0, .class_ 26), (0, .nameAndType 27 22), (0, u "com/example/lakebed/lakebed/model/TimelineInstant$State"), (0, u "REQUESTED"), (0, .methodref 8 29), (0, .nameAndType 5 30), (0, u "(Ljava/lang/String;Ljava/lang/String;Ljava/lang/String;Lcom/example/lakebed/lakebed/model/TimelineInstant$State;)V"), (0, .fieldref 24 32), (0, .nameAndType 33 22), (0, u "INFLIGHT"), (0, .methodref 8 35), (0, .nameAndType 36 37), (0, u "completedAction"), (0, u "()Ljava/lang/String;"), (0, .fieldref 24 39), (0, .nameAndType 40 22), (0, u "COMPLETED"), (4, .string 46), (0, u "compaction"), (0, .methodref 48 49), (0, .class_ 50), (0, .nameAndType 51 52), (0, u "java/lang/String"), (0, u "equals"), (0, u "(Ljava/lang/Object;)Z"), (4, u "isCompleted"), (0, u "()Z"), (9, u "Ljava/util/regex/Pattern;"), (23, u "PENDING"), (38, u "WRITES"), (0, u "Ljava/util/Set;"), (8, u "COMMIT"), (1, u "DELTA_COMMIT"), (0, u "ROLLBACK"), (2, u "COMPACTION"), (0, u "CLEAN"), (7, u "requested"), (0, u "(Ljava/lang/String;Ljava/lang/String;)Lcom/example/lakebed/lakebed/model/TimelineInstant;"), (0, u "toInflight"), (0, u "()Lcom/example/lakebed/lakebed/model/TimelineInstant;"), (0, u "toCompleted"), (0, u "(Ljava/lang/String;)Lcom/example/lakebed/lakebed/model/TimelineInstant;")] 46

def k11c0 : Code := { maxStack := 2, maxLocals := 5, code := prog_18_method_1_code, exceptionTable := #[], attributes := #[] }
def k11m0 : Method := { name := "<init>", desc := "(Ljava/lang/String;Ljava/lang/String;Ljava/lang/String;Lcom/example/lakebed/lakebed/model/TimelineInstant$State;)V", sig := { parameters := [(.object "java/lang/String"), (.object "java/lang/String"), (.object "java/lang/String"), (.object "com/example/lakebed/lakebed/model/TimelineInstant$State")], returnType := none }, accessFlags := 1, code := some k11c0 }
def k11c1 : Code := { maxStack := 6, maxLocals := 2, code := prog_18_method_2_code, exceptionTable := #[], attributes := #[] }
def k11m1 : Method := { name := "requested", desc := "(Ljava/lang/String;Ljava/lang/String;)Lcom/example/lakebed/lakebed/model/TimelineInstant;", sig := { parameters := [(.object "java/lang/String"), (.object "java/lang/String")], returnType := some (.object "com/example/lakebed/lakebed/model/TimelineInstant") }, accessFlags := 9, code := some k11c1 }
def k11c2 : Code := { maxStack := 6, maxLocals := 1, code := prog_18_method_3_code, exceptionTable := #[], attributes := #[] }
def k11m2 : Method := { name := "toInflight", desc := "()Lcom/example/lakebed/lakebed/model/TimelineInstant;", sig := { parameters := [], returnType := some (.object "com/example/lakebed/lakebed/model/TimelineInstant") }, accessFlags := 1, code := some k11c2 }
def k11c3 : Code := { maxStack := 6, maxLocals := 2, code := prog_18_method_4_code, exceptionTable := #[], attributes := #[] }
def k11m3 : Method := { name := "toCompleted", desc := "(Ljava/lang/String;)Lcom/example/lakebed/lakebed/model/TimelineInstant;", sig := { parameters := [(.object "java/lang/String")], returnType := some (.object "com/example/lakebed/lakebed/model/TimelineInstant") }, accessFlags := 1, code := some k11c3 }
def k11c4 : Code := { maxStack := 2, maxLocals := 1, code := prog_18_method_6_code, exceptionTable := #[], attributes := #[] }
def k11m4 : Method := { name := "completedAction", desc := "()Ljava/lang/String;", sig := { parameters := [], returnType := some (.object "java/lang/String") }, accessFlags := 2, code := some k11c4 }
def k11c5 : Code := { maxStack := 2, maxLocals := 1, code := prog_18_method_7_code, exceptionTable := #[], attributes := #[] }
def k11m5 : Method := { name := "isCompleted", desc := "()Z", sig := { parameters := [], returnType := some .boolean }, accessFlags := 1, code := some k11c5 }
/-- com/example/lakebed/lakebed/model/TimelineInstant -/
def k11 : Class := { plain "com/example/lakebed/lakebed/model/TimelineInstant" (some 10) with
  accessFlags := 49
  interfaces := #[]
  cf := some (fileOf pool11 8 #[.nestMembers #[24]] #[{ accessFlags := 1, nameIndex := 5, descriptorIndex := 30, attributes := #[] }, { accessFlags := 9, nameIndex := 156, descriptorIndex := 157, attributes := #[] }, { accessFlags := 1, nameIndex := 158, descriptorIndex := 159, attributes := #[] }, { accessFlags := 1, nameIndex := 160, descriptorIndex := 161, attributes := #[] }, { accessFlags := 2, nameIndex := 36, descriptorIndex := 37, attributes := #[] }, { accessFlags := 1, nameIndex := 57, descriptorIndex := 58, attributes := #[] }] 49 2 #[] #[{ accessFlags := 18, nameIndex := 11, descriptorIndex := 12, attributes := #[] }, { accessFlags := 18, nameIndex := 15, descriptorIndex := 12, attributes := #[] }, { accessFlags := 18, nameIndex := 18, descriptorIndex := 12, attributes := #[] }, { accessFlags := 18, nameIndex := 21, descriptorIndex := 22, attributes := #[] }, { accessFlags := 25, nameIndex := 141, descriptorIndex := 12, attributes := #[] }, { accessFlags := 25, nameIndex := 143, descriptorIndex := 12, attributes := #[] }, { accessFlags := 25, nameIndex := 144, descriptorIndex := 12, attributes := #[] }, { accessFlags := 25, nameIndex := 147, descriptorIndex := 12, attributes := #[] }, { accessFlags := 25, nameIndex := 148, descriptorIndex := 12, attributes := #[] }, { accessFlags := 25, nameIndex := 131, descriptorIndex := 132, attributes := #[] }, { accessFlags := 26, nameIndex := 92, descriptorIndex := 68, attributes := #[] }, { accessFlags := 26, nameIndex := 40, descriptorIndex := 68, attributes := #[] }])
  fields := #[{ name := "begin", type := (.object "java/lang/String"), accessFlags := 18, slot := 0, constantValue := 0 }, { name := "completion", type := (.object "java/lang/String"), accessFlags := 18, slot := 1, constantValue := 0 }, { name := "action", type := (.object "java/lang/String"), accessFlags := 18, slot := 2, constantValue := 0 }, { name := "state", type := (.object "com/example/lakebed/lakebed/model/TimelineInstant$State"), accessFlags := 18, slot := 3, constantValue := 0 }, { name := "COMMIT", type := (.object "java/lang/String"), accessFlags := 25, slot := 0, constantValue := 0 }, { name := "DELTA_COMMIT", type := (.object "java/lang/String"), accessFlags := 25, slot := 1, constantValue := 0 }, { name := "ROLLBACK", type := (.object "java/lang/String"), accessFlags := 25, slot := 2, constantValue := 0 }, { name := "COMPACTION", type := (.object "java/lang/String"), accessFlags := 25, slot := 3, constantValue := 0 }, { name := "CLEAN", type := (.object "java/lang/String"), accessFlags := 25, slot := 4, constantValue := 0 }, { name := "WRITES", type := (.object "java/util/Set"), accessFlags := 25, slot := 5, constantValue := 0 }, { name := "PENDING", type := (.object "java/util/regex/Pattern"), accessFlags := 26, slot := 6, constantValue := 0 }, { name := "COMPLETED", type := (.object "java/util/regex/Pattern"), accessFlags := 26, slot := 7, constantValue := 0 }]
  methods := #[k11m0, k11m1, k11m2, k11m3, k11m4, k11m5]
  instanceTypes := #[(.object "java/lang/String"), (.object "java/lang/String"), (.object "java/lang/String"), (.object "com/example/lakebed/lakebed/model/TimelineInstant$State")]
  staticTypes := #[(.object "java/lang/String"), (.object "java/lang/String"), (.object "java/lang/String"), (.object "java/lang/String"), (.object "java/lang/String"), (.object "java/util/Set"), (.object "java/util/regex/Pattern"), (.object "java/util/regex/Pattern")]
  resolved := Array.replicate 208 none
  statics := none }

def pool12 : Array CpInfo := pool [(4, .class_ 6), (1, u "java/lang/Object"), (0, u "<init>"), (0, u "()V"), (5, .class_ 16), (1, u "java/lang/StringLatin1"), (73, u "canEncode"), (14, u "(C)Z"), (15, u "$assertionsDisabled"), (0, u "Z"), (98, .class_ 223), (1, u "java/lang/StringLatin1$LinesSpliterator"), (57, u "equals"), (0, u "([B[B)Z"), (97, u "toBytes"), (1, u "(C)[B"), (7, .class_ 391), (0, u "java/lang/StringLatin1$CharsSpliterator")] 3

def k12m0 : Method := { name := "<init>", desc := "()V", sig := { parameters := [], returnType := none }, accessFlags := 0, code := none }
def k12c1 : Code := { maxStack := 2, maxLocals := 1, code := jdk_43_method_3_code, exceptionTable := #[], attributes := #[] }
def k12m1 : Method := { name := "canEncode", desc := "(C)Z", sig := { parameters := [.char], returnType := some .boolean }, accessFlags := 9, code := some k12c1 }
def k12c2 : Code := { maxStack := 3, maxLocals := 3, code := jdk_43_method_13_code, exceptionTable := #[], attributes := #[] }
def k12m2 : Method := { name := "equals", desc := "([B[B)Z", sig := { parameters := [(.array .byte), (.array .byte)], returnType := some .boolean }, accessFlags := 9, code := some k12c2 }
def k12c3 : Code := { maxStack := 4, maxLocals := 1, code := jdk_43_method_46_code, exceptionTable := #[], attributes := #[] }
def k12m3 : Method := { name := "toBytes", desc := "(C)[B", sig := { parameters := [.char], returnType := some (.array .byte) }, accessFlags := 9, code := some k12c3 }
/-- java/lang/StringLatin1 -/
def k12 : Class := { plain "java/lang/StringLatin1" (some 0) with
  accessFlags := 48
  interfaces := #[]
  cf := some (fileOf pool12 14 #[.nestMembers #[390, 221]] #[{ accessFlags := 0, nameIndex := 7, descriptorIndex := 8, attributes := #[] }, { accessFlags := 9, nameIndex := 90, descriptorIndex := 105, attributes := #[] }, { accessFlags := 9, nameIndex := 281, descriptorIndex := 282, attributes := #[] }, { accessFlags := 9, nameIndex := 380, descriptorIndex := 382, attributes := #[] }] 48 4 #[] #[{ accessFlags := 4120, nameIndex := 121, descriptorIndex := 122, attributes := #[] }])
  fields := #[{ name := "$assertionsDisabled", type := .boolean, accessFlags := 4120, slot := 0, constantValue := 0 }]
  methods := #[k12m0, k12m1, k12m2, k12m3]
  instanceTypes := #[]
  staticTypes := #[.boolean]
  resolved := Array.replicate 395 none
  statics := none }

def pool13 : Array CpInfo := pool [(6, .class_ 8), (1, u "java/lang/Object"), (0, u "<init>"), (0, u "()V"), (1, .class_ 14), (1, u "java/lang/StringUTF16"), (31, u "$assertionsDisabled"), (0, u "Z"), (13, u "HI_BYTE_SHIFT"), (0, u "I"), (2, u "LO_BYTE_SHIFT"), (49, .methodref 12 116), (0, .nameAndType 117 118), (0, u "compress"), (0, u "([CI[BII)I"), (3, u "([CII)[B"), (138, u "coderFromArrayLen"), (0, u "([BI)B"), (106, .class_ 371), (1, u "java/lang/StringUTF16$LinesSpliterator"), (58, u "MAX_LENGTH"), (196, .class_ 628), (0, u "java/lang/StringUTF16$CodePointsSpliterator"), (0, .class_ 630), (0, u "java/lang/StringUTF16$CharsSpliterator")] 4

def k13m0 : Method := { name := "<init>", desc := "()V", sig := { parameters := [], returnType := none }, accessFlags := 0, code := none }
def k13c1 : Code := { maxStack := 2, maxLocals := 2, code := jdk_52_method_15_code, exceptionTable := #[], attributes := #[] }
def k13m1 : Method := { name := "coderFromArrayLen", desc := "([BI)B", sig := { parameters := [(.array .byte), .int], returnType := some .byte }, accessFlags := 8, code := some k13c1 }
def k13c2 : Code := { maxStack := 5, maxLocals := 6, code := jdk_52_method_16_code, exceptionTable := #[], attributes := #[] }
def k13m2 : Method := { name := "compress", desc := "([CII)[B", sig := { parameters := [(.array .char), .int, .int], returnType := some (.array .byte) }, accessFlags := 9, code := some k13c2 }
def k13c3 : Code := { maxStack := 3, maxLocals := 7, code := jdk_52_method_21_code, exceptionTable := #[], attributes := #[] }
def k13m3 : Method := { name := "compress", desc := "([CI[BII)I", sig := { parameters := [(.array .char), .int, (.array .byte), .int, .int], returnType := some .int }, accessFlags := 9, code := some k13c3 }
/-- java/lang/StringUTF16 -/
def k13 : Class := { plain "java/lang/StringUTF16" (some 0) with
  accessFlags := 48
  interfaces := #[]
  cf := some (fileOf pool13 12 #[.nestMembers #[627, 629, 369]] #[{ accessFlags := 0, nameIndex := 9, descriptorIndex := 10, attributes := #[] }, { accessFlags := 8, nameIndex := 261, descriptorIndex := 262, attributes := #[] }, { accessFlags := 9, nameIndex := 117, descriptorIndex := 122, attributes := #[] }, { accessFlags := 9, nameIndex := 117, descriptorIndex := 118, attributes := #[] }] 48 6 #[] #[{ accessFlags := 26, nameIndex := 61, descriptorIndex := 62, attributes := #[] }, { accessFlags := 26, nameIndex := 65, descriptorIndex := 62, attributes := #[] }, { accessFlags := 24, nameIndex := 430, descriptorIndex := 62, attributes := #[] }, { accessFlags := 4120, nameIndex := 46, descriptorIndex := 47, attributes := #[] }])
  fields := #[{ name := "HI_BYTE_SHIFT", type := .int, accessFlags := 26, slot := 0, constantValue := 0 }, { name := "LO_BYTE_SHIFT", type := .int, accessFlags := 26, slot := 1, constantValue := 0 }, { name := "MAX_LENGTH", type := .int, accessFlags := 24, slot := 2, constantValue := 0 }, { name := "$assertionsDisabled", type := .boolean, accessFlags := 4120, slot := 3, constantValue := 0 }]
  methods := #[k13m0, k13m1, k13m2, k13m3]
  instanceTypes := #[]
  staticTypes := #[.int, .int, .int, .boolean]
  resolved := Array.replicate 635 none
  statics := none }

def pool14 : Array CpInfo := pool [(2, .class_ 4), (1, u "java/lang/Object"), (0, u "<init>"), (0, u "()V"), (17, .class_ 26), (1, u "jdk/internal/util/Preconditions"), (28, .class_ 56), (0, u "jdk/internal/util/Preconditions$4"), (57, .class_ 115), (0, u "jdk/internal/util/Preconditions$1"), (7, u "SIOOBE_FORMATTER"), (0, u "Ljava/util/function/BiFunction;"), (0, .class_ 126), (0, u "jdk/internal/util/Preconditions$2"), (3, u "AIOOBE_FORMATTER"), (0, .class_ 132), (0, u "jdk/internal/util/Preconditions$3"), (3, u "IOOBE_FORMATTER")] 57

def k14m0 : Method := { name := "<init>", desc := "()V", sig := { parameters := [], returnType := none }, accessFlags := 1, code := none }
/-- jdk/internal/util/Preconditions -/
def k14 : Class := { plain "jdk/internal/util/Preconditions" (some 0) with
  accessFlags := 33
  interfaces := #[]
  cf := some (fileOf pool14 24 #[.nestMembers #[55, 131, 125, 114]] #[{ accessFlags := 1, nameIndex := 5, descriptorIndex := 6, attributes := #[] }] 33 2 #[] #[{ accessFlags := 25, nameIndex := 123, descriptorIndex := 124, attributes := #[] }, { accessFlags := 25, nameIndex := 130, descriptorIndex := 124, attributes := #[] }, { accessFlags := 25, nameIndex := 136, descriptorIndex := 124, attributes := #[] }])
  fields := #[{ name := "SIOOBE_FORMATTER", type := (.object "java/util/function/BiFunction"), accessFlags := 25, slot := 0, constantValue := 0 }, { name := "AIOOBE_FORMATTER", type := (.object "java/util/function/BiFunction"), accessFlags := 25, slot := 1, constantValue := 0 }, { name := "IOOBE_FORMATTER", type := (.object "java/util/function/BiFunction"), accessFlags := 25, slot := 2, constantValue := 0 }]
  methods := #[k14m0]
  instanceTypes := #[]
  staticTypes := #[(.object "java/util/function/BiFunction"), (.object "java/util/function/BiFunction"), (.object "java/util/function/BiFunction")]
  resolved := Array.replicate 194 none
  statics := some 2 }

def pool15 : Array CpInfo := pool [(9, u "<init>"), (6, .class_ 18), (1, u "java/lang/Object"), (0, u "()V"), (1, .class_ 23), (1, u "jdk/internal/util/ArraysSupport"), (0, u "LOG2_ARRAY_LONG_INDEX_SCALE"), (0, u "I"), (2, u "U"), (0, u "Ljdk/internal/misc/Unsafe;"), (8, u "BIG_ENDIAN"), (0, u "Z"), (8, u "LOG2_BYTE_BIT_SIZE"), (4, u "LOG2_ARRAY_INT_INDEX_SCALE"), (54, u "JLA"), (0, u "Ljdk/internal/access/JavaLangAccess;"), (11, u "LOG2_ARRAY_BOOLEAN_INDEX_SCALE"), (9, u "LOG2_ARRAY_BYTE_INDEX_SCALE"), (5, u "LOG2_ARRAY_CHAR_INDEX_SCALE"), (5, u "LOG2_ARRAY_SHORT_INDEX_SCALE"), (18, u "LOG2_ARRAY_FLOAT_INDEX_SCALE"), (24, u "LOG2_ARRAY_DOUBLE_INDEX_SCALE"), (89, u "T_BOOLEAN"), (2, u "T_CHAR"), (1, u "T_FLOAT"), (1, u "T_DOUBLE"), (1, u "T_BYTE"), (1, u "T_SHORT"), (1, u "T_INT"), (1, u "T_LONG"), (1, u "SOFT_MAX_ARRAY_LENGTH")] 83

def k15m0 : Method := { name := "<init>", desc := "()V", sig := { parameters := [], returnType := none }, accessFlags := 2, code := none }
/-- jdk/internal/util/ArraysSupport -/
def k15 : Class := { plain "jdk/internal/util/ArraysSupport" (some 0) with
  accessFlags := 33
  interfaces := #[]
  cf := some (fileOf pool15 21 #[] #[{ accessFlags := 2, nameIndex := 9, descriptorIndex := 19, attributes := #[] }] 33 16 #[] #[{ accessFlags := 24, nameIndex := 28, descriptorIndex := 29, attributes := #[] }, { accessFlags := 26, nameIndex := 38, descriptorIndex := 39, attributes := #[] }, { accessFlags := 25, nameIndex := 121, descriptorIndex := 25, attributes := #[] }, { accessFlags := 25, nameIndex := 131, descriptorIndex := 25, attributes := #[] }, { accessFlags := 25, nameIndex := 137, descriptorIndex := 25, attributes := #[] }, { accessFlags := 25, nameIndex := 143, descriptorIndex := 25, attributes := #[] }, { accessFlags := 25, nameIndex := 53, descriptorIndex := 25, attributes := #[] }, { accessFlags := 25, nameIndex := 24, descriptorIndex := 25, attributes := #[] }, { accessFlags := 25, nameIndex := 162, descriptorIndex := 25, attributes := #[] }, { accessFlags := 25, nameIndex := 187, descriptorIndex := 25, attributes := #[] }, { accessFlags := 26, nameIndex := 48, descriptorIndex := 25, attributes := #[] }, { accessFlags := 25, nameIndex := 277, descriptorIndex := 25, attributes := #[] }, { accessFlags := 25, nameIndex := 280, descriptorIndex := 25, attributes := #[] }, { accessFlags := 25, nameIndex := 282, descriptorIndex := 25, attributes := #[] }, { accessFlags := 25, nameIndex := 284, descriptorIndex := 25, attributes := #[] }, { accessFlags := 25, nameIndex := 286, descriptorIndex := 25, attributes := #[] }, { accessFlags := 25, nameIndex := 288, descriptorIndex := 25, attributes := #[] }, { accessFlags := 25, nameIndex := 290, descriptorIndex := 25, attributes := #[] }, { accessFlags := 25, nameIndex := 292, descriptorIndex := 25, attributes := #[] }, { accessFlags := 26, nameIndex := 108, descriptorIndex := 109, attributes := #[] }, { accessFlags := 25, nameIndex := 294, descriptorIndex := 25, attributes := #[] }])
  fields := #[{ name := "U", type := (.object "jdk/internal/misc/Unsafe"), accessFlags := 24, slot := 0, constantValue := 0 }, { name := "BIG_ENDIAN", type := .boolean, accessFlags := 26, slot := 1, constantValue := 0 }, { name := "LOG2_ARRAY_BOOLEAN_INDEX_SCALE", type := .int, accessFlags := 25, slot := 2, constantValue := 0 }, { name := "LOG2_ARRAY_BYTE_INDEX_SCALE", type := .int, accessFlags := 25, slot := 3, constantValue := 0 }, { name := "LOG2_ARRAY_CHAR_INDEX_SCALE", type := .int, accessFlags := 25, slot := 4, constantValue := 0 }, { name := "LOG2_ARRAY_SHORT_INDEX_SCALE", type := .int, accessFlags := 25, slot := 5, constantValue := 0 }, { name := "LOG2_ARRAY_INT_INDEX_SCALE", type := .int, accessFlags := 25, slot := 6, constantValue := 0 }, { name := "LOG2_ARRAY_LONG_INDEX_SCALE", type := .int, accessFlags := 25, slot := 7, constantValue := 0 }, { name := "LOG2_ARRAY_FLOAT_INDEX_SCALE", type := .int, accessFlags := 25, slot := 8, constantValue := 0 }, { name := "LOG2_ARRAY_DOUBLE_INDEX_SCALE", type := .int, accessFlags := 25, slot := 9, constantValue := 0 }, { name := "LOG2_BYTE_BIT_SIZE", type := .int, accessFlags := 26, slot := 10, constantValue := 0 }, { name := "T_BOOLEAN", type := .int, accessFlags := 25, slot := 11, constantValue := 0 }, { name := "T_CHAR", type := .int, accessFlags := 25, slot := 12, constantValue := 0 }, { name := "T_FLOAT", type := .int, accessFlags := 25, slot := 13, constantValue := 0 }, { name := "T_DOUBLE", type := .int, accessFlags := 25, slot := 14, constantValue := 0 }, { name := "T_BYTE", type := .int, accessFlags := 25, slot := 15, constantValue := 0 }, { name := "T_SHORT", type := .int, accessFlags := 25, slot := 16, constantValue := 0 }, { name := "T_INT", type := .int, accessFlags := 25, slot := 17, constantValue := 0 }, { name := "T_LONG", type := .int, accessFlags := 25, slot := 18, constantValue := 0 }, { name := "JLA", type := (.object "jdk/internal/access/JavaLangAccess"), accessFlags := 26, slot := 19, constantValue := 0 }, { name := "SOFT_MAX_ARRAY_LENGTH", type := .int, accessFlags := 25, slot := 20, constantValue := 0 }]
  methods := #[k15m0]
  instanceTypes := #[]
  staticTypes := #[(.object "jdk/internal/misc/Unsafe"), .boolean, .int, .int, .int, .int, .int, .int, .int, .int, .int, .int, .int, .int, .int, .int, .int, .int, .int, (.object "jdk/internal/access/JavaLangAccess"), .int]
  resolved := Array.replicate 378 none
  statics := none }

def pool16 : Array CpInfo := pool [(1, u "java/lang/Cloneable"), (0, .class_ 1), (0, u "java/lang/Object"), (0, .class_ 3)] 3

/-- java/lang/Cloneable -/
def k16 : Class := { plain "java/lang/Cloneable" (some 0) with
  accessFlags := 1537
  interfaces := #[]
  cf := some (fileOf pool16 2 #[] #[] 1537 4 #[] #[])
  fields := #[]
  methods := #[]
  instanceTypes := #[]
  staticTypes := #[]
  resolved := Array.replicate 8 none
  statics := none }

/-- the primitive byte -/
def k17 : Class := { plain "byte" none with kind := .primitive 'B', accessFlags := 0x411 }
/-- [B -/
def k18 : Class := { plain "[B" (some 0) with kind := .array 17 .byte, interfaces := #[16, 4], accessFlags := 1041 }

/-- the primitive char -/
def k19 : Class := { plain "char" none with kind := .primitive 'C', accessFlags := 0x411 }
/-- [C -/
def k20 : Class := { plain "[C" (some 0) with kind := .array 19 .char, interfaces := #[16, 4], accessFlags := 1041 }

/-- the primitive int -/
def k21 : Class := { plain "int" none with kind := .primitive 'I', accessFlags := 0x411 }
/-- [I -/
def k22 : Class := { plain "[I" (some 0) with kind := .array 21 .int, interfaces := #[16, 4], accessFlags := 1041 }

def heap : Heap := #[{ cls := 6, slots := #[.ref 3, .ref 5, .ref 4, .null], vm := .statics 6 },
  { cls := 9, slots := #[.long 0, .int 1, .null, .int 0, .null, .int 0, .int 0], vm := .statics 9 },
  { cls := 14, slots := #[.null, .null, .null], vm := .statics 14 },
  { cls := 6, slots := #[.null, .int 0, .int 0], vm := .none },
  { cls := 6, slots := #[.null, .int 2, .int 0], vm := .none },
  { cls := 6, slots := #[.null, .int 1, .int 0], vm := .none }]
def classes : Array Class := #[k0, k1, k2, k3, k4, k5, k6, k7, k8, k9, k10, k11, k12, k13, k14, k15, k16, k17, k18, k19, k20, k21, k22]
def interned : List (Array UInt16 × Addr) := []
def slotsUsed : Nat := 23
def theMethod : MethodId := ⟨1, 3⟩
def args0 : Array Value := #[.int 1, .int 2, .int 3, .int 4, .int 5]
def aboutOver (below : List Frame) : State where
  vm := { classes := classes, interned := interned.toArray }
  heap := heap
  slotsUsed := slotsUsed
  threads := #[{ frames := .invoking theMethod args0 :: below }]
def below0 : List Frame := [.native { method := ⟨0, 0⟩, args := #[] }]
def about1 : State := aboutOver below0
def p0 : Program := .bare "" "" ""
def e0 : Env := launch0.env 0 0 0
theorem w_frames : about1.frames = Frame.invoking theMethod args0 :: below0 := rfl
set_option maxRecDepth 65536 in
theorem w_args : argsFit about1.vm theMethod args0 = true := by decide +kernel
set_option maxRecDepth 65536 in
theorem w_heap : heapFits about1 = true := by decide +kernel
set_option maxRecDepth 65536 in
theorem w_runnable : about1.curStatus? = some .runnable := by decide +kernel
set_option maxRecDepth 65536 in
theorem w_alone : about1.alone = true := by decide +kernel
set_option maxRecDepth 65536 in
theorem w_named : about1.methodNamed? x = some theMethod := by decide +kernel
set_option maxRecDepth 65536 in
theorem w_hears : about1.hears theMethod below0 = true := by decide +kernel
set_option maxRecDepth 65536 in
theorem w_ripe : about1.ripe theMethod args0 below0 = true := by decide +kernel
theorem w_running : about1.status = .running := rfl
set_option maxRecDepth 65536 in
theorem w_room : about1.hasRoom e0.platform room_1 = true :=
  launch0.hasRoom_least _ room_1 (by decide +kernel) (by decide +kernel) (by decide +kernel) (by decide +kernel) (by decide +kernel) (by decide +kernel)
theorem allAtoms_all (ts : List Jvm.Cond) (a : Array Jvm.Value) (st : Jvm.State) : (allAtoms ts).before a st = ts.all (fun c => c.before a st) := by
  induction ts with
  | nil => rfl
  | cons c t ih =>
    show (Jvm.Cond.and c (allAtoms t)).before a st = _
    rw [Jvm.Cond.before_and, ih, List.all_cons]
def words1 : List Jvm.Cond := Jvm.Cond.code x code maxLocals ret :: tables_1
/-- a 'code' word, met by the world's own term for the bytes: nothing is compared byte by byte -/
theorem code_word {y : MethodName} {bytes : ByteArray} {mx : Nat} {rt : Option FieldType} {a : Array Value} {s : State} {m : MethodId} {meth : Method} {c : Code} (h1 : s.methodNamed? y = some m) (h2 : s.vm.method? m = some meth) (h3 : meth.code = some c) (h4 : c.code = bytes)
    (h5 : (c.maxLocals == mx && c.exceptionTable.isEmpty && decide (c.maxStack ≤ mostOperands) && decide (meth.sig.returnType = rt) && !meth.locks && decide (parseMethodDescriptor y.desc = some meth.sig)) = true) : (Jvm.Cond.code y bytes mx rt).before a s = true := by
  simp only [Bool.and_eq_true, beq_iff_eq, Bool.not_eq_true', decide_eq_true_eq] at h5
  obtain ⟨⟨⟨⟨⟨g1, g2⟩, g3⟩, g4⟩, g5⟩, g6⟩ := h5
  simp [Cond.before, Cond.holds, Cond.value, h1, h2, h3, h4, g1, g2, g3, g4, g5, g6]
def isCode : Jvm.Cond → Bool
  | .code _ _ _ _ => true
  | _ => false
theorem all_split {L : List Jvm.Cond} {P : Jvm.Cond → Bool} (h1 : L.all (fun c => isCode c || P c) = true) (h2 : ∀ c ∈ L.filter isCode, P c = true) : L.all P = true := by
  refine List.all_eq_true.mpr fun c hc => ?_
  have h := List.all_eq_true.mp h1 c hc
  rcases Bool.eq_false_or_eq_true (isCode c) with hi | hi
  · exact h2 c (List.mem_filter.mpr ⟨hc, hi⟩)
  · simpa [hi] using h
set_option maxRecDepth 65536 in
theorem w_c0 : (Jvm.Cond.code x code maxLocals ret).before args0 about1 = true := code_word (m := ⟨1, 3⟩) (meth := k1m3) (c := k1c3) (by decide +kernel) rfl rfl rfl (by decide +kernel)
set_option maxRecDepth 65536 in
theorem w_c1 : (Jvm.Cond.code ({ cls := "com/example/lakebed/lakebed/model/TimelineInstantIsCompletedPinLaw", name := "stateOf", desc := "(I)Lcom/example/lakebed/lakebed/model/TimelineInstant$State;" } : Jvm.MethodName) method_2_code (1 : Nat) (Option.some (Jvm.ClassFile.FieldType.object "com/example/lakebed/lakebed/model/TimelineInstant$State"))).before args0 about1 = true := code_word (m := ⟨1, 1⟩) (meth := k1m1) (c := k1c1) (by decide +kernel) rfl rfl rfl (by decide +kernel)
set_option maxRecDepth 65536 in
theorem w_c2 : (Jvm.Cond.code ({ cls := "com/example/lakebed/lakebed/model/TimelineInstantIsCompletedPinLaw", name := "str", desc := "(I)Ljava/lang/String;" } : Jvm.MethodName) method_3_code (3 : Nat) (Option.some (Jvm.ClassFile.FieldType.object "java/lang/String"))).before args0 about1 = true := code_word (m := ⟨1, 2⟩) (meth := k1m2) (c := k1c2) (by decide +kernel) rfl rfl rfl (by decide +kernel)
set_option maxRecDepth 65536 in
theorem w_c3 : (Jvm.Cond.code ({ cls := "java/lang/String", name := "<init>", desc := "([C)V" } : Jvm.MethodName) jdk_42_method_3_code (2 : Nat) (Option.none : Option Jvm.ClassFile.FieldType)).before args0 about1 = true := code_word (m := ⟨9, 1⟩) (meth := k9m1) (c := k9c1) (by decide +kernel) rfl rfl rfl (by decide +kernel)
set_option maxRecDepth 65536 in
theorem w_c4 : (Jvm.Cond.code ({ cls := "java/lang/String", name := "<init>", desc := "([CIILjava/lang/Void;)V" } : Jvm.MethodName) jdk_42_method_149_code (6 : Nat) (Option.none : Option Jvm.ClassFile.FieldType)).before args0 about1 = true := code_word (m := ⟨9, 4⟩) (meth := k9m4) (c := k9c4) (by decide +kernel) rfl rfl rfl (by decide +kernel)
set_option maxRecDepth 65536 in
theorem w_c5 : (Jvm.Cond.code ({ cls := "java/lang/Object", name := "<init>", desc := "()V" } : Jvm.MethodName) object_method_1_code (1 : Nat) (Option.none : Option Jvm.ClassFile.FieldType)).before args0 about1 = true := code_word (m := ⟨0, 0⟩) (meth := k0m0) (c := k0c0) (by decide +kernel) rfl rfl rfl (by decide +kernel)
set_option maxRecDepth 65536 in
theorem w_c6 : (Jvm.Cond.code ({ cls := "com/example/lakebed/lakebed/model/TimelineInstant", name := "<init>", desc := "(Ljava/lang/String;Ljava/lang/String;Ljava/lang/String;Lcom/example/lakebed/lakebed/model/TimelineInstant$State;)V" } : Jvm.MethodName) prog_18_method_1_code (5 : Nat) (Option.none : Option Jvm.ClassFile.FieldType)).before args0 about1 = true := code_word (m := ⟨11, 0⟩) (meth := k11m0) (c := k11c0) (by decide +kernel) rfl rfl rfl (by decide +kernel)
set_option maxRecDepth 65536 in
theorem w_c7 : (Jvm.Cond.code ({ cls := "java/lang/Record", name := "<init>", desc := "()V" } : Jvm.MethodName) jdk_30_method_1_code (1 : Nat) (Option.none : Option Jvm.ClassFile.FieldType)).before args0 about1 = true := code_word (m := ⟨10, 0⟩) (meth := k10m0) (c := k10c0) (by decide +kernel) rfl rfl rfl (by decide +kernel)
set_option maxRecDepth 65536 in
theorem w_c8 : (Jvm.Cond.code ({ cls := "com/example/lakebed/lakebed/model/TimelineInstant", name := "isCompleted", desc := "()Z" } : Jvm.MethodName) prog_18_method_7_code (1 : Nat) (Option.some Jvm.ClassFile.FieldType.boolean)).before args0 about1 = true := code_word (m := ⟨11, 5⟩) (meth := k11m5) (c := k11c5) (by decide +kernel) rfl rfl rfl (by decide +kernel)
set_option maxRecDepth 65536 in
theorem w_c9 : (Jvm.Cond.code ({ cls := "com/example/lakebed/lakebed/model/TimelineInstant", name := "toInflight", desc := "()Lcom/example/lakebed/lakebed/model/TimelineInstant;" } : Jvm.MethodName) prog_18_method_3_code (1 : Nat) (Option.some (Jvm.ClassFile.FieldType.object "com/example/lakebed/lakebed/model/TimelineInstant"))).before args0 about1 = true := code_word (m := ⟨11, 2⟩) (meth := k11m2) (c := k11c2) (by decide +kernel) rfl rfl rfl (by decide +kernel)
set_option maxRecDepth 65536 in
theorem w_c10 : (Jvm.Cond.code ({ cls := "com/example/lakebed/lakebed/model/TimelineInstant", name := "toCompleted", desc := "(Ljava/lang/String;)Lcom/example/lakebed/lakebed/model/TimelineInstant;" } : Jvm.MethodName) prog_18_method_4_code (2 : Nat) (Option.some (Jvm.ClassFile.FieldType.object "com/example/lakebed/lakebed/model/TimelineInstant"))).before args0 about1 = true := code_word (m := ⟨11, 3⟩) (meth := k11m3) (c := k11c3) (by decide +kernel) rfl rfl rfl (by decide +kernel)
set_option maxRecDepth 65536 in
theorem w_c11 : (Jvm.Cond.code ({ cls := "com/example/lakebed/lakebed/model/TimelineInstant", name := "completedAction", desc := "()Ljava/lang/String;" } : Jvm.MethodName) prog_18_method_6_code (1 : Nat) (Option.some (Jvm.ClassFile.FieldType.object "java/lang/String"))).before args0 about1 = true := code_word (m := ⟨11, 4⟩) (meth := k11m4) (c := k11c4) (by decide +kernel) rfl rfl rfl (by decide +kernel)
set_option maxRecDepth 65536 in
theorem w_c12 : (Jvm.Cond.code ({ cls := "java/lang/String", name := "equals", desc := "(Ljava/lang/Object;)Z" } : Jvm.MethodName) jdk_42_method_66_code (3 : Nat) (Option.some Jvm.ClassFile.FieldType.boolean)).before args0 about1 = true := code_word (m := ⟨9, 2⟩) (meth := k9m2) (c := k9c2) (by decide +kernel) rfl rfl rfl (by decide +kernel)
set_option maxRecDepth 65536 in
theorem w_c13 : (Jvm.Cond.code ({ cls := "java/lang/StringLatin1", name := "equals", desc := "([B[B)Z" } : Jvm.MethodName) jdk_43_method_13_code (3 : Nat) (Option.some Jvm.ClassFile.FieldType.boolean)).before args0 about1 = true := code_word (m := ⟨12, 2⟩) (meth := k12m2) (c := k12c2) (by decide +kernel) rfl rfl rfl (by decide +kernel)
set_option maxRecDepth 65536 in
theorem w_c14 : (Jvm.Cond.code ({ cls := "com/example/lakebed/lakebed/model/TimelineInstant", name := "requested", desc := "(Ljava/lang/String;Ljava/lang/String;)Lcom/example/lakebed/lakebed/model/TimelineInstant;" } : Jvm.MethodName) prog_18_method_2_code (2 : Nat) (Option.some (Jvm.ClassFile.FieldType.object "com/example/lakebed/lakebed/model/TimelineInstant"))).before args0 about1 = true := code_word (m := ⟨11, 1⟩) (meth := k11m1) (c := k11c1) (by decide +kernel) rfl rfl rfl (by decide +kernel)
set_option maxRecDepth 65536 in
theorem w_c15 : (Jvm.Cond.code ({ cls := "java/lang/StringUTF16", name := "compress", desc := "([CII)[B" } : Jvm.MethodName) jdk_52_method_16_code (6 : Nat) (Option.some (Jvm.ClassFile.FieldType.array Jvm.ClassFile.FieldType.byte))).before args0 about1 = true := code_word (m := ⟨13, 2⟩) (meth := k13m2) (c := k13c2) (by decide +kernel) rfl rfl rfl (by decide +kernel)
set_option maxRecDepth 65536 in
theorem w_c16 : (Jvm.Cond.code ({ cls := "java/lang/StringUTF16", name := "compress", desc := "([CI[BII)I" } : Jvm.MethodName) jdk_52_method_21_code (7 : Nat) (Option.some Jvm.ClassFile.FieldType.int)).before args0 about1 = true := code_word (m := ⟨13, 3⟩) (meth := k13m3) (c := k13c3) (by decide +kernel) rfl rfl rfl (by decide +kernel)
set_option maxRecDepth 65536 in
theorem w_c17 : (Jvm.Cond.code ({ cls := "java/lang/StringUTF16", name := "coderFromArrayLen", desc := "([BI)B" } : Jvm.MethodName) jdk_52_method_15_code (2 : Nat) (Option.some Jvm.ClassFile.FieldType.byte)).before args0 about1 = true := code_word (m := ⟨13, 1⟩) (meth := k13m1) (c := k13c1) (by decide +kernel) rfl rfl rfl (by decide +kernel)
set_option maxRecDepth 65536 in
theorem w_c18 : (Jvm.Cond.code ({ cls := "java/lang/String", name := "valueOf", desc := "(C)Ljava/lang/String;" } : Jvm.MethodName) jdk_42_method_139_code (1 : Nat) (Option.some (Jvm.ClassFile.FieldType.object "java/lang/String"))).before args0 about1 = true := code_word (m := ⟨9, 3⟩) (meth := k9m3) (c := k9c3) (by decide +kernel) rfl rfl rfl (by decide +kernel)
set_option maxRecDepth 65536 in
theorem w_c19 : (Jvm.Cond.code ({ cls := "java/lang/StringLatin1", name := "canEncode", desc := "(C)Z" } : Jvm.MethodName) jdk_43_method_3_code (1 : Nat) (Option.some Jvm.ClassFile.FieldType.boolean)).before args0 about1 = true := code_word (m := ⟨12, 1⟩) (meth := k12m1) (c := k12c1) (by decide +kernel) rfl rfl rfl (by decide +kernel)
set_option maxRecDepth 65536 in
theorem w_c20 : (Jvm.Cond.code ({ cls := "java/lang/StringLatin1", name := "toBytes", desc := "(C)[B" } : Jvm.MethodName) jdk_43_method_46_code (1 : Nat) (Option.some (Jvm.ClassFile.FieldType.array Jvm.ClassFile.FieldType.byte))).before args0 about1 = true := code_word (m := ⟨12, 3⟩) (meth := k12m3) (c := k12c3) (by decide +kernel) rfl rfl rfl (by decide +kernel)
set_option maxRecDepth 65536 in
theorem w_c21 : (Jvm.Cond.code ({ cls := "java/lang/String", name := "<init>", desc := "([BB)V" } : Jvm.MethodName) jdk_42_method_151_code (3 : Nat) (Option.none : Option Jvm.ClassFile.FieldType)).before args0 about1 = true := code_word (m := ⟨9, 5⟩) (meth := k9m5) (c := k9c5) (by decide +kernel) rfl rfl rfl (by decide +kernel)
def codes1 : List Jvm.Cond := [Jvm.Cond.code x code maxLocals ret, Jvm.Cond.code ({ cls := "com/example/lakebed/lakebed/model/TimelineInstantIsCompletedPinLaw", name := "stateOf", desc := "(I)Lcom/example/lakebed/lakebed/model/TimelineInstant$State;" } : Jvm.MethodName) method_2_code (1 : Nat) (Option.some (Jvm.ClassFile.FieldType.object "com/example/lakebed/lakebed/model/TimelineInstant$State")), Jvm.Cond.code ({ cls := "com/example/lakebed/lakebed/model/TimelineInstantIsCompletedPinLaw", name := "str", desc := "(I)Ljava/lang/String;" } : Jvm.MethodName) method_3_code (3 : Nat) (Option.some (Jvm.ClassFile.FieldType.object "java/lang/String")), Jvm.Cond.code ({ cls := "java/lang/String", name := "<init>", desc := "([C)V" } : Jvm.MethodName) jdk_42_method_3_code (2 : Nat) (Option.none : Option Jvm.ClassFile.FieldType), Jvm.Cond.code ({ cls := "java/lang/String", name := "<init>", desc := "([CIILjava/lang/Void;)V" } : Jvm.MethodName) jdk_42_method_149_code (6 : Nat) (Option.none : Option Jvm.ClassFile.FieldType), Jvm.Cond.code ({ cls := "java/lang/Object", name := "<init>", desc := "()V" } : Jvm.MethodName) object_method_1_code (1 : Nat) (Option.none : Option Jvm.ClassFile.FieldType), Jvm.Cond.code ({ cls := "com/example/lakebed/lakebed/model/TimelineInstant", name := "<init>", desc := "(Ljava/lang/String;Ljava/lang/String;Ljava/lang/String;Lcom/example/lakebed/lakebed/model/TimelineInstant$State;)V" } : Jvm.MethodName) prog_18_method_1_code (5 : Nat) (Option.none : Option Jvm.ClassFile.FieldType), Jvm.Cond.code ({ cls := "java/lang/Record", name := "<init>", desc := "()V" } : Jvm.MethodName) jdk_30_method_1_code (1 : Nat) (Option.none : Option Jvm.ClassFile.FieldType), Jvm.Cond.code ({ cls := "com/example/lakebed/lakebed/model/TimelineInstant", name := "isCompleted", desc := "()Z" } : Jvm.MethodName) prog_18_method_7_code (1 : Nat) (Option.some Jvm.ClassFile.FieldType.boolean), Jvm.Cond.code ({ cls := "com/example/lakebed/lakebed/model/TimelineInstant", name := "toInflight", desc := "()Lcom/example/lakebed/lakebed/model/TimelineInstant;" } : Jvm.MethodName) prog_18_method_3_code (1 : Nat) (Option.some (Jvm.ClassFile.FieldType.object "com/example/lakebed/lakebed/model/TimelineInstant")), Jvm.Cond.code ({ cls := "com/example/lakebed/lakebed/model/TimelineInstant", name := "toCompleted", desc := "(Ljava/lang/String;)Lcom/example/lakebed/lakebed/model/TimelineInstant;" } : Jvm.MethodName) prog_18_method_4_code (2 : Nat) (Option.some (Jvm.ClassFile.FieldType.object "com/example/lakebed/lakebed/model/TimelineInstant")), Jvm.Cond.code ({ cls := "com/example/lakebed/lakebed/model/TimelineInstant", name := "completedAction", desc := "()Ljava/lang/String;" } : Jvm.MethodName) prog_18_method_6_code (1 : Nat) (Option.some (Jvm.ClassFile.FieldType.object "java/lang/String")), Jvm.Cond.code ({ cls := "java/lang/String", name := "equals", desc := "(Ljava/lang/Object;)Z" } : Jvm.MethodName) jdk_42_method_66_code (3 : Nat) (Option.some Jvm.ClassFile.FieldType.boolean), Jvm.Cond.code ({ cls := "java/lang/StringLatin1", name := "equals", desc := "([B[B)Z" } : Jvm.MethodName) jdk_43_method_13_code (3 : Nat) (Option.some Jvm.ClassFile.FieldType.boolean), Jvm.Cond.code ({ cls := "com/example/lakebed/lakebed/model/TimelineInstant", name := "requested", desc := "(Ljava/lang/String;Ljava/lang/String;)Lcom/example/lakebed/lakebed/model/TimelineInstant;" } : Jvm.MethodName) prog_18_method_2_code (2 : Nat) (Option.some (Jvm.ClassFile.FieldType.object "com/example/lakebed/lakebed/model/TimelineInstant")), Jvm.Cond.code ({ cls := "java/lang/StringUTF16", name := "compress", desc := "([CII)[B" } : Jvm.MethodName) jdk_52_method_16_code (6 : Nat) (Option.some (Jvm.ClassFile.FieldType.array Jvm.ClassFile.FieldType.byte)), Jvm.Cond.code ({ cls := "java/lang/StringUTF16", name := "compress", desc := "([CI[BII)I" } : Jvm.MethodName) jdk_52_method_21_code (7 : Nat) (Option.some Jvm.ClassFile.FieldType.int), Jvm.Cond.code ({ cls := "java/lang/StringUTF16", name := "coderFromArrayLen", desc := "([BI)B" } : Jvm.MethodName) jdk_52_method_15_code (2 : Nat) (Option.some Jvm.ClassFile.FieldType.byte), Jvm.Cond.code ({ cls := "java/lang/String", name := "valueOf", desc := "(C)Ljava/lang/String;" } : Jvm.MethodName) jdk_42_method_139_code (1 : Nat) (Option.some (Jvm.ClassFile.FieldType.object "java/lang/String")), Jvm.Cond.code ({ cls := "java/lang/StringLatin1", name := "canEncode", desc := "(C)Z" } : Jvm.MethodName) jdk_43_method_3_code (1 : Nat) (Option.some Jvm.ClassFile.FieldType.boolean), Jvm.Cond.code ({ cls := "java/lang/StringLatin1", name := "toBytes", desc := "(C)[B" } : Jvm.MethodName) jdk_43_method_46_code (1 : Nat) (Option.some (Jvm.ClassFile.FieldType.array Jvm.ClassFile.FieldType.byte)), Jvm.Cond.code ({ cls := "java/lang/String", name := "<init>", desc := "([BB)V" } : Jvm.MethodName) jdk_42_method_151_code (3 : Nat) (Option.none : Option Jvm.ClassFile.FieldType)]
set_option maxRecDepth 65536 in
theorem codes_eq : words1.filter isCode = codes1 := rfl
theorem w_codes : ∀ c ∈ words1.filter isCode, c.before args0 about1 = true := by
  rw [codes_eq]
  intro c hc
  simp only [codes1, List.mem_cons, List.not_mem_nil, or_false] at hc
  rcases hc with rfl | rfl | rfl | rfl | rfl | rfl | rfl | rfl | rfl | rfl | rfl | rfl | rfl | rfl | rfl | rfl | rfl | rfl | rfl | rfl | rfl | rfl
  · exact w_c0
  · exact w_c1
  · exact w_c2
  · exact w_c3
  · exact w_c4
  · exact w_c5
  · exact w_c6
  · exact w_c7
  · exact w_c8
  · exact w_c9
  · exact w_c10
  · exact w_c11
  · exact w_c12
  · exact w_c13
  · exact w_c14
  · exact w_c15
  · exact w_c16
  · exact w_c17
  · exact w_c18
  · exact w_c19
  · exact w_c20
  · exact w_c21
set_option maxRecDepth 65536 in
theorem w_t1 : (words1.take 24).all (fun c => isCode c || c.before args0 about1) = true := by decide +kernel
set_option maxRecDepth 65536 in
theorem w_t2 : ((words1.drop 24).take 24).all (fun c => isCode c || c.before args0 about1) = true := by decide +kernel
set_option maxRecDepth 65536 in
theorem w_t3 : (((words1.drop 24).drop 24).take 24).all (fun c => isCode c || c.before args0 about1) = true := by decide +kernel
set_option maxRecDepth 65536 in
theorem w_t4 : ((((words1.drop 24).drop 24).drop 24).take 24).all (fun c => isCode c || c.before args0 about1) = true := by decide +kernel
set_option maxRecDepth 65536 in
theorem w_t5 : ((((words1.drop 24).drop 24).drop 24).drop 24).all (fun c => isCode c || c.before args0 about1) = true := by decide +kernel
theorem w_tables : (allAtoms (Jvm.Cond.code x code maxLocals ret :: tables_1)).before args0 about1 = true := by
  rw [allAtoms_all]
  show words1.all (fun c => c.before args0 about1) = true
  refine all_split ?_ w_codes
  rw [← List.take_append_drop 24 words1, List.all_append, w_t1, ← List.take_append_drop 24 (words1.drop 24), List.all_append, w_t2, ← List.take_append_drop 24 ((words1.drop 24).drop 24), List.all_append, w_t3, ← List.take_append_drop 24 (((words1.drop 24).drop 24).drop 24), List.all_append, w_t4, w_t5]
  rfl
set_option maxRecDepth 65536 in
theorem w_rest : rest_1_c.before args0 about1 = true := by decide +kernel
set_option maxRecDepth 65536 in
theorem w_case : (Jvm.Cond.and given_1 narrow_1).before args0 about1 = true := by decide +kernel
set_option maxRecDepth 65536 in
theorem w_consts : constsHeld consts_1 about1 := Jvm.Lit.constsHeldB_iff.mp (by decide +kernel)
theorem w_applies : (headSpec (Jvm.Cond.code x code maxLocals ret :: tables_1) room_1).applies x e0.platform about1 = true :=
  (Spec.applies_iff w_frames).mpr ⟨w_running, w_runnable, w_alone, w_named, w_hears, w_ripe, w_room, w_tables⟩
theorem atStart : AtStart classFile x code maxLocals ret World_1 tables_1 room_1 Calls_1 rest_1 Pre_1 launch0 p0 e0 about1 theMethod args0 below0 :=
  ⟨lists_1, trivial, launch0.admits_env _ _ _, launch0.least_env, fairChoices_fair.cas, fairChoices_fair.clock, w_frames, w_args, w_heap, w_applies, ⟨w_consts, trivial⟩, w_rest, w_case⟩
end start1
theorem witness_1 : WitnessClaimed_1 := ⟨start1.p0, start1.e0, start1.about1, start1.theMethod, start1.args0, start1.below0, start1.atStart⟩
end Jvm.Pilot.@@N@@
